import JvmDerived
import JvmDerived.Pilot.@@N@@Statement
import JvmDerived.Pilot.@@N@@Code
set_option linter.unusedVariables false
set_option linter.unusedSimpArgs false
namespace Jvm.Pilot.@@N@@
open Jvm Jvm.ClassFile Sem Op Lib Jvm.Free Jvm.Stand Jvm.LawKit Jvm.RoadKit Bundle Jvm.Pilot.@@N@@.Jvm.D
section OwnKit
variable {p : Program} {l : Launch} {e : Env} {R : Room} {s : State} {m : MethodId} {args : Array Value} {below : List Frame} {meth : Method} {c : Code} {T : State} {cells slots : Nat} {P : State → Outcome → Prop}
variable {Z : State} {a0 : Array Value} {h h0 : Heap} {n0 : Nat} {own nm : String} {bytes : ByteArray} {maxL : Nat} {ret : Option FieldType}
variable {pc pc' : Nat} {Ls : Array Slot} {st : List Value}
/-- from the state U the run comes to an end that P allows -/
def own_Go (p : Program) (e : Env) (below : List Frame) (U : State) (P : State → Outcome → Prop) : Prop := ∃ a o, Steps p.tables e below U a ∧ P a o
theorem own_by {U U' : State} (q : ∀ t, Steps p.tables e below U' t → Steps p.tables e below U t) (G : own_Go p e below U' P) : own_Go p e below U P := by
  obtain ⟨a, o, h1, h2⟩ := G
  exact ⟨a, o, q a h1, h2⟩
/-- what stays the same in one body -/
def own_B (p : Program) (s : State) (m : MethodId) (meth : Method) (c : Code) (Z : State) (own nm : String) (bytes : ByteArray) (maxL : Nat) (ret : Option FieldType) : Prop :=
  p.tables.exec = Jvm.exec ∧ Z.Warmed39 s.vm ∧ c.maxLocals = maxL ∧ s.vm.findClass own = some m.cls ∧ meth.sig.returnType = ret ∧ meth.locks = false ∧ meth.name = nm ∧ c.code = bytes
/-- where the run stands: the state T, its heap h; nothing below n0 has been written -/
def own_S (p : Program) (l : Launch) (e : Env) (R : Room) (s : State) (m : MethodId) (args : Array Value) (below : List Frame) (meth : Method) (c : Code) (n0 : Nat) (T : State) (h : Heap) (cells slots : Nat) : Prop :=
  ∃ locs, Stand p l e R s m args below meth c T locs cells slots ∧ T.heap = h ∧ Fr n0 locs
/-- what a body owes at its end -/
def own_P (s : State) (below : List Frame) (n0 : Nat) (Q : Option Value → Heap → Prop) (k n : Nat) (a : State) (o : Outcome) : Prop :=
  a.status = .running ∧ Ended a below o ∧ ∃ v L, o = .returned v ∧ (Fr n0 L ∧ Q v a.heap) ∧ FrameEnd s o a L k n
theorem own_iload (B : own_B p s m meth c Z own nm bytes maxL ret) (X : own_S p l e R s m args below meth c n0 T h cells slots) {k : Nat} {v : Int32} (d : decode bytes pc = .ok (.iload k, 2)) (hp : pc + 2 = pc') (hl : Ls[k]? = some (.val (.int v)))
    (G : own_Go p e below (T.setTop (mkF m pc' Ls (.int v :: st))) P) : own_Go p e below (T.setTop (mkF m pc Ls (st))) P := by
  obtain ⟨locs, X, -, -⟩ := X
  subst hp
  exact own_by (fun _ => XS.iload X.here B.1 rfl (hb B.2.2.2.2.2.2.2 d) hl) G
theorem own_iloadN (B : own_B p s m meth c Z own nm bytes maxL ret) (X : own_S p l e R s m args below meth c n0 T h cells slots) {k : Fin 4} {v : Int32} (d : decode bytes pc = .ok (.iload_n k, 1)) (hp : pc + 1 = pc') (hl : Ls[k.val]? = some (.val (.int v)))
    (G : own_Go p e below (T.setTop (mkF m pc' Ls (.int v :: st))) P) : own_Go p e below (T.setTop (mkF m pc Ls (st))) P := by
  obtain ⟨locs, X, -, -⟩ := X
  subst hp
  exact own_by (fun _ => XS.iloadN X.here B.1 rfl (hb B.2.2.2.2.2.2.2 d) hl) G
theorem own_lloadN (B : own_B p s m meth c Z own nm bytes maxL ret) (X : own_S p l e R s m args below meth c n0 T h cells slots) {k : Fin 4} {v : Int64} (d : decode bytes pc = .ok (.lload_n k, 1)) (hp : pc + 1 = pc') (hl : Ls[k.val]? = some (.val (.long v)))
    (G : own_Go p e below (T.setTop (mkF m pc' Ls (.long v :: st))) P) : own_Go p e below (T.setTop (mkF m pc Ls (st))) P := by
  obtain ⟨locs, X, -, -⟩ := X
  subst hp
  exact own_by (fun _ => XS.lloadN X.here B.1 rfl (hb B.2.2.2.2.2.2.2 d) hl) G
theorem own_istore (B : own_B p s m meth c Z own nm bytes maxL ret) (X : own_S p l e R s m args below meth c n0 T h cells slots) {k : Nat} {v : Int32} {Ls' : Array Slot} (d : decode bytes pc = .ok (.istore k, 2)) (hp : pc + 2 = pc') (hl : storeLocals Ls k (.int v) = some Ls')
    (G : own_Go p e below (T.setTop (mkF m pc' Ls' st)) P) : own_Go p e below (T.setTop (mkF m pc Ls (.int v :: st))) P := by
  obtain ⟨locs, X, -, -⟩ := X
  subst hp
  exact own_by (fun _ => XS.istore X.here B.1 rfl (hb B.2.2.2.2.2.2.2 d) rfl hl) G
theorem own_istoreN (B : own_B p s m meth c Z own nm bytes maxL ret) (X : own_S p l e R s m args below meth c n0 T h cells slots) {k : Fin 4} {v : Int32} {Ls' : Array Slot} (d : decode bytes pc = .ok (.istore_n k, 1)) (hp : pc + 1 = pc') (hl : storeLocals Ls k.val (.int v) = some Ls')
    (G : own_Go p e below (T.setTop (mkF m pc' Ls' st)) P) : own_Go p e below (T.setTop (mkF m pc Ls (.int v :: st))) P := by
  obtain ⟨locs, X, -, -⟩ := X
  subst hp
  exact own_by (fun _ => XS.istoreN X.here B.1 rfl (hb B.2.2.2.2.2.2.2 d) rfl hl) G
theorem own_lstoreN (B : own_B p s m meth c Z own nm bytes maxL ret) (X : own_S p l e R s m args below meth c n0 T h cells slots) {k : Fin 4} {v : Int64} {Ls' : Array Slot} (d : decode bytes pc = .ok (.lstore_n k, 1)) (hp : pc + 1 = pc') (hl : storeLocals Ls k.val (.long v) = some Ls')
    (G : own_Go p e below (T.setTop (mkF m pc' Ls' st)) P) : own_Go p e below (T.setTop (mkF m pc Ls (.long v :: st))) P := by
  obtain ⟨locs, X, -, -⟩ := X
  subst hp
  exact own_by (fun _ => XS.lstoreN X.here B.1 rfl (hb B.2.2.2.2.2.2.2 d) rfl hl) G
theorem own_iconst (B : own_B p s m meth c Z own nm bytes maxL ret) (X : own_S p l e R s m args below meth c n0 T h cells slots) {i : Int} {z : Int32} (d : decode bytes pc = .ok (.iconst i, 1)) (hp : pc + 1 = pc') (hz : Int32.ofInt i = z)
    (G : own_Go p e below (T.setTop (mkF m pc' Ls (.int z :: st))) P) : own_Go p e below (T.setTop (mkF m pc Ls (st))) P := by
  obtain ⟨locs, X, -, -⟩ := X
  subst hp
  subst hz
  exact own_by (fun _ => XS.iconst X.here B.1 rfl (hb B.2.2.2.2.2.2.2 d)) G
theorem own_bipush (B : own_B p s m meth c Z own nm bytes maxL ret) (X : own_S p l e R s m args below meth c n0 T h cells slots) {i : Int} {z : Int32} (d : decode bytes pc = .ok (.bipush i, 2)) (hp : pc + 2 = pc') (hz : (Int8.ofInt i).toInt32 = z)
    (G : own_Go p e below (T.setTop (mkF m pc' Ls (.int z :: st))) P) : own_Go p e below (T.setTop (mkF m pc Ls (st))) P := by
  obtain ⟨locs, X, -, -⟩ := X
  subst hp
  subst hz
  exact own_by (fun _ => XS.bipush X.here B.1 rfl (hb B.2.2.2.2.2.2.2 d)) G
theorem own_ldcI (B : own_B p s m meth c Z own nm bytes maxL ret) (X : own_S p l e R s m args below meth c n0 T h cells slots) {i : Nat} {z : Int32} (w : (Cond.constant own i z).before a0 Z = true) (d : decode bytes pc = .ok (.ldc i, 2)) (hp : pc + 2 = pc') 
    (G : own_Go p e below (T.setTop (mkF m pc' Ls (.int z :: st))) P) : own_Go p e below (T.setTop (mkF m pc Ls (st))) P := by
  obtain ⟨locs, X, -, -⟩ := X
  subst hp
  exact own_by (fun _ => X.ldcInt B.1 B.2.2.2.1 (mvT B.2.1 w) (g := mkF m pc Ls st) rfl (hb B.2.2.2.2.2.2.2 d) _) G
theorem own_ldc2J (B : own_B p s m meth c Z own nm bytes maxL ret) (X : own_S p l e R s m args below meth c n0 T h cells slots) {i : Nat} {z : Int64} (w : (Cond.constantLong own i z).before a0 Z = true) (d : decode bytes pc = .ok (.ldc2_w i, 3)) (hp : pc + 3 = pc') 
    (G : own_Go p e below (T.setTop (mkF m pc' Ls (.long z :: st))) P) : own_Go p e below (T.setTop (mkF m pc Ls (st))) P := by
  obtain ⟨locs, X, -, -⟩ := X
  subst hp
  exact own_by (fun _ => X.ldc2Long B.1 B.2.2.2.1 (mvT B.2.1 w) (g := mkF m pc Ls st) rfl (hb B.2.2.2.2.2.2.2 d) _) G
theorem own_iadd (B : own_B p s m meth c Z own nm bytes maxL ret) (X : own_S p l e R s m args below meth c n0 T h cells slots) {x y z : Int32} (d : decode bytes pc = .ok (.iadd, 1)) (hp : pc + 1 = pc') (hz : x + y = z)
    (G : own_Go p e below (T.setTop (mkF m pc' Ls (.int z :: st))) P) : own_Go p e below (T.setTop (mkF m pc Ls (.int y :: .int x :: st))) P := by
  obtain ⟨locs, X, -, -⟩ := X
  subst hp
  subst hz
  exact own_by (fun _ => XS.iadd X.here B.1 rfl (hb B.2.2.2.2.2.2.2 d) rfl) G
theorem own_isub (B : own_B p s m meth c Z own nm bytes maxL ret) (X : own_S p l e R s m args below meth c n0 T h cells slots) {x y z : Int32} (d : decode bytes pc = .ok (.isub, 1)) (hp : pc + 1 = pc') (hz : x - y = z)
    (G : own_Go p e below (T.setTop (mkF m pc' Ls (.int z :: st))) P) : own_Go p e below (T.setTop (mkF m pc Ls (.int y :: .int x :: st))) P := by
  obtain ⟨locs, X, -, -⟩ := X
  subst hp
  subst hz
  exact own_by (fun _ => XS.isub X.here B.1 rfl (hb B.2.2.2.2.2.2.2 d) rfl) G
theorem own_iand (B : own_B p s m meth c Z own nm bytes maxL ret) (X : own_S p l e R s m args below meth c n0 T h cells slots) {x y z : Int32} (d : decode bytes pc = .ok (.iand, 1)) (hp : pc + 1 = pc') (hz : x &&& y = z)
    (G : own_Go p e below (T.setTop (mkF m pc' Ls (.int z :: st))) P) : own_Go p e below (T.setTop (mkF m pc Ls (.int y :: .int x :: st))) P := by
  obtain ⟨locs, X, -, -⟩ := X
  subst hp
  subst hz
  exact own_by (fun _ => XS.iand X.here B.1 rfl (hb B.2.2.2.2.2.2.2 d) rfl) G
theorem own_land (B : own_B p s m meth c Z own nm bytes maxL ret) (X : own_S p l e R s m args below meth c n0 T h cells slots) {x y z : Int64} (d : decode bytes pc = .ok (.land, 1)) (hp : pc + 1 = pc') (hz : x &&& y = z)
    (G : own_Go p e below (T.setTop (mkF m pc' Ls (.long z :: st))) P) : own_Go p e below (T.setTop (mkF m pc Ls (.long y :: .long x :: st))) P := by
  obtain ⟨locs, X, -, -⟩ := X
  subst hp
  subst hz
  exact own_by (fun _ => XS.land X.here B.1 rfl (hb B.2.2.2.2.2.2.2 d) rfl) G
theorem own_lcmp (B : own_B p s m meth c Z own nm bytes maxL ret) (X : own_S p l e R s m args below meth c n0 T h cells slots) {x y : Int64} {z : Int32} (d : decode bytes pc = .ok (.lcmp, 1)) (hp : pc + 1 = pc') (hz : lcmpW x y = z)
    (G : own_Go p e below (T.setTop (mkF m pc' Ls (.int z :: st))) P) : own_Go p e below (T.setTop (mkF m pc Ls (.long y :: .long x :: st))) P := by
  obtain ⟨locs, X, -, -⟩ := X
  subst hp
  subst hz
  exact own_by (fun _ => XS.lcmp X.here B.1 rfl (hb B.2.2.2.2.2.2.2 d) rfl) G
theorem own_irem (B : own_B p s m meth c Z own nm bytes maxL ret) (X : own_S p l e R s m args below meth c n0 T h cells slots) {x y z : Int32} (d : decode bytes pc = .ok (.irem, 1)) (hp : pc + 1 = pc') (hy : y ≠ 0) (hz : x % y = z)
    (G : own_Go p e below (T.setTop (mkF m pc' Ls (.int z :: st))) P) : own_Go p e below (T.setTop (mkF m pc Ls (.int y :: .int x :: st))) P := by
  obtain ⟨locs, X, -, -⟩ := X
  subst hp
  subst hz
  exact own_by (fun _ => iremM X B.1 rfl (hb B.2.2.2.2.2.2.2 d) rfl hy) G
theorem own_i2l (B : own_B p s m meth c Z own nm bytes maxL ret) (X : own_S p l e R s m args below meth c n0 T h cells slots) {x : Int32} {z : Int64} (d : decode bytes pc = .ok (.i2l, 1)) (hp : pc + 1 = pc') (hz : x.toInt64 = z)
    (G : own_Go p e below (T.setTop (mkF m pc' Ls (.long z :: st))) P) : own_Go p e below (T.setTop (mkF m pc Ls (.int x :: st))) P := by
  obtain ⟨locs, X, -, -⟩ := X
  subst hp
  subst hz
  exact own_by (fun _ => XS.i2l X.here B.1 rfl (hb B.2.2.2.2.2.2.2 d) rfl) G
theorem own_goto (B : own_B p s m meth c Z own nm bytes maxL ret) (X : own_S p l e R s m args below meth c n0 T h cells slots) {o : Int} (d : decode bytes pc = .ok (.goto o, 3)) (ho : 0 ≤ (pc : Int) + o) (hp : ((pc : Int) + o).toNat = pc')
    (G : own_Go p e below (T.setTop (mkF m pc' Ls st)) P) : own_Go p e below (T.setTop (mkF m pc Ls st)) P := by
  obtain ⟨locs, X, -, -⟩ := X
  exact own_by (fun _ => XS.goto X.here B.1 rfl (pc0 := pc) rfl (hb B.2.2.2.2.2.2.2 d) ho hp) G
theorem own_ifYes (B : own_B p s m meth c Z own nm bytes maxL ret) (X : own_S p l e R s m args below meth c n0 T h cells slots) {cd : ClassFile.Cond} {o : Int} {x : Int32} (d : decode bytes pc = .ok (.ifCond cd o, 3)) (hc : ifCond.holds cd x = true) (ho : 0 ≤ (pc : Int) + o) (hp : ((pc : Int) + o).toNat = pc')
    (G : own_Go p e below (T.setTop (mkF m pc' Ls st)) P) : own_Go p e below (T.setTop (mkF m pc Ls (.int x :: st))) P := by
  obtain ⟨locs, X, -, -⟩ := X
  exact own_by (fun _ => XS.ifYes X.here B.1 rfl (pc0 := pc) rfl (hb B.2.2.2.2.2.2.2 d) rfl hc ho hp) G
theorem own_ifNo (B : own_B p s m meth c Z own nm bytes maxL ret) (X : own_S p l e R s m args below meth c n0 T h cells slots) {cd : ClassFile.Cond} {o : Int} {x : Int32} (d : decode bytes pc = .ok (.ifCond cd o, 3)) (hc : ifCond.holds cd x = false) (hp : pc + 3 = pc')
    (G : own_Go p e below (T.setTop (mkF m pc' Ls st)) P) : own_Go p e below (T.setTop (mkF m pc Ls (.int x :: st))) P := by
  obtain ⟨locs, X, -, -⟩ := X
  subst hp
  exact own_by (fun _ => XS.ifNo X.here B.1 rfl (hb B.2.2.2.2.2.2.2 d) rfl hc) G
theorem own_icmpYes (B : own_B p s m meth c Z own nm bytes maxL ret) (X : own_S p l e R s m args below meth c n0 T h cells slots) {cd : ClassFile.Cond} {o : Int} {x y : Int32} (d : decode bytes pc = .ok (.if_icmp cd o, 3)) (hc : if_icmp.holds cd x y = true) (ho : 0 ≤ (pc : Int) + o) (hp : ((pc : Int) + o).toNat = pc')
    (G : own_Go p e below (T.setTop (mkF m pc' Ls st)) P) : own_Go p e below (T.setTop (mkF m pc Ls (.int y :: .int x :: st))) P := by
  obtain ⟨locs, X, -, -⟩ := X
  exact own_by (fun _ => XS.icmpYes X.here B.1 rfl (pc0 := pc) rfl (hb B.2.2.2.2.2.2.2 d) rfl hc ho hp) G
theorem own_icmpNo (B : own_B p s m meth c Z own nm bytes maxL ret) (X : own_S p l e R s m args below meth c n0 T h cells slots) {cd : ClassFile.Cond} {o : Int} {x y : Int32} (d : decode bytes pc = .ok (.if_icmp cd o, 3)) (hc : if_icmp.holds cd x y = false) (hp : pc + 3 = pc')
    (G : own_Go p e below (T.setTop (mkF m pc' Ls st)) P) : own_Go p e below (T.setTop (mkF m pc Ls (.int y :: .int x :: st))) P := by
  obtain ⟨locs, X, -, -⟩ := X
  subst hp
  exact own_by (fun _ => XS.icmpNo X.here B.1 rfl (hb B.2.2.2.2.2.2.2 d) rfl hc) G
theorem own_retN {t : FieldType} (B : own_B p s m meth c Z own nm bytes maxL (some t)) (X : own_S p l e R s m args below meth c n0 T h cells slots) {Q : Option Value → Heap → Prop} {k n : Nat} {z z' : Int32} (ht : t = .boolean ∨ t = .byte ∨ t = .char ∨ t = .short) (hz : nar t z = z') (d : decode bytes pc = .ok (.ireturn, 1)) (hk : cells ≤ k) (hn : slots ≤ n) (hq : Q (some (.int z')) h) : own_Go p e below (T.setTop (mkF m pc Ls (.int z :: st))) (own_P s below n0 Q k n) := by
  subst hz
  obtain ⟨locs, X, eT, N0⟩ := X
  obtain ⟨fs, hr, hrun, hended, hW, hsame⟩ := X.leave (v := (some (.int (nar t z)))) (fun h => by rw [B.2.2.2.2.1] at h; cases h) B.2.2.2.2.2.1
  exact ⟨_, _, retN X B.1 B.2.2.2.2.1 ht (hb B.2.2.2.2.2.2.2 d) hr, hrun, hended, _, _, rfl, ⟨N0, by show Q _ T.heap; rw [eT]; exact hq⟩, ⟨_, rfl⟩, hW, hsame.mono hk hn⟩
theorem own_enter {y : MethodName} {rm : Room} {ws : List Jvm.Cond} {as' : Array Value} {Q : Option Value → Heap → Prop} {F : MethodId → JFrame} (hpl : plainFor y = true) (hF : ∀ m, entryFrame m as' maxL = F m)
    (body : ∀ p e s m below meth c s₁, own_B p s m meth c Z y.cls y.name bytes maxL ret → own_S p l e rm s m as' below meth c n0 s₁ h0 0 0 → own_Go p e below (s₁.setTop (F m)) (own_P s below n0 Q rm.cells rm.slots)) :
    MetFree l y (head1 (Jvm.Cond.code y bytes maxL ret :: ws) rm) (fun a U => a = as' ∧ Z.Warmed39 U.vm ∧ U.heap = h0) (fun _ _ _ _ _ => True) (fun _ U o U' => ∃ v L, o = .returned v ∧ (Fr n0 L ∧ Q v U'.heap) ∧ FrameEnd U o U' L rm.cells rm.slots) := by
  refine MetFree.of_bodySF hpl hisR ?_
  intro p e s m args below meth c s₁ Bd hml0 hP hK
  obtain ⟨rfl, hZ, hh⟩ := hP
  have e0 : s₁.heap = h0 := by rw [← hh, Bd.state]; rfl
  have nm := (name_of_methodNamed Bd.named Bd.method).1
  obtain ⟨a, o, h1, h2⟩ := body p e s m below meth c s₁ ⟨Bd.exec, hZ, hml0, findClass_of_methodNamed Bd.named, Bd.returns, Bd.notSynchronized, nm, Bd.bytes⟩ ⟨[], Stand.of_body Bd, e0, Fr.nil n0⟩
  exact ⟨a, o, castTop (hF m) h1, h2⟩
theorem own_callS (B : own_B p s m meth c Z own nm bytes maxL ret) (X : own_S p l e R s m args below meth c n0 T h cells slots) {i : Nat} {y : MethodName} {yb : ByteArray} {yl : Nat} {yr : Option FieldType} (w1 : (Cond.methodLink own i y).before a0 Z = true) (w2 : (Cond.static y).before a0 Z = true) (w3 : (Cond.initialized y.cls).before a0 Z = true) (w4 : (Cond.code y yb yl yr).before a0 Z = true) (hy : y.cls ≠ "java/lang/invoke/MethodHandle" ∧ y.cls ≠ "java/lang/invoke/VarHandle") {rm : Room} {Q : Option Value → Heap → Prop} (argsL rest : List Value)
    (hM : MetFree l y (head1 [Jvm.Cond.code y yb yl yr] rm) (fun b U => b = argsL.toArray ∧ Z.Warmed39 U.vm ∧ U.heap = h) (fun _ _ _ _ _ => True) (fun _ U o U' => ∃ v L, o = .returned v ∧ (Fr n0 L ∧ Q v U'.heap) ∧ FrameEnd U o U' L rm.cells rm.slots))
    (W : Nat) (hf : rm.frames + 1 ≤ R.frames) (hl : W + (yl + 11) + rm.locals ≤ R.locals) (hsz : Ls.size = maxL) {ps : List FieldType} {rt : Option FieldType} (hpd : parseMethodDescriptor y.desc = some ⟨ps, rt⟩) (hln : argsL.length = ps.length) (hst : st = argsL.reverse ++ rest) (hW : (rest.map fun v => v.category).sum ≤ W) (d : decode bytes pc = .ok (.invokestatic i, 3)) (hp : pc + 3 = pc') {k' n' : Nat} (hk : cells + rm.cells = k') (hn : slots + rm.slots = n') (hkR : k' ≤ R.cells) (hnR : n' ≤ R.slots)
    (G : ∀ T' v h', own_S p l e R s m args below meth c n0 T' h' k' n' → Q v h' → own_Go p e below (T'.setTop (mkF m pc' Ls (v.toList ++ rest))) P) : own_Go p e below (T.setTop (mkF m pc Ls st)) P := by
  obtain ⟨locs, X, eT, N0⟩ := X
  subst hp hk hn
  have bk := backOf (p := p) (e := e) (below := below) (args := args) (len := 3) (W := W) (Q := fun v h' L => Fr n0 L ∧ Q v h') hM B.2.1 w4 w3 hf hl
  obtain ⟨v, vm₁, ⟨T', L', k1, n1⟩, hW1, X', ⟨Lc, hQ, l1, y1, z1⟩, stp⟩ := Jvm.LawKit.callS X B.1 (y := y) B.2.2.2.1 (mvT B.2.1 w1) (mvT B.2.1 w2) (mvT B.2.1 w3) (mvT B.2.1 w4) hy bk (g := mkF m pc Ls st) rfl (by rw [B.2.2.1]; exact hsz) (argsL := argsL) (rest := rest) (lenOf hpd hln) hst (by show 2 * 0 + _ ≤ _; omega) (hb B.2.2.2.2.2.2.2 d) (fun _ _ => ⟨rfl, eT, hkR, hnR⟩)
  dsimp only [Pt.U, Pt.locs, Pt.cells, Pt.slots] at X' l1 y1 z1 stp hQ
  subst l1 y1 z1
  exact own_by stp (G T' v _ ⟨_, X', rfl, N0.app hQ.1⟩ hQ.2)
end OwnKit
section OwnNum
theorem own_w {a0 : Array Value} {Z : State} (hw : ∀ d ∈ tables_1, d.before a0 Z = true) (i : Nat) {d : Jvm.Cond} (hd : tables_1[i]? = some d) : d.before a0 Z = true := hw _ (List.mem_of_getElem? hd)
theorem own_lt {x y : Int32} (h : x < y) : x.toInt < y.toInt := Int32.lt_iff_toInt_lt.mp h
theorem own_nlt {x y : Int32} (h : ¬ x < y) : ¬ x.toInt < y.toInt := fun q => h (Int32.lt_iff_toInt_lt.mpr q)
theorem own_ltL {x y : Int64} (h : x < y) : x.toInt < y.toInt := Int64.lt_iff_toInt_lt.mp h
theorem own_nltL {x y : Int64} (h : ¬ x < y) : ¬ x.toInt < y.toInt := fun q => h (Int64.lt_iff_toInt_lt.mpr q)
theorem own_o_iadd {x y z : Int32} (h : x + y = z) : (z.toInt - (x.toInt + y.toInt)) % 4294967296 = 0 := h ▸ c_iadd x y
theorem own_o_isub {x y z : Int32} (h : x - y = z) : (z.toInt - (x.toInt - y.toInt)) % 4294967296 = 0 := h ▸ c_isub x y
theorem own_o_mask {x m z : Int32} (h : x &&& m = z) (k : Nat) (hk : k ≤ 31) (hm : m.toBitVec.toNat = 2 ^ k - 1) : z.toInt = x.toInt % (2 ^ k : Nat) := h ▸ c_mask x m k hk hm
theorem own_o_maskL {x m z : Int64} (h : x &&& m = z) (k : Nat) (hk : k ≤ 63) (hm : m.toBitVec.toNat = 2 ^ k - 1) : z.toInt = x.toInt % (2 ^ k : Nat) := h ▸ c_maskL x m k hk hm
theorem own_o_irem {x y z : Int32} (h : x % y = z) (d : Int) (hy : y.toInt = d) : (0 ≤ x.toInt → z.toInt = x.toInt % d) ∧ (x.toInt < 0 → z.toInt = -((-x.toInt) % d)) := h ▸ c_irem x y d hy
theorem own_o_i2l {x : Int32} {z : Int64} (h : x.toInt64 = z) : z.toInt = x.toInt := h ▸ c_i2l x
theorem own_lcm {x y : Int64} {z : Int32} (h : lcmpW x y = z) {P : Int32 → Prop} (q : P (lcmpW x y)) : P z := h ▸ q
end OwnNum

theorem d1_0 : decode prog_30_method_2_code 0 = .ok (.iload_n 0, 1) := by decide +kernel
theorem d1_1 : decode prog_30_method_2_code 1 = .ok (.ifCond .lt 13, 3) := by decide +kernel
theorem d1_14 : decode prog_30_method_2_code 14 = .ok (.iconst 0, 1) := by decide +kernel
theorem d1_15 : decode prog_30_method_2_code 15 = .ok (.ireturn, 1) := by decide +kernel
theorem d1_4 : decode prog_30_method_2_code 4 = .ok (.iload_n 0, 1) := by decide +kernel
theorem d1_5 : decode prog_30_method_2_code 5 = .ok (.bipush 99, 2) := by decide +kernel
theorem d1_7 : decode prog_30_method_2_code 7 = .ok (.if_icmp .gt 7, 3) := by decide +kernel
theorem d1_10 : decode prog_30_method_2_code 10 = .ok (.iconst 1, 1) := by decide +kernel
theorem d1_11 : decode prog_30_method_2_code 11 = .ok (.goto 4, 3) := by decide +kernel
theorem pn_0 : plainName "com/example/lean_route/leanroute/keyed/MessageType" = true := by first | (simp [plainName, overriddenIn]; done) | decide +kernel
theorem pd_0 : parseMethodDescriptor "(I)Z" = some ⟨[.int], some .boolean⟩ := by decide +kernel
theorem d2_0 : decode method_2_code 0 = .ok (.iload_n 0, 1) := by decide +kernel
theorem d2_1 : decode method_2_code 1 = .ok (.i2l, 1) := by decide +kernel
theorem d2_2 : decode method_2_code 2 = .ok (.ldc2_w 7, 3) := by decide +kernel
theorem d2_5 : decode method_2_code 5 = .ok (.land, 1) := by decide +kernel
theorem d2_6 : decode method_2_code 6 = .ok (.lstore_n 1, 1) := by decide +kernel
theorem d2_7 : decode method_2_code 7 = .ok (.lload_n 1, 1) := by decide +kernel
theorem d2_8 : decode method_2_code 8 = .ok (.ldc2_w 9, 3) := by decide +kernel
theorem d2_11 : decode method_2_code 11 = .ok (.lcmp, 1) := by decide +kernel
theorem d2_12 : decode method_2_code 12 = .ok (.ifCond .ge 7, 3) := by decide +kernel
theorem d2_15 : decode method_2_code 15 = .ok (.iconst 1, 1) := by decide +kernel
theorem d2_16 : decode method_2_code 16 = .ok (.goto 4, 3) := by decide +kernel
theorem d2_20 : decode method_2_code 20 = .ok (.ireturn, 1) := by decide +kernel
theorem d2_19 : decode method_2_code 19 = .ok (.iconst 0, 1) := by decide +kernel
theorem pn_1 : plainName "com/example/lean_route/leanroute/keyed/MessageTypeIsReservedPinLaw" = true := by first | (simp [plainName, overriddenIn]; done) | decide +kernel
def Q_1 (Z : State) (p0 : Int32) (h0 : Heap) (n0 : Nat) (v : Option Value) (h : Heap) : Prop :=
  (p0 < (0 : Int32) ∧ v = some (.int (0 : Int32)) ∧ h0 = h) ∨
  (¬ (p0 < (0 : Int32)) ∧ (99 : Int32) < p0 ∧ v = some (.int (0 : Int32)) ∧ h0 = h) ∨
  (¬ (p0 < (0 : Int32)) ∧ ¬ ((99 : Int32) < p0) ∧ v = some (.int (1 : Int32)) ∧ h0 = h)
set_option maxRecDepth 65536 in
set_option maxHeartbeats 40000000 in
theorem rm_1 (l : Launch) (Z : State) (a0 : Array Value) (hw : ∀ d ∈ tables_1, d.before a0 Z = true) (ws : List Jvm.Cond) (p0 : Int32) (h0 : Heap) (n0 : Nat) (Z0 : n0 ≤ h0.size)  :
    MetFree l (⟨"com/example/lean_route/leanroute/keyed/MessageType", "isReserved", "(I)Z"⟩ : MethodName) (head1 (Jvm.Cond.code (⟨"com/example/lean_route/leanroute/keyed/MessageType", "isReserved", "(I)Z"⟩ : MethodName) prog_30_method_2_code 1 (some .boolean) :: ws) ({ frames := 0, cells := 0, slots := 0, locals := 0 } : Room)) (fun a U => a = #[(.int p0)] ∧ Z.Warmed39 U.vm ∧ U.heap = h0) (fun _ _ _ _ _ => True) (fun _ U o U' => ∃ v L, o = .returned v ∧ (Fr n0 L ∧ Q_1 Z p0 h0 n0 v U'.heap) ∧ FrameEnd U o U' L ({ frames := 0, cells := 0, slots := 0, locals := 0 } : Room).cells ({ frames := 0, cells := 0, slots := 0, locals := 0 } : Room).slots) := by
  refine own_enter (Q := Q_1 Z p0 h0 n0) (F := fun m => mkF m 0 #[.val (.int p0)] []) (plainFor_of_name pn_0) (fun m => by first | (simp [entryFrame, mkF, argsToLocals, Value.category]; done) | rfl) ?_
  intro p e s m below meth c s₁ B X0
  have K : Keep h0 h0 [] := Keep.refl h0 _
  refine own_iloadN (pc' := 1) B X0 d1_0 rfl rfl ?_
  by_cases c1 : p0 < (0 : Int32)
  · refine own_ifYes (pc' := 14) B X0 d1_1 ((if0 _ _).trans (tlt c1).1) (by decide) rfl ?_
    refine own_iconst (pc' := 15) B X0 (z := (0 : Int32)) d1_14 rfl rfl ?_
    exact own_retN B X0 (t := .boolean) (z' := (0 : Int32)) (by simp) (by decide) d1_15 (by decide) (by decide) (Or.inl ⟨c1, rfl, rfl⟩)
  · refine own_ifNo (pc' := 4) B X0 d1_1 ((if0 _ _).trans (flt c1).1) rfl ?_
    refine own_iloadN (pc' := 5) B X0 d1_4 rfl rfl ?_
    refine own_bipush (pc' := 7) B X0 (z := (99 : Int32)) d1_5 rfl (by decide) ?_
    by_cases c2 : (99 : Int32) < p0
    · refine own_icmpYes (pc' := 14) B X0 d1_7 (tlt c2).2.2.1 (by decide) rfl ?_
      refine own_iconst (pc' := 15) B X0 (z := (0 : Int32)) d1_14 rfl rfl ?_
      exact own_retN B X0 (t := .boolean) (z' := (0 : Int32)) (by simp) (by decide) d1_15 (by decide) (by decide) (Or.inr (Or.inl ⟨c1, c2, rfl, rfl⟩))
    · refine own_icmpNo (pc' := 10) B X0 d1_7 (flt c2).2.2.1 rfl ?_
      refine own_iconst (pc' := 11) B X0 (z := (1 : Int32)) d1_10 rfl rfl ?_
      refine own_goto (pc' := 15) B X0 d1_11 (by decide) rfl ?_
      exact own_retN B X0 (t := .boolean) (z' := (1 : Int32)) (by simp) (by decide) d1_15 (by decide) (by decide) (Or.inr (Or.inr (⟨c1, c2, rfl, rfl⟩)))
def Q_2 (Z : State) (p0 : Int32) (h0 : Heap) (n0 : Nat) (v : Option Value) (h : Heap) : Prop :=
  (∃ (y1 : Int64) (y2 : Int64), p0.toInt64 = y1 ∧ y1 &&& (4294967295 : Int64) = y2 ∧ y2 < (100 : Int64) ∧ v = some (.int (1 : Int32)) ∧ h0 = h) ∨
  (∃ (y1 : Int64) (y2 : Int64), p0.toInt64 = y1 ∧ y1 &&& (4294967295 : Int64) = y2 ∧ ¬ (y2 < (100 : Int64)) ∧ v = some (.int (0 : Int32)) ∧ h0 = h)
set_option maxRecDepth 65536 in
set_option maxHeartbeats 40000000 in
theorem rm_2 (l : Launch) (Z : State) (a0 : Array Value) (hw : ∀ d ∈ tables_1, d.before a0 Z = true) (ws : List Jvm.Cond) (p0 : Int32) (h0 : Heap) (n0 : Nat) (Z0 : n0 ≤ h0.size)  :
    MetFree l (⟨"com/example/lean_route/leanroute/keyed/MessageTypeIsReservedPinLaw", "reference", "(I)Z"⟩ : MethodName) (head1 (Jvm.Cond.code (⟨"com/example/lean_route/leanroute/keyed/MessageTypeIsReservedPinLaw", "reference", "(I)Z"⟩ : MethodName) method_2_code 3 (some .boolean) :: ws) ({ frames := 0, cells := 0, slots := 0, locals := 0 } : Room)) (fun a U => a = #[(.int p0)] ∧ Z.Warmed39 U.vm ∧ U.heap = h0) (fun _ _ _ _ _ => True) (fun _ U o U' => ∃ v L, o = .returned v ∧ (Fr n0 L ∧ Q_2 Z p0 h0 n0 v U'.heap) ∧ FrameEnd U o U' L ({ frames := 0, cells := 0, slots := 0, locals := 0 } : Room).cells ({ frames := 0, cells := 0, slots := 0, locals := 0 } : Room).slots) := by
  refine own_enter (Q := Q_2 Z p0 h0 n0) (F := fun m => mkF m 0 #[.val (.int p0), .unset, .unset] []) (plainFor_of_name pn_1) (fun m => by first | (simp [entryFrame, mkF, argsToLocals, Value.category]; done) | rfl) ?_
  intro p e s m below meth c s₁ B X0
  have K : Keep h0 h0 [] := Keep.refl h0 _
  refine own_iloadN (pc' := 1) B X0 d2_0 rfl rfl ?_
  obtain ⟨y1, hy1⟩ : ∃ z : Int64, p0.toInt64 = z := ⟨_, rfl⟩
  refine own_i2l (pc' := 2) B X0 d2_1 rfl hy1 ?_
  refine own_ldc2J (pc' := 5) B X0 (own_w hw 9 rfl) d2_2 rfl ?_
  obtain ⟨y2, hy2⟩ : ∃ z : Int64, y1 &&& (4294967295 : Int64) = z := ⟨_, rfl⟩
  refine own_land (pc' := 6) B X0 d2_5 rfl hy2 ?_
  refine own_lstoreN (pc' := 7) B X0 (Ls' := #[.val (.int p0), .val (.long y2), .second]) d2_6 rfl rfl ?_
  refine own_lloadN (pc' := 8) B X0 d2_7 rfl rfl ?_
  refine own_ldc2J (pc' := 11) B X0 (own_w hw 10 rfl) d2_8 rfl ?_
  obtain ⟨y3, hy3⟩ : ∃ z : Int32, lcmpW y2 (100 : Int64) = z := ⟨_, rfl⟩
  refine own_lcmp (pc' := 12) B X0 d2_11 rfl hy3 ?_
  by_cases c4 : y2 < (100 : Int64)
  · refine own_ifNo (pc' := 15) B X0 d2_12 ((if0 _ _).trans (tlt (own_lcm (P := fun q => (q < (0 : Int32))) hy3 ((lw_lt y2 (100 : Int64)).mpr c4))).2.1) rfl ?_
    refine own_iconst (pc' := 16) B X0 (z := (1 : Int32)) d2_15 rfl rfl ?_
    refine own_goto (pc' := 20) B X0 d2_16 (by decide) rfl ?_
    exact own_retN B X0 (t := .boolean) (z' := (1 : Int32)) (by simp) (by decide) d2_20 (by decide) (by decide) (Or.inl ⟨y1, y2, hy1, hy2, c4, rfl, rfl⟩)
  · refine own_ifYes (pc' := 19) B X0 d2_12 ((if0 _ _).trans (flt (own_lcm (P := fun q => ¬ (q < (0 : Int32))) hy3 (fun q => c4 ((lw_lt y2 (100 : Int64)).mp q)))).2.1) (by decide) rfl ?_
    refine own_iconst (pc' := 20) B X0 (z := (0 : Int32)) d2_19 rfl rfl ?_
    exact own_retN B X0 (t := .boolean) (z' := (0 : Int32)) (by simp) (by decide) d2_20 (by decide) (by decide) (Or.inr (⟨y1, y2, hy1, hy2, c4, rfl, rfl⟩))
def Q_0 (Z : State) (i0 : Int32) (i1 : Int32) (h0 : Heap) (n0 : Nat) (v : Option Value) (h : Heap) : Prop :=
  (v = some (.int (1 : Int32)))
set_option maxRecDepth 65536 in
set_option maxHeartbeats 40000000 in
theorem rm_0 (l : Launch) (Z : State) (a0 : Array Value) (hw : ∀ d ∈ tables_1, d.before a0 Z = true) (ws : List Jvm.Cond) (i0 : Int32) (i1 : Int32) (h0 : Heap) (n0 : Nat) (Z0 : n0 ≤ h0.size)  :
    MetFree l x (head1 (Jvm.Cond.code x code maxLocals ret :: ws) room_1) (fun a U => a = #[(.int i0), (.int i1)] ∧ Z.Warmed39 U.vm ∧ U.heap = h0) (fun _ _ _ _ _ => True) (fun _ U o U' => ∃ v L, o = .returned v ∧ (Fr n0 L ∧ Q_0 Z i0 i1 h0 n0 v U'.heap) ∧ FrameEnd U o U' L room_1.cells room_1.slots) := by
  refine own_enter (Q := Q_0 Z i0 i1 h0 n0) (F := fun m => mkF m 0 #[.val (.int i0), .val (.int i1), .unset, .unset, .unset, .unset, .unset, .unset] []) (plainFor_of_name pn_1) (fun m => by first | (simp [entryFrame, mkF, argsToLocals, Value.category, maxLocals]; done) | rfl) ?_
  intro p e s m below meth c s₁ B X0
  have K : Keep h0 h0 [] := Keep.refl h0 _
  refine own_iloadN (pc' := 1) B X0 at_0 rfl rfl ?_
  refine own_ldcI (pc' := 3) B X0 (own_w hw 0 rfl) at_1 rfl ?_
  obtain ⟨y1, hy1⟩ : ∃ z : Int32, i1 &&& (2147483647 : Int32) = z := ⟨_, rfl⟩
  refine own_iand (pc' := 4) B X0 at_3 rfl hy1 ?_
  refine own_iconst (pc' := 5) B X0 (z := (4 : Int32)) at_4 rfl rfl ?_
  obtain ⟨y2, hy2⟩ : ∃ z : Int32, y1 % (4 : Int32) = z := ⟨_, rfl⟩
  refine own_irem (pc' := 6) B X0 at_5 rfl (by decide) hy2 ?_
  refine own_istoreN (pc' := 7) B X0 (Ls' := #[.val (.int i0), .val (.int i1), .val (.int y2), .unset, .unset, .unset, .unset, .unset]) at_6 rfl rfl ?_
  refine own_iloadN (pc' := 8) B X0 at_7 rfl rfl ?_
  refine own_iconst (pc' := 9) B X0 (z := (1 : Int32)) at_8 rfl rfl ?_
  obtain ⟨y3, hy3⟩ : ∃ z : Int32, y2 - (1 : Int32) = z := ⟨_, rfl⟩
  refine own_isub (pc' := 10) B X0 at_9 rfl hy3 ?_
  refine own_istoreN (pc' := 11) B X0 (Ls' := #[.val (.int i0), .val (.int i1), .val (.int y2), .val (.int y3), .unset, .unset, .unset, .unset]) at_10 rfl rfl ?_
  refine own_bipush (pc' := 13) B X0 (z := (98 : Int32)) at_11 rfl (by decide) ?_
  refine own_iloadN (pc' := 14) B X0 at_13 rfl rfl ?_
  obtain ⟨y4, hy4⟩ : ∃ z : Int32, (98 : Int32) + y2 = z := ⟨_, rfl⟩
  refine own_iadd (pc' := 15) B X0 at_14 rfl hy4 ?_
  refine own_istore (pc' := 17) B X0 (Ls' := #[.val (.int i0), .val (.int i1), .val (.int y2), .val (.int y3), .val (.int y4), .unset, .unset, .unset]) at_15 rfl rfl ?_
  refine own_iloadN (pc' := 18) B X0 at_17 rfl rfl ?_
  refine own_callS (pc' := 21) B X0 (own_w hw 1 rfl) (own_w hw 2 rfl) (own_w hw 3 rfl) (own_w hw 4 rfl) (by decide) [(.int i0)] [] (rm_1 l Z a0 hw [] (i0) h0 n0 (Nat.le_trans Z0 K.1) ) 0 (by decide) (by decide) rfl pd_0 rfl rfl (Nat.le_of_eq rfl) at_18 rfl (k' := 0) (n' := 0) rfl rfl (by decide) (by decide) ?_
  intro T5 v5 h5 X5 q5
  rcases q5 with ⟨c6, rfl, rfl⟩ | ⟨c7, c8, rfl, rfl⟩ | ⟨c9, c10, rfl, rfl⟩
  · show own_Go p e below (T5.setTop (mkF m 21 #[.val (.int i0), .val (.int i1), .val (.int y2), .val (.int y3), .val (.int y4), .unset, .unset, .unset] [(.int (0 : Int32))])) _
    refine own_iloadN (pc' := 22) B X5 at_21 rfl rfl ?_
    refine own_callS (pc' := 25) B X5 (own_w hw 5 rfl) (own_w hw 6 rfl) (own_w hw 7 rfl) (own_w hw 8 rfl) (by decide) [(.int i0)] [(.int (0 : Int32))] (rm_2 l Z a0 hw [] (i0) h0 n0 (Nat.le_trans Z0 K.1) ) 1 (by decide) (by decide) rfl pd_0 rfl rfl (Nat.le_of_eq rfl) at_22 rfl (k' := 0) (n' := 0) rfl rfl (by decide) (by decide) ?_
    intro T11 v11 h11 X11 q11
    rcases q11 with ⟨y12, y13, hy14, hy15, c16, rfl, rfl⟩ | ⟨y17, y18, hy19, hy20, c21, rfl, rfl⟩
    · exfalso
      have o0 := own_o_i2l hy14
      have o1 := own_o_maskL hy15 32 (by decide) (by decide)
      have o2 := own_lt c6
      have o3 := own_ltL c16
      have o4 := rng32 i0
      have o5 := rng64 y12
      have o6 := rng64 y13
      have o7 : (4294967295 : Int64).toInt = 4294967295 := by decide
      have o8 : (0 : Int32).toInt = 0 := by decide
      have o9 : (100 : Int64).toInt = 100 := by decide
      exfalso
      omega
    · show own_Go p e below (T11.setTop (mkF m 25 #[.val (.int i0), .val (.int i1), .val (.int y2), .val (.int y3), .val (.int y4), .unset, .unset, .unset] [(.int (0 : Int32)), (.int (0 : Int32))])) _
      refine own_icmpNo (pc' := 28) B X11 at_25 (teq (by decide : (0 : Int32) = (0 : Int32))).2 rfl ?_
      refine own_iconst (pc' := 29) B X11 (z := (1 : Int32)) at_28 rfl rfl ?_
      refine own_goto (pc' := 33) B X11 at_29 (by decide) rfl ?_
      refine own_istore (pc' := 35) B X11 (Ls' := #[.val (.int i0), .val (.int i1), .val (.int y2), .val (.int y3), .val (.int y4), .val (.int (1 : Int32)), .unset, .unset]) at_33 rfl rfl ?_
      refine own_iloadN (pc' := 36) B X11 at_35 rfl rfl ?_
      refine own_callS (pc' := 39) B X11 (own_w hw 1 rfl) (own_w hw 2 rfl) (own_w hw 3 rfl) (own_w hw 4 rfl) (by decide) [(.int y3)] [] (rm_1 l Z a0 hw [] (y3) h0 n0 (Nat.le_trans Z0 K.1) ) 0 (by decide) (by decide) rfl pd_0 rfl rfl (Nat.le_of_eq rfl) at_36 rfl (k' := 0) (n' := 0) rfl rfl (by decide) (by decide) ?_
      intro T22 v22 h22 X22 q22
      rcases q22 with ⟨c23, rfl, rfl⟩ | ⟨c24, c25, rfl, rfl⟩ | ⟨c26, c27, rfl, rfl⟩
      · show own_Go p e below (T22.setTop (mkF m 39 #[.val (.int i0), .val (.int i1), .val (.int y2), .val (.int y3), .val (.int y4), .val (.int (1 : Int32)), .unset, .unset] [(.int (0 : Int32))])) _
        refine own_iloadN (pc' := 40) B X22 at_39 rfl rfl ?_
        refine own_callS (pc' := 43) B X22 (own_w hw 5 rfl) (own_w hw 6 rfl) (own_w hw 7 rfl) (own_w hw 8 rfl) (by decide) [(.int y3)] [(.int (0 : Int32))] (rm_2 l Z a0 hw [] (y3) h0 n0 (Nat.le_trans Z0 K.1) ) 1 (by decide) (by decide) rfl pd_0 rfl rfl (Nat.le_of_eq rfl) at_40 rfl (k' := 0) (n' := 0) rfl rfl (by decide) (by decide) ?_
        intro T28 v28 h28 X28 q28
        rcases q28 with ⟨y29, y30, hy31, hy32, c33, rfl, rfl⟩ | ⟨y34, y35, hy36, hy37, c38, rfl, rfl⟩
        · exfalso
          have o0 := own_o_mask hy1 31 (by decide) (by decide)
          have o1 := own_o_irem hy2 4 (by decide)
          have o2 := own_o_isub hy3
          have o3 := own_o_i2l hy19
          have o4 := own_o_maskL hy20 32 (by decide) (by decide)
          have o5 := own_o_i2l hy31
          have o6 := own_o_maskL hy32 32 (by decide) (by decide)
          have o7 := own_lt c6
          have o8 := own_nltL c21
          have o9 := own_lt c23
          have o10 := own_ltL c33
          have o11 := rng32 i0
          have o12 := rng32 i1
          have o13 := rng32 y1
          have o14 := rng32 y2
          have o15 := rng32 y3
          have o16 := rng64 y17
          have o17 := rng64 y18
          have o18 := rng64 y29
          have o19 := rng64 y30
          have o20 : (2147483647 : Int32).toInt = 2147483647 := by decide
          have o21 : (4 : Int32).toInt = 4 := by decide
          have o22 : (1 : Int32).toInt = 1 := by decide
          have o23 : (4294967295 : Int64).toInt = 4294967295 := by decide
          have o24 : (0 : Int32).toInt = 0 := by decide
          have o25 : (100 : Int64).toInt = 100 := by decide
          exfalso
          omega
        · show own_Go p e below (T28.setTop (mkF m 43 #[.val (.int i0), .val (.int i1), .val (.int y2), .val (.int y3), .val (.int y4), .val (.int (1 : Int32)), .unset, .unset] [(.int (0 : Int32)), (.int (0 : Int32))])) _
          refine own_icmpNo (pc' := 46) B X28 at_43 (teq (by decide : (0 : Int32) = (0 : Int32))).2 rfl ?_
          refine own_iconst (pc' := 47) B X28 (z := (1 : Int32)) at_46 rfl rfl ?_
          refine own_goto (pc' := 51) B X28 at_47 (by decide) rfl ?_
          refine own_istore (pc' := 53) B X28 (Ls' := #[.val (.int i0), .val (.int i1), .val (.int y2), .val (.int y3), .val (.int y4), .val (.int (1 : Int32)), .val (.int (1 : Int32)), .unset]) at_51 rfl rfl ?_
          refine own_iload (pc' := 55) B X28 at_53 rfl rfl ?_
          refine own_callS (pc' := 58) B X28 (own_w hw 1 rfl) (own_w hw 2 rfl) (own_w hw 3 rfl) (own_w hw 4 rfl) (by decide) [(.int y4)] [] (rm_1 l Z a0 hw [] (y4) h0 n0 (Nat.le_trans Z0 K.1) ) 0 (by decide) (by decide) rfl pd_0 rfl rfl (Nat.le_of_eq rfl) at_55 rfl (k' := 0) (n' := 0) rfl rfl (by decide) (by decide) ?_
          intro T39 v39 h39 X39 q39
          rcases q39 with ⟨c40, rfl, rfl⟩ | ⟨c41, c42, rfl, rfl⟩ | ⟨c43, c44, rfl, rfl⟩
          · exfalso
            have o0 := own_o_mask hy1 31 (by decide) (by decide)
            have o1 := own_o_irem hy2 4 (by decide)
            have o2 := own_o_isub hy3
            have o3 := own_o_iadd hy4
            have o4 := own_o_i2l hy19
            have o5 := own_o_maskL hy20 32 (by decide) (by decide)
            have o6 := own_o_i2l hy36
            have o7 := own_o_maskL hy37 32 (by decide) (by decide)
            have o8 := own_lt c6
            have o9 := own_nltL c21
            have o10 := own_lt c23
            have o11 := own_nltL c38
            have o12 := own_lt c40
            have o13 := rng32 i0
            have o14 := rng32 i1
            have o15 := rng32 y1
            have o16 := rng32 y2
            have o17 := rng32 y3
            have o18 := rng32 y4
            have o19 := rng64 y17
            have o20 := rng64 y18
            have o21 := rng64 y34
            have o22 := rng64 y35
            have o23 : (2147483647 : Int32).toInt = 2147483647 := by decide
            have o24 : (4 : Int32).toInt = 4 := by decide
            have o25 : (1 : Int32).toInt = 1 := by decide
            have o26 : (98 : Int32).toInt = 98 := by decide
            have o27 : (4294967295 : Int64).toInt = 4294967295 := by decide
            have o28 : (0 : Int32).toInt = 0 := by decide
            have o29 : (100 : Int64).toInt = 100 := by decide
            exfalso
            omega
          · exfalso
            have o0 := own_o_mask hy1 31 (by decide) (by decide)
            have o1 := own_o_irem hy2 4 (by decide)
            have o2 := own_o_isub hy3
            have o3 := own_o_iadd hy4
            have o4 := own_o_i2l hy19
            have o5 := own_o_maskL hy20 32 (by decide) (by decide)
            have o6 := own_o_i2l hy36
            have o7 := own_o_maskL hy37 32 (by decide) (by decide)
            have o8 := own_lt c6
            have o9 := own_nltL c21
            have o10 := own_lt c23
            have o11 := own_nltL c38
            have o12 := own_nlt c41
            have o13 := own_lt c42
            have o14 := rng32 i0
            have o15 := rng32 i1
            have o16 := rng32 y1
            have o17 := rng32 y2
            have o18 := rng32 y3
            have o19 := rng32 y4
            have o20 := rng64 y17
            have o21 := rng64 y18
            have o22 := rng64 y34
            have o23 := rng64 y35
            have o24 : (2147483647 : Int32).toInt = 2147483647 := by decide
            have o25 : (4 : Int32).toInt = 4 := by decide
            have o26 : (1 : Int32).toInt = 1 := by decide
            have o27 : (98 : Int32).toInt = 98 := by decide
            have o28 : (4294967295 : Int64).toInt = 4294967295 := by decide
            have o29 : (0 : Int32).toInt = 0 := by decide
            have o30 : (100 : Int64).toInt = 100 := by decide
            have o31 : (99 : Int32).toInt = 99 := by decide
            exfalso
            omega
          · show own_Go p e below (T39.setTop (mkF m 58 #[.val (.int i0), .val (.int i1), .val (.int y2), .val (.int y3), .val (.int y4), .val (.int (1 : Int32)), .val (.int (1 : Int32)), .unset] [(.int (1 : Int32))])) _
            refine own_iload (pc' := 60) B X39 at_58 rfl rfl ?_
            refine own_callS (pc' := 63) B X39 (own_w hw 5 rfl) (own_w hw 6 rfl) (own_w hw 7 rfl) (own_w hw 8 rfl) (by decide) [(.int y4)] [(.int (1 : Int32))] (rm_2 l Z a0 hw [] (y4) h0 n0 (Nat.le_trans Z0 K.1) ) 1 (by decide) (by decide) rfl pd_0 rfl rfl (Nat.le_of_eq rfl) at_60 rfl (k' := 0) (n' := 0) rfl rfl (by decide) (by decide) ?_
            intro T45 v45 h45 X45 q45
            rcases q45 with ⟨y46, y47, hy48, hy49, c50, rfl, rfl⟩ | ⟨y51, y52, hy53, hy54, c55, rfl, rfl⟩
            · show own_Go p e below (T45.setTop (mkF m 63 #[.val (.int i0), .val (.int i1), .val (.int y2), .val (.int y3), .val (.int y4), .val (.int (1 : Int32)), .val (.int (1 : Int32)), .unset] [(.int (1 : Int32)), (.int (1 : Int32))])) _
              refine own_icmpNo (pc' := 66) B X45 at_63 (teq (by decide : (1 : Int32) = (1 : Int32))).2 rfl ?_
              refine own_iconst (pc' := 67) B X45 (z := (1 : Int32)) at_66 rfl rfl ?_
              refine own_goto (pc' := 71) B X45 at_67 (by decide) rfl ?_
              refine own_istore (pc' := 73) B X45 (Ls' := #[.val (.int i0), .val (.int i1), .val (.int y2), .val (.int y3), .val (.int y4), .val (.int (1 : Int32)), .val (.int (1 : Int32)), .val (.int (1 : Int32))]) at_71 rfl rfl ?_
              refine own_iload (pc' := 75) B X45 at_73 rfl rfl ?_
              refine own_ifNo (pc' := 78) B X45 at_75 ((if0 _ _).trans (feq (by decide : ¬ ((1 : Int32) = (0 : Int32)))).1) rfl ?_
              refine own_iload (pc' := 80) B X45 at_78 rfl rfl ?_
              refine own_ifNo (pc' := 83) B X45 at_80 ((if0 _ _).trans (feq (by decide : ¬ ((1 : Int32) = (0 : Int32)))).1) rfl ?_
              refine own_iload (pc' := 85) B X45 at_83 rfl rfl ?_
              refine own_ifNo (pc' := 88) B X45 at_85 ((if0 _ _).trans (feq (by decide : ¬ ((1 : Int32) = (0 : Int32)))).1) rfl ?_
              refine own_iconst (pc' := 89) B X45 (z := (1 : Int32)) at_88 rfl rfl ?_
              refine own_goto (pc' := 93) B X45 at_89 (by decide) rfl ?_
              exact own_retN B X45 (t := .boolean) (z' := (1 : Int32)) (by simp) (by decide) at_93 (by decide) (by decide) rfl
            · exfalso
              have o0 := own_o_mask hy1 31 (by decide) (by decide)
              have o1 := own_o_irem hy2 4 (by decide)
              have o2 := own_o_isub hy3
              have o3 := own_o_iadd hy4
              have o4 := own_o_i2l hy19
              have o5 := own_o_maskL hy20 32 (by decide) (by decide)
              have o6 := own_o_i2l hy36
              have o7 := own_o_maskL hy37 32 (by decide) (by decide)
              have o8 := own_o_i2l hy53
              have o9 := own_o_maskL hy54 32 (by decide) (by decide)
              have o10 := own_lt c6
              have o11 := own_nltL c21
              have o12 := own_lt c23
              have o13 := own_nltL c38
              have o14 := own_nlt c43
              have o15 := own_nlt c44
              have o16 := own_nltL c55
              have o17 := rng32 i0
              have o18 := rng32 i1
              have o19 := rng32 y1
              have o20 := rng32 y2
              have o21 := rng32 y3
              have o22 := rng32 y4
              have o23 := rng64 y17
              have o24 := rng64 y18
              have o25 := rng64 y34
              have o26 := rng64 y35
              have o27 := rng64 y51
              have o28 := rng64 y52
              have o29 : (2147483647 : Int32).toInt = 2147483647 := by decide
              have o30 : (4 : Int32).toInt = 4 := by decide
              have o31 : (1 : Int32).toInt = 1 := by decide
              have o32 : (98 : Int32).toInt = 98 := by decide
              have o33 : (4294967295 : Int64).toInt = 4294967295 := by decide
              have o34 : (0 : Int32).toInt = 0 := by decide
              have o35 : (100 : Int64).toInt = 100 := by decide
              have o36 : (99 : Int32).toInt = 99 := by decide
              exfalso
              omega
      · exfalso
        have o0 := own_o_mask hy1 31 (by decide) (by decide)
        have o1 := own_o_irem hy2 4 (by decide)
        have o2 := own_o_isub hy3
        have o3 := own_o_i2l hy19
        have o4 := own_o_maskL hy20 32 (by decide) (by decide)
        have o5 := own_lt c6
        have o6 := own_nltL c21
        have o7 := own_nlt c24
        have o8 := own_lt c25
        have o9 := rng32 i0
        have o10 := rng32 i1
        have o11 := rng32 y1
        have o12 := rng32 y2
        have o13 := rng32 y3
        have o14 := rng64 y17
        have o15 := rng64 y18
        have o16 : (2147483647 : Int32).toInt = 2147483647 := by decide
        have o17 : (4 : Int32).toInt = 4 := by decide
        have o18 : (1 : Int32).toInt = 1 := by decide
        have o19 : (4294967295 : Int64).toInt = 4294967295 := by decide
        have o20 : (0 : Int32).toInt = 0 := by decide
        have o21 : (100 : Int64).toInt = 100 := by decide
        have o22 : (99 : Int32).toInt = 99 := by decide
        exfalso
        omega
      · show own_Go p e below (T22.setTop (mkF m 39 #[.val (.int i0), .val (.int i1), .val (.int y2), .val (.int y3), .val (.int y4), .val (.int (1 : Int32)), .unset, .unset] [(.int (1 : Int32))])) _
        refine own_iloadN (pc' := 40) B X22 at_39 rfl rfl ?_
        refine own_callS (pc' := 43) B X22 (own_w hw 5 rfl) (own_w hw 6 rfl) (own_w hw 7 rfl) (own_w hw 8 rfl) (by decide) [(.int y3)] [(.int (1 : Int32))] (rm_2 l Z a0 hw [] (y3) h0 n0 (Nat.le_trans Z0 K.1) ) 1 (by decide) (by decide) rfl pd_0 rfl rfl (Nat.le_of_eq rfl) at_40 rfl (k' := 0) (n' := 0) rfl rfl (by decide) (by decide) ?_
        intro T56 v56 h56 X56 q56
        rcases q56 with ⟨y57, y58, hy59, hy60, c61, rfl, rfl⟩ | ⟨y62, y63, hy64, hy65, c66, rfl, rfl⟩
        · show own_Go p e below (T56.setTop (mkF m 43 #[.val (.int i0), .val (.int i1), .val (.int y2), .val (.int y3), .val (.int y4), .val (.int (1 : Int32)), .unset, .unset] [(.int (1 : Int32)), (.int (1 : Int32))])) _
          refine own_icmpNo (pc' := 46) B X56 at_43 (teq (by decide : (1 : Int32) = (1 : Int32))).2 rfl ?_
          refine own_iconst (pc' := 47) B X56 (z := (1 : Int32)) at_46 rfl rfl ?_
          refine own_goto (pc' := 51) B X56 at_47 (by decide) rfl ?_
          refine own_istore (pc' := 53) B X56 (Ls' := #[.val (.int i0), .val (.int i1), .val (.int y2), .val (.int y3), .val (.int y4), .val (.int (1 : Int32)), .val (.int (1 : Int32)), .unset]) at_51 rfl rfl ?_
          refine own_iload (pc' := 55) B X56 at_53 rfl rfl ?_
          refine own_callS (pc' := 58) B X56 (own_w hw 1 rfl) (own_w hw 2 rfl) (own_w hw 3 rfl) (own_w hw 4 rfl) (by decide) [(.int y4)] [] (rm_1 l Z a0 hw [] (y4) h0 n0 (Nat.le_trans Z0 K.1) ) 0 (by decide) (by decide) rfl pd_0 rfl rfl (Nat.le_of_eq rfl) at_55 rfl (k' := 0) (n' := 0) rfl rfl (by decide) (by decide) ?_
          intro T67 v67 h67 X67 q67
          rcases q67 with ⟨c68, rfl, rfl⟩ | ⟨c69, c70, rfl, rfl⟩ | ⟨c71, c72, rfl, rfl⟩
          · exfalso
            have o0 := own_o_mask hy1 31 (by decide) (by decide)
            have o1 := own_o_irem hy2 4 (by decide)
            have o2 := own_o_isub hy3
            have o3 := own_o_iadd hy4
            have o4 := own_o_i2l hy19
            have o5 := own_o_maskL hy20 32 (by decide) (by decide)
            have o6 := own_o_i2l hy59
            have o7 := own_o_maskL hy60 32 (by decide) (by decide)
            have o8 := own_lt c6
            have o9 := own_nltL c21
            have o10 := own_nlt c26
            have o11 := own_nlt c27
            have o12 := own_ltL c61
            have o13 := own_lt c68
            have o14 := rng32 i0
            have o15 := rng32 i1
            have o16 := rng32 y1
            have o17 := rng32 y2
            have o18 := rng32 y3
            have o19 := rng32 y4
            have o20 := rng64 y17
            have o21 := rng64 y18
            have o22 := rng64 y57
            have o23 := rng64 y58
            have o24 : (2147483647 : Int32).toInt = 2147483647 := by decide
            have o25 : (4 : Int32).toInt = 4 := by decide
            have o26 : (1 : Int32).toInt = 1 := by decide
            have o27 : (98 : Int32).toInt = 98 := by decide
            have o28 : (4294967295 : Int64).toInt = 4294967295 := by decide
            have o29 : (0 : Int32).toInt = 0 := by decide
            have o30 : (100 : Int64).toInt = 100 := by decide
            have o31 : (99 : Int32).toInt = 99 := by decide
            exfalso
            omega
          · show own_Go p e below (T67.setTop (mkF m 58 #[.val (.int i0), .val (.int i1), .val (.int y2), .val (.int y3), .val (.int y4), .val (.int (1 : Int32)), .val (.int (1 : Int32)), .unset] [(.int (0 : Int32))])) _
            refine own_iload (pc' := 60) B X67 at_58 rfl rfl ?_
            refine own_callS (pc' := 63) B X67 (own_w hw 5 rfl) (own_w hw 6 rfl) (own_w hw 7 rfl) (own_w hw 8 rfl) (by decide) [(.int y4)] [(.int (0 : Int32))] (rm_2 l Z a0 hw [] (y4) h0 n0 (Nat.le_trans Z0 K.1) ) 1 (by decide) (by decide) rfl pd_0 rfl rfl (Nat.le_of_eq rfl) at_60 rfl (k' := 0) (n' := 0) rfl rfl (by decide) (by decide) ?_
            intro T73 v73 h73 X73 q73
            rcases q73 with ⟨y74, y75, hy76, hy77, c78, rfl, rfl⟩ | ⟨y79, y80, hy81, hy82, c83, rfl, rfl⟩
            · exfalso
              have o0 := own_o_mask hy1 31 (by decide) (by decide)
              have o1 := own_o_irem hy2 4 (by decide)
              have o2 := own_o_isub hy3
              have o3 := own_o_iadd hy4
              have o4 := own_o_i2l hy19
              have o5 := own_o_maskL hy20 32 (by decide) (by decide)
              have o6 := own_o_i2l hy59
              have o7 := own_o_maskL hy60 32 (by decide) (by decide)
              have o8 := own_o_i2l hy76
              have o9 := own_o_maskL hy77 32 (by decide) (by decide)
              have o10 := own_lt c6
              have o11 := own_nltL c21
              have o12 := own_nlt c26
              have o13 := own_nlt c27
              have o14 := own_ltL c61
              have o15 := own_nlt c69
              have o16 := own_lt c70
              have o17 := own_ltL c78
              have o18 := rng32 i0
              have o19 := rng32 i1
              have o20 := rng32 y1
              have o21 := rng32 y2
              have o22 := rng32 y3
              have o23 := rng32 y4
              have o24 := rng64 y17
              have o25 := rng64 y18
              have o26 := rng64 y57
              have o27 := rng64 y58
              have o28 := rng64 y74
              have o29 := rng64 y75
              have o30 : (2147483647 : Int32).toInt = 2147483647 := by decide
              have o31 : (4 : Int32).toInt = 4 := by decide
              have o32 : (1 : Int32).toInt = 1 := by decide
              have o33 : (98 : Int32).toInt = 98 := by decide
              have o34 : (4294967295 : Int64).toInt = 4294967295 := by decide
              have o35 : (0 : Int32).toInt = 0 := by decide
              have o36 : (100 : Int64).toInt = 100 := by decide
              have o37 : (99 : Int32).toInt = 99 := by decide
              exfalso
              omega
            · show own_Go p e below (T73.setTop (mkF m 63 #[.val (.int i0), .val (.int i1), .val (.int y2), .val (.int y3), .val (.int y4), .val (.int (1 : Int32)), .val (.int (1 : Int32)), .unset] [(.int (0 : Int32)), (.int (0 : Int32))])) _
              refine own_icmpNo (pc' := 66) B X73 at_63 (teq (by decide : (0 : Int32) = (0 : Int32))).2 rfl ?_
              refine own_iconst (pc' := 67) B X73 (z := (1 : Int32)) at_66 rfl rfl ?_
              refine own_goto (pc' := 71) B X73 at_67 (by decide) rfl ?_
              refine own_istore (pc' := 73) B X73 (Ls' := #[.val (.int i0), .val (.int i1), .val (.int y2), .val (.int y3), .val (.int y4), .val (.int (1 : Int32)), .val (.int (1 : Int32)), .val (.int (1 : Int32))]) at_71 rfl rfl ?_
              refine own_iload (pc' := 75) B X73 at_73 rfl rfl ?_
              refine own_ifNo (pc' := 78) B X73 at_75 ((if0 _ _).trans (feq (by decide : ¬ ((1 : Int32) = (0 : Int32)))).1) rfl ?_
              refine own_iload (pc' := 80) B X73 at_78 rfl rfl ?_
              refine own_ifNo (pc' := 83) B X73 at_80 ((if0 _ _).trans (feq (by decide : ¬ ((1 : Int32) = (0 : Int32)))).1) rfl ?_
              refine own_iload (pc' := 85) B X73 at_83 rfl rfl ?_
              refine own_ifNo (pc' := 88) B X73 at_85 ((if0 _ _).trans (feq (by decide : ¬ ((1 : Int32) = (0 : Int32)))).1) rfl ?_
              refine own_iconst (pc' := 89) B X73 (z := (1 : Int32)) at_88 rfl rfl ?_
              refine own_goto (pc' := 93) B X73 at_89 (by decide) rfl ?_
              exact own_retN B X73 (t := .boolean) (z' := (1 : Int32)) (by simp) (by decide) at_93 (by decide) (by decide) rfl
          · show own_Go p e below (T67.setTop (mkF m 58 #[.val (.int i0), .val (.int i1), .val (.int y2), .val (.int y3), .val (.int y4), .val (.int (1 : Int32)), .val (.int (1 : Int32)), .unset] [(.int (1 : Int32))])) _
            refine own_iload (pc' := 60) B X67 at_58 rfl rfl ?_
            refine own_callS (pc' := 63) B X67 (own_w hw 5 rfl) (own_w hw 6 rfl) (own_w hw 7 rfl) (own_w hw 8 rfl) (by decide) [(.int y4)] [(.int (1 : Int32))] (rm_2 l Z a0 hw [] (y4) h0 n0 (Nat.le_trans Z0 K.1) ) 1 (by decide) (by decide) rfl pd_0 rfl rfl (Nat.le_of_eq rfl) at_60 rfl (k' := 0) (n' := 0) rfl rfl (by decide) (by decide) ?_
            intro T84 v84 h84 X84 q84
            rcases q84 with ⟨y85, y86, hy87, hy88, c89, rfl, rfl⟩ | ⟨y90, y91, hy92, hy93, c94, rfl, rfl⟩
            · show own_Go p e below (T84.setTop (mkF m 63 #[.val (.int i0), .val (.int i1), .val (.int y2), .val (.int y3), .val (.int y4), .val (.int (1 : Int32)), .val (.int (1 : Int32)), .unset] [(.int (1 : Int32)), (.int (1 : Int32))])) _
              refine own_icmpNo (pc' := 66) B X84 at_63 (teq (by decide : (1 : Int32) = (1 : Int32))).2 rfl ?_
              refine own_iconst (pc' := 67) B X84 (z := (1 : Int32)) at_66 rfl rfl ?_
              refine own_goto (pc' := 71) B X84 at_67 (by decide) rfl ?_
              refine own_istore (pc' := 73) B X84 (Ls' := #[.val (.int i0), .val (.int i1), .val (.int y2), .val (.int y3), .val (.int y4), .val (.int (1 : Int32)), .val (.int (1 : Int32)), .val (.int (1 : Int32))]) at_71 rfl rfl ?_
              refine own_iload (pc' := 75) B X84 at_73 rfl rfl ?_
              refine own_ifNo (pc' := 78) B X84 at_75 ((if0 _ _).trans (feq (by decide : ¬ ((1 : Int32) = (0 : Int32)))).1) rfl ?_
              refine own_iload (pc' := 80) B X84 at_78 rfl rfl ?_
              refine own_ifNo (pc' := 83) B X84 at_80 ((if0 _ _).trans (feq (by decide : ¬ ((1 : Int32) = (0 : Int32)))).1) rfl ?_
              refine own_iload (pc' := 85) B X84 at_83 rfl rfl ?_
              refine own_ifNo (pc' := 88) B X84 at_85 ((if0 _ _).trans (feq (by decide : ¬ ((1 : Int32) = (0 : Int32)))).1) rfl ?_
              refine own_iconst (pc' := 89) B X84 (z := (1 : Int32)) at_88 rfl rfl ?_
              refine own_goto (pc' := 93) B X84 at_89 (by decide) rfl ?_
              exact own_retN B X84 (t := .boolean) (z' := (1 : Int32)) (by simp) (by decide) at_93 (by decide) (by decide) rfl
            · exfalso
              have o0 := own_o_mask hy1 31 (by decide) (by decide)
              have o1 := own_o_irem hy2 4 (by decide)
              have o2 := own_o_isub hy3
              have o3 := own_o_iadd hy4
              have o4 := own_o_i2l hy19
              have o5 := own_o_maskL hy20 32 (by decide) (by decide)
              have o6 := own_o_i2l hy59
              have o7 := own_o_maskL hy60 32 (by decide) (by decide)
              have o8 := own_o_i2l hy92
              have o9 := own_o_maskL hy93 32 (by decide) (by decide)
              have o10 := own_lt c6
              have o11 := own_nltL c21
              have o12 := own_nlt c26
              have o13 := own_nlt c27
              have o14 := own_ltL c61
              have o15 := own_nlt c71
              have o16 := own_nlt c72
              have o17 := own_nltL c94
              have o18 := rng32 i0
              have o19 := rng32 i1
              have o20 := rng32 y1
              have o21 := rng32 y2
              have o22 := rng32 y3
              have o23 := rng32 y4
              have o24 := rng64 y17
              have o25 := rng64 y18
              have o26 := rng64 y57
              have o27 := rng64 y58
              have o28 := rng64 y90
              have o29 := rng64 y91
              have o30 : (2147483647 : Int32).toInt = 2147483647 := by decide
              have o31 : (4 : Int32).toInt = 4 := by decide
              have o32 : (1 : Int32).toInt = 1 := by decide
              have o33 : (98 : Int32).toInt = 98 := by decide
              have o34 : (4294967295 : Int64).toInt = 4294967295 := by decide
              have o35 : (0 : Int32).toInt = 0 := by decide
              have o36 : (100 : Int64).toInt = 100 := by decide
              have o37 : (99 : Int32).toInt = 99 := by decide
              exfalso
              omega
        · exfalso
          have o0 := own_o_mask hy1 31 (by decide) (by decide)
          have o1 := own_o_irem hy2 4 (by decide)
          have o2 := own_o_isub hy3
          have o3 := own_o_i2l hy19
          have o4 := own_o_maskL hy20 32 (by decide) (by decide)
          have o5 := own_o_i2l hy64
          have o6 := own_o_maskL hy65 32 (by decide) (by decide)
          have o7 := own_lt c6
          have o8 := own_nltL c21
          have o9 := own_nlt c26
          have o10 := own_nlt c27
          have o11 := own_nltL c66
          have o12 := rng32 i0
          have o13 := rng32 i1
          have o14 := rng32 y1
          have o15 := rng32 y2
          have o16 := rng32 y3
          have o17 := rng64 y17
          have o18 := rng64 y18
          have o19 := rng64 y62
          have o20 := rng64 y63
          have o21 : (2147483647 : Int32).toInt = 2147483647 := by decide
          have o22 : (4 : Int32).toInt = 4 := by decide
          have o23 : (1 : Int32).toInt = 1 := by decide
          have o24 : (4294967295 : Int64).toInt = 4294967295 := by decide
          have o25 : (0 : Int32).toInt = 0 := by decide
          have o26 : (100 : Int64).toInt = 100 := by decide
          have o27 : (99 : Int32).toInt = 99 := by decide
          exfalso
          omega
  · show own_Go p e below (T5.setTop (mkF m 21 #[.val (.int i0), .val (.int i1), .val (.int y2), .val (.int y3), .val (.int y4), .unset, .unset, .unset] [(.int (0 : Int32))])) _
    refine own_iloadN (pc' := 22) B X5 at_21 rfl rfl ?_
    refine own_callS (pc' := 25) B X5 (own_w hw 5 rfl) (own_w hw 6 rfl) (own_w hw 7 rfl) (own_w hw 8 rfl) (by decide) [(.int i0)] [(.int (0 : Int32))] (rm_2 l Z a0 hw [] (i0) h0 n0 (Nat.le_trans Z0 K.1) ) 1 (by decide) (by decide) rfl pd_0 rfl rfl (Nat.le_of_eq rfl) at_22 rfl (k' := 0) (n' := 0) rfl rfl (by decide) (by decide) ?_
    intro T95 v95 h95 X95 q95
    rcases q95 with ⟨y96, y97, hy98, hy99, c100, rfl, rfl⟩ | ⟨y101, y102, hy103, hy104, c105, rfl, rfl⟩
    · exfalso
      have o0 := own_o_i2l hy98
      have o1 := own_o_maskL hy99 32 (by decide) (by decide)
      have o2 := own_nlt c7
      have o3 := own_lt c8
      have o4 := own_ltL c100
      have o5 := rng32 i0
      have o6 := rng64 y96
      have o7 := rng64 y97
      have o8 : (4294967295 : Int64).toInt = 4294967295 := by decide
      have o9 : (0 : Int32).toInt = 0 := by decide
      have o10 : (99 : Int32).toInt = 99 := by decide
      have o11 : (100 : Int64).toInt = 100 := by decide
      exfalso
      omega
    · show own_Go p e below (T95.setTop (mkF m 25 #[.val (.int i0), .val (.int i1), .val (.int y2), .val (.int y3), .val (.int y4), .unset, .unset, .unset] [(.int (0 : Int32)), (.int (0 : Int32))])) _
      refine own_icmpNo (pc' := 28) B X95 at_25 (teq (by decide : (0 : Int32) = (0 : Int32))).2 rfl ?_
      refine own_iconst (pc' := 29) B X95 (z := (1 : Int32)) at_28 rfl rfl ?_
      refine own_goto (pc' := 33) B X95 at_29 (by decide) rfl ?_
      refine own_istore (pc' := 35) B X95 (Ls' := #[.val (.int i0), .val (.int i1), .val (.int y2), .val (.int y3), .val (.int y4), .val (.int (1 : Int32)), .unset, .unset]) at_33 rfl rfl ?_
      refine own_iloadN (pc' := 36) B X95 at_35 rfl rfl ?_
      refine own_callS (pc' := 39) B X95 (own_w hw 1 rfl) (own_w hw 2 rfl) (own_w hw 3 rfl) (own_w hw 4 rfl) (by decide) [(.int y3)] [] (rm_1 l Z a0 hw [] (y3) h0 n0 (Nat.le_trans Z0 K.1) ) 0 (by decide) (by decide) rfl pd_0 rfl rfl (Nat.le_of_eq rfl) at_36 rfl (k' := 0) (n' := 0) rfl rfl (by decide) (by decide) ?_
      intro T106 v106 h106 X106 q106
      rcases q106 with ⟨c107, rfl, rfl⟩ | ⟨c108, c109, rfl, rfl⟩ | ⟨c110, c111, rfl, rfl⟩
      · show own_Go p e below (T106.setTop (mkF m 39 #[.val (.int i0), .val (.int i1), .val (.int y2), .val (.int y3), .val (.int y4), .val (.int (1 : Int32)), .unset, .unset] [(.int (0 : Int32))])) _
        refine own_iloadN (pc' := 40) B X106 at_39 rfl rfl ?_
        refine own_callS (pc' := 43) B X106 (own_w hw 5 rfl) (own_w hw 6 rfl) (own_w hw 7 rfl) (own_w hw 8 rfl) (by decide) [(.int y3)] [(.int (0 : Int32))] (rm_2 l Z a0 hw [] (y3) h0 n0 (Nat.le_trans Z0 K.1) ) 1 (by decide) (by decide) rfl pd_0 rfl rfl (Nat.le_of_eq rfl) at_40 rfl (k' := 0) (n' := 0) rfl rfl (by decide) (by decide) ?_
        intro T112 v112 h112 X112 q112
        rcases q112 with ⟨y113, y114, hy115, hy116, c117, rfl, rfl⟩ | ⟨y118, y119, hy120, hy121, c122, rfl, rfl⟩
        · exfalso
          have o0 := own_o_mask hy1 31 (by decide) (by decide)
          have o1 := own_o_irem hy2 4 (by decide)
          have o2 := own_o_isub hy3
          have o3 := own_o_i2l hy103
          have o4 := own_o_maskL hy104 32 (by decide) (by decide)
          have o5 := own_o_i2l hy115
          have o6 := own_o_maskL hy116 32 (by decide) (by decide)
          have o7 := own_nlt c7
          have o8 := own_lt c8
          have o9 := own_nltL c105
          have o10 := own_lt c107
          have o11 := own_ltL c117
          have o12 := rng32 i0
          have o13 := rng32 i1
          have o14 := rng32 y1
          have o15 := rng32 y2
          have o16 := rng32 y3
          have o17 := rng64 y101
          have o18 := rng64 y102
          have o19 := rng64 y113
          have o20 := rng64 y114
          have o21 : (2147483647 : Int32).toInt = 2147483647 := by decide
          have o22 : (4 : Int32).toInt = 4 := by decide
          have o23 : (1 : Int32).toInt = 1 := by decide
          have o24 : (4294967295 : Int64).toInt = 4294967295 := by decide
          have o25 : (0 : Int32).toInt = 0 := by decide
          have o26 : (99 : Int32).toInt = 99 := by decide
          have o27 : (100 : Int64).toInt = 100 := by decide
          exfalso
          omega
        · show own_Go p e below (T112.setTop (mkF m 43 #[.val (.int i0), .val (.int i1), .val (.int y2), .val (.int y3), .val (.int y4), .val (.int (1 : Int32)), .unset, .unset] [(.int (0 : Int32)), (.int (0 : Int32))])) _
          refine own_icmpNo (pc' := 46) B X112 at_43 (teq (by decide : (0 : Int32) = (0 : Int32))).2 rfl ?_
          refine own_iconst (pc' := 47) B X112 (z := (1 : Int32)) at_46 rfl rfl ?_
          refine own_goto (pc' := 51) B X112 at_47 (by decide) rfl ?_
          refine own_istore (pc' := 53) B X112 (Ls' := #[.val (.int i0), .val (.int i1), .val (.int y2), .val (.int y3), .val (.int y4), .val (.int (1 : Int32)), .val (.int (1 : Int32)), .unset]) at_51 rfl rfl ?_
          refine own_iload (pc' := 55) B X112 at_53 rfl rfl ?_
          refine own_callS (pc' := 58) B X112 (own_w hw 1 rfl) (own_w hw 2 rfl) (own_w hw 3 rfl) (own_w hw 4 rfl) (by decide) [(.int y4)] [] (rm_1 l Z a0 hw [] (y4) h0 n0 (Nat.le_trans Z0 K.1) ) 0 (by decide) (by decide) rfl pd_0 rfl rfl (Nat.le_of_eq rfl) at_55 rfl (k' := 0) (n' := 0) rfl rfl (by decide) (by decide) ?_
          intro T123 v123 h123 X123 q123
          rcases q123 with ⟨c124, rfl, rfl⟩ | ⟨c125, c126, rfl, rfl⟩ | ⟨c127, c128, rfl, rfl⟩
          · exfalso
            have o0 := own_o_mask hy1 31 (by decide) (by decide)
            have o1 := own_o_irem hy2 4 (by decide)
            have o2 := own_o_isub hy3
            have o3 := own_o_iadd hy4
            have o4 := own_o_i2l hy103
            have o5 := own_o_maskL hy104 32 (by decide) (by decide)
            have o6 := own_o_i2l hy120
            have o7 := own_o_maskL hy121 32 (by decide) (by decide)
            have o8 := own_nlt c7
            have o9 := own_lt c8
            have o10 := own_nltL c105
            have o11 := own_lt c107
            have o12 := own_nltL c122
            have o13 := own_lt c124
            have o14 := rng32 i0
            have o15 := rng32 i1
            have o16 := rng32 y1
            have o17 := rng32 y2
            have o18 := rng32 y3
            have o19 := rng32 y4
            have o20 := rng64 y101
            have o21 := rng64 y102
            have o22 := rng64 y118
            have o23 := rng64 y119
            have o24 : (2147483647 : Int32).toInt = 2147483647 := by decide
            have o25 : (4 : Int32).toInt = 4 := by decide
            have o26 : (1 : Int32).toInt = 1 := by decide
            have o27 : (98 : Int32).toInt = 98 := by decide
            have o28 : (4294967295 : Int64).toInt = 4294967295 := by decide
            have o29 : (0 : Int32).toInt = 0 := by decide
            have o30 : (99 : Int32).toInt = 99 := by decide
            have o31 : (100 : Int64).toInt = 100 := by decide
            exfalso
            omega
          · exfalso
            have o0 := own_o_mask hy1 31 (by decide) (by decide)
            have o1 := own_o_irem hy2 4 (by decide)
            have o2 := own_o_isub hy3
            have o3 := own_o_iadd hy4
            have o4 := own_o_i2l hy103
            have o5 := own_o_maskL hy104 32 (by decide) (by decide)
            have o6 := own_o_i2l hy120
            have o7 := own_o_maskL hy121 32 (by decide) (by decide)
            have o8 := own_nlt c7
            have o9 := own_lt c8
            have o10 := own_nltL c105
            have o11 := own_lt c107
            have o12 := own_nltL c122
            have o13 := own_nlt c125
            have o14 := own_lt c126
            have o15 := rng32 i0
            have o16 := rng32 i1
            have o17 := rng32 y1
            have o18 := rng32 y2
            have o19 := rng32 y3
            have o20 := rng32 y4
            have o21 := rng64 y101
            have o22 := rng64 y102
            have o23 := rng64 y118
            have o24 := rng64 y119
            have o25 : (2147483647 : Int32).toInt = 2147483647 := by decide
            have o26 : (4 : Int32).toInt = 4 := by decide
            have o27 : (1 : Int32).toInt = 1 := by decide
            have o28 : (98 : Int32).toInt = 98 := by decide
            have o29 : (4294967295 : Int64).toInt = 4294967295 := by decide
            have o30 : (0 : Int32).toInt = 0 := by decide
            have o31 : (99 : Int32).toInt = 99 := by decide
            have o32 : (100 : Int64).toInt = 100 := by decide
            exfalso
            omega
          · show own_Go p e below (T123.setTop (mkF m 58 #[.val (.int i0), .val (.int i1), .val (.int y2), .val (.int y3), .val (.int y4), .val (.int (1 : Int32)), .val (.int (1 : Int32)), .unset] [(.int (1 : Int32))])) _
            refine own_iload (pc' := 60) B X123 at_58 rfl rfl ?_
            refine own_callS (pc' := 63) B X123 (own_w hw 5 rfl) (own_w hw 6 rfl) (own_w hw 7 rfl) (own_w hw 8 rfl) (by decide) [(.int y4)] [(.int (1 : Int32))] (rm_2 l Z a0 hw [] (y4) h0 n0 (Nat.le_trans Z0 K.1) ) 1 (by decide) (by decide) rfl pd_0 rfl rfl (Nat.le_of_eq rfl) at_60 rfl (k' := 0) (n' := 0) rfl rfl (by decide) (by decide) ?_
            intro T129 v129 h129 X129 q129
            rcases q129 with ⟨y130, y131, hy132, hy133, c134, rfl, rfl⟩ | ⟨y135, y136, hy137, hy138, c139, rfl, rfl⟩
            · show own_Go p e below (T129.setTop (mkF m 63 #[.val (.int i0), .val (.int i1), .val (.int y2), .val (.int y3), .val (.int y4), .val (.int (1 : Int32)), .val (.int (1 : Int32)), .unset] [(.int (1 : Int32)), (.int (1 : Int32))])) _
              refine own_icmpNo (pc' := 66) B X129 at_63 (teq (by decide : (1 : Int32) = (1 : Int32))).2 rfl ?_
              refine own_iconst (pc' := 67) B X129 (z := (1 : Int32)) at_66 rfl rfl ?_
              refine own_goto (pc' := 71) B X129 at_67 (by decide) rfl ?_
              refine own_istore (pc' := 73) B X129 (Ls' := #[.val (.int i0), .val (.int i1), .val (.int y2), .val (.int y3), .val (.int y4), .val (.int (1 : Int32)), .val (.int (1 : Int32)), .val (.int (1 : Int32))]) at_71 rfl rfl ?_
              refine own_iload (pc' := 75) B X129 at_73 rfl rfl ?_
              refine own_ifNo (pc' := 78) B X129 at_75 ((if0 _ _).trans (feq (by decide : ¬ ((1 : Int32) = (0 : Int32)))).1) rfl ?_
              refine own_iload (pc' := 80) B X129 at_78 rfl rfl ?_
              refine own_ifNo (pc' := 83) B X129 at_80 ((if0 _ _).trans (feq (by decide : ¬ ((1 : Int32) = (0 : Int32)))).1) rfl ?_
              refine own_iload (pc' := 85) B X129 at_83 rfl rfl ?_
              refine own_ifNo (pc' := 88) B X129 at_85 ((if0 _ _).trans (feq (by decide : ¬ ((1 : Int32) = (0 : Int32)))).1) rfl ?_
              refine own_iconst (pc' := 89) B X129 (z := (1 : Int32)) at_88 rfl rfl ?_
              refine own_goto (pc' := 93) B X129 at_89 (by decide) rfl ?_
              exact own_retN B X129 (t := .boolean) (z' := (1 : Int32)) (by simp) (by decide) at_93 (by decide) (by decide) rfl
            · exfalso
              have o0 := own_o_mask hy1 31 (by decide) (by decide)
              have o1 := own_o_irem hy2 4 (by decide)
              have o2 := own_o_isub hy3
              have o3 := own_o_iadd hy4
              have o4 := own_o_i2l hy103
              have o5 := own_o_maskL hy104 32 (by decide) (by decide)
              have o6 := own_o_i2l hy120
              have o7 := own_o_maskL hy121 32 (by decide) (by decide)
              have o8 := own_o_i2l hy137
              have o9 := own_o_maskL hy138 32 (by decide) (by decide)
              have o10 := own_nlt c7
              have o11 := own_lt c8
              have o12 := own_nltL c105
              have o13 := own_lt c107
              have o14 := own_nltL c122
              have o15 := own_nlt c127
              have o16 := own_nlt c128
              have o17 := own_nltL c139
              have o18 := rng32 i0
              have o19 := rng32 i1
              have o20 := rng32 y1
              have o21 := rng32 y2
              have o22 := rng32 y3
              have o23 := rng32 y4
              have o24 := rng64 y101
              have o25 := rng64 y102
              have o26 := rng64 y118
              have o27 := rng64 y119
              have o28 := rng64 y135
              have o29 := rng64 y136
              have o30 : (2147483647 : Int32).toInt = 2147483647 := by decide
              have o31 : (4 : Int32).toInt = 4 := by decide
              have o32 : (1 : Int32).toInt = 1 := by decide
              have o33 : (98 : Int32).toInt = 98 := by decide
              have o34 : (4294967295 : Int64).toInt = 4294967295 := by decide
              have o35 : (0 : Int32).toInt = 0 := by decide
              have o36 : (99 : Int32).toInt = 99 := by decide
              have o37 : (100 : Int64).toInt = 100 := by decide
              exfalso
              omega
      · exfalso
        have o0 := own_o_mask hy1 31 (by decide) (by decide)
        have o1 := own_o_irem hy2 4 (by decide)
        have o2 := own_o_isub hy3
        have o3 := own_o_i2l hy103
        have o4 := own_o_maskL hy104 32 (by decide) (by decide)
        have o5 := own_nlt c7
        have o6 := own_lt c8
        have o7 := own_nltL c105
        have o8 := own_nlt c108
        have o9 := own_lt c109
        have o10 := rng32 i0
        have o11 := rng32 i1
        have o12 := rng32 y1
        have o13 := rng32 y2
        have o14 := rng32 y3
        have o15 := rng64 y101
        have o16 := rng64 y102
        have o17 : (2147483647 : Int32).toInt = 2147483647 := by decide
        have o18 : (4 : Int32).toInt = 4 := by decide
        have o19 : (1 : Int32).toInt = 1 := by decide
        have o20 : (4294967295 : Int64).toInt = 4294967295 := by decide
        have o21 : (0 : Int32).toInt = 0 := by decide
        have o22 : (99 : Int32).toInt = 99 := by decide
        have o23 : (100 : Int64).toInt = 100 := by decide
        exfalso
        omega
      · show own_Go p e below (T106.setTop (mkF m 39 #[.val (.int i0), .val (.int i1), .val (.int y2), .val (.int y3), .val (.int y4), .val (.int (1 : Int32)), .unset, .unset] [(.int (1 : Int32))])) _
        refine own_iloadN (pc' := 40) B X106 at_39 rfl rfl ?_
        refine own_callS (pc' := 43) B X106 (own_w hw 5 rfl) (own_w hw 6 rfl) (own_w hw 7 rfl) (own_w hw 8 rfl) (by decide) [(.int y3)] [(.int (1 : Int32))] (rm_2 l Z a0 hw [] (y3) h0 n0 (Nat.le_trans Z0 K.1) ) 1 (by decide) (by decide) rfl pd_0 rfl rfl (Nat.le_of_eq rfl) at_40 rfl (k' := 0) (n' := 0) rfl rfl (by decide) (by decide) ?_
        intro T140 v140 h140 X140 q140
        rcases q140 with ⟨y141, y142, hy143, hy144, c145, rfl, rfl⟩ | ⟨y146, y147, hy148, hy149, c150, rfl, rfl⟩
        · show own_Go p e below (T140.setTop (mkF m 43 #[.val (.int i0), .val (.int i1), .val (.int y2), .val (.int y3), .val (.int y4), .val (.int (1 : Int32)), .unset, .unset] [(.int (1 : Int32)), (.int (1 : Int32))])) _
          refine own_icmpNo (pc' := 46) B X140 at_43 (teq (by decide : (1 : Int32) = (1 : Int32))).2 rfl ?_
          refine own_iconst (pc' := 47) B X140 (z := (1 : Int32)) at_46 rfl rfl ?_
          refine own_goto (pc' := 51) B X140 at_47 (by decide) rfl ?_
          refine own_istore (pc' := 53) B X140 (Ls' := #[.val (.int i0), .val (.int i1), .val (.int y2), .val (.int y3), .val (.int y4), .val (.int (1 : Int32)), .val (.int (1 : Int32)), .unset]) at_51 rfl rfl ?_
          refine own_iload (pc' := 55) B X140 at_53 rfl rfl ?_
          refine own_callS (pc' := 58) B X140 (own_w hw 1 rfl) (own_w hw 2 rfl) (own_w hw 3 rfl) (own_w hw 4 rfl) (by decide) [(.int y4)] [] (rm_1 l Z a0 hw [] (y4) h0 n0 (Nat.le_trans Z0 K.1) ) 0 (by decide) (by decide) rfl pd_0 rfl rfl (Nat.le_of_eq rfl) at_55 rfl (k' := 0) (n' := 0) rfl rfl (by decide) (by decide) ?_
          intro T151 v151 h151 X151 q151
          rcases q151 with ⟨c152, rfl, rfl⟩ | ⟨c153, c154, rfl, rfl⟩ | ⟨c155, c156, rfl, rfl⟩
          · exfalso
            have o0 := own_o_mask hy1 31 (by decide) (by decide)
            have o1 := own_o_irem hy2 4 (by decide)
            have o2 := own_o_isub hy3
            have o3 := own_o_iadd hy4
            have o4 := own_o_i2l hy103
            have o5 := own_o_maskL hy104 32 (by decide) (by decide)
            have o6 := own_o_i2l hy143
            have o7 := own_o_maskL hy144 32 (by decide) (by decide)
            have o8 := own_nlt c7
            have o9 := own_lt c8
            have o10 := own_nltL c105
            have o11 := own_nlt c110
            have o12 := own_nlt c111
            have o13 := own_ltL c145
            have o14 := own_lt c152
            have o15 := rng32 i0
            have o16 := rng32 i1
            have o17 := rng32 y1
            have o18 := rng32 y2
            have o19 := rng32 y3
            have o20 := rng32 y4
            have o21 := rng64 y101
            have o22 := rng64 y102
            have o23 := rng64 y141
            have o24 := rng64 y142
            have o25 : (2147483647 : Int32).toInt = 2147483647 := by decide
            have o26 : (4 : Int32).toInt = 4 := by decide
            have o27 : (1 : Int32).toInt = 1 := by decide
            have o28 : (98 : Int32).toInt = 98 := by decide
            have o29 : (4294967295 : Int64).toInt = 4294967295 := by decide
            have o30 : (0 : Int32).toInt = 0 := by decide
            have o31 : (99 : Int32).toInt = 99 := by decide
            have o32 : (100 : Int64).toInt = 100 := by decide
            exfalso
            omega
          · show own_Go p e below (T151.setTop (mkF m 58 #[.val (.int i0), .val (.int i1), .val (.int y2), .val (.int y3), .val (.int y4), .val (.int (1 : Int32)), .val (.int (1 : Int32)), .unset] [(.int (0 : Int32))])) _
            refine own_iload (pc' := 60) B X151 at_58 rfl rfl ?_
            refine own_callS (pc' := 63) B X151 (own_w hw 5 rfl) (own_w hw 6 rfl) (own_w hw 7 rfl) (own_w hw 8 rfl) (by decide) [(.int y4)] [(.int (0 : Int32))] (rm_2 l Z a0 hw [] (y4) h0 n0 (Nat.le_trans Z0 K.1) ) 1 (by decide) (by decide) rfl pd_0 rfl rfl (Nat.le_of_eq rfl) at_60 rfl (k' := 0) (n' := 0) rfl rfl (by decide) (by decide) ?_
            intro T157 v157 h157 X157 q157
            rcases q157 with ⟨y158, y159, hy160, hy161, c162, rfl, rfl⟩ | ⟨y163, y164, hy165, hy166, c167, rfl, rfl⟩
            · exfalso
              have o0 := own_o_mask hy1 31 (by decide) (by decide)
              have o1 := own_o_irem hy2 4 (by decide)
              have o2 := own_o_isub hy3
              have o3 := own_o_iadd hy4
              have o4 := own_o_i2l hy103
              have o5 := own_o_maskL hy104 32 (by decide) (by decide)
              have o6 := own_o_i2l hy143
              have o7 := own_o_maskL hy144 32 (by decide) (by decide)
              have o8 := own_o_i2l hy160
              have o9 := own_o_maskL hy161 32 (by decide) (by decide)
              have o10 := own_nlt c7
              have o11 := own_lt c8
              have o12 := own_nltL c105
              have o13 := own_nlt c110
              have o14 := own_nlt c111
              have o15 := own_ltL c145
              have o16 := own_nlt c153
              have o17 := own_lt c154
              have o18 := own_ltL c162
              have o19 := rng32 i0
              have o20 := rng32 i1
              have o21 := rng32 y1
              have o22 := rng32 y2
              have o23 := rng32 y3
              have o24 := rng32 y4
              have o25 := rng64 y101
              have o26 := rng64 y102
              have o27 := rng64 y141
              have o28 := rng64 y142
              have o29 := rng64 y158
              have o30 := rng64 y159
              have o31 : (2147483647 : Int32).toInt = 2147483647 := by decide
              have o32 : (4 : Int32).toInt = 4 := by decide
              have o33 : (1 : Int32).toInt = 1 := by decide
              have o34 : (98 : Int32).toInt = 98 := by decide
              have o35 : (4294967295 : Int64).toInt = 4294967295 := by decide
              have o36 : (0 : Int32).toInt = 0 := by decide
              have o37 : (99 : Int32).toInt = 99 := by decide
              have o38 : (100 : Int64).toInt = 100 := by decide
              exfalso
              omega
            · show own_Go p e below (T157.setTop (mkF m 63 #[.val (.int i0), .val (.int i1), .val (.int y2), .val (.int y3), .val (.int y4), .val (.int (1 : Int32)), .val (.int (1 : Int32)), .unset] [(.int (0 : Int32)), (.int (0 : Int32))])) _
              refine own_icmpNo (pc' := 66) B X157 at_63 (teq (by decide : (0 : Int32) = (0 : Int32))).2 rfl ?_
              refine own_iconst (pc' := 67) B X157 (z := (1 : Int32)) at_66 rfl rfl ?_
              refine own_goto (pc' := 71) B X157 at_67 (by decide) rfl ?_
              refine own_istore (pc' := 73) B X157 (Ls' := #[.val (.int i0), .val (.int i1), .val (.int y2), .val (.int y3), .val (.int y4), .val (.int (1 : Int32)), .val (.int (1 : Int32)), .val (.int (1 : Int32))]) at_71 rfl rfl ?_
              refine own_iload (pc' := 75) B X157 at_73 rfl rfl ?_
              refine own_ifNo (pc' := 78) B X157 at_75 ((if0 _ _).trans (feq (by decide : ¬ ((1 : Int32) = (0 : Int32)))).1) rfl ?_
              refine own_iload (pc' := 80) B X157 at_78 rfl rfl ?_
              refine own_ifNo (pc' := 83) B X157 at_80 ((if0 _ _).trans (feq (by decide : ¬ ((1 : Int32) = (0 : Int32)))).1) rfl ?_
              refine own_iload (pc' := 85) B X157 at_83 rfl rfl ?_
              refine own_ifNo (pc' := 88) B X157 at_85 ((if0 _ _).trans (feq (by decide : ¬ ((1 : Int32) = (0 : Int32)))).1) rfl ?_
              refine own_iconst (pc' := 89) B X157 (z := (1 : Int32)) at_88 rfl rfl ?_
              refine own_goto (pc' := 93) B X157 at_89 (by decide) rfl ?_
              exact own_retN B X157 (t := .boolean) (z' := (1 : Int32)) (by simp) (by decide) at_93 (by decide) (by decide) rfl
          · show own_Go p e below (T151.setTop (mkF m 58 #[.val (.int i0), .val (.int i1), .val (.int y2), .val (.int y3), .val (.int y4), .val (.int (1 : Int32)), .val (.int (1 : Int32)), .unset] [(.int (1 : Int32))])) _
            refine own_iload (pc' := 60) B X151 at_58 rfl rfl ?_
            refine own_callS (pc' := 63) B X151 (own_w hw 5 rfl) (own_w hw 6 rfl) (own_w hw 7 rfl) (own_w hw 8 rfl) (by decide) [(.int y4)] [(.int (1 : Int32))] (rm_2 l Z a0 hw [] (y4) h0 n0 (Nat.le_trans Z0 K.1) ) 1 (by decide) (by decide) rfl pd_0 rfl rfl (Nat.le_of_eq rfl) at_60 rfl (k' := 0) (n' := 0) rfl rfl (by decide) (by decide) ?_
            intro T168 v168 h168 X168 q168
            rcases q168 with ⟨y169, y170, hy171, hy172, c173, rfl, rfl⟩ | ⟨y174, y175, hy176, hy177, c178, rfl, rfl⟩
            · show own_Go p e below (T168.setTop (mkF m 63 #[.val (.int i0), .val (.int i1), .val (.int y2), .val (.int y3), .val (.int y4), .val (.int (1 : Int32)), .val (.int (1 : Int32)), .unset] [(.int (1 : Int32)), (.int (1 : Int32))])) _
              refine own_icmpNo (pc' := 66) B X168 at_63 (teq (by decide : (1 : Int32) = (1 : Int32))).2 rfl ?_
              refine own_iconst (pc' := 67) B X168 (z := (1 : Int32)) at_66 rfl rfl ?_
              refine own_goto (pc' := 71) B X168 at_67 (by decide) rfl ?_
              refine own_istore (pc' := 73) B X168 (Ls' := #[.val (.int i0), .val (.int i1), .val (.int y2), .val (.int y3), .val (.int y4), .val (.int (1 : Int32)), .val (.int (1 : Int32)), .val (.int (1 : Int32))]) at_71 rfl rfl ?_
              refine own_iload (pc' := 75) B X168 at_73 rfl rfl ?_
              refine own_ifNo (pc' := 78) B X168 at_75 ((if0 _ _).trans (feq (by decide : ¬ ((1 : Int32) = (0 : Int32)))).1) rfl ?_
              refine own_iload (pc' := 80) B X168 at_78 rfl rfl ?_
              refine own_ifNo (pc' := 83) B X168 at_80 ((if0 _ _).trans (feq (by decide : ¬ ((1 : Int32) = (0 : Int32)))).1) rfl ?_
              refine own_iload (pc' := 85) B X168 at_83 rfl rfl ?_
              refine own_ifNo (pc' := 88) B X168 at_85 ((if0 _ _).trans (feq (by decide : ¬ ((1 : Int32) = (0 : Int32)))).1) rfl ?_
              refine own_iconst (pc' := 89) B X168 (z := (1 : Int32)) at_88 rfl rfl ?_
              refine own_goto (pc' := 93) B X168 at_89 (by decide) rfl ?_
              exact own_retN B X168 (t := .boolean) (z' := (1 : Int32)) (by simp) (by decide) at_93 (by decide) (by decide) rfl
            · exfalso
              have o0 := own_o_mask hy1 31 (by decide) (by decide)
              have o1 := own_o_irem hy2 4 (by decide)
              have o2 := own_o_isub hy3
              have o3 := own_o_iadd hy4
              have o4 := own_o_i2l hy103
              have o5 := own_o_maskL hy104 32 (by decide) (by decide)
              have o6 := own_o_i2l hy143
              have o7 := own_o_maskL hy144 32 (by decide) (by decide)
              have o8 := own_o_i2l hy176
              have o9 := own_o_maskL hy177 32 (by decide) (by decide)
              have o10 := own_nlt c7
              have o11 := own_lt c8
              have o12 := own_nltL c105
              have o13 := own_nlt c110
              have o14 := own_nlt c111
              have o15 := own_ltL c145
              have o16 := own_nlt c155
              have o17 := own_nlt c156
              have o18 := own_nltL c178
              have o19 := rng32 i0
              have o20 := rng32 i1
              have o21 := rng32 y1
              have o22 := rng32 y2
              have o23 := rng32 y3
              have o24 := rng32 y4
              have o25 := rng64 y101
              have o26 := rng64 y102
              have o27 := rng64 y141
              have o28 := rng64 y142
              have o29 := rng64 y174
              have o30 := rng64 y175
              have o31 : (2147483647 : Int32).toInt = 2147483647 := by decide
              have o32 : (4 : Int32).toInt = 4 := by decide
              have o33 : (1 : Int32).toInt = 1 := by decide
              have o34 : (98 : Int32).toInt = 98 := by decide
              have o35 : (4294967295 : Int64).toInt = 4294967295 := by decide
              have o36 : (0 : Int32).toInt = 0 := by decide
              have o37 : (99 : Int32).toInt = 99 := by decide
              have o38 : (100 : Int64).toInt = 100 := by decide
              exfalso
              omega
        · exfalso
          have o0 := own_o_mask hy1 31 (by decide) (by decide)
          have o1 := own_o_irem hy2 4 (by decide)
          have o2 := own_o_isub hy3
          have o3 := own_o_i2l hy103
          have o4 := own_o_maskL hy104 32 (by decide) (by decide)
          have o5 := own_o_i2l hy148
          have o6 := own_o_maskL hy149 32 (by decide) (by decide)
          have o7 := own_nlt c7
          have o8 := own_lt c8
          have o9 := own_nltL c105
          have o10 := own_nlt c110
          have o11 := own_nlt c111
          have o12 := own_nltL c150
          have o13 := rng32 i0
          have o14 := rng32 i1
          have o15 := rng32 y1
          have o16 := rng32 y2
          have o17 := rng32 y3
          have o18 := rng64 y101
          have o19 := rng64 y102
          have o20 := rng64 y146
          have o21 := rng64 y147
          have o22 : (2147483647 : Int32).toInt = 2147483647 := by decide
          have o23 : (4 : Int32).toInt = 4 := by decide
          have o24 : (1 : Int32).toInt = 1 := by decide
          have o25 : (4294967295 : Int64).toInt = 4294967295 := by decide
          have o26 : (0 : Int32).toInt = 0 := by decide
          have o27 : (99 : Int32).toInt = 99 := by decide
          have o28 : (100 : Int64).toInt = 100 := by decide
          exfalso
          omega
  · show own_Go p e below (T5.setTop (mkF m 21 #[.val (.int i0), .val (.int i1), .val (.int y2), .val (.int y3), .val (.int y4), .unset, .unset, .unset] [(.int (1 : Int32))])) _
    refine own_iloadN (pc' := 22) B X5 at_21 rfl rfl ?_
    refine own_callS (pc' := 25) B X5 (own_w hw 5 rfl) (own_w hw 6 rfl) (own_w hw 7 rfl) (own_w hw 8 rfl) (by decide) [(.int i0)] [(.int (1 : Int32))] (rm_2 l Z a0 hw [] (i0) h0 n0 (Nat.le_trans Z0 K.1) ) 1 (by decide) (by decide) rfl pd_0 rfl rfl (Nat.le_of_eq rfl) at_22 rfl (k' := 0) (n' := 0) rfl rfl (by decide) (by decide) ?_
    intro T179 v179 h179 X179 q179
    rcases q179 with ⟨y180, y181, hy182, hy183, c184, rfl, rfl⟩ | ⟨y185, y186, hy187, hy188, c189, rfl, rfl⟩
    · show own_Go p e below (T179.setTop (mkF m 25 #[.val (.int i0), .val (.int i1), .val (.int y2), .val (.int y3), .val (.int y4), .unset, .unset, .unset] [(.int (1 : Int32)), (.int (1 : Int32))])) _
      refine own_icmpNo (pc' := 28) B X179 at_25 (teq (by decide : (1 : Int32) = (1 : Int32))).2 rfl ?_
      refine own_iconst (pc' := 29) B X179 (z := (1 : Int32)) at_28 rfl rfl ?_
      refine own_goto (pc' := 33) B X179 at_29 (by decide) rfl ?_
      refine own_istore (pc' := 35) B X179 (Ls' := #[.val (.int i0), .val (.int i1), .val (.int y2), .val (.int y3), .val (.int y4), .val (.int (1 : Int32)), .unset, .unset]) at_33 rfl rfl ?_
      refine own_iloadN (pc' := 36) B X179 at_35 rfl rfl ?_
      refine own_callS (pc' := 39) B X179 (own_w hw 1 rfl) (own_w hw 2 rfl) (own_w hw 3 rfl) (own_w hw 4 rfl) (by decide) [(.int y3)] [] (rm_1 l Z a0 hw [] (y3) h0 n0 (Nat.le_trans Z0 K.1) ) 0 (by decide) (by decide) rfl pd_0 rfl rfl (Nat.le_of_eq rfl) at_36 rfl (k' := 0) (n' := 0) rfl rfl (by decide) (by decide) ?_
      intro T190 v190 h190 X190 q190
      rcases q190 with ⟨c191, rfl, rfl⟩ | ⟨c192, c193, rfl, rfl⟩ | ⟨c194, c195, rfl, rfl⟩
      · show own_Go p e below (T190.setTop (mkF m 39 #[.val (.int i0), .val (.int i1), .val (.int y2), .val (.int y3), .val (.int y4), .val (.int (1 : Int32)), .unset, .unset] [(.int (0 : Int32))])) _
        refine own_iloadN (pc' := 40) B X190 at_39 rfl rfl ?_
        refine own_callS (pc' := 43) B X190 (own_w hw 5 rfl) (own_w hw 6 rfl) (own_w hw 7 rfl) (own_w hw 8 rfl) (by decide) [(.int y3)] [(.int (0 : Int32))] (rm_2 l Z a0 hw [] (y3) h0 n0 (Nat.le_trans Z0 K.1) ) 1 (by decide) (by decide) rfl pd_0 rfl rfl (Nat.le_of_eq rfl) at_40 rfl (k' := 0) (n' := 0) rfl rfl (by decide) (by decide) ?_
        intro T196 v196 h196 X196 q196
        rcases q196 with ⟨y197, y198, hy199, hy200, c201, rfl, rfl⟩ | ⟨y202, y203, hy204, hy205, c206, rfl, rfl⟩
        · exfalso
          have o0 := own_o_mask hy1 31 (by decide) (by decide)
          have o1 := own_o_irem hy2 4 (by decide)
          have o2 := own_o_isub hy3
          have o3 := own_o_i2l hy182
          have o4 := own_o_maskL hy183 32 (by decide) (by decide)
          have o5 := own_o_i2l hy199
          have o6 := own_o_maskL hy200 32 (by decide) (by decide)
          have o7 := own_nlt c9
          have o8 := own_nlt c10
          have o9 := own_ltL c184
          have o10 := own_lt c191
          have o11 := own_ltL c201
          have o12 := rng32 i0
          have o13 := rng32 i1
          have o14 := rng32 y1
          have o15 := rng32 y2
          have o16 := rng32 y3
          have o17 := rng64 y180
          have o18 := rng64 y181
          have o19 := rng64 y197
          have o20 := rng64 y198
          have o21 : (2147483647 : Int32).toInt = 2147483647 := by decide
          have o22 : (4 : Int32).toInt = 4 := by decide
          have o23 : (1 : Int32).toInt = 1 := by decide
          have o24 : (4294967295 : Int64).toInt = 4294967295 := by decide
          have o25 : (0 : Int32).toInt = 0 := by decide
          have o26 : (99 : Int32).toInt = 99 := by decide
          have o27 : (100 : Int64).toInt = 100 := by decide
          exfalso
          omega
        · show own_Go p e below (T196.setTop (mkF m 43 #[.val (.int i0), .val (.int i1), .val (.int y2), .val (.int y3), .val (.int y4), .val (.int (1 : Int32)), .unset, .unset] [(.int (0 : Int32)), (.int (0 : Int32))])) _
          refine own_icmpNo (pc' := 46) B X196 at_43 (teq (by decide : (0 : Int32) = (0 : Int32))).2 rfl ?_
          refine own_iconst (pc' := 47) B X196 (z := (1 : Int32)) at_46 rfl rfl ?_
          refine own_goto (pc' := 51) B X196 at_47 (by decide) rfl ?_
          refine own_istore (pc' := 53) B X196 (Ls' := #[.val (.int i0), .val (.int i1), .val (.int y2), .val (.int y3), .val (.int y4), .val (.int (1 : Int32)), .val (.int (1 : Int32)), .unset]) at_51 rfl rfl ?_
          refine own_iload (pc' := 55) B X196 at_53 rfl rfl ?_
          refine own_callS (pc' := 58) B X196 (own_w hw 1 rfl) (own_w hw 2 rfl) (own_w hw 3 rfl) (own_w hw 4 rfl) (by decide) [(.int y4)] [] (rm_1 l Z a0 hw [] (y4) h0 n0 (Nat.le_trans Z0 K.1) ) 0 (by decide) (by decide) rfl pd_0 rfl rfl (Nat.le_of_eq rfl) at_55 rfl (k' := 0) (n' := 0) rfl rfl (by decide) (by decide) ?_
          intro T207 v207 h207 X207 q207
          rcases q207 with ⟨c208, rfl, rfl⟩ | ⟨c209, c210, rfl, rfl⟩ | ⟨c211, c212, rfl, rfl⟩
          · exfalso
            have o0 := own_o_mask hy1 31 (by decide) (by decide)
            have o1 := own_o_irem hy2 4 (by decide)
            have o2 := own_o_isub hy3
            have o3 := own_o_iadd hy4
            have o4 := own_o_i2l hy182
            have o5 := own_o_maskL hy183 32 (by decide) (by decide)
            have o6 := own_o_i2l hy204
            have o7 := own_o_maskL hy205 32 (by decide) (by decide)
            have o8 := own_nlt c9
            have o9 := own_nlt c10
            have o10 := own_ltL c184
            have o11 := own_lt c191
            have o12 := own_nltL c206
            have o13 := own_lt c208
            have o14 := rng32 i0
            have o15 := rng32 i1
            have o16 := rng32 y1
            have o17 := rng32 y2
            have o18 := rng32 y3
            have o19 := rng32 y4
            have o20 := rng64 y180
            have o21 := rng64 y181
            have o22 := rng64 y202
            have o23 := rng64 y203
            have o24 : (2147483647 : Int32).toInt = 2147483647 := by decide
            have o25 : (4 : Int32).toInt = 4 := by decide
            have o26 : (1 : Int32).toInt = 1 := by decide
            have o27 : (98 : Int32).toInt = 98 := by decide
            have o28 : (4294967295 : Int64).toInt = 4294967295 := by decide
            have o29 : (0 : Int32).toInt = 0 := by decide
            have o30 : (99 : Int32).toInt = 99 := by decide
            have o31 : (100 : Int64).toInt = 100 := by decide
            exfalso
            omega
          · exfalso
            have o0 := own_o_mask hy1 31 (by decide) (by decide)
            have o1 := own_o_irem hy2 4 (by decide)
            have o2 := own_o_isub hy3
            have o3 := own_o_iadd hy4
            have o4 := own_o_i2l hy182
            have o5 := own_o_maskL hy183 32 (by decide) (by decide)
            have o6 := own_o_i2l hy204
            have o7 := own_o_maskL hy205 32 (by decide) (by decide)
            have o8 := own_nlt c9
            have o9 := own_nlt c10
            have o10 := own_ltL c184
            have o11 := own_lt c191
            have o12 := own_nltL c206
            have o13 := own_nlt c209
            have o14 := own_lt c210
            have o15 := rng32 i0
            have o16 := rng32 i1
            have o17 := rng32 y1
            have o18 := rng32 y2
            have o19 := rng32 y3
            have o20 := rng32 y4
            have o21 := rng64 y180
            have o22 := rng64 y181
            have o23 := rng64 y202
            have o24 := rng64 y203
            have o25 : (2147483647 : Int32).toInt = 2147483647 := by decide
            have o26 : (4 : Int32).toInt = 4 := by decide
            have o27 : (1 : Int32).toInt = 1 := by decide
            have o28 : (98 : Int32).toInt = 98 := by decide
            have o29 : (4294967295 : Int64).toInt = 4294967295 := by decide
            have o30 : (0 : Int32).toInt = 0 := by decide
            have o31 : (99 : Int32).toInt = 99 := by decide
            have o32 : (100 : Int64).toInt = 100 := by decide
            exfalso
            omega
          · show own_Go p e below (T207.setTop (mkF m 58 #[.val (.int i0), .val (.int i1), .val (.int y2), .val (.int y3), .val (.int y4), .val (.int (1 : Int32)), .val (.int (1 : Int32)), .unset] [(.int (1 : Int32))])) _
            refine own_iload (pc' := 60) B X207 at_58 rfl rfl ?_
            refine own_callS (pc' := 63) B X207 (own_w hw 5 rfl) (own_w hw 6 rfl) (own_w hw 7 rfl) (own_w hw 8 rfl) (by decide) [(.int y4)] [(.int (1 : Int32))] (rm_2 l Z a0 hw [] (y4) h0 n0 (Nat.le_trans Z0 K.1) ) 1 (by decide) (by decide) rfl pd_0 rfl rfl (Nat.le_of_eq rfl) at_60 rfl (k' := 0) (n' := 0) rfl rfl (by decide) (by decide) ?_
            intro T213 v213 h213 X213 q213
            rcases q213 with ⟨y214, y215, hy216, hy217, c218, rfl, rfl⟩ | ⟨y219, y220, hy221, hy222, c223, rfl, rfl⟩
            · show own_Go p e below (T213.setTop (mkF m 63 #[.val (.int i0), .val (.int i1), .val (.int y2), .val (.int y3), .val (.int y4), .val (.int (1 : Int32)), .val (.int (1 : Int32)), .unset] [(.int (1 : Int32)), (.int (1 : Int32))])) _
              refine own_icmpNo (pc' := 66) B X213 at_63 (teq (by decide : (1 : Int32) = (1 : Int32))).2 rfl ?_
              refine own_iconst (pc' := 67) B X213 (z := (1 : Int32)) at_66 rfl rfl ?_
              refine own_goto (pc' := 71) B X213 at_67 (by decide) rfl ?_
              refine own_istore (pc' := 73) B X213 (Ls' := #[.val (.int i0), .val (.int i1), .val (.int y2), .val (.int y3), .val (.int y4), .val (.int (1 : Int32)), .val (.int (1 : Int32)), .val (.int (1 : Int32))]) at_71 rfl rfl ?_
              refine own_iload (pc' := 75) B X213 at_73 rfl rfl ?_
              refine own_ifNo (pc' := 78) B X213 at_75 ((if0 _ _).trans (feq (by decide : ¬ ((1 : Int32) = (0 : Int32)))).1) rfl ?_
              refine own_iload (pc' := 80) B X213 at_78 rfl rfl ?_
              refine own_ifNo (pc' := 83) B X213 at_80 ((if0 _ _).trans (feq (by decide : ¬ ((1 : Int32) = (0 : Int32)))).1) rfl ?_
              refine own_iload (pc' := 85) B X213 at_83 rfl rfl ?_
              refine own_ifNo (pc' := 88) B X213 at_85 ((if0 _ _).trans (feq (by decide : ¬ ((1 : Int32) = (0 : Int32)))).1) rfl ?_
              refine own_iconst (pc' := 89) B X213 (z := (1 : Int32)) at_88 rfl rfl ?_
              refine own_goto (pc' := 93) B X213 at_89 (by decide) rfl ?_
              exact own_retN B X213 (t := .boolean) (z' := (1 : Int32)) (by simp) (by decide) at_93 (by decide) (by decide) rfl
            · exfalso
              have o0 := own_o_mask hy1 31 (by decide) (by decide)
              have o1 := own_o_irem hy2 4 (by decide)
              have o2 := own_o_isub hy3
              have o3 := own_o_iadd hy4
              have o4 := own_o_i2l hy182
              have o5 := own_o_maskL hy183 32 (by decide) (by decide)
              have o6 := own_o_i2l hy204
              have o7 := own_o_maskL hy205 32 (by decide) (by decide)
              have o8 := own_o_i2l hy221
              have o9 := own_o_maskL hy222 32 (by decide) (by decide)
              have o10 := own_nlt c9
              have o11 := own_nlt c10
              have o12 := own_ltL c184
              have o13 := own_lt c191
              have o14 := own_nltL c206
              have o15 := own_nlt c211
              have o16 := own_nlt c212
              have o17 := own_nltL c223
              have o18 := rng32 i0
              have o19 := rng32 i1
              have o20 := rng32 y1
              have o21 := rng32 y2
              have o22 := rng32 y3
              have o23 := rng32 y4
              have o24 := rng64 y180
              have o25 := rng64 y181
              have o26 := rng64 y202
              have o27 := rng64 y203
              have o28 := rng64 y219
              have o29 := rng64 y220
              have o30 : (2147483647 : Int32).toInt = 2147483647 := by decide
              have o31 : (4 : Int32).toInt = 4 := by decide
              have o32 : (1 : Int32).toInt = 1 := by decide
              have o33 : (98 : Int32).toInt = 98 := by decide
              have o34 : (4294967295 : Int64).toInt = 4294967295 := by decide
              have o35 : (0 : Int32).toInt = 0 := by decide
              have o36 : (99 : Int32).toInt = 99 := by decide
              have o37 : (100 : Int64).toInt = 100 := by decide
              exfalso
              omega
      · exfalso
        have o0 := own_o_mask hy1 31 (by decide) (by decide)
        have o1 := own_o_irem hy2 4 (by decide)
        have o2 := own_o_isub hy3
        have o3 := own_o_i2l hy182
        have o4 := own_o_maskL hy183 32 (by decide) (by decide)
        have o5 := own_nlt c9
        have o6 := own_nlt c10
        have o7 := own_ltL c184
        have o8 := own_nlt c192
        have o9 := own_lt c193
        have o10 := rng32 i0
        have o11 := rng32 i1
        have o12 := rng32 y1
        have o13 := rng32 y2
        have o14 := rng32 y3
        have o15 := rng64 y180
        have o16 := rng64 y181
        have o17 : (2147483647 : Int32).toInt = 2147483647 := by decide
        have o18 : (4 : Int32).toInt = 4 := by decide
        have o19 : (1 : Int32).toInt = 1 := by decide
        have o20 : (4294967295 : Int64).toInt = 4294967295 := by decide
        have o21 : (0 : Int32).toInt = 0 := by decide
        have o22 : (99 : Int32).toInt = 99 := by decide
        have o23 : (100 : Int64).toInt = 100 := by decide
        exfalso
        omega
      · show own_Go p e below (T190.setTop (mkF m 39 #[.val (.int i0), .val (.int i1), .val (.int y2), .val (.int y3), .val (.int y4), .val (.int (1 : Int32)), .unset, .unset] [(.int (1 : Int32))])) _
        refine own_iloadN (pc' := 40) B X190 at_39 rfl rfl ?_
        refine own_callS (pc' := 43) B X190 (own_w hw 5 rfl) (own_w hw 6 rfl) (own_w hw 7 rfl) (own_w hw 8 rfl) (by decide) [(.int y3)] [(.int (1 : Int32))] (rm_2 l Z a0 hw [] (y3) h0 n0 (Nat.le_trans Z0 K.1) ) 1 (by decide) (by decide) rfl pd_0 rfl rfl (Nat.le_of_eq rfl) at_40 rfl (k' := 0) (n' := 0) rfl rfl (by decide) (by decide) ?_
        intro T224 v224 h224 X224 q224
        rcases q224 with ⟨y225, y226, hy227, hy228, c229, rfl, rfl⟩ | ⟨y230, y231, hy232, hy233, c234, rfl, rfl⟩
        · show own_Go p e below (T224.setTop (mkF m 43 #[.val (.int i0), .val (.int i1), .val (.int y2), .val (.int y3), .val (.int y4), .val (.int (1 : Int32)), .unset, .unset] [(.int (1 : Int32)), (.int (1 : Int32))])) _
          refine own_icmpNo (pc' := 46) B X224 at_43 (teq (by decide : (1 : Int32) = (1 : Int32))).2 rfl ?_
          refine own_iconst (pc' := 47) B X224 (z := (1 : Int32)) at_46 rfl rfl ?_
          refine own_goto (pc' := 51) B X224 at_47 (by decide) rfl ?_
          refine own_istore (pc' := 53) B X224 (Ls' := #[.val (.int i0), .val (.int i1), .val (.int y2), .val (.int y3), .val (.int y4), .val (.int (1 : Int32)), .val (.int (1 : Int32)), .unset]) at_51 rfl rfl ?_
          refine own_iload (pc' := 55) B X224 at_53 rfl rfl ?_
          refine own_callS (pc' := 58) B X224 (own_w hw 1 rfl) (own_w hw 2 rfl) (own_w hw 3 rfl) (own_w hw 4 rfl) (by decide) [(.int y4)] [] (rm_1 l Z a0 hw [] (y4) h0 n0 (Nat.le_trans Z0 K.1) ) 0 (by decide) (by decide) rfl pd_0 rfl rfl (Nat.le_of_eq rfl) at_55 rfl (k' := 0) (n' := 0) rfl rfl (by decide) (by decide) ?_
          intro T235 v235 h235 X235 q235
          rcases q235 with ⟨c236, rfl, rfl⟩ | ⟨c237, c238, rfl, rfl⟩ | ⟨c239, c240, rfl, rfl⟩
          · exfalso
            have o0 := own_o_mask hy1 31 (by decide) (by decide)
            have o1 := own_o_irem hy2 4 (by decide)
            have o2 := own_o_isub hy3
            have o3 := own_o_iadd hy4
            have o4 := own_o_i2l hy182
            have o5 := own_o_maskL hy183 32 (by decide) (by decide)
            have o6 := own_o_i2l hy227
            have o7 := own_o_maskL hy228 32 (by decide) (by decide)
            have o8 := own_nlt c9
            have o9 := own_nlt c10
            have o10 := own_ltL c184
            have o11 := own_nlt c194
            have o12 := own_nlt c195
            have o13 := own_ltL c229
            have o14 := own_lt c236
            have o15 := rng32 i0
            have o16 := rng32 i1
            have o17 := rng32 y1
            have o18 := rng32 y2
            have o19 := rng32 y3
            have o20 := rng32 y4
            have o21 := rng64 y180
            have o22 := rng64 y181
            have o23 := rng64 y225
            have o24 := rng64 y226
            have o25 : (2147483647 : Int32).toInt = 2147483647 := by decide
            have o26 : (4 : Int32).toInt = 4 := by decide
            have o27 : (1 : Int32).toInt = 1 := by decide
            have o28 : (98 : Int32).toInt = 98 := by decide
            have o29 : (4294967295 : Int64).toInt = 4294967295 := by decide
            have o30 : (0 : Int32).toInt = 0 := by decide
            have o31 : (99 : Int32).toInt = 99 := by decide
            have o32 : (100 : Int64).toInt = 100 := by decide
            exfalso
            omega
          · show own_Go p e below (T235.setTop (mkF m 58 #[.val (.int i0), .val (.int i1), .val (.int y2), .val (.int y3), .val (.int y4), .val (.int (1 : Int32)), .val (.int (1 : Int32)), .unset] [(.int (0 : Int32))])) _
            refine own_iload (pc' := 60) B X235 at_58 rfl rfl ?_
            refine own_callS (pc' := 63) B X235 (own_w hw 5 rfl) (own_w hw 6 rfl) (own_w hw 7 rfl) (own_w hw 8 rfl) (by decide) [(.int y4)] [(.int (0 : Int32))] (rm_2 l Z a0 hw [] (y4) h0 n0 (Nat.le_trans Z0 K.1) ) 1 (by decide) (by decide) rfl pd_0 rfl rfl (Nat.le_of_eq rfl) at_60 rfl (k' := 0) (n' := 0) rfl rfl (by decide) (by decide) ?_
            intro T241 v241 h241 X241 q241
            rcases q241 with ⟨y242, y243, hy244, hy245, c246, rfl, rfl⟩ | ⟨y247, y248, hy249, hy250, c251, rfl, rfl⟩
            · exfalso
              have o0 := own_o_mask hy1 31 (by decide) (by decide)
              have o1 := own_o_irem hy2 4 (by decide)
              have o2 := own_o_isub hy3
              have o3 := own_o_iadd hy4
              have o4 := own_o_i2l hy182
              have o5 := own_o_maskL hy183 32 (by decide) (by decide)
              have o6 := own_o_i2l hy227
              have o7 := own_o_maskL hy228 32 (by decide) (by decide)
              have o8 := own_o_i2l hy244
              have o9 := own_o_maskL hy245 32 (by decide) (by decide)
              have o10 := own_nlt c9
              have o11 := own_nlt c10
              have o12 := own_ltL c184
              have o13 := own_nlt c194
              have o14 := own_nlt c195
              have o15 := own_ltL c229
              have o16 := own_nlt c237
              have o17 := own_lt c238
              have o18 := own_ltL c246
              have o19 := rng32 i0
              have o20 := rng32 i1
              have o21 := rng32 y1
              have o22 := rng32 y2
              have o23 := rng32 y3
              have o24 := rng32 y4
              have o25 := rng64 y180
              have o26 := rng64 y181
              have o27 := rng64 y225
              have o28 := rng64 y226
              have o29 := rng64 y242
              have o30 := rng64 y243
              have o31 : (2147483647 : Int32).toInt = 2147483647 := by decide
              have o32 : (4 : Int32).toInt = 4 := by decide
              have o33 : (1 : Int32).toInt = 1 := by decide
              have o34 : (98 : Int32).toInt = 98 := by decide
              have o35 : (4294967295 : Int64).toInt = 4294967295 := by decide
              have o36 : (0 : Int32).toInt = 0 := by decide
              have o37 : (99 : Int32).toInt = 99 := by decide
              have o38 : (100 : Int64).toInt = 100 := by decide
              exfalso
              omega
            · show own_Go p e below (T241.setTop (mkF m 63 #[.val (.int i0), .val (.int i1), .val (.int y2), .val (.int y3), .val (.int y4), .val (.int (1 : Int32)), .val (.int (1 : Int32)), .unset] [(.int (0 : Int32)), (.int (0 : Int32))])) _
              refine own_icmpNo (pc' := 66) B X241 at_63 (teq (by decide : (0 : Int32) = (0 : Int32))).2 rfl ?_
              refine own_iconst (pc' := 67) B X241 (z := (1 : Int32)) at_66 rfl rfl ?_
              refine own_goto (pc' := 71) B X241 at_67 (by decide) rfl ?_
              refine own_istore (pc' := 73) B X241 (Ls' := #[.val (.int i0), .val (.int i1), .val (.int y2), .val (.int y3), .val (.int y4), .val (.int (1 : Int32)), .val (.int (1 : Int32)), .val (.int (1 : Int32))]) at_71 rfl rfl ?_
              refine own_iload (pc' := 75) B X241 at_73 rfl rfl ?_
              refine own_ifNo (pc' := 78) B X241 at_75 ((if0 _ _).trans (feq (by decide : ¬ ((1 : Int32) = (0 : Int32)))).1) rfl ?_
              refine own_iload (pc' := 80) B X241 at_78 rfl rfl ?_
              refine own_ifNo (pc' := 83) B X241 at_80 ((if0 _ _).trans (feq (by decide : ¬ ((1 : Int32) = (0 : Int32)))).1) rfl ?_
              refine own_iload (pc' := 85) B X241 at_83 rfl rfl ?_
              refine own_ifNo (pc' := 88) B X241 at_85 ((if0 _ _).trans (feq (by decide : ¬ ((1 : Int32) = (0 : Int32)))).1) rfl ?_
              refine own_iconst (pc' := 89) B X241 (z := (1 : Int32)) at_88 rfl rfl ?_
              refine own_goto (pc' := 93) B X241 at_89 (by decide) rfl ?_
              exact own_retN B X241 (t := .boolean) (z' := (1 : Int32)) (by simp) (by decide) at_93 (by decide) (by decide) rfl
          · show own_Go p e below (T235.setTop (mkF m 58 #[.val (.int i0), .val (.int i1), .val (.int y2), .val (.int y3), .val (.int y4), .val (.int (1 : Int32)), .val (.int (1 : Int32)), .unset] [(.int (1 : Int32))])) _
            refine own_iload (pc' := 60) B X235 at_58 rfl rfl ?_
            refine own_callS (pc' := 63) B X235 (own_w hw 5 rfl) (own_w hw 6 rfl) (own_w hw 7 rfl) (own_w hw 8 rfl) (by decide) [(.int y4)] [(.int (1 : Int32))] (rm_2 l Z a0 hw [] (y4) h0 n0 (Nat.le_trans Z0 K.1) ) 1 (by decide) (by decide) rfl pd_0 rfl rfl (Nat.le_of_eq rfl) at_60 rfl (k' := 0) (n' := 0) rfl rfl (by decide) (by decide) ?_
            intro T252 v252 h252 X252 q252
            rcases q252 with ⟨y253, y254, hy255, hy256, c257, rfl, rfl⟩ | ⟨y258, y259, hy260, hy261, c262, rfl, rfl⟩
            · show own_Go p e below (T252.setTop (mkF m 63 #[.val (.int i0), .val (.int i1), .val (.int y2), .val (.int y3), .val (.int y4), .val (.int (1 : Int32)), .val (.int (1 : Int32)), .unset] [(.int (1 : Int32)), (.int (1 : Int32))])) _
              refine own_icmpNo (pc' := 66) B X252 at_63 (teq (by decide : (1 : Int32) = (1 : Int32))).2 rfl ?_
              refine own_iconst (pc' := 67) B X252 (z := (1 : Int32)) at_66 rfl rfl ?_
              refine own_goto (pc' := 71) B X252 at_67 (by decide) rfl ?_
              refine own_istore (pc' := 73) B X252 (Ls' := #[.val (.int i0), .val (.int i1), .val (.int y2), .val (.int y3), .val (.int y4), .val (.int (1 : Int32)), .val (.int (1 : Int32)), .val (.int (1 : Int32))]) at_71 rfl rfl ?_
              refine own_iload (pc' := 75) B X252 at_73 rfl rfl ?_
              refine own_ifNo (pc' := 78) B X252 at_75 ((if0 _ _).trans (feq (by decide : ¬ ((1 : Int32) = (0 : Int32)))).1) rfl ?_
              refine own_iload (pc' := 80) B X252 at_78 rfl rfl ?_
              refine own_ifNo (pc' := 83) B X252 at_80 ((if0 _ _).trans (feq (by decide : ¬ ((1 : Int32) = (0 : Int32)))).1) rfl ?_
              refine own_iload (pc' := 85) B X252 at_83 rfl rfl ?_
              refine own_ifNo (pc' := 88) B X252 at_85 ((if0 _ _).trans (feq (by decide : ¬ ((1 : Int32) = (0 : Int32)))).1) rfl ?_
              refine own_iconst (pc' := 89) B X252 (z := (1 : Int32)) at_88 rfl rfl ?_
              refine own_goto (pc' := 93) B X252 at_89 (by decide) rfl ?_
              exact own_retN B X252 (t := .boolean) (z' := (1 : Int32)) (by simp) (by decide) at_93 (by decide) (by decide) rfl
            · exfalso
              have o0 := own_o_mask hy1 31 (by decide) (by decide)
              have o1 := own_o_irem hy2 4 (by decide)
              have o2 := own_o_isub hy3
              have o3 := own_o_iadd hy4
              have o4 := own_o_i2l hy182
              have o5 := own_o_maskL hy183 32 (by decide) (by decide)
              have o6 := own_o_i2l hy227
              have o7 := own_o_maskL hy228 32 (by decide) (by decide)
              have o8 := own_o_i2l hy260
              have o9 := own_o_maskL hy261 32 (by decide) (by decide)
              have o10 := own_nlt c9
              have o11 := own_nlt c10
              have o12 := own_ltL c184
              have o13 := own_nlt c194
              have o14 := own_nlt c195
              have o15 := own_ltL c229
              have o16 := own_nlt c239
              have o17 := own_nlt c240
              have o18 := own_nltL c262
              have o19 := rng32 i0
              have o20 := rng32 i1
              have o21 := rng32 y1
              have o22 := rng32 y2
              have o23 := rng32 y3
              have o24 := rng32 y4
              have o25 := rng64 y180
              have o26 := rng64 y181
              have o27 := rng64 y225
              have o28 := rng64 y226
              have o29 := rng64 y258
              have o30 := rng64 y259
              have o31 : (2147483647 : Int32).toInt = 2147483647 := by decide
              have o32 : (4 : Int32).toInt = 4 := by decide
              have o33 : (1 : Int32).toInt = 1 := by decide
              have o34 : (98 : Int32).toInt = 98 := by decide
              have o35 : (4294967295 : Int64).toInt = 4294967295 := by decide
              have o36 : (0 : Int32).toInt = 0 := by decide
              have o37 : (99 : Int32).toInt = 99 := by decide
              have o38 : (100 : Int64).toInt = 100 := by decide
              exfalso
              omega
        · exfalso
          have o0 := own_o_mask hy1 31 (by decide) (by decide)
          have o1 := own_o_irem hy2 4 (by decide)
          have o2 := own_o_isub hy3
          have o3 := own_o_i2l hy182
          have o4 := own_o_maskL hy183 32 (by decide) (by decide)
          have o5 := own_o_i2l hy232
          have o6 := own_o_maskL hy233 32 (by decide) (by decide)
          have o7 := own_nlt c9
          have o8 := own_nlt c10
          have o9 := own_ltL c184
          have o10 := own_nlt c194
          have o11 := own_nlt c195
          have o12 := own_nltL c234
          have o13 := rng32 i0
          have o14 := rng32 i1
          have o15 := rng32 y1
          have o16 := rng32 y2
          have o17 := rng32 y3
          have o18 := rng64 y180
          have o19 := rng64 y181
          have o20 := rng64 y230
          have o21 := rng64 y231
          have o22 : (2147483647 : Int32).toInt = 2147483647 := by decide
          have o23 : (4 : Int32).toInt = 4 := by decide
          have o24 : (1 : Int32).toInt = 1 := by decide
          have o25 : (4294967295 : Int64).toInt = 4294967295 := by decide
          have o26 : (0 : Int32).toInt = 0 := by decide
          have o27 : (99 : Int32).toInt = 99 := by decide
          have o28 : (100 : Int64).toInt = 100 := by decide
          exfalso
          omega
    · exfalso
      have o0 := own_o_i2l hy187
      have o1 := own_o_maskL hy188 32 (by decide) (by decide)
      have o2 := own_nlt c9
      have o3 := own_nlt c10
      have o4 := own_nltL c189
      have o5 := rng32 i0
      have o6 := rng64 y185
      have o7 := rng64 y186
      have o8 : (4294967295 : Int64).toInt = 4294967295 := by decide
      have o9 : (0 : Int32).toInt = 0 := by decide
      have o10 : (99 : Int32).toInt = 99 := by decide
      have o11 : (100 : Int64).toInt = 100 := by decide
      exfalso
      omega
set_option maxRecDepth 65536 in
set_option maxHeartbeats 40000000 in
theorem comes_1 {Post : Tables → Env → Array Value → State → Outcome → State → Prop} (hpost : ∀ tb e args s v u, (limb_1_1.after args s (.returned v) u = true ∧ limb_1_2.after args s (.returned v) u = true ∧ True) → FrameEnd s (.returned v) u (Jvm.fieldLocs frame_1_writes args s ++ Jvm.arrayLocs frame_1_arrays args s ++ Jvm.staticLocs frame_1_statics s) 0 0 → Post tb e args s (.returned v) u) :
    ArmFor flags0 classFile x code maxLocals ret World_1 tables_1 room_1 Calls_1 rest_1 Pre_1 Post := by
  intro l hfl _ _ p e ha hc hk s m args below hf hA hF happ hP
  obtain ⟨hcalls, hrest, hpre⟩ := hP
  obtain ⟨-, -, -, hnamed, -, -, -, hat⟩ := (Spec.applies_iff hf).mp happ
  obtain ⟨hg, hn⟩ := and_e (Cond.before_iff.mp (show (Jvm.Cond.and given_1 narrow_1).before args s = true from hpre))
  obtain ⟨g1, g2⟩ := and_e hg
  obtain ⟨g3, g4⟩ := and_e g2
  obtain ⟨w0, w1, rfl⟩ : ∃ w0 w1 : Value, args = #[w0, w1] := by
    have hs : args.size = 2 := by simpa [Cond.value, given_1] using g1
    obtain ⟨L⟩ := args
    match L, hs with
    | [w0, w1], _ => exact ⟨w0, w1, rfl⟩
  have hw := fun d (hd : d ∈ tables_1) => atoms_spec (ws := Jvm.Cond.code x code maxLocals ret :: tables_1) hat d (List.mem_cons_of_mem _ hd)
  obtain ⟨i0, ei0⟩ := is_v g3
  obtain rfl : w0 = (.int i0) := Option.some.inj ei0
  obtain ⟨i1, ei1⟩ := is_v g4
  obtain rfl : w1 = (.int i1) := Option.some.inj ei1
  obtain ⟨n, o, h1, h2, h3, _, L, rfl, ⟨N, rfl⟩, hq⟩ := rm_0 l s _ hw tables_1 i0 i1 s.heap s.heap.size (Nat.le_refl _)  p e ha hc hk s m _ below hf ((Spec.applies_iff_loose hf).mp happ).1 ⟨rfl, State.Warmed39.refl s, rfl⟩ trivial
  refine ⟨n, _, h1, h2, h3, hpost _ _ _ _ _ _ ⟨Cond.after_iff.mpr rfl, Cond.after_iff.mpr (eq_i res_at (Term.int_eval (1)) rfl), trivial⟩ ⟨hq.1, hq.2.1, (hq.2.2.sift fun y hy => Or.inr (N y hy)).mono (by decide) (by decide)⟩⟩
theorem main_1_1 : Claimed_1_1 := comes_1 fun _ _ _ _ _ _ h hF => ⟨h.1, hF⟩
theorem main_1_2 : Claimed_1_2 := comes_1 fun _ _ _ _ _ _ h hF => ⟨h.2.1, hF⟩
end Jvm.Pilot.@@N@@
namespace Jvm.Pilot.@@N@@
open Jvm Jvm.ClassFile Sem Op Lib Jvm.Free Jvm.Stand Jvm.Pilot.@@N@@.Jvm.D
/-! MADE BY PROGRAM (witnessworld.py) out of the Statement's table words and the real class files: 9 classes; the members and pool entries that the words name. The judged class is class 1, her method 2. -/
namespace start1
open Jvm.ClassFile
def u (s : String) : CpInfo := .utf8 (stringToUtf16 s)
/-- a pool by its gaps: so many unusable entries, then the entry; so many at the end -/
def gap : Nat → List CpInfo → List CpInfo
  | 0, r => r
  | n + 1, r => .unusable :: gap n r
def poolList (es : List (Nat × CpInfo)) (last : Nat) : List CpInfo := es.foldr (fun e r => gap e.1 (e.2 :: r)) (gap last [])
def pool (es : List (Nat × CpInfo)) (last : Nat) : Array CpInfo := ⟨poolList es last⟩
def fileOf (pool : Array CpInfo) (this : Nat) (attrs : Array Attribute := #[]) (ms : Array MethodInfo := #[]) (fl : Nat := 33) (sup : Nat := 0) (ifs : Array Nat := #[]) (fds : Array FieldInfo := #[]) : ClassFile where
  minorVersion := 0
  majorVersion := 65
  constantPool := pool
  accessFlags := fl
  thisClass := this
  superClass := sup
  interfaces := ifs
  fields := fds
  methods := ms
  attributes := attrs
def plain (name : String) (sup : Option ClassId) : Class where
  name := name
  kind := .ordinary
  loader := none
  accessFlags := 33
  super := sup
  interfaces := #[]
  cf := none
  fields := #[]
  methods := #[]
  instanceTypes := #[]
  staticTypes := #[]
  resolved := #[]
  callSites := []
  init := .initialized
  statics := none
  mirror := none

def pool0 : Array CpInfo := pool [(5, u "<init>"), (0, u "()V"), (1, .class_ 10), (1, u "java/lang/Object")] 113

def k0m0 : Method := { name := "<init>", desc := "()V", sig := { parameters := [], returnType := none }, accessFlags := 1, code := none }
/-- java/lang/Object -/
def k0 : Class := { plain "java/lang/Object" none with
  accessFlags := 33
  interfaces := #[]
  cf := some (fileOf pool0 8 #[] #[{ accessFlags := 1, nameIndex := 5, descriptorIndex := 6, attributes := #[] }] 33 0 #[] #[])
  fields := #[]
  methods := #[k0m0]
  instanceTypes := #[]
  staticTypes := #[]
  resolved := Array.replicate 124 none
  statics := none }

def pool1 : Array CpInfo := pool [(2, .class_ 4), (1, u "java/lang/Object"), (0, u "<init>"), (0, u "()V"), (0, .long 4294967295), (1, .long 100), (1, .integer 2147483647), (0, .methodref 13 14), (0, .class_ 15), (0, .nameAndType 16 17), (0, u "com/example/lean_route/leanroute/keyed/MessageType"), (0, u "isReserved"), (0, u "(I)Z"), (0, .methodref 19 20), (0, .class_ 21), (0, .nameAndType 22 17), (0, u "com/example/lean_route/leanroute/keyed/MessageTypeIsReservedPinLaw"), (0, u "reference"), (3, u "law"), (0, u "(II)Z")] 2

def k1m0 : Method := { name := "<init>", desc := "()V", sig := { parameters := [], returnType := none }, accessFlags := 2, code := none }
def k1c1 : Code := { maxStack := 4, maxLocals := 3, code := method_2_code, exceptionTable := #[], attributes := #[] }
def k1m1 : Method := { name := "reference", desc := "(I)Z", sig := { parameters := [.int], returnType := some .boolean }, accessFlags := 10, code := some k1c1 }
def k1c2 : Code := { maxStack := 2, maxLocals := 8, code := code, exceptionTable := #[], attributes := #[] }
def k1m2 : Method := { name := "law", desc := "(II)Z", sig := { parameters := [.int, .int], returnType := some .boolean }, accessFlags := 9, code := some k1c2 }
/-- com/example/lean_route/leanroute/keyed/MessageTypeIsReservedPinLaw -/
def k1 : Class := { plain "com/example/lean_route/leanroute/keyed/MessageTypeIsReservedPinLaw" (some 0) with
  accessFlags := 49
  interfaces := #[]
  cf := some (fileOf pool1 19 #[] #[{ accessFlags := 2, nameIndex := 5, descriptorIndex := 6, attributes := #[] }, { accessFlags := 10, nameIndex := 22, descriptorIndex := 17, attributes := #[] }, { accessFlags := 9, nameIndex := 26, descriptorIndex := 27, attributes := #[] }] 49 2 #[] #[])
  fields := #[]
  methods := #[k1m0, k1m1, k1m2]
  instanceTypes := #[]
  staticTypes := #[]
  resolved := Array.replicate 30 none
  statics := none }

def pool2 : Array CpInfo := pool [(2, .class_ 4), (1, u "java/lang/Object"), (0, u "<init>"), (0, u "()V"), (0, .class_ 8), (0, u "com/example/lean_route/leanroute/keyed/MessageType"), (20, u "MAX_RESERVED"), (0, u "I"), (2, u "MAX"), (3, u "isReserved"), (0, u "(I)Z")] 20

def k2m0 : Method := { name := "<init>", desc := "()V", sig := { parameters := [], returnType := none }, accessFlags := 2, code := none }
def k2c1 : Code := { maxStack := 2, maxLocals := 1, code := prog_30_method_2_code, exceptionTable := #[], attributes := #[] }
def k2m1 : Method := { name := "isReserved", desc := "(I)Z", sig := { parameters := [.int], returnType := some .boolean }, accessFlags := 8, code := some k2c1 }
/-- com/example/lean_route/leanroute/keyed/MessageType -/
def k2 : Class := { plain "com/example/lean_route/leanroute/keyed/MessageType" (some 0) with
  accessFlags := 49
  interfaces := #[]
  cf := some (fileOf pool2 7 #[] #[{ accessFlags := 2, nameIndex := 5, descriptorIndex := 6, attributes := #[] }, { accessFlags := 8, nameIndex := 37, descriptorIndex := 38, attributes := #[] }] 49 2 #[] #[{ accessFlags := 24, nameIndex := 29, descriptorIndex := 30, attributes := #[] }, { accessFlags := 26, nameIndex := 33, descriptorIndex := 30, attributes := #[] }])
  fields := #[{ name := "MAX_RESERVED", type := .int, accessFlags := 24, slot := 0, constantValue := 0 }, { name := "MAX", type := .int, accessFlags := 26, slot := 1, constantValue := 0 }]
  methods := #[k2m0, k2m1]
  instanceTypes := #[]
  staticTypes := #[.int, .int]
  resolved := Array.replicate 59 none
  statics := none }

def pool3 : Array CpInfo := pool [(1, u "java/lang/Cloneable"), (0, .class_ 1), (0, u "java/lang/Object"), (0, .class_ 3)] 3

/-- java/lang/Cloneable -/
def k3 : Class := { plain "java/lang/Cloneable" (some 0) with
  accessFlags := 1537
  interfaces := #[]
  cf := some (fileOf pool3 2 #[] #[] 1537 4 #[] #[])
  fields := #[]
  methods := #[]
  instanceTypes := #[]
  staticTypes := #[]
  resolved := Array.replicate 8 none
  statics := none }

def pool4 : Array CpInfo := pool [(1, u "java/io/Serializable"), (0, .class_ 1), (0, u "java/lang/Object"), (0, .class_ 3)] 3

/-- java/io/Serializable -/
def k4 : Class := { plain "java/io/Serializable" (some 0) with
  accessFlags := 1537
  interfaces := #[]
  cf := some (fileOf pool4 2 #[] #[] 1537 4 #[] #[])
  fields := #[]
  methods := #[]
  instanceTypes := #[]
  staticTypes := #[]
  resolved := Array.replicate 8 none
  statics := none }

/-- the primitive byte -/
def k5 : Class := { plain "byte" none with kind := .primitive 'B', accessFlags := 0x411 }
/-- [B -/
def k6 : Class := { plain "[B" (some 0) with kind := .array 5 .byte, interfaces := #[3, 4], accessFlags := 1041 }

/-- the primitive int -/
def k7 : Class := { plain "int" none with kind := .primitive 'I', accessFlags := 0x411 }
/-- [I -/
def k8 : Class := { plain "[I" (some 0) with kind := .array 7 .int, interfaces := #[3, 4], accessFlags := 1041 }

def heap : Heap := #[]
def classes : Array Class := #[k0, k1, k2, k3, k4, k5, k6, k7, k8]
def interned : List (Array UInt16 × Addr) := []
def slotsUsed : Nat := 0
def theMethod : MethodId := ⟨1, 2⟩
def args0 : Array Value := #[.int 5, .int 7]
def aboutOver (below : List Frame) : State where
  vm := { classes := classes, interned := interned.toArray }
  heap := heap
  slotsUsed := slotsUsed
  threads := #[{ frames := .invoking theMethod args0 :: below }]
def below0 : List Frame := [.native { method := ⟨0, 0⟩, args := #[] }]
def about1 : State := aboutOver below0
def p0 : Program := .bare "" "" ""
def e0 : Env := launch0.env 0 0 0
theorem w_frames : about1.frames = Frame.invoking theMethod args0 :: below0 := rfl
set_option maxRecDepth 65536 in
theorem w_args : argsFit about1.vm theMethod args0 = true := by decide +kernel
set_option maxRecDepth 65536 in
theorem w_heap : heapFits about1 = true := by decide +kernel
set_option maxRecDepth 65536 in
theorem w_runnable : about1.curStatus? = some .runnable := by decide +kernel
set_option maxRecDepth 65536 in
theorem w_alone : about1.alone = true := by decide +kernel
set_option maxRecDepth 65536 in
theorem w_named : about1.methodNamed? x = some theMethod := by decide +kernel
set_option maxRecDepth 65536 in
theorem w_hears : about1.hears theMethod below0 = true := by decide +kernel
set_option maxRecDepth 65536 in
theorem w_ripe : about1.ripe theMethod args0 below0 = true := by decide +kernel
theorem w_running : about1.status = .running := rfl
set_option maxRecDepth 65536 in
theorem w_room : about1.hasRoom e0.platform room_1 = true :=
  launch0.hasRoom_least _ room_1 (by decide +kernel) (by decide +kernel) (by decide +kernel) (by decide +kernel) (by decide +kernel) (by decide +kernel)
theorem allAtoms_all (ts : List Jvm.Cond) (a : Array Jvm.Value) (st : Jvm.State) : (allAtoms ts).before a st = ts.all (fun c => c.before a st) := by
  induction ts with
  | nil => rfl
  | cons c t ih =>
    show (Jvm.Cond.and c (allAtoms t)).before a st = _
    rw [Jvm.Cond.before_and, ih, List.all_cons]
def words1 : List Jvm.Cond := Jvm.Cond.code x code maxLocals ret :: tables_1
/-- a 'code' word, met by the world's own term for the bytes: nothing is compared byte by byte -/
theorem code_word {y : MethodName} {bytes : ByteArray} {mx : Nat} {rt : Option FieldType} {a : Array Value} {s : State} {m : MethodId} {meth : Method} {c : Code} (h1 : s.methodNamed? y = some m) (h2 : s.vm.method? m = some meth) (h3 : meth.code = some c) (h4 : c.code = bytes)
    (h5 : (c.maxLocals == mx && c.exceptionTable.isEmpty && decide (c.maxStack ≤ mostOperands) && decide (meth.sig.returnType = rt) && !meth.locks && decide (parseMethodDescriptor y.desc = some meth.sig)) = true) : (Jvm.Cond.code y bytes mx rt).before a s = true := by
  simp only [Bool.and_eq_true, beq_iff_eq, Bool.not_eq_true', decide_eq_true_eq] at h5
  obtain ⟨⟨⟨⟨⟨g1, g2⟩, g3⟩, g4⟩, g5⟩, g6⟩ := h5
  simp [Cond.before, Cond.holds, Cond.value, h1, h2, h3, h4, g1, g2, g3, g4, g5, g6]
def isCode : Jvm.Cond → Bool
  | .code _ _ _ _ => true
  | _ => false
theorem all_split {L : List Jvm.Cond} {P : Jvm.Cond → Bool} (h1 : L.all (fun c => isCode c || P c) = true) (h2 : ∀ c ∈ L.filter isCode, P c = true) : L.all P = true := by
  refine List.all_eq_true.mpr fun c hc => ?_
  have h := List.all_eq_true.mp h1 c hc
  rcases Bool.eq_false_or_eq_true (isCode c) with hi | hi
  · exact h2 c (List.mem_filter.mpr ⟨hc, hi⟩)
  · simpa [hi] using h
set_option maxRecDepth 65536 in
theorem w_c0 : (Jvm.Cond.code x code maxLocals ret).before args0 about1 = true := code_word (m := ⟨1, 2⟩) (meth := k1m2) (c := k1c2) (by decide +kernel) rfl rfl rfl (by decide +kernel)
set_option maxRecDepth 65536 in
theorem w_c1 : (Jvm.Cond.code ({ cls := "com/example/lean_route/leanroute/keyed/MessageType", name := "isReserved", desc := "(I)Z" } : Jvm.MethodName) prog_30_method_2_code (1 : Nat) (Option.some Jvm.ClassFile.FieldType.boolean)).before args0 about1 = true := code_word (m := ⟨2, 1⟩) (meth := k2m1) (c := k2c1) (by decide +kernel) rfl rfl rfl (by decide +kernel)
set_option maxRecDepth 65536 in
theorem w_c2 : (Jvm.Cond.code ({ cls := "com/example/lean_route/leanroute/keyed/MessageTypeIsReservedPinLaw", name := "reference", desc := "(I)Z" } : Jvm.MethodName) method_2_code (3 : Nat) (Option.some Jvm.ClassFile.FieldType.boolean)).before args0 about1 = true := code_word (m := ⟨1, 1⟩) (meth := k1m1) (c := k1c1) (by decide +kernel) rfl rfl rfl (by decide +kernel)
def codes1 : List Jvm.Cond := [Jvm.Cond.code x code maxLocals ret, Jvm.Cond.code ({ cls := "com/example/lean_route/leanroute/keyed/MessageType", name := "isReserved", desc := "(I)Z" } : Jvm.MethodName) prog_30_method_2_code (1 : Nat) (Option.some Jvm.ClassFile.FieldType.boolean), Jvm.Cond.code ({ cls := "com/example/lean_route/leanroute/keyed/MessageTypeIsReservedPinLaw", name := "reference", desc := "(I)Z" } : Jvm.MethodName) method_2_code (3 : Nat) (Option.some Jvm.ClassFile.FieldType.boolean)]
set_option maxRecDepth 65536 in
theorem codes_eq : words1.filter isCode = codes1 := rfl
theorem w_codes : ∀ c ∈ words1.filter isCode, c.before args0 about1 = true := by
  rw [codes_eq]
  intro c hc
  simp only [codes1, List.mem_cons, List.not_mem_nil, or_false] at hc
  rcases hc with rfl | rfl | rfl
  · exact w_c0
  · exact w_c1
  · exact w_c2
set_option maxRecDepth 65536 in
theorem w_t1 : words1.all (fun c => isCode c || c.before args0 about1) = true := by decide +kernel
theorem w_tables : (allAtoms (Jvm.Cond.code x code maxLocals ret :: tables_1)).before args0 about1 = true := by
  rw [allAtoms_all]
  show words1.all (fun c => c.before args0 about1) = true
  refine all_split ?_ w_codes
  rw [w_t1]
set_option maxRecDepth 65536 in
theorem w_case : (Jvm.Cond.and given_1 narrow_1).before args0 about1 = true := by decide +kernel
theorem w_applies : (headSpec (Jvm.Cond.code x code maxLocals ret :: tables_1) room_1).applies x e0.platform about1 = true :=
  (Spec.applies_iff w_frames).mpr ⟨w_running, w_runnable, w_alone, w_named, w_hears, w_ripe, w_room, w_tables⟩
theorem atStart : AtStart classFile x code maxLocals ret World_1 tables_1 room_1 Calls_1 rest_1 Pre_1 launch0 p0 e0 about1 theMethod args0 below0 :=
  ⟨lists_1, trivial, launch0.admits_env _ _ _, launch0.least_env, fairChoices_fair.cas, fairChoices_fair.clock, w_frames, w_args, w_heap, w_applies, trivial, trivial, w_case⟩
end start1
theorem witness_1 : WitnessClaimed_1 := ⟨start1.p0, start1.e0, start1.about1, start1.theMethod, start1.args0, start1.below0, start1.atStart⟩
end Jvm.Pilot.@@N@@
