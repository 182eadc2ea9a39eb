import JvmDerived
import JvmDerived.Pilot.@@N@@Statement
import JvmDerived.Pilot.@@N@@Code
set_option linter.unusedVariables false
set_option linter.unusedSimpArgs false
namespace Jvm.Pilot.@@N@@
open Jvm Jvm.ClassFile Sem Op Lib Jvm.Free Jvm.Stand Jvm.LawKit Jvm.RoadKit Bundle Jvm.Pilot.@@N@@.Jvm.D
section OwnKit
variable {p : Program} {l : Launch} {e : Env} {R : Room} {s : State} {m : MethodId} {args : Array Value} {below : List Frame} {meth : Method} {c : Code} {T : State} {cells slots : Nat} {P : State → Outcome → Prop}
variable {Z : State} {a0 : Array Value} {h h0 : Heap} {n0 : Nat} {own nm : String} {bytes : ByteArray} {maxL : Nat} {ret : Option FieldType}
variable {pc pc' : Nat} {Ls : Array Slot} {st : List Value}
/-- from the state U the run comes to an end that P allows -/
def own_Go (p : Program) (e : Env) (below : List Frame) (U : State) (P : State → Outcome → Prop) : Prop := ∃ a o, Steps p.tables e below U a ∧ P a o
theorem own_by {U U' : State} (q : ∀ t, Steps p.tables e below U' t → Steps p.tables e below U t) (G : own_Go p e below U' P) : own_Go p e below U P := by
  obtain ⟨a, o, h1, h2⟩ := G
  exact ⟨a, o, q a h1, h2⟩
/-- what stays the same in one body -/
def own_B (p : Program) (s : State) (m : MethodId) (meth : Method) (c : Code) (Z : State) (own nm : String) (bytes : ByteArray) (maxL : Nat) (ret : Option FieldType) : Prop :=
  p.tables.exec = Jvm.exec ∧ Z.Warmed39 s.vm ∧ c.maxLocals = maxL ∧ s.vm.findClass own = some m.cls ∧ meth.sig.returnType = ret ∧ meth.locks = false ∧ meth.name = nm ∧ c.code = bytes
/-- where the run stands: the state T, its heap h; nothing below n0 has been written -/
def own_S (p : Program) (l : Launch) (e : Env) (R : Room) (s : State) (m : MethodId) (args : Array Value) (below : List Frame) (meth : Method) (c : Code) (n0 : Nat) (T : State) (h : Heap) (cells slots : Nat) : Prop :=
  ∃ locs, Stand p l e R s m args below meth c T locs cells slots ∧ T.heap = h ∧ Fr n0 locs
/-- what a body owes at its end -/
def own_P (s : State) (below : List Frame) (n0 : Nat) (Q : Option Value → Heap → Prop) (k n : Nat) (a : State) (o : Outcome) : Prop :=
  a.status = .running ∧ Ended a below o ∧ ∃ v L, o = .returned v ∧ (Fr n0 L ∧ Q v a.heap) ∧ FrameEnd s o a L k n
theorem own_iload (B : own_B p s m meth c Z own nm bytes maxL ret) (X : own_S p l e R s m args below meth c n0 T h cells slots) {k : Nat} {v : Int32} (d : decode bytes pc = .ok (.iload k, 2)) (hp : pc + 2 = pc') (hl : Ls[k]? = some (.val (.int v)))
    (G : own_Go p e below (T.setTop (mkF m pc' Ls (.int v :: st))) P) : own_Go p e below (T.setTop (mkF m pc Ls (st))) P := by
  obtain ⟨locs, X, -, -⟩ := X
  subst hp
  exact own_by (fun _ => XS.iload X.here B.1 rfl (hb B.2.2.2.2.2.2.2 d) hl) G
theorem own_iloadN (B : own_B p s m meth c Z own nm bytes maxL ret) (X : own_S p l e R s m args below meth c n0 T h cells slots) {k : Fin 4} {v : Int32} (d : decode bytes pc = .ok (.iload_n k, 1)) (hp : pc + 1 = pc') (hl : Ls[k.val]? = some (.val (.int v)))
    (G : own_Go p e below (T.setTop (mkF m pc' Ls (.int v :: st))) P) : own_Go p e below (T.setTop (mkF m pc Ls (st))) P := by
  obtain ⟨locs, X, -, -⟩ := X
  subst hp
  exact own_by (fun _ => XS.iloadN X.here B.1 rfl (hb B.2.2.2.2.2.2.2 d) hl) G
theorem own_istore (B : own_B p s m meth c Z own nm bytes maxL ret) (X : own_S p l e R s m args below meth c n0 T h cells slots) {k : Nat} {v : Int32} {Ls' : Array Slot} (d : decode bytes pc = .ok (.istore k, 2)) (hp : pc + 2 = pc') (hl : storeLocals Ls k (.int v) = some Ls')
    (G : own_Go p e below (T.setTop (mkF m pc' Ls' st)) P) : own_Go p e below (T.setTop (mkF m pc Ls (.int v :: st))) P := by
  obtain ⟨locs, X, -, -⟩ := X
  subst hp
  exact own_by (fun _ => XS.istore X.here B.1 rfl (hb B.2.2.2.2.2.2.2 d) rfl hl) G
theorem own_istoreN (B : own_B p s m meth c Z own nm bytes maxL ret) (X : own_S p l e R s m args below meth c n0 T h cells slots) {k : Fin 4} {v : Int32} {Ls' : Array Slot} (d : decode bytes pc = .ok (.istore_n k, 1)) (hp : pc + 1 = pc') (hl : storeLocals Ls k.val (.int v) = some Ls')
    (G : own_Go p e below (T.setTop (mkF m pc' Ls' st)) P) : own_Go p e below (T.setTop (mkF m pc Ls (.int v :: st))) P := by
  obtain ⟨locs, X, -, -⟩ := X
  subst hp
  exact own_by (fun _ => XS.istoreN X.here B.1 rfl (hb B.2.2.2.2.2.2.2 d) rfl hl) G
theorem own_iconst (B : own_B p s m meth c Z own nm bytes maxL ret) (X : own_S p l e R s m args below meth c n0 T h cells slots) {i : Int} {z : Int32} (d : decode bytes pc = .ok (.iconst i, 1)) (hp : pc + 1 = pc') (hz : Int32.ofInt i = z)
    (G : own_Go p e below (T.setTop (mkF m pc' Ls (.int z :: st))) P) : own_Go p e below (T.setTop (mkF m pc Ls (st))) P := by
  obtain ⟨locs, X, -, -⟩ := X
  subst hp
  subst hz
  exact own_by (fun _ => XS.iconst X.here B.1 rfl (hb B.2.2.2.2.2.2.2 d)) G
theorem own_bipush (B : own_B p s m meth c Z own nm bytes maxL ret) (X : own_S p l e R s m args below meth c n0 T h cells slots) {i : Int} {z : Int32} (d : decode bytes pc = .ok (.bipush i, 2)) (hp : pc + 2 = pc') (hz : (Int8.ofInt i).toInt32 = z)
    (G : own_Go p e below (T.setTop (mkF m pc' Ls (.int z :: st))) P) : own_Go p e below (T.setTop (mkF m pc Ls (st))) P := by
  obtain ⟨locs, X, -, -⟩ := X
  subst hp
  subst hz
  exact own_by (fun _ => XS.bipush X.here B.1 rfl (hb B.2.2.2.2.2.2.2 d)) G
theorem own_sipush (B : own_B p s m meth c Z own nm bytes maxL ret) (X : own_S p l e R s m args below meth c n0 T h cells slots) {i : Int} {z : Int32} (d : decode bytes pc = .ok (.sipush i, 3)) (hp : pc + 3 = pc') (hz : (Int16.ofInt i).toInt32 = z)
    (G : own_Go p e below (T.setTop (mkF m pc' Ls (.int z :: st))) P) : own_Go p e below (T.setTop (mkF m pc Ls (st))) P := by
  obtain ⟨locs, X, -, -⟩ := X
  subst hp
  subst hz
  exact own_by (fun _ => XS.sipush X.here B.1 rfl (hb B.2.2.2.2.2.2.2 d)) G
theorem own_ldcI (B : own_B p s m meth c Z own nm bytes maxL ret) (X : own_S p l e R s m args below meth c n0 T h cells slots) {i : Nat} {z : Int32} (w : (Cond.constant own i z).before a0 Z = true) (d : decode bytes pc = .ok (.ldc i, 2)) (hp : pc + 2 = pc') 
    (G : own_Go p e below (T.setTop (mkF m pc' Ls (.int z :: st))) P) : own_Go p e below (T.setTop (mkF m pc Ls (st))) P := by
  obtain ⟨locs, X, -, -⟩ := X
  subst hp
  exact own_by (fun _ => X.ldcInt B.1 B.2.2.2.1 (mvT B.2.1 w) (g := mkF m pc Ls st) rfl (hb B.2.2.2.2.2.2.2 d) _) G
theorem own_iadd (B : own_B p s m meth c Z own nm bytes maxL ret) (X : own_S p l e R s m args below meth c n0 T h cells slots) {x y z : Int32} (d : decode bytes pc = .ok (.iadd, 1)) (hp : pc + 1 = pc') (hz : x + y = z)
    (G : own_Go p e below (T.setTop (mkF m pc' Ls (.int z :: st))) P) : own_Go p e below (T.setTop (mkF m pc Ls (.int y :: .int x :: st))) P := by
  obtain ⟨locs, X, -, -⟩ := X
  subst hp
  subst hz
  exact own_by (fun _ => XS.iadd X.here B.1 rfl (hb B.2.2.2.2.2.2.2 d) rfl) G
theorem own_iand (B : own_B p s m meth c Z own nm bytes maxL ret) (X : own_S p l e R s m args below meth c n0 T h cells slots) {x y z : Int32} (d : decode bytes pc = .ok (.iand, 1)) (hp : pc + 1 = pc') (hz : x &&& y = z)
    (G : own_Go p e below (T.setTop (mkF m pc' Ls (.int z :: st))) P) : own_Go p e below (T.setTop (mkF m pc Ls (.int y :: .int x :: st))) P := by
  obtain ⟨locs, X, -, -⟩ := X
  subst hp
  subst hz
  exact own_by (fun _ => XS.iand X.here B.1 rfl (hb B.2.2.2.2.2.2.2 d) rfl) G
theorem own_irem (B : own_B p s m meth c Z own nm bytes maxL ret) (X : own_S p l e R s m args below meth c n0 T h cells slots) {x y z : Int32} (d : decode bytes pc = .ok (.irem, 1)) (hp : pc + 1 = pc') (hy : y ≠ 0) (hz : x % y = z)
    (G : own_Go p e below (T.setTop (mkF m pc' Ls (.int z :: st))) P) : own_Go p e below (T.setTop (mkF m pc Ls (.int y :: .int x :: st))) P := by
  obtain ⟨locs, X, -, -⟩ := X
  subst hp
  subst hz
  exact own_by (fun _ => iremM X B.1 rfl (hb B.2.2.2.2.2.2.2 d) rfl hy) G
theorem own_goto (B : own_B p s m meth c Z own nm bytes maxL ret) (X : own_S p l e R s m args below meth c n0 T h cells slots) {o : Int} (d : decode bytes pc = .ok (.goto o, 3)) (ho : 0 ≤ (pc : Int) + o) (hp : ((pc : Int) + o).toNat = pc')
    (G : own_Go p e below (T.setTop (mkF m pc' Ls st)) P) : own_Go p e below (T.setTop (mkF m pc Ls st)) P := by
  obtain ⟨locs, X, -, -⟩ := X
  exact own_by (fun _ => XS.goto X.here B.1 rfl (pc0 := pc) rfl (hb B.2.2.2.2.2.2.2 d) ho hp) G
theorem own_ifYes (B : own_B p s m meth c Z own nm bytes maxL ret) (X : own_S p l e R s m args below meth c n0 T h cells slots) {cd : ClassFile.Cond} {o : Int} {x : Int32} (d : decode bytes pc = .ok (.ifCond cd o, 3)) (hc : ifCond.holds cd x = true) (ho : 0 ≤ (pc : Int) + o) (hp : ((pc : Int) + o).toNat = pc')
    (G : own_Go p e below (T.setTop (mkF m pc' Ls st)) P) : own_Go p e below (T.setTop (mkF m pc Ls (.int x :: st))) P := by
  obtain ⟨locs, X, -, -⟩ := X
  exact own_by (fun _ => XS.ifYes X.here B.1 rfl (pc0 := pc) rfl (hb B.2.2.2.2.2.2.2 d) rfl hc ho hp) G
theorem own_ifNo (B : own_B p s m meth c Z own nm bytes maxL ret) (X : own_S p l e R s m args below meth c n0 T h cells slots) {cd : ClassFile.Cond} {o : Int} {x : Int32} (d : decode bytes pc = .ok (.ifCond cd o, 3)) (hc : ifCond.holds cd x = false) (hp : pc + 3 = pc')
    (G : own_Go p e below (T.setTop (mkF m pc' Ls st)) P) : own_Go p e below (T.setTop (mkF m pc Ls (.int x :: st))) P := by
  obtain ⟨locs, X, -, -⟩ := X
  subst hp
  exact own_by (fun _ => XS.ifNo X.here B.1 rfl (hb B.2.2.2.2.2.2.2 d) rfl hc) G
theorem own_icmpYes (B : own_B p s m meth c Z own nm bytes maxL ret) (X : own_S p l e R s m args below meth c n0 T h cells slots) {cd : ClassFile.Cond} {o : Int} {x y : Int32} (d : decode bytes pc = .ok (.if_icmp cd o, 3)) (hc : if_icmp.holds cd x y = true) (ho : 0 ≤ (pc : Int) + o) (hp : ((pc : Int) + o).toNat = pc')
    (G : own_Go p e below (T.setTop (mkF m pc' Ls st)) P) : own_Go p e below (T.setTop (mkF m pc Ls (.int y :: .int x :: st))) P := by
  obtain ⟨locs, X, -, -⟩ := X
  exact own_by (fun _ => XS.icmpYes X.here B.1 rfl (pc0 := pc) rfl (hb B.2.2.2.2.2.2.2 d) rfl hc ho hp) G
theorem own_icmpNo (B : own_B p s m meth c Z own nm bytes maxL ret) (X : own_S p l e R s m args below meth c n0 T h cells slots) {cd : ClassFile.Cond} {o : Int} {x y : Int32} (d : decode bytes pc = .ok (.if_icmp cd o, 3)) (hc : if_icmp.holds cd x y = false) (hp : pc + 3 = pc')
    (G : own_Go p e below (T.setTop (mkF m pc' Ls st)) P) : own_Go p e below (T.setTop (mkF m pc Ls (.int y :: .int x :: st))) P := by
  obtain ⟨locs, X, -, -⟩ := X
  subst hp
  exact own_by (fun _ => XS.icmpNo X.here B.1 rfl (hb B.2.2.2.2.2.2.2 d) rfl hc) G
theorem own_retN {t : FieldType} (B : own_B p s m meth c Z own nm bytes maxL (some t)) (X : own_S p l e R s m args below meth c n0 T h cells slots) {Q : Option Value → Heap → Prop} {k n : Nat} {z z' : Int32} (ht : t = .boolean ∨ t = .byte ∨ t = .char ∨ t = .short) (hz : nar t z = z') (d : decode bytes pc = .ok (.ireturn, 1)) (hk : cells ≤ k) (hn : slots ≤ n) (hq : Q (some (.int z')) h) : own_Go p e below (T.setTop (mkF m pc Ls (.int z :: st))) (own_P s below n0 Q k n) := by
  subst hz
  obtain ⟨locs, X, eT, N0⟩ := X
  obtain ⟨fs, hr, hrun, hended, hW, hsame⟩ := X.leave (v := (some (.int (nar t z)))) (fun h => by rw [B.2.2.2.2.1] at h; cases h) B.2.2.2.2.2.1
  exact ⟨_, _, retN X B.1 B.2.2.2.2.1 ht (hb B.2.2.2.2.2.2.2 d) hr, hrun, hended, _, _, rfl, ⟨N0, by show Q _ T.heap; rw [eT]; exact hq⟩, ⟨_, rfl⟩, hW, hsame.mono hk hn⟩
theorem own_enter {y : MethodName} {rm : Room} {ws : List Jvm.Cond} {as' : Array Value} {Q : Option Value → Heap → Prop} {F : MethodId → JFrame} (hpl : plainFor y = true) (hF : ∀ m, entryFrame m as' maxL = F m)
    (body : ∀ p e s m below meth c s₁, own_B p s m meth c Z y.cls y.name bytes maxL ret → own_S p l e rm s m as' below meth c n0 s₁ h0 0 0 → own_Go p e below (s₁.setTop (F m)) (own_P s below n0 Q rm.cells rm.slots)) :
    MetFree l y (head1 (Jvm.Cond.code y bytes maxL ret :: ws) rm) (fun a U => a = as' ∧ Z.Warmed39 U.vm ∧ U.heap = h0) (fun _ _ _ _ _ => True) (fun _ U o U' => ∃ v L, o = .returned v ∧ (Fr n0 L ∧ Q v U'.heap) ∧ FrameEnd U o U' L rm.cells rm.slots) := by
  refine MetFree.of_bodySF hpl hisR ?_
  intro p e s m args below meth c s₁ Bd hml0 hP hK
  obtain ⟨rfl, hZ, hh⟩ := hP
  have e0 : s₁.heap = h0 := by rw [← hh, Bd.state]; rfl
  have nm := (name_of_methodNamed Bd.named Bd.method).1
  obtain ⟨a, o, h1, h2⟩ := body p e s m below meth c s₁ ⟨Bd.exec, hZ, hml0, findClass_of_methodNamed Bd.named, Bd.returns, Bd.notSynchronized, nm, Bd.bytes⟩ ⟨[], Stand.of_body Bd, e0, Fr.nil n0⟩
  exact ⟨a, o, castTop (hF m) h1, h2⟩
theorem own_callS (B : own_B p s m meth c Z own nm bytes maxL ret) (X : own_S p l e R s m args below meth c n0 T h cells slots) {i : Nat} {y : MethodName} {yb : ByteArray} {yl : Nat} {yr : Option FieldType} (w1 : (Cond.methodLink own i y).before a0 Z = true) (w2 : (Cond.static y).before a0 Z = true) (w3 : (Cond.initialized y.cls).before a0 Z = true) (w4 : (Cond.code y yb yl yr).before a0 Z = true) (hy : y.cls ≠ "java/lang/invoke/MethodHandle" ∧ y.cls ≠ "java/lang/invoke/VarHandle") {rm : Room} {Q : Option Value → Heap → Prop} (argsL rest : List Value)
    (hM : MetFree l y (head1 [Jvm.Cond.code y yb yl yr] rm) (fun b U => b = argsL.toArray ∧ Z.Warmed39 U.vm ∧ U.heap = h) (fun _ _ _ _ _ => True) (fun _ U o U' => ∃ v L, o = .returned v ∧ (Fr n0 L ∧ Q v U'.heap) ∧ FrameEnd U o U' L rm.cells rm.slots))
    (W : Nat) (hf : rm.frames + 1 ≤ R.frames) (hl : W + (yl + 11) + rm.locals ≤ R.locals) (hsz : Ls.size = maxL) {ps : List FieldType} {rt : Option FieldType} (hpd : parseMethodDescriptor y.desc = some ⟨ps, rt⟩) (hln : argsL.length = ps.length) (hst : st = argsL.reverse ++ rest) (hW : (rest.map fun v => v.category).sum ≤ W) (d : decode bytes pc = .ok (.invokestatic i, 3)) (hp : pc + 3 = pc') {k' n' : Nat} (hk : cells + rm.cells = k') (hn : slots + rm.slots = n') (hkR : k' ≤ R.cells) (hnR : n' ≤ R.slots)
    (G : ∀ T' v h', own_S p l e R s m args below meth c n0 T' h' k' n' → Q v h' → own_Go p e below (T'.setTop (mkF m pc' Ls (v.toList ++ rest))) P) : own_Go p e below (T.setTop (mkF m pc Ls st)) P := by
  obtain ⟨locs, X, eT, N0⟩ := X
  subst hp hk hn
  have bk := backOf (p := p) (e := e) (below := below) (args := args) (len := 3) (W := W) (Q := fun v h' L => Fr n0 L ∧ Q v h') hM B.2.1 w4 w3 hf hl
  obtain ⟨v, vm₁, ⟨T', L', k1, n1⟩, hW1, X', ⟨Lc, hQ, l1, y1, z1⟩, stp⟩ := Jvm.LawKit.callS X B.1 (y := y) B.2.2.2.1 (mvT B.2.1 w1) (mvT B.2.1 w2) (mvT B.2.1 w3) (mvT B.2.1 w4) hy bk (g := mkF m pc Ls st) rfl (by rw [B.2.2.1]; exact hsz) (argsL := argsL) (rest := rest) (lenOf hpd hln) hst (by show 2 * 0 + _ ≤ _; omega) (hb B.2.2.2.2.2.2.2 d) (fun _ _ => ⟨rfl, eT, hkR, hnR⟩)
  dsimp only [Pt.U, Pt.locs, Pt.cells, Pt.slots] at X' l1 y1 z1 stp hQ
  subst l1 y1 z1
  exact own_by stp (G T' v _ ⟨_, X', rfl, N0.app hQ.1⟩ hQ.2)
end OwnKit
section OwnNum
theorem own_w {a0 : Array Value} {Z : State} (hw : ∀ d ∈ tables_1, d.before a0 Z = true) (i : Nat) {d : Jvm.Cond} (hd : tables_1[i]? = some d) : d.before a0 Z = true := hw _ (List.mem_of_getElem? hd)
theorem own_lt {x y : Int32} (h : x < y) : x.toInt < y.toInt := Int32.lt_iff_toInt_lt.mp h
theorem own_nlt {x y : Int32} (h : ¬ x < y) : ¬ x.toInt < y.toInt := fun q => h (Int32.lt_iff_toInt_lt.mpr q)
theorem own_eq {x y : Int32} (h : x = y) : x.toInt = y.toInt := congrArg Int32.toInt h
theorem own_neq {x y : Int32} (h : ¬ x = y) : ¬ x.toInt = y.toInt := fun q => h (Int32.toInt_inj.mp q)
theorem own_ltI {x y : Int32} (h : x.toInt < y.toInt) : x < y := Int32.lt_iff_toInt_lt.mpr h
theorem own_nltI {x y : Int32} (h : ¬ x.toInt < y.toInt) : ¬ x < y := fun q => h (Int32.lt_iff_toInt_lt.mp q)
theorem own_o_iadd {x y z : Int32} (h : x + y = z) : (z.toInt - (x.toInt + y.toInt)) % 4294967296 = 0 := h ▸ c_iadd x y
theorem own_o_mask {x m z : Int32} (h : x &&& m = z) (k : Nat) (hk : k ≤ 31) (hm : m.toBitVec.toNat = 2 ^ k - 1) : z.toInt = x.toInt % (2 ^ k : Nat) := h ▸ c_mask x m k hk hm
theorem own_o_irem {x y z : Int32} (h : x % y = z) (d : Int) (hy : y.toInt = d) : (0 ≤ x.toInt → z.toInt = x.toInt % d) ∧ (x.toInt < 0 → z.toInt = -((-x.toInt) % d)) := h ▸ c_irem x y d hy
end OwnNum

theorem d1_0 : decode prog_38_method_2_code 0 = .ok (.iload_n 0, 1) := by decide +kernel
theorem d1_1 : decode prog_38_method_2_code 1 = .ok (.sipush 1000, 3) := by decide +kernel
theorem d1_4 : decode prog_38_method_2_code 4 = .ok (.if_icmp .lt 10, 3) := by decide +kernel
theorem d1_14 : decode prog_38_method_2_code 14 = .ok (.iload_n 0, 1) := by decide +kernel
theorem d1_15 : decode prog_38_method_2_code 15 = .ok (.sipush 1007, 3) := by decide +kernel
theorem d1_18 : decode prog_38_method_2_code 18 = .ok (.if_icmp .lt 10, 3) := by decide +kernel
theorem d1_28 : decode prog_38_method_2_code 28 = .ok (.iload_n 0, 1) := by decide +kernel
theorem d1_29 : decode prog_38_method_2_code 29 = .ok (.sipush 3000, 3) := by decide +kernel
theorem d1_32 : decode prog_38_method_2_code 32 = .ok (.if_icmp .lt 14, 3) := by decide +kernel
theorem d1_46 : decode prog_38_method_2_code 46 = .ok (.iconst 0, 1) := by decide +kernel
theorem d1_47 : decode prog_38_method_2_code 47 = .ok (.ireturn, 1) := by decide +kernel
theorem d1_7 : decode prog_38_method_2_code 7 = .ok (.iload_n 0, 1) := by decide +kernel
theorem d1_8 : decode prog_38_method_2_code 8 = .ok (.sipush 1003, 3) := by decide +kernel
theorem d1_11 : decode prog_38_method_2_code 11 = .ok (.if_icmp .le 31, 3) := by decide +kernel
theorem d1_21 : decode prog_38_method_2_code 21 = .ok (.iload_n 0, 1) := by decide +kernel
theorem d1_22 : decode prog_38_method_2_code 22 = .ok (.sipush 1014, 3) := by decide +kernel
theorem d1_25 : decode prog_38_method_2_code 25 = .ok (.if_icmp .le 17, 3) := by decide +kernel
theorem d1_35 : decode prog_38_method_2_code 35 = .ok (.iload_n 0, 1) := by decide +kernel
theorem d1_36 : decode prog_38_method_2_code 36 = .ok (.sipush 4999, 3) := by decide +kernel
theorem d1_39 : decode prog_38_method_2_code 39 = .ok (.if_icmp .gt 7, 3) := by decide +kernel
theorem d1_42 : decode prog_38_method_2_code 42 = .ok (.iconst 1, 1) := by decide +kernel
theorem d1_43 : decode prog_38_method_2_code 43 = .ok (.goto 4, 3) := by decide +kernel
theorem pn_0 : plainName "com/example/octet/octet/server/websocket/WebSocketCodes" = true := by first | (simp [plainName, overriddenIn]; done) | decide +kernel
theorem pd_0 : parseMethodDescriptor "(I)Z" = some ⟨[.int], some .boolean⟩ := by decide +kernel
theorem d2_0 : decode method_2_code 0 = .ok (.iload_n 0, 1) := by decide +kernel
theorem d2_1 : decode method_2_code 1 = .ok (.sipush 3000, 3) := by decide +kernel
theorem d2_4 : decode method_2_code 4 = .ok (.if_icmp .lt 12, 3) := by decide +kernel
theorem d2_16 : decode method_2_code 16 = .ok (.iload_n 0, 1) := by decide +kernel
theorem d2_17 : decode method_2_code 17 = .ok (.sipush 1000, 3) := by decide +kernel
theorem d2_20 : decode method_2_code 20 = .ok (.if_icmp .lt 10, 3) := by decide +kernel
theorem d2_30 : decode method_2_code 30 = .ok (.iconst 0, 1) := by decide +kernel
theorem d2_31 : decode method_2_code 31 = .ok (.ireturn, 1) := by decide +kernel
theorem d2_23 : decode method_2_code 23 = .ok (.iload_n 0, 1) := by decide +kernel
theorem d2_24 : decode method_2_code 24 = .ok (.sipush 1014, 3) := by decide +kernel
theorem d2_27 : decode method_2_code 27 = .ok (.if_icmp .le 5, 3) := by decide +kernel
theorem d2_32 : decode method_2_code 32 = .ok (.iload_n 0, 1) := by decide +kernel
theorem d2_33 : decode method_2_code 33 = .ok (.sipush 1004, 3) := by decide +kernel
theorem d2_36 : decode method_2_code 36 = .ok (.if_icmp .eq 21, 3) := by decide +kernel
theorem d2_57 : decode method_2_code 57 = .ok (.iconst 0, 1) := by decide +kernel
theorem d2_58 : decode method_2_code 58 = .ok (.ireturn, 1) := by decide +kernel
theorem d2_39 : decode method_2_code 39 = .ok (.iload_n 0, 1) := by decide +kernel
theorem d2_40 : decode method_2_code 40 = .ok (.sipush 1005, 3) := by decide +kernel
theorem d2_43 : decode method_2_code 43 = .ok (.if_icmp .eq 14, 3) := by decide +kernel
theorem d2_46 : decode method_2_code 46 = .ok (.iload_n 0, 1) := by decide +kernel
theorem d2_47 : decode method_2_code 47 = .ok (.sipush 1006, 3) := by decide +kernel
theorem d2_50 : decode method_2_code 50 = .ok (.if_icmp .eq 7, 3) := by decide +kernel
theorem d2_53 : decode method_2_code 53 = .ok (.iconst 1, 1) := by decide +kernel
theorem d2_54 : decode method_2_code 54 = .ok (.goto 4, 3) := by decide +kernel
theorem d2_7 : decode method_2_code 7 = .ok (.iload_n 0, 1) := by decide +kernel
theorem d2_8 : decode method_2_code 8 = .ok (.sipush 5000, 3) := by decide +kernel
theorem d2_11 : decode method_2_code 11 = .ok (.if_icmp .ge 5, 3) := by decide +kernel
theorem d2_14 : decode method_2_code 14 = .ok (.iconst 1, 1) := by decide +kernel
theorem d2_15 : decode method_2_code 15 = .ok (.ireturn, 1) := by decide +kernel
theorem pn_1 : plainName "com/example/octet/octet/server/websocket/WebSocketCodesIsSendablePinLaw" = true := by first | (simp [plainName, overriddenIn]; done) | decide +kernel
def Q_1 (Z : State) (p0 : Int32) (h0 : Heap) (n0 : Nat) (v : Option Value) (h : Heap) : Prop :=
  (p0 < (1000 : Int32) ∧ p0 < (1007 : Int32) ∧ p0 < (3000 : Int32) ∧ v = some (.int (0 : Int32)) ∧ h0 = h) ∨
  (¬ (p0 < (1000 : Int32)) ∧ (1003 : Int32) < p0 ∧ p0 < (1007 : Int32) ∧ p0 < (3000 : Int32) ∧ v = some (.int (0 : Int32)) ∧ h0 = h) ∨
  (¬ (p0 < (1000 : Int32)) ∧ (1003 : Int32) < p0 ∧ ¬ (p0 < (1007 : Int32)) ∧ (1014 : Int32) < p0 ∧ p0 < (3000 : Int32) ∧ v = some (.int (0 : Int32)) ∧ h0 = h) ∨
  (¬ (p0 < (1000 : Int32)) ∧ (1003 : Int32) < p0 ∧ ¬ (p0 < (1007 : Int32)) ∧ (1014 : Int32) < p0 ∧ ¬ (p0 < (3000 : Int32)) ∧ (4999 : Int32) < p0 ∧ v = some (.int (0 : Int32)) ∧ h0 = h) ∨
  (¬ (p0 < (1000 : Int32)) ∧ (1003 : Int32) < p0 ∧ ¬ (p0 < (1007 : Int32)) ∧ (1014 : Int32) < p0 ∧ ¬ (p0 < (3000 : Int32)) ∧ ¬ ((4999 : Int32) < p0) ∧ v = some (.int (1 : Int32)) ∧ h0 = h) ∨
  (¬ (p0 < (1000 : Int32)) ∧ (1003 : Int32) < p0 ∧ ¬ (p0 < (1007 : Int32)) ∧ ¬ ((1014 : Int32) < p0) ∧ v = some (.int (1 : Int32)) ∧ h0 = h) ∨
  (¬ (p0 < (1000 : Int32)) ∧ ¬ ((1003 : Int32) < p0) ∧ v = some (.int (1 : Int32)) ∧ h0 = h)
set_option maxRecDepth 65536 in
set_option maxHeartbeats 40000000 in
theorem rm_1 (l : Launch) (Z : State) (a0 : Array Value) (hw : ∀ d ∈ tables_1, d.before a0 Z = true) (ws : List Jvm.Cond) (p0 : Int32) (h0 : Heap) (n0 : Nat) (Z0 : n0 ≤ h0.size)  :
    MetFree l (⟨"com/example/octet/octet/server/websocket/WebSocketCodes", "isSendable", "(I)Z"⟩ : MethodName) (head1 (Jvm.Cond.code (⟨"com/example/octet/octet/server/websocket/WebSocketCodes", "isSendable", "(I)Z"⟩ : MethodName) prog_38_method_2_code 1 (some .boolean) :: ws) ({ frames := 0, cells := 0, slots := 0, locals := 0 } : Room)) (fun a U => a = #[(.int p0)] ∧ Z.Warmed39 U.vm ∧ U.heap = h0) (fun _ _ _ _ _ => True) (fun _ U o U' => ∃ v L, o = .returned v ∧ (Fr n0 L ∧ Q_1 Z p0 h0 n0 v U'.heap) ∧ FrameEnd U o U' L ({ frames := 0, cells := 0, slots := 0, locals := 0 } : Room).cells ({ frames := 0, cells := 0, slots := 0, locals := 0 } : Room).slots) := by
  refine own_enter (Q := Q_1 Z p0 h0 n0) (F := fun m => mkF m 0 #[.val (.int p0)] []) (plainFor_of_name pn_0) (fun m => by first | (simp [entryFrame, mkF, argsToLocals, Value.category]; done) | rfl) ?_
  intro p e s m below meth c s₁ B X0
  have K : Keep h0 h0 [] := Keep.refl h0 _
  refine own_iloadN (pc' := 1) B X0 d1_0 rfl rfl ?_
  refine own_sipush (pc' := 4) B X0 (z := (1000 : Int32)) d1_1 rfl (by decide) ?_
  by_cases c1 : p0 < (1000 : Int32)
  · refine own_icmpYes (pc' := 14) B X0 d1_4 (tlt c1).1 (by decide) rfl ?_
    refine own_iloadN (pc' := 15) B X0 d1_14 rfl rfl ?_
    refine own_sipush (pc' := 18) B X0 (z := (1007 : Int32)) d1_15 rfl (by decide) ?_
    have c2 : p0 < (1007 : Int32) := by
      have o0 := own_lt c1
      have o1 := rng32 p0
      have o2 : (1000 : Int32).toInt = 1000 := by decide
      have o3 : (1007 : Int32).toInt = 1007 := by decide
      refine own_ltI ?_
      omega
    refine own_icmpYes (pc' := 28) B X0 d1_18 (tlt c2).1 (by decide) rfl ?_
    refine own_iloadN (pc' := 29) B X0 d1_28 rfl rfl ?_
    refine own_sipush (pc' := 32) B X0 (z := (3000 : Int32)) d1_29 rfl (by decide) ?_
    have c3 : p0 < (3000 : Int32) := by
      have o0 := own_lt c1
      have o1 := own_lt c2
      have o2 := rng32 p0
      have o3 : (1000 : Int32).toInt = 1000 := by decide
      have o4 : (1007 : Int32).toInt = 1007 := by decide
      have o5 : (3000 : Int32).toInt = 3000 := by decide
      refine own_ltI ?_
      omega
    refine own_icmpYes (pc' := 46) B X0 d1_32 (tlt c3).1 (by decide) rfl ?_
    refine own_iconst (pc' := 47) B X0 (z := (0 : Int32)) d1_46 rfl rfl ?_
    exact own_retN B X0 (t := .boolean) (z' := (0 : Int32)) (by simp) (by decide) d1_47 (by decide) (by decide) (Or.inl ⟨c1, c2, c3, rfl, rfl⟩)
  · refine own_icmpNo (pc' := 7) B X0 d1_4 (flt c1).1 rfl ?_
    refine own_iloadN (pc' := 8) B X0 d1_7 rfl rfl ?_
    refine own_sipush (pc' := 11) B X0 (z := (1003 : Int32)) d1_8 rfl (by decide) ?_
    by_cases c4 : (1003 : Int32) < p0
    · refine own_icmpNo (pc' := 14) B X0 d1_11 (tlt c4).2.2.2 rfl ?_
      refine own_iloadN (pc' := 15) B X0 d1_14 rfl rfl ?_
      refine own_sipush (pc' := 18) B X0 (z := (1007 : Int32)) d1_15 rfl (by decide) ?_
      by_cases c5 : p0 < (1007 : Int32)
      · refine own_icmpYes (pc' := 28) B X0 d1_18 (tlt c5).1 (by decide) rfl ?_
        refine own_iloadN (pc' := 29) B X0 d1_28 rfl rfl ?_
        refine own_sipush (pc' := 32) B X0 (z := (3000 : Int32)) d1_29 rfl (by decide) ?_
        have c6 : p0 < (3000 : Int32) := by
          have o0 := own_nlt c1
          have o1 := own_lt c4
          have o2 := own_lt c5
          have o3 := rng32 p0
          have o4 : (1000 : Int32).toInt = 1000 := by decide
          have o5 : (1003 : Int32).toInt = 1003 := by decide
          have o6 : (1007 : Int32).toInt = 1007 := by decide
          have o7 : (3000 : Int32).toInt = 3000 := by decide
          refine own_ltI ?_
          omega
        refine own_icmpYes (pc' := 46) B X0 d1_32 (tlt c6).1 (by decide) rfl ?_
        refine own_iconst (pc' := 47) B X0 (z := (0 : Int32)) d1_46 rfl rfl ?_
        exact own_retN B X0 (t := .boolean) (z' := (0 : Int32)) (by simp) (by decide) d1_47 (by decide) (by decide) (Or.inr (Or.inl ⟨c1, c4, c5, c6, rfl, rfl⟩))
      · refine own_icmpNo (pc' := 21) B X0 d1_18 (flt c5).1 rfl ?_
        refine own_iloadN (pc' := 22) B X0 d1_21 rfl rfl ?_
        refine own_sipush (pc' := 25) B X0 (z := (1014 : Int32)) d1_22 rfl (by decide) ?_
        by_cases c7 : (1014 : Int32) < p0
        · refine own_icmpNo (pc' := 28) B X0 d1_25 (tlt c7).2.2.2 rfl ?_
          refine own_iloadN (pc' := 29) B X0 d1_28 rfl rfl ?_
          refine own_sipush (pc' := 32) B X0 (z := (3000 : Int32)) d1_29 rfl (by decide) ?_
          by_cases c8 : p0 < (3000 : Int32)
          · refine own_icmpYes (pc' := 46) B X0 d1_32 (tlt c8).1 (by decide) rfl ?_
            refine own_iconst (pc' := 47) B X0 (z := (0 : Int32)) d1_46 rfl rfl ?_
            exact own_retN B X0 (t := .boolean) (z' := (0 : Int32)) (by simp) (by decide) d1_47 (by decide) (by decide) (Or.inr (Or.inr (Or.inl ⟨c1, c4, c5, c7, c8, rfl, rfl⟩)))
          · refine own_icmpNo (pc' := 35) B X0 d1_32 (flt c8).1 rfl ?_
            refine own_iloadN (pc' := 36) B X0 d1_35 rfl rfl ?_
            refine own_sipush (pc' := 39) B X0 (z := (4999 : Int32)) d1_36 rfl (by decide) ?_
            by_cases c9 : (4999 : Int32) < p0
            · refine own_icmpYes (pc' := 46) B X0 d1_39 (tlt c9).2.2.1 (by decide) rfl ?_
              refine own_iconst (pc' := 47) B X0 (z := (0 : Int32)) d1_46 rfl rfl ?_
              exact own_retN B X0 (t := .boolean) (z' := (0 : Int32)) (by simp) (by decide) d1_47 (by decide) (by decide) (Or.inr (Or.inr (Or.inr (Or.inl ⟨c1, c4, c5, c7, c8, c9, rfl, rfl⟩))))
            · refine own_icmpNo (pc' := 42) B X0 d1_39 (flt c9).2.2.1 rfl ?_
              refine own_iconst (pc' := 43) B X0 (z := (1 : Int32)) d1_42 rfl rfl ?_
              refine own_goto (pc' := 47) B X0 d1_43 (by decide) rfl ?_
              exact own_retN B X0 (t := .boolean) (z' := (1 : Int32)) (by simp) (by decide) d1_47 (by decide) (by decide) (Or.inr (Or.inr (Or.inr (Or.inr (Or.inl ⟨c1, c4, c5, c7, c8, c9, rfl, rfl⟩)))))
        · refine own_icmpYes (pc' := 42) B X0 d1_25 (flt c7).2.2.2 (by decide) rfl ?_
          refine own_iconst (pc' := 43) B X0 (z := (1 : Int32)) d1_42 rfl rfl ?_
          refine own_goto (pc' := 47) B X0 d1_43 (by decide) rfl ?_
          exact own_retN B X0 (t := .boolean) (z' := (1 : Int32)) (by simp) (by decide) d1_47 (by decide) (by decide) (Or.inr (Or.inr (Or.inr (Or.inr (Or.inr (Or.inl ⟨c1, c4, c5, c7, rfl, rfl⟩))))))
    · refine own_icmpYes (pc' := 42) B X0 d1_11 (flt c4).2.2.2 (by decide) rfl ?_
      refine own_iconst (pc' := 43) B X0 (z := (1 : Int32)) d1_42 rfl rfl ?_
      refine own_goto (pc' := 47) B X0 d1_43 (by decide) rfl ?_
      exact own_retN B X0 (t := .boolean) (z' := (1 : Int32)) (by simp) (by decide) d1_47 (by decide) (by decide) (Or.inr (Or.inr (Or.inr (Or.inr (Or.inr (Or.inr (⟨c1, c4, rfl, rfl⟩)))))))
def Q_2 (Z : State) (p0 : Int32) (h0 : Heap) (n0 : Nat) (v : Option Value) (h : Heap) : Prop :=
  (p0 < (3000 : Int32) ∧ p0 < (1000 : Int32) ∧ v = some (.int (0 : Int32)) ∧ h0 = h) ∨
  (p0 < (3000 : Int32) ∧ ¬ (p0 < (1000 : Int32)) ∧ (1014 : Int32) < p0 ∧ v = some (.int (0 : Int32)) ∧ h0 = h) ∨
  (p0 < (3000 : Int32) ∧ ¬ (p0 < (1000 : Int32)) ∧ ¬ ((1014 : Int32) < p0) ∧ p0 = (1004 : Int32) ∧ v = some (.int (0 : Int32)) ∧ h0 = h) ∨
  (p0 < (3000 : Int32) ∧ ¬ (p0 < (1000 : Int32)) ∧ ¬ ((1014 : Int32) < p0) ∧ ¬ (p0 = (1004 : Int32)) ∧ p0 = (1005 : Int32) ∧ v = some (.int (0 : Int32)) ∧ h0 = h) ∨
  (p0 < (3000 : Int32) ∧ ¬ (p0 < (1000 : Int32)) ∧ ¬ ((1014 : Int32) < p0) ∧ ¬ (p0 = (1004 : Int32)) ∧ ¬ (p0 = (1005 : Int32)) ∧ p0 = (1006 : Int32) ∧ v = some (.int (0 : Int32)) ∧ h0 = h) ∨
  (p0 < (3000 : Int32) ∧ ¬ (p0 < (1000 : Int32)) ∧ ¬ ((1014 : Int32) < p0) ∧ ¬ (p0 = (1004 : Int32)) ∧ ¬ (p0 = (1005 : Int32)) ∧ ¬ (p0 = (1006 : Int32)) ∧ v = some (.int (1 : Int32)) ∧ h0 = h) ∨
  (¬ (p0 < (3000 : Int32)) ∧ p0 < (5000 : Int32) ∧ v = some (.int (1 : Int32)) ∧ h0 = h) ∨
  (¬ (p0 < (3000 : Int32)) ∧ ¬ (p0 < (5000 : Int32)) ∧ ¬ (p0 < (1000 : Int32)) ∧ (1014 : Int32) < p0 ∧ v = some (.int (0 : Int32)) ∧ h0 = h)
set_option maxRecDepth 65536 in
set_option maxHeartbeats 40000000 in
theorem rm_2 (l : Launch) (Z : State) (a0 : Array Value) (hw : ∀ d ∈ tables_1, d.before a0 Z = true) (ws : List Jvm.Cond) (p0 : Int32) (h0 : Heap) (n0 : Nat) (Z0 : n0 ≤ h0.size)  :
    MetFree l (⟨"com/example/octet/octet/server/websocket/WebSocketCodesIsSendablePinLaw", "ref", "(I)Z"⟩ : MethodName) (head1 (Jvm.Cond.code (⟨"com/example/octet/octet/server/websocket/WebSocketCodesIsSendablePinLaw", "ref", "(I)Z"⟩ : MethodName) method_2_code 1 (some .boolean) :: ws) ({ frames := 0, cells := 0, slots := 0, locals := 0 } : Room)) (fun a U => a = #[(.int p0)] ∧ Z.Warmed39 U.vm ∧ U.heap = h0) (fun _ _ _ _ _ => True) (fun _ U o U' => ∃ v L, o = .returned v ∧ (Fr n0 L ∧ Q_2 Z p0 h0 n0 v U'.heap) ∧ FrameEnd U o U' L ({ frames := 0, cells := 0, slots := 0, locals := 0 } : Room).cells ({ frames := 0, cells := 0, slots := 0, locals := 0 } : Room).slots) := by
  refine own_enter (Q := Q_2 Z p0 h0 n0) (F := fun m => mkF m 0 #[.val (.int p0)] []) (plainFor_of_name pn_1) (fun m => by first | (simp [entryFrame, mkF, argsToLocals, Value.category]; done) | rfl) ?_
  intro p e s m below meth c s₁ B X0
  have K : Keep h0 h0 [] := Keep.refl h0 _
  refine own_iloadN (pc' := 1) B X0 d2_0 rfl rfl ?_
  refine own_sipush (pc' := 4) B X0 (z := (3000 : Int32)) d2_1 rfl (by decide) ?_
  by_cases c1 : p0 < (3000 : Int32)
  · refine own_icmpYes (pc' := 16) B X0 d2_4 (tlt c1).1 (by decide) rfl ?_
    refine own_iloadN (pc' := 17) B X0 d2_16 rfl rfl ?_
    refine own_sipush (pc' := 20) B X0 (z := (1000 : Int32)) d2_17 rfl (by decide) ?_
    by_cases c2 : p0 < (1000 : Int32)
    · refine own_icmpYes (pc' := 30) B X0 d2_20 (tlt c2).1 (by decide) rfl ?_
      refine own_iconst (pc' := 31) B X0 (z := (0 : Int32)) d2_30 rfl rfl ?_
      exact own_retN B X0 (t := .boolean) (z' := (0 : Int32)) (by simp) (by decide) d2_31 (by decide) (by decide) (Or.inl ⟨c1, c2, rfl, rfl⟩)
    · refine own_icmpNo (pc' := 23) B X0 d2_20 (flt c2).1 rfl ?_
      refine own_iloadN (pc' := 24) B X0 d2_23 rfl rfl ?_
      refine own_sipush (pc' := 27) B X0 (z := (1014 : Int32)) d2_24 rfl (by decide) ?_
      by_cases c3 : (1014 : Int32) < p0
      · refine own_icmpNo (pc' := 30) B X0 d2_27 (tlt c3).2.2.2 rfl ?_
        refine own_iconst (pc' := 31) B X0 (z := (0 : Int32)) d2_30 rfl rfl ?_
        exact own_retN B X0 (t := .boolean) (z' := (0 : Int32)) (by simp) (by decide) d2_31 (by decide) (by decide) (Or.inr (Or.inl ⟨c1, c2, c3, rfl, rfl⟩))
      · refine own_icmpYes (pc' := 32) B X0 d2_27 (flt c3).2.2.2 (by decide) rfl ?_
        refine own_iloadN (pc' := 33) B X0 d2_32 rfl rfl ?_
        refine own_sipush (pc' := 36) B X0 (z := (1004 : Int32)) d2_33 rfl (by decide) ?_
        by_cases c4 : p0 = (1004 : Int32)
        · refine own_icmpYes (pc' := 57) B X0 d2_36 (teq c4).1 (by decide) rfl ?_
          refine own_iconst (pc' := 58) B X0 (z := (0 : Int32)) d2_57 rfl rfl ?_
          exact own_retN B X0 (t := .boolean) (z' := (0 : Int32)) (by simp) (by decide) d2_58 (by decide) (by decide) (Or.inr (Or.inr (Or.inl ⟨c1, c2, c3, c4, rfl, rfl⟩)))
        · refine own_icmpNo (pc' := 39) B X0 d2_36 (feq c4).1 rfl ?_
          refine own_iloadN (pc' := 40) B X0 d2_39 rfl rfl ?_
          refine own_sipush (pc' := 43) B X0 (z := (1005 : Int32)) d2_40 rfl (by decide) ?_
          by_cases c5 : p0 = (1005 : Int32)
          · refine own_icmpYes (pc' := 57) B X0 d2_43 (teq c5).1 (by decide) rfl ?_
            refine own_iconst (pc' := 58) B X0 (z := (0 : Int32)) d2_57 rfl rfl ?_
            exact own_retN B X0 (t := .boolean) (z' := (0 : Int32)) (by simp) (by decide) d2_58 (by decide) (by decide) (Or.inr (Or.inr (Or.inr (Or.inl ⟨c1, c2, c3, c4, c5, rfl, rfl⟩))))
          · refine own_icmpNo (pc' := 46) B X0 d2_43 (feq c5).1 rfl ?_
            refine own_iloadN (pc' := 47) B X0 d2_46 rfl rfl ?_
            refine own_sipush (pc' := 50) B X0 (z := (1006 : Int32)) d2_47 rfl (by decide) ?_
            by_cases c6 : p0 = (1006 : Int32)
            · refine own_icmpYes (pc' := 57) B X0 d2_50 (teq c6).1 (by decide) rfl ?_
              refine own_iconst (pc' := 58) B X0 (z := (0 : Int32)) d2_57 rfl rfl ?_
              exact own_retN B X0 (t := .boolean) (z' := (0 : Int32)) (by simp) (by decide) d2_58 (by decide) (by decide) (Or.inr (Or.inr (Or.inr (Or.inr (Or.inl ⟨c1, c2, c3, c4, c5, c6, rfl, rfl⟩)))))
            · refine own_icmpNo (pc' := 53) B X0 d2_50 (feq c6).1 rfl ?_
              refine own_iconst (pc' := 54) B X0 (z := (1 : Int32)) d2_53 rfl rfl ?_
              refine own_goto (pc' := 58) B X0 d2_54 (by decide) rfl ?_
              exact own_retN B X0 (t := .boolean) (z' := (1 : Int32)) (by simp) (by decide) d2_58 (by decide) (by decide) (Or.inr (Or.inr (Or.inr (Or.inr (Or.inr (Or.inl ⟨c1, c2, c3, c4, c5, c6, rfl, rfl⟩))))))
  · refine own_icmpNo (pc' := 7) B X0 d2_4 (flt c1).1 rfl ?_
    refine own_iloadN (pc' := 8) B X0 d2_7 rfl rfl ?_
    refine own_sipush (pc' := 11) B X0 (z := (5000 : Int32)) d2_8 rfl (by decide) ?_
    by_cases c7 : p0 < (5000 : Int32)
    · refine own_icmpNo (pc' := 14) B X0 d2_11 (tlt c7).2.1 rfl ?_
      refine own_iconst (pc' := 15) B X0 (z := (1 : Int32)) d2_14 rfl rfl ?_
      exact own_retN B X0 (t := .boolean) (z' := (1 : Int32)) (by simp) (by decide) d2_15 (by decide) (by decide) (Or.inr (Or.inr (Or.inr (Or.inr (Or.inr (Or.inr (Or.inl ⟨c1, c7, rfl, rfl⟩)))))))
    · refine own_icmpYes (pc' := 16) B X0 d2_11 (flt c7).2.1 (by decide) rfl ?_
      refine own_iloadN (pc' := 17) B X0 d2_16 rfl rfl ?_
      refine own_sipush (pc' := 20) B X0 (z := (1000 : Int32)) d2_17 rfl (by decide) ?_
      have c8 : ¬ (p0 < (1000 : Int32)) := by
        have o0 := own_nlt c1
        have o1 := own_nlt c7
        have o2 := rng32 p0
        have o3 : (3000 : Int32).toInt = 3000 := by decide
        have o4 : (5000 : Int32).toInt = 5000 := by decide
        have o5 : (1000 : Int32).toInt = 1000 := by decide
        refine own_nltI ?_
        omega
      refine own_icmpNo (pc' := 23) B X0 d2_20 (flt c8).1 rfl ?_
      refine own_iloadN (pc' := 24) B X0 d2_23 rfl rfl ?_
      refine own_sipush (pc' := 27) B X0 (z := (1014 : Int32)) d2_24 rfl (by decide) ?_
      have c9 : (1014 : Int32) < p0 := by
        have o0 := own_nlt c1
        have o1 := own_nlt c7
        have o2 := own_nlt c8
        have o3 := rng32 p0
        have o4 : (3000 : Int32).toInt = 3000 := by decide
        have o5 : (5000 : Int32).toInt = 5000 := by decide
        have o6 : (1000 : Int32).toInt = 1000 := by decide
        have o7 : (1014 : Int32).toInt = 1014 := by decide
        refine own_ltI ?_
        omega
      refine own_icmpNo (pc' := 30) B X0 d2_27 (tlt c9).2.2.2 rfl ?_
      refine own_iconst (pc' := 31) B X0 (z := (0 : Int32)) d2_30 rfl rfl ?_
      exact own_retN B X0 (t := .boolean) (z' := (0 : Int32)) (by simp) (by decide) d2_31 (by decide) (by decide) (Or.inr (Or.inr (Or.inr (Or.inr (Or.inr (Or.inr (Or.inr (⟨c1, c7, c8, c9, rfl, rfl⟩))))))))
def Q_0 (Z : State) (i0 : Int32) (i1 : Int32) (h0 : Heap) (n0 : Nat) (v : Option Value) (h : Heap) : Prop :=
  (v = some (.int (1 : Int32)))
set_option maxRecDepth 65536 in
set_option maxHeartbeats 40000000 in
theorem rm_0 (l : Launch) (Z : State) (a0 : Array Value) (hw : ∀ d ∈ tables_1, d.before a0 Z = true) (ws : List Jvm.Cond) (i0 : Int32) (i1 : Int32) (h0 : Heap) (n0 : Nat) (Z0 : n0 ≤ h0.size)  :
    MetFree l x (head1 (Jvm.Cond.code x code maxLocals ret :: ws) room_1) (fun a U => a = #[(.int i0), (.int i1)] ∧ Z.Warmed39 U.vm ∧ U.heap = h0) (fun _ _ _ _ _ => True) (fun _ U o U' => ∃ v L, o = .returned v ∧ (Fr n0 L ∧ Q_0 Z i0 i1 h0 n0 v U'.heap) ∧ FrameEnd U o U' L room_1.cells room_1.slots) := by
  refine own_enter (Q := Q_0 Z i0 i1 h0 n0) (F := fun m => mkF m 0 #[.val (.int i0), .val (.int i1), .unset, .unset, .unset] []) (plainFor_of_name pn_1) (fun m => by first | (simp [entryFrame, mkF, argsToLocals, Value.category, maxLocals]; done) | rfl) ?_
  intro p e s m below meth c s₁ B X0
  have K : Keep h0 h0 [] := Keep.refl h0 _
  refine own_iloadN (pc' := 1) B X0 at_0 rfl rfl ?_
  refine own_iconst (pc' := 2) B X0 (z := (3 : Int32)) at_1 rfl rfl ?_
  obtain ⟨y1, hy1⟩ : ∃ z : Int32, i0 &&& (3 : Int32) = z := ⟨_, rfl⟩
  refine own_iand (pc' := 3) B X0 at_2 rfl hy1 ?_
  refine own_istoreN (pc' := 4) B X0 (Ls' := #[.val (.int i0), .val (.int i1), .val (.int y1), .unset, .unset]) at_3 rfl rfl ?_
  refine own_iloadN (pc' := 5) B X0 at_4 rfl rfl ?_
  refine own_ldcI (pc' := 7) B X0 (own_w hw 0 rfl) at_5 rfl ?_
  obtain ⟨y2, hy2⟩ : ∃ z : Int32, i1 &&& (2147483647 : Int32) = z := ⟨_, rfl⟩
  refine own_iand (pc' := 8) B X0 at_7 rfl hy2 ?_
  refine own_istoreN (pc' := 9) B X0 (Ls' := #[.val (.int i0), .val (.int i1), .val (.int y1), .val (.int y2), .unset]) at_8 rfl rfl ?_
  refine own_iloadN (pc' := 10) B X0 at_9 rfl rfl ?_
  by_cases c3 : y1 = (0 : Int32)
  · refine own_ifNo (pc' := 13) B X0 at_10 ((if0 _ _).trans (teq c3).2) rfl ?_
    refine own_iloadN (pc' := 14) B X0 at_13 rfl rfl ?_
    refine own_istore (pc' := 16) B X0 (Ls' := #[.val (.int i0), .val (.int i1), .val (.int y1), .val (.int y2), .val (.int i1)]) at_14 rfl rfl ?_
    refine own_goto (pc' := 67) B X0 at_16 (by decide) rfl ?_
    refine own_iload (pc' := 69) B X0 at_67 rfl rfl ?_
    refine own_callS (pc' := 72) B X0 (own_w hw 1 rfl) (own_w hw 2 rfl) (own_w hw 3 rfl) (own_w hw 4 rfl) (by decide) [(.int i1)] [] (rm_1 l Z a0 hw [] (i1) h0 n0 (Nat.le_trans Z0 K.1) ) 0 (by decide) (by decide) rfl pd_0 rfl rfl (Nat.le_of_eq rfl) at_69 rfl (k' := 0) (n' := 0) rfl rfl (by decide) (by decide) ?_
    intro T4 v4 h4 X4 q4
    rcases q4 with ⟨c5, c6, c7, rfl, rfl⟩ | ⟨c8, c9, c10, c11, rfl, rfl⟩ | ⟨c12, c13, c14, c15, c16, rfl, rfl⟩ | ⟨c17, c18, c19, c20, c21, c22, rfl, rfl⟩ | ⟨c23, c24, c25, c26, c27, c28, rfl, rfl⟩ | ⟨c29, c30, c31, c32, rfl, rfl⟩ | ⟨c33, c34, rfl, rfl⟩
    · show own_Go p e below (T4.setTop (mkF m 72 #[.val (.int i0), .val (.int i1), .val (.int y1), .val (.int y2), .val (.int i1)] [(.int (0 : Int32))])) _
      refine own_iload (pc' := 74) B X4 at_72 rfl rfl ?_
      refine own_callS (pc' := 77) B X4 (own_w hw 5 rfl) (own_w hw 6 rfl) (own_w hw 7 rfl) (own_w hw 8 rfl) (by decide) [(.int i1)] [(.int (0 : Int32))] (rm_2 l Z a0 hw [] (i1) h0 n0 (Nat.le_trans Z0 K.1) ) 1 (by decide) (by decide) rfl pd_0 rfl rfl (Nat.le_of_eq rfl) at_74 rfl (k' := 0) (n' := 0) rfl rfl (by decide) (by decide) ?_
      intro T35 v35 h35 X35 q35
      rcases q35 with ⟨c36, c37, rfl, rfl⟩ | ⟨c38, c39, c40, rfl, rfl⟩ | ⟨c41, c42, c43, c44, rfl, rfl⟩ | ⟨c45, c46, c47, c48, c49, rfl, rfl⟩ | ⟨c50, c51, c52, c53, c54, c55, rfl, rfl⟩ | ⟨c56, c57, c58, c59, c60, c61, rfl, rfl⟩ | ⟨c62, c63, rfl, rfl⟩ | ⟨c64, c65, c66, c67, rfl, rfl⟩
      · show own_Go p e below (T35.setTop (mkF m 77 #[.val (.int i0), .val (.int i1), .val (.int y1), .val (.int y2), .val (.int i1)] [(.int (0 : Int32)), (.int (0 : Int32))])) _
        refine own_icmpNo (pc' := 80) B X35 at_77 (teq (by decide : (0 : Int32) = (0 : Int32))).2 rfl ?_
        refine own_iconst (pc' := 81) B X35 (z := (1 : Int32)) at_80 rfl rfl ?_
        refine own_goto (pc' := 85) B X35 at_81 (by decide) rfl ?_
        exact own_retN B X35 (t := .boolean) (z' := (1 : Int32)) (by simp) (by decide) at_85 (by decide) (by decide) rfl
      · exfalso
        have o0 := own_o_mask hy1 2 (by decide) (by decide)
        have o1 := own_eq c3
        have o2 := own_lt c5
        have o3 := own_lt c6
        have o4 := own_lt c7
        have o5 := own_lt c38
        have o6 := own_nlt c39
        have o7 := own_lt c40
        have o8 := rng32 i0
        have o9 := rng32 i1
        have o10 := rng32 y1
        have o11 : (3 : Int32).toInt = 3 := by decide
        have o12 : (0 : Int32).toInt = 0 := by decide
        have o13 : (1000 : Int32).toInt = 1000 := by decide
        have o14 : (1007 : Int32).toInt = 1007 := by decide
        have o15 : (3000 : Int32).toInt = 3000 := by decide
        have o16 : (1014 : Int32).toInt = 1014 := by decide
        exfalso
        omega
      · exfalso
        have o0 := own_o_mask hy1 2 (by decide) (by decide)
        have o1 := own_eq c3
        have o2 := own_lt c5
        have o3 := own_lt c6
        have o4 := own_lt c7
        have o5 := own_lt c41
        have o6 := own_nlt c42
        have o7 := own_nlt c43
        have o8 := own_eq c44
        have o9 := rng32 i0
        have o10 := rng32 i1
        have o11 := rng32 y1
        have o12 : (3 : Int32).toInt = 3 := by decide
        have o13 : (0 : Int32).toInt = 0 := by decide
        have o14 : (1000 : Int32).toInt = 1000 := by decide
        have o15 : (1007 : Int32).toInt = 1007 := by decide
        have o16 : (3000 : Int32).toInt = 3000 := by decide
        have o17 : (1014 : Int32).toInt = 1014 := by decide
        have o18 : (1004 : Int32).toInt = 1004 := by decide
        exfalso
        omega
      · exfalso
        have o0 := own_o_mask hy1 2 (by decide) (by decide)
        have o1 := own_eq c3
        have o2 := own_lt c5
        have o3 := own_lt c6
        have o4 := own_lt c7
        have o5 := own_lt c45
        have o6 := own_nlt c46
        have o7 := own_nlt c47
        have o8 := own_neq c48
        have o9 := own_eq c49
        have o10 := rng32 i0
        have o11 := rng32 i1
        have o12 := rng32 y1
        have o13 : (3 : Int32).toInt = 3 := by decide
        have o14 : (0 : Int32).toInt = 0 := by decide
        have o15 : (1000 : Int32).toInt = 1000 := by decide
        have o16 : (1007 : Int32).toInt = 1007 := by decide
        have o17 : (3000 : Int32).toInt = 3000 := by decide
        have o18 : (1014 : Int32).toInt = 1014 := by decide
        have o19 : (1004 : Int32).toInt = 1004 := by decide
        have o20 : (1005 : Int32).toInt = 1005 := by decide
        exfalso
        omega
      · exfalso
        have o0 := own_o_mask hy1 2 (by decide) (by decide)
        have o1 := own_eq c3
        have o2 := own_lt c5
        have o3 := own_lt c6
        have o4 := own_lt c7
        have o5 := own_lt c50
        have o6 := own_nlt c51
        have o7 := own_nlt c52
        have o8 := own_neq c53
        have o9 := own_neq c54
        have o10 := own_eq c55
        have o11 := rng32 i0
        have o12 := rng32 i1
        have o13 := rng32 y1
        have o14 : (3 : Int32).toInt = 3 := by decide
        have o15 : (0 : Int32).toInt = 0 := by decide
        have o16 : (1000 : Int32).toInt = 1000 := by decide
        have o17 : (1007 : Int32).toInt = 1007 := by decide
        have o18 : (3000 : Int32).toInt = 3000 := by decide
        have o19 : (1014 : Int32).toInt = 1014 := by decide
        have o20 : (1004 : Int32).toInt = 1004 := by decide
        have o21 : (1005 : Int32).toInt = 1005 := by decide
        have o22 : (1006 : Int32).toInt = 1006 := by decide
        exfalso
        omega
      · exfalso
        have o0 := own_o_mask hy1 2 (by decide) (by decide)
        have o1 := own_eq c3
        have o2 := own_lt c5
        have o3 := own_lt c6
        have o4 := own_lt c7
        have o5 := own_lt c56
        have o6 := own_nlt c57
        have o7 := own_nlt c58
        have o8 := own_neq c59
        have o9 := own_neq c60
        have o10 := own_neq c61
        have o11 := rng32 i0
        have o12 := rng32 i1
        have o13 := rng32 y1
        have o14 : (3 : Int32).toInt = 3 := by decide
        have o15 : (0 : Int32).toInt = 0 := by decide
        have o16 : (1000 : Int32).toInt = 1000 := by decide
        have o17 : (1007 : Int32).toInt = 1007 := by decide
        have o18 : (3000 : Int32).toInt = 3000 := by decide
        have o19 : (1014 : Int32).toInt = 1014 := by decide
        have o20 : (1004 : Int32).toInt = 1004 := by decide
        have o21 : (1005 : Int32).toInt = 1005 := by decide
        have o22 : (1006 : Int32).toInt = 1006 := by decide
        exfalso
        omega
      · exfalso
        have o0 := own_o_mask hy1 2 (by decide) (by decide)
        have o1 := own_eq c3
        have o2 := own_lt c5
        have o3 := own_lt c6
        have o4 := own_lt c7
        have o5 := own_nlt c62
        have o6 := own_lt c63
        have o7 := rng32 i0
        have o8 := rng32 i1
        have o9 := rng32 y1
        have o10 : (3 : Int32).toInt = 3 := by decide
        have o11 : (0 : Int32).toInt = 0 := by decide
        have o12 : (1000 : Int32).toInt = 1000 := by decide
        have o13 : (1007 : Int32).toInt = 1007 := by decide
        have o14 : (3000 : Int32).toInt = 3000 := by decide
        have o15 : (5000 : Int32).toInt = 5000 := by decide
        exfalso
        omega
      · exfalso
        have o0 := own_o_mask hy1 2 (by decide) (by decide)
        have o1 := own_eq c3
        have o2 := own_lt c5
        have o3 := own_lt c6
        have o4 := own_lt c7
        have o5 := own_nlt c64
        have o6 := own_nlt c65
        have o7 := own_nlt c66
        have o8 := own_lt c67
        have o9 := rng32 i0
        have o10 := rng32 i1
        have o11 := rng32 y1
        have o12 : (3 : Int32).toInt = 3 := by decide
        have o13 : (0 : Int32).toInt = 0 := by decide
        have o14 : (1000 : Int32).toInt = 1000 := by decide
        have o15 : (1007 : Int32).toInt = 1007 := by decide
        have o16 : (3000 : Int32).toInt = 3000 := by decide
        have o17 : (5000 : Int32).toInt = 5000 := by decide
        have o18 : (1014 : Int32).toInt = 1014 := by decide
        exfalso
        omega
    · show own_Go p e below (T4.setTop (mkF m 72 #[.val (.int i0), .val (.int i1), .val (.int y1), .val (.int y2), .val (.int i1)] [(.int (0 : Int32))])) _
      refine own_iload (pc' := 74) B X4 at_72 rfl rfl ?_
      refine own_callS (pc' := 77) B X4 (own_w hw 5 rfl) (own_w hw 6 rfl) (own_w hw 7 rfl) (own_w hw 8 rfl) (by decide) [(.int i1)] [(.int (0 : Int32))] (rm_2 l Z a0 hw [] (i1) h0 n0 (Nat.le_trans Z0 K.1) ) 1 (by decide) (by decide) rfl pd_0 rfl rfl (Nat.le_of_eq rfl) at_74 rfl (k' := 0) (n' := 0) rfl rfl (by decide) (by decide) ?_
      intro T68 v68 h68 X68 q68
      rcases q68 with ⟨c69, c70, rfl, rfl⟩ | ⟨c71, c72, c73, rfl, rfl⟩ | ⟨c74, c75, c76, c77, rfl, rfl⟩ | ⟨c78, c79, c80, c81, c82, rfl, rfl⟩ | ⟨c83, c84, c85, c86, c87, c88, rfl, rfl⟩ | ⟨c89, c90, c91, c92, c93, c94, rfl, rfl⟩ | ⟨c95, c96, rfl, rfl⟩ | ⟨c97, c98, c99, c100, rfl, rfl⟩
      · exfalso
        have o0 := own_o_mask hy1 2 (by decide) (by decide)
        have o1 := own_eq c3
        have o2 := own_nlt c8
        have o3 := own_lt c9
        have o4 := own_lt c10
        have o5 := own_lt c11
        have o6 := own_lt c69
        have o7 := own_lt c70
        have o8 := rng32 i0
        have o9 := rng32 i1
        have o10 := rng32 y1
        have o11 : (3 : Int32).toInt = 3 := by decide
        have o12 : (0 : Int32).toInt = 0 := by decide
        have o13 : (1000 : Int32).toInt = 1000 := by decide
        have o14 : (1003 : Int32).toInt = 1003 := by decide
        have o15 : (1007 : Int32).toInt = 1007 := by decide
        have o16 : (3000 : Int32).toInt = 3000 := by decide
        exfalso
        omega
      · exfalso
        have o0 := own_o_mask hy1 2 (by decide) (by decide)
        have o1 := own_eq c3
        have o2 := own_nlt c8
        have o3 := own_lt c9
        have o4 := own_lt c10
        have o5 := own_lt c11
        have o6 := own_lt c71
        have o7 := own_nlt c72
        have o8 := own_lt c73
        have o9 := rng32 i0
        have o10 := rng32 i1
        have o11 := rng32 y1
        have o12 : (3 : Int32).toInt = 3 := by decide
        have o13 : (0 : Int32).toInt = 0 := by decide
        have o14 : (1000 : Int32).toInt = 1000 := by decide
        have o15 : (1003 : Int32).toInt = 1003 := by decide
        have o16 : (1007 : Int32).toInt = 1007 := by decide
        have o17 : (3000 : Int32).toInt = 3000 := by decide
        have o18 : (1014 : Int32).toInt = 1014 := by decide
        exfalso
        omega
      · show own_Go p e below (T68.setTop (mkF m 77 #[.val (.int i0), .val (.int i1), .val (.int y1), .val (.int y2), .val (.int i1)] [(.int (0 : Int32)), (.int (0 : Int32))])) _
        refine own_icmpNo (pc' := 80) B X68 at_77 (teq (by decide : (0 : Int32) = (0 : Int32))).2 rfl ?_
        refine own_iconst (pc' := 81) B X68 (z := (1 : Int32)) at_80 rfl rfl ?_
        refine own_goto (pc' := 85) B X68 at_81 (by decide) rfl ?_
        exact own_retN B X68 (t := .boolean) (z' := (1 : Int32)) (by simp) (by decide) at_85 (by decide) (by decide) rfl
      · show own_Go p e below (T68.setTop (mkF m 77 #[.val (.int i0), .val (.int i1), .val (.int y1), .val (.int y2), .val (.int i1)] [(.int (0 : Int32)), (.int (0 : Int32))])) _
        refine own_icmpNo (pc' := 80) B X68 at_77 (teq (by decide : (0 : Int32) = (0 : Int32))).2 rfl ?_
        refine own_iconst (pc' := 81) B X68 (z := (1 : Int32)) at_80 rfl rfl ?_
        refine own_goto (pc' := 85) B X68 at_81 (by decide) rfl ?_
        exact own_retN B X68 (t := .boolean) (z' := (1 : Int32)) (by simp) (by decide) at_85 (by decide) (by decide) rfl
      · show own_Go p e below (T68.setTop (mkF m 77 #[.val (.int i0), .val (.int i1), .val (.int y1), .val (.int y2), .val (.int i1)] [(.int (0 : Int32)), (.int (0 : Int32))])) _
        refine own_icmpNo (pc' := 80) B X68 at_77 (teq (by decide : (0 : Int32) = (0 : Int32))).2 rfl ?_
        refine own_iconst (pc' := 81) B X68 (z := (1 : Int32)) at_80 rfl rfl ?_
        refine own_goto (pc' := 85) B X68 at_81 (by decide) rfl ?_
        exact own_retN B X68 (t := .boolean) (z' := (1 : Int32)) (by simp) (by decide) at_85 (by decide) (by decide) rfl
      · exfalso
        have o0 := own_o_mask hy1 2 (by decide) (by decide)
        have o1 := own_eq c3
        have o2 := own_nlt c8
        have o3 := own_lt c9
        have o4 := own_lt c10
        have o5 := own_lt c11
        have o6 := own_lt c89
        have o7 := own_nlt c90
        have o8 := own_nlt c91
        have o9 := own_neq c92
        have o10 := own_neq c93
        have o11 := own_neq c94
        have o12 := rng32 i0
        have o13 := rng32 i1
        have o14 := rng32 y1
        have o15 : (3 : Int32).toInt = 3 := by decide
        have o16 : (0 : Int32).toInt = 0 := by decide
        have o17 : (1000 : Int32).toInt = 1000 := by decide
        have o18 : (1003 : Int32).toInt = 1003 := by decide
        have o19 : (1007 : Int32).toInt = 1007 := by decide
        have o20 : (3000 : Int32).toInt = 3000 := by decide
        have o21 : (1014 : Int32).toInt = 1014 := by decide
        have o22 : (1004 : Int32).toInt = 1004 := by decide
        have o23 : (1005 : Int32).toInt = 1005 := by decide
        have o24 : (1006 : Int32).toInt = 1006 := by decide
        exfalso
        omega
      · exfalso
        have o0 := own_o_mask hy1 2 (by decide) (by decide)
        have o1 := own_eq c3
        have o2 := own_nlt c8
        have o3 := own_lt c9
        have o4 := own_lt c10
        have o5 := own_lt c11
        have o6 := own_nlt c95
        have o7 := own_lt c96
        have o8 := rng32 i0
        have o9 := rng32 i1
        have o10 := rng32 y1
        have o11 : (3 : Int32).toInt = 3 := by decide
        have o12 : (0 : Int32).toInt = 0 := by decide
        have o13 : (1000 : Int32).toInt = 1000 := by decide
        have o14 : (1003 : Int32).toInt = 1003 := by decide
        have o15 : (1007 : Int32).toInt = 1007 := by decide
        have o16 : (3000 : Int32).toInt = 3000 := by decide
        have o17 : (5000 : Int32).toInt = 5000 := by decide
        exfalso
        omega
      · exfalso
        have o0 := own_o_mask hy1 2 (by decide) (by decide)
        have o1 := own_eq c3
        have o2 := own_nlt c8
        have o3 := own_lt c9
        have o4 := own_lt c10
        have o5 := own_lt c11
        have o6 := own_nlt c97
        have o7 := own_nlt c98
        have o8 := own_nlt c99
        have o9 := own_lt c100
        have o10 := rng32 i0
        have o11 := rng32 i1
        have o12 := rng32 y1
        have o13 : (3 : Int32).toInt = 3 := by decide
        have o14 : (0 : Int32).toInt = 0 := by decide
        have o15 : (1000 : Int32).toInt = 1000 := by decide
        have o16 : (1003 : Int32).toInt = 1003 := by decide
        have o17 : (1007 : Int32).toInt = 1007 := by decide
        have o18 : (3000 : Int32).toInt = 3000 := by decide
        have o19 : (5000 : Int32).toInt = 5000 := by decide
        have o20 : (1014 : Int32).toInt = 1014 := by decide
        exfalso
        omega
    · show own_Go p e below (T4.setTop (mkF m 72 #[.val (.int i0), .val (.int i1), .val (.int y1), .val (.int y2), .val (.int i1)] [(.int (0 : Int32))])) _
      refine own_iload (pc' := 74) B X4 at_72 rfl rfl ?_
      refine own_callS (pc' := 77) B X4 (own_w hw 5 rfl) (own_w hw 6 rfl) (own_w hw 7 rfl) (own_w hw 8 rfl) (by decide) [(.int i1)] [(.int (0 : Int32))] (rm_2 l Z a0 hw [] (i1) h0 n0 (Nat.le_trans Z0 K.1) ) 1 (by decide) (by decide) rfl pd_0 rfl rfl (Nat.le_of_eq rfl) at_74 rfl (k' := 0) (n' := 0) rfl rfl (by decide) (by decide) ?_
      intro T101 v101 h101 X101 q101
      rcases q101 with ⟨c102, c103, rfl, rfl⟩ | ⟨c104, c105, c106, rfl, rfl⟩ | ⟨c107, c108, c109, c110, rfl, rfl⟩ | ⟨c111, c112, c113, c114, c115, rfl, rfl⟩ | ⟨c116, c117, c118, c119, c120, c121, rfl, rfl⟩ | ⟨c122, c123, c124, c125, c126, c127, rfl, rfl⟩ | ⟨c128, c129, rfl, rfl⟩ | ⟨c130, c131, c132, c133, rfl, rfl⟩
      · exfalso
        have o0 := own_o_mask hy1 2 (by decide) (by decide)
        have o1 := own_eq c3
        have o2 := own_nlt c12
        have o3 := own_lt c13
        have o4 := own_nlt c14
        have o5 := own_lt c15
        have o6 := own_lt c16
        have o7 := own_lt c102
        have o8 := own_lt c103
        have o9 := rng32 i0
        have o10 := rng32 i1
        have o11 := rng32 y1
        have o12 : (3 : Int32).toInt = 3 := by decide
        have o13 : (0 : Int32).toInt = 0 := by decide
        have o14 : (1000 : Int32).toInt = 1000 := by decide
        have o15 : (1003 : Int32).toInt = 1003 := by decide
        have o16 : (1007 : Int32).toInt = 1007 := by decide
        have o17 : (1014 : Int32).toInt = 1014 := by decide
        have o18 : (3000 : Int32).toInt = 3000 := by decide
        exfalso
        omega
      · show own_Go p e below (T101.setTop (mkF m 77 #[.val (.int i0), .val (.int i1), .val (.int y1), .val (.int y2), .val (.int i1)] [(.int (0 : Int32)), (.int (0 : Int32))])) _
        refine own_icmpNo (pc' := 80) B X101 at_77 (teq (by decide : (0 : Int32) = (0 : Int32))).2 rfl ?_
        refine own_iconst (pc' := 81) B X101 (z := (1 : Int32)) at_80 rfl rfl ?_
        refine own_goto (pc' := 85) B X101 at_81 (by decide) rfl ?_
        exact own_retN B X101 (t := .boolean) (z' := (1 : Int32)) (by simp) (by decide) at_85 (by decide) (by decide) rfl
      · exfalso
        have o0 := own_o_mask hy1 2 (by decide) (by decide)
        have o1 := own_eq c3
        have o2 := own_nlt c12
        have o3 := own_lt c13
        have o4 := own_nlt c14
        have o5 := own_lt c15
        have o6 := own_lt c16
        have o7 := own_lt c107
        have o8 := own_nlt c108
        have o9 := own_nlt c109
        have o10 := own_eq c110
        have o11 := rng32 i0
        have o12 := rng32 i1
        have o13 := rng32 y1
        have o14 : (3 : Int32).toInt = 3 := by decide
        have o15 : (0 : Int32).toInt = 0 := by decide
        have o16 : (1000 : Int32).toInt = 1000 := by decide
        have o17 : (1003 : Int32).toInt = 1003 := by decide
        have o18 : (1007 : Int32).toInt = 1007 := by decide
        have o19 : (1014 : Int32).toInt = 1014 := by decide
        have o20 : (3000 : Int32).toInt = 3000 := by decide
        have o21 : (1004 : Int32).toInt = 1004 := by decide
        exfalso
        omega
      · exfalso
        have o0 := own_o_mask hy1 2 (by decide) (by decide)
        have o1 := own_eq c3
        have o2 := own_nlt c12
        have o3 := own_lt c13
        have o4 := own_nlt c14
        have o5 := own_lt c15
        have o6 := own_lt c16
        have o7 := own_lt c111
        have o8 := own_nlt c112
        have o9 := own_nlt c113
        have o10 := own_neq c114
        have o11 := own_eq c115
        have o12 := rng32 i0
        have o13 := rng32 i1
        have o14 := rng32 y1
        have o15 : (3 : Int32).toInt = 3 := by decide
        have o16 : (0 : Int32).toInt = 0 := by decide
        have o17 : (1000 : Int32).toInt = 1000 := by decide
        have o18 : (1003 : Int32).toInt = 1003 := by decide
        have o19 : (1007 : Int32).toInt = 1007 := by decide
        have o20 : (1014 : Int32).toInt = 1014 := by decide
        have o21 : (3000 : Int32).toInt = 3000 := by decide
        have o22 : (1004 : Int32).toInt = 1004 := by decide
        have o23 : (1005 : Int32).toInt = 1005 := by decide
        exfalso
        omega
      · exfalso
        have o0 := own_o_mask hy1 2 (by decide) (by decide)
        have o1 := own_eq c3
        have o2 := own_nlt c12
        have o3 := own_lt c13
        have o4 := own_nlt c14
        have o5 := own_lt c15
        have o6 := own_lt c16
        have o7 := own_lt c116
        have o8 := own_nlt c117
        have o9 := own_nlt c118
        have o10 := own_neq c119
        have o11 := own_neq c120
        have o12 := own_eq c121
        have o13 := rng32 i0
        have o14 := rng32 i1
        have o15 := rng32 y1
        have o16 : (3 : Int32).toInt = 3 := by decide
        have o17 : (0 : Int32).toInt = 0 := by decide
        have o18 : (1000 : Int32).toInt = 1000 := by decide
        have o19 : (1003 : Int32).toInt = 1003 := by decide
        have o20 : (1007 : Int32).toInt = 1007 := by decide
        have o21 : (1014 : Int32).toInt = 1014 := by decide
        have o22 : (3000 : Int32).toInt = 3000 := by decide
        have o23 : (1004 : Int32).toInt = 1004 := by decide
        have o24 : (1005 : Int32).toInt = 1005 := by decide
        have o25 : (1006 : Int32).toInt = 1006 := by decide
        exfalso
        omega
      · exfalso
        have o0 := own_o_mask hy1 2 (by decide) (by decide)
        have o1 := own_eq c3
        have o2 := own_nlt c12
        have o3 := own_lt c13
        have o4 := own_nlt c14
        have o5 := own_lt c15
        have o6 := own_lt c16
        have o7 := own_lt c122
        have o8 := own_nlt c123
        have o9 := own_nlt c124
        have o10 := own_neq c125
        have o11 := own_neq c126
        have o12 := own_neq c127
        have o13 := rng32 i0
        have o14 := rng32 i1
        have o15 := rng32 y1
        have o16 : (3 : Int32).toInt = 3 := by decide
        have o17 : (0 : Int32).toInt = 0 := by decide
        have o18 : (1000 : Int32).toInt = 1000 := by decide
        have o19 : (1003 : Int32).toInt = 1003 := by decide
        have o20 : (1007 : Int32).toInt = 1007 := by decide
        have o21 : (1014 : Int32).toInt = 1014 := by decide
        have o22 : (3000 : Int32).toInt = 3000 := by decide
        have o23 : (1004 : Int32).toInt = 1004 := by decide
        have o24 : (1005 : Int32).toInt = 1005 := by decide
        have o25 : (1006 : Int32).toInt = 1006 := by decide
        exfalso
        omega
      · exfalso
        have o0 := own_o_mask hy1 2 (by decide) (by decide)
        have o1 := own_eq c3
        have o2 := own_nlt c12
        have o3 := own_lt c13
        have o4 := own_nlt c14
        have o5 := own_lt c15
        have o6 := own_lt c16
        have o7 := own_nlt c128
        have o8 := own_lt c129
        have o9 := rng32 i0
        have o10 := rng32 i1
        have o11 := rng32 y1
        have o12 : (3 : Int32).toInt = 3 := by decide
        have o13 : (0 : Int32).toInt = 0 := by decide
        have o14 : (1000 : Int32).toInt = 1000 := by decide
        have o15 : (1003 : Int32).toInt = 1003 := by decide
        have o16 : (1007 : Int32).toInt = 1007 := by decide
        have o17 : (1014 : Int32).toInt = 1014 := by decide
        have o18 : (3000 : Int32).toInt = 3000 := by decide
        have o19 : (5000 : Int32).toInt = 5000 := by decide
        exfalso
        omega
      · exfalso
        have o0 := own_o_mask hy1 2 (by decide) (by decide)
        have o1 := own_eq c3
        have o2 := own_nlt c12
        have o3 := own_lt c13
        have o4 := own_nlt c14
        have o5 := own_lt c15
        have o6 := own_lt c16
        have o7 := own_nlt c130
        have o8 := own_nlt c131
        have o9 := own_nlt c132
        have o10 := own_lt c133
        have o11 := rng32 i0
        have o12 := rng32 i1
        have o13 := rng32 y1
        have o14 : (3 : Int32).toInt = 3 := by decide
        have o15 : (0 : Int32).toInt = 0 := by decide
        have o16 : (1000 : Int32).toInt = 1000 := by decide
        have o17 : (1003 : Int32).toInt = 1003 := by decide
        have o18 : (1007 : Int32).toInt = 1007 := by decide
        have o19 : (1014 : Int32).toInt = 1014 := by decide
        have o20 : (3000 : Int32).toInt = 3000 := by decide
        have o21 : (5000 : Int32).toInt = 5000 := by decide
        exfalso
        omega
    · show own_Go p e below (T4.setTop (mkF m 72 #[.val (.int i0), .val (.int i1), .val (.int y1), .val (.int y2), .val (.int i1)] [(.int (0 : Int32))])) _
      refine own_iload (pc' := 74) B X4 at_72 rfl rfl ?_
      refine own_callS (pc' := 77) B X4 (own_w hw 5 rfl) (own_w hw 6 rfl) (own_w hw 7 rfl) (own_w hw 8 rfl) (by decide) [(.int i1)] [(.int (0 : Int32))] (rm_2 l Z a0 hw [] (i1) h0 n0 (Nat.le_trans Z0 K.1) ) 1 (by decide) (by decide) rfl pd_0 rfl rfl (Nat.le_of_eq rfl) at_74 rfl (k' := 0) (n' := 0) rfl rfl (by decide) (by decide) ?_
      intro T134 v134 h134 X134 q134
      rcases q134 with ⟨c135, c136, rfl, rfl⟩ | ⟨c137, c138, c139, rfl, rfl⟩ | ⟨c140, c141, c142, c143, rfl, rfl⟩ | ⟨c144, c145, c146, c147, c148, rfl, rfl⟩ | ⟨c149, c150, c151, c152, c153, c154, rfl, rfl⟩ | ⟨c155, c156, c157, c158, c159, c160, rfl, rfl⟩ | ⟨c161, c162, rfl, rfl⟩ | ⟨c163, c164, c165, c166, rfl, rfl⟩
      · exfalso
        have o0 := own_o_mask hy1 2 (by decide) (by decide)
        have o1 := own_eq c3
        have o2 := own_nlt c17
        have o3 := own_lt c18
        have o4 := own_nlt c19
        have o5 := own_lt c20
        have o6 := own_nlt c21
        have o7 := own_lt c22
        have o8 := own_lt c135
        have o9 := own_lt c136
        have o10 := rng32 i0
        have o11 := rng32 i1
        have o12 := rng32 y1
        have o13 : (3 : Int32).toInt = 3 := by decide
        have o14 : (0 : Int32).toInt = 0 := by decide
        have o15 : (1000 : Int32).toInt = 1000 := by decide
        have o16 : (1003 : Int32).toInt = 1003 := by decide
        have o17 : (1007 : Int32).toInt = 1007 := by decide
        have o18 : (1014 : Int32).toInt = 1014 := by decide
        have o19 : (3000 : Int32).toInt = 3000 := by decide
        have o20 : (4999 : Int32).toInt = 4999 := by decide
        exfalso
        omega
      · exfalso
        have o0 := own_o_mask hy1 2 (by decide) (by decide)
        have o1 := own_eq c3
        have o2 := own_nlt c17
        have o3 := own_lt c18
        have o4 := own_nlt c19
        have o5 := own_lt c20
        have o6 := own_nlt c21
        have o7 := own_lt c22
        have o8 := own_lt c137
        have o9 := own_nlt c138
        have o10 := own_lt c139
        have o11 := rng32 i0
        have o12 := rng32 i1
        have o13 := rng32 y1
        have o14 : (3 : Int32).toInt = 3 := by decide
        have o15 : (0 : Int32).toInt = 0 := by decide
        have o16 : (1000 : Int32).toInt = 1000 := by decide
        have o17 : (1003 : Int32).toInt = 1003 := by decide
        have o18 : (1007 : Int32).toInt = 1007 := by decide
        have o19 : (1014 : Int32).toInt = 1014 := by decide
        have o20 : (3000 : Int32).toInt = 3000 := by decide
        have o21 : (4999 : Int32).toInt = 4999 := by decide
        exfalso
        omega
      · exfalso
        have o0 := own_o_mask hy1 2 (by decide) (by decide)
        have o1 := own_eq c3
        have o2 := own_nlt c17
        have o3 := own_lt c18
        have o4 := own_nlt c19
        have o5 := own_lt c20
        have o6 := own_nlt c21
        have o7 := own_lt c22
        have o8 := own_lt c140
        have o9 := own_nlt c141
        have o10 := own_nlt c142
        have o11 := own_eq c143
        have o12 := rng32 i0
        have o13 := rng32 i1
        have o14 := rng32 y1
        have o15 : (3 : Int32).toInt = 3 := by decide
        have o16 : (0 : Int32).toInt = 0 := by decide
        have o17 : (1000 : Int32).toInt = 1000 := by decide
        have o18 : (1003 : Int32).toInt = 1003 := by decide
        have o19 : (1007 : Int32).toInt = 1007 := by decide
        have o20 : (1014 : Int32).toInt = 1014 := by decide
        have o21 : (3000 : Int32).toInt = 3000 := by decide
        have o22 : (4999 : Int32).toInt = 4999 := by decide
        have o23 : (1004 : Int32).toInt = 1004 := by decide
        exfalso
        omega
      · exfalso
        have o0 := own_o_mask hy1 2 (by decide) (by decide)
        have o1 := own_eq c3
        have o2 := own_nlt c17
        have o3 := own_lt c18
        have o4 := own_nlt c19
        have o5 := own_lt c20
        have o6 := own_nlt c21
        have o7 := own_lt c22
        have o8 := own_lt c144
        have o9 := own_nlt c145
        have o10 := own_nlt c146
        have o11 := own_neq c147
        have o12 := own_eq c148
        have o13 := rng32 i0
        have o14 := rng32 i1
        have o15 := rng32 y1
        have o16 : (3 : Int32).toInt = 3 := by decide
        have o17 : (0 : Int32).toInt = 0 := by decide
        have o18 : (1000 : Int32).toInt = 1000 := by decide
        have o19 : (1003 : Int32).toInt = 1003 := by decide
        have o20 : (1007 : Int32).toInt = 1007 := by decide
        have o21 : (1014 : Int32).toInt = 1014 := by decide
        have o22 : (3000 : Int32).toInt = 3000 := by decide
        have o23 : (4999 : Int32).toInt = 4999 := by decide
        have o24 : (1004 : Int32).toInt = 1004 := by decide
        have o25 : (1005 : Int32).toInt = 1005 := by decide
        exfalso
        omega
      · exfalso
        have o0 := own_o_mask hy1 2 (by decide) (by decide)
        have o1 := own_eq c3
        have o2 := own_nlt c17
        have o3 := own_lt c18
        have o4 := own_nlt c19
        have o5 := own_lt c20
        have o6 := own_nlt c21
        have o7 := own_lt c22
        have o8 := own_lt c149
        have o9 := own_nlt c150
        have o10 := own_nlt c151
        have o11 := own_neq c152
        have o12 := own_neq c153
        have o13 := own_eq c154
        have o14 := rng32 i0
        have o15 := rng32 i1
        have o16 := rng32 y1
        have o17 : (3 : Int32).toInt = 3 := by decide
        have o18 : (0 : Int32).toInt = 0 := by decide
        have o19 : (1000 : Int32).toInt = 1000 := by decide
        have o20 : (1003 : Int32).toInt = 1003 := by decide
        have o21 : (1007 : Int32).toInt = 1007 := by decide
        have o22 : (1014 : Int32).toInt = 1014 := by decide
        have o23 : (3000 : Int32).toInt = 3000 := by decide
        have o24 : (4999 : Int32).toInt = 4999 := by decide
        have o25 : (1004 : Int32).toInt = 1004 := by decide
        have o26 : (1005 : Int32).toInt = 1005 := by decide
        have o27 : (1006 : Int32).toInt = 1006 := by decide
        exfalso
        omega
      · exfalso
        have o0 := own_o_mask hy1 2 (by decide) (by decide)
        have o1 := own_eq c3
        have o2 := own_nlt c17
        have o3 := own_lt c18
        have o4 := own_nlt c19
        have o5 := own_lt c20
        have o6 := own_nlt c21
        have o7 := own_lt c22
        have o8 := own_lt c155
        have o9 := own_nlt c156
        have o10 := own_nlt c157
        have o11 := own_neq c158
        have o12 := own_neq c159
        have o13 := own_neq c160
        have o14 := rng32 i0
        have o15 := rng32 i1
        have o16 := rng32 y1
        have o17 : (3 : Int32).toInt = 3 := by decide
        have o18 : (0 : Int32).toInt = 0 := by decide
        have o19 : (1000 : Int32).toInt = 1000 := by decide
        have o20 : (1003 : Int32).toInt = 1003 := by decide
        have o21 : (1007 : Int32).toInt = 1007 := by decide
        have o22 : (1014 : Int32).toInt = 1014 := by decide
        have o23 : (3000 : Int32).toInt = 3000 := by decide
        have o24 : (4999 : Int32).toInt = 4999 := by decide
        have o25 : (1004 : Int32).toInt = 1004 := by decide
        have o26 : (1005 : Int32).toInt = 1005 := by decide
        have o27 : (1006 : Int32).toInt = 1006 := by decide
        exfalso
        omega
      · exfalso
        have o0 := own_o_mask hy1 2 (by decide) (by decide)
        have o1 := own_eq c3
        have o2 := own_nlt c17
        have o3 := own_lt c18
        have o4 := own_nlt c19
        have o5 := own_lt c20
        have o6 := own_nlt c21
        have o7 := own_lt c22
        have o8 := own_nlt c161
        have o9 := own_lt c162
        have o10 := rng32 i0
        have o11 := rng32 i1
        have o12 := rng32 y1
        have o13 : (3 : Int32).toInt = 3 := by decide
        have o14 : (0 : Int32).toInt = 0 := by decide
        have o15 : (1000 : Int32).toInt = 1000 := by decide
        have o16 : (1003 : Int32).toInt = 1003 := by decide
        have o17 : (1007 : Int32).toInt = 1007 := by decide
        have o18 : (1014 : Int32).toInt = 1014 := by decide
        have o19 : (3000 : Int32).toInt = 3000 := by decide
        have o20 : (4999 : Int32).toInt = 4999 := by decide
        have o21 : (5000 : Int32).toInt = 5000 := by decide
        exfalso
        omega
      · show own_Go p e below (T134.setTop (mkF m 77 #[.val (.int i0), .val (.int i1), .val (.int y1), .val (.int y2), .val (.int i1)] [(.int (0 : Int32)), (.int (0 : Int32))])) _
        refine own_icmpNo (pc' := 80) B X134 at_77 (teq (by decide : (0 : Int32) = (0 : Int32))).2 rfl ?_
        refine own_iconst (pc' := 81) B X134 (z := (1 : Int32)) at_80 rfl rfl ?_
        refine own_goto (pc' := 85) B X134 at_81 (by decide) rfl ?_
        exact own_retN B X134 (t := .boolean) (z' := (1 : Int32)) (by simp) (by decide) at_85 (by decide) (by decide) rfl
    · show own_Go p e below (T4.setTop (mkF m 72 #[.val (.int i0), .val (.int i1), .val (.int y1), .val (.int y2), .val (.int i1)] [(.int (1 : Int32))])) _
      refine own_iload (pc' := 74) B X4 at_72 rfl rfl ?_
      refine own_callS (pc' := 77) B X4 (own_w hw 5 rfl) (own_w hw 6 rfl) (own_w hw 7 rfl) (own_w hw 8 rfl) (by decide) [(.int i1)] [(.int (1 : Int32))] (rm_2 l Z a0 hw [] (i1) h0 n0 (Nat.le_trans Z0 K.1) ) 1 (by decide) (by decide) rfl pd_0 rfl rfl (Nat.le_of_eq rfl) at_74 rfl (k' := 0) (n' := 0) rfl rfl (by decide) (by decide) ?_
      intro T167 v167 h167 X167 q167
      rcases q167 with ⟨c168, c169, rfl, rfl⟩ | ⟨c170, c171, c172, rfl, rfl⟩ | ⟨c173, c174, c175, c176, rfl, rfl⟩ | ⟨c177, c178, c179, c180, c181, rfl, rfl⟩ | ⟨c182, c183, c184, c185, c186, c187, rfl, rfl⟩ | ⟨c188, c189, c190, c191, c192, c193, rfl, rfl⟩ | ⟨c194, c195, rfl, rfl⟩ | ⟨c196, c197, c198, c199, rfl, rfl⟩
      · exfalso
        have o0 := own_o_mask hy1 2 (by decide) (by decide)
        have o1 := own_eq c3
        have o2 := own_nlt c23
        have o3 := own_lt c24
        have o4 := own_nlt c25
        have o5 := own_lt c26
        have o6 := own_nlt c27
        have o7 := own_nlt c28
        have o8 := own_lt c168
        have o9 := own_lt c169
        have o10 := rng32 i0
        have o11 := rng32 i1
        have o12 := rng32 y1
        have o13 : (3 : Int32).toInt = 3 := by decide
        have o14 : (0 : Int32).toInt = 0 := by decide
        have o15 : (1000 : Int32).toInt = 1000 := by decide
        have o16 : (1003 : Int32).toInt = 1003 := by decide
        have o17 : (1007 : Int32).toInt = 1007 := by decide
        have o18 : (1014 : Int32).toInt = 1014 := by decide
        have o19 : (3000 : Int32).toInt = 3000 := by decide
        have o20 : (4999 : Int32).toInt = 4999 := by decide
        exfalso
        omega
      · exfalso
        have o0 := own_o_mask hy1 2 (by decide) (by decide)
        have o1 := own_eq c3
        have o2 := own_nlt c23
        have o3 := own_lt c24
        have o4 := own_nlt c25
        have o5 := own_lt c26
        have o6 := own_nlt c27
        have o7 := own_nlt c28
        have o8 := own_lt c170
        have o9 := own_nlt c171
        have o10 := own_lt c172
        have o11 := rng32 i0
        have o12 := rng32 i1
        have o13 := rng32 y1
        have o14 : (3 : Int32).toInt = 3 := by decide
        have o15 : (0 : Int32).toInt = 0 := by decide
        have o16 : (1000 : Int32).toInt = 1000 := by decide
        have o17 : (1003 : Int32).toInt = 1003 := by decide
        have o18 : (1007 : Int32).toInt = 1007 := by decide
        have o19 : (1014 : Int32).toInt = 1014 := by decide
        have o20 : (3000 : Int32).toInt = 3000 := by decide
        have o21 : (4999 : Int32).toInt = 4999 := by decide
        exfalso
        omega
      · exfalso
        have o0 := own_o_mask hy1 2 (by decide) (by decide)
        have o1 := own_eq c3
        have o2 := own_nlt c23
        have o3 := own_lt c24
        have o4 := own_nlt c25
        have o5 := own_lt c26
        have o6 := own_nlt c27
        have o7 := own_nlt c28
        have o8 := own_lt c173
        have o9 := own_nlt c174
        have o10 := own_nlt c175
        have o11 := own_eq c176
        have o12 := rng32 i0
        have o13 := rng32 i1
        have o14 := rng32 y1
        have o15 : (3 : Int32).toInt = 3 := by decide
        have o16 : (0 : Int32).toInt = 0 := by decide
        have o17 : (1000 : Int32).toInt = 1000 := by decide
        have o18 : (1003 : Int32).toInt = 1003 := by decide
        have o19 : (1007 : Int32).toInt = 1007 := by decide
        have o20 : (1014 : Int32).toInt = 1014 := by decide
        have o21 : (3000 : Int32).toInt = 3000 := by decide
        have o22 : (4999 : Int32).toInt = 4999 := by decide
        have o23 : (1004 : Int32).toInt = 1004 := by decide
        exfalso
        omega
      · exfalso
        have o0 := own_o_mask hy1 2 (by decide) (by decide)
        have o1 := own_eq c3
        have o2 := own_nlt c23
        have o3 := own_lt c24
        have o4 := own_nlt c25
        have o5 := own_lt c26
        have o6 := own_nlt c27
        have o7 := own_nlt c28
        have o8 := own_lt c177
        have o9 := own_nlt c178
        have o10 := own_nlt c179
        have o11 := own_neq c180
        have o12 := own_eq c181
        have o13 := rng32 i0
        have o14 := rng32 i1
        have o15 := rng32 y1
        have o16 : (3 : Int32).toInt = 3 := by decide
        have o17 : (0 : Int32).toInt = 0 := by decide
        have o18 : (1000 : Int32).toInt = 1000 := by decide
        have o19 : (1003 : Int32).toInt = 1003 := by decide
        have o20 : (1007 : Int32).toInt = 1007 := by decide
        have o21 : (1014 : Int32).toInt = 1014 := by decide
        have o22 : (3000 : Int32).toInt = 3000 := by decide
        have o23 : (4999 : Int32).toInt = 4999 := by decide
        have o24 : (1004 : Int32).toInt = 1004 := by decide
        have o25 : (1005 : Int32).toInt = 1005 := by decide
        exfalso
        omega
      · exfalso
        have o0 := own_o_mask hy1 2 (by decide) (by decide)
        have o1 := own_eq c3
        have o2 := own_nlt c23
        have o3 := own_lt c24
        have o4 := own_nlt c25
        have o5 := own_lt c26
        have o6 := own_nlt c27
        have o7 := own_nlt c28
        have o8 := own_lt c182
        have o9 := own_nlt c183
        have o10 := own_nlt c184
        have o11 := own_neq c185
        have o12 := own_neq c186
        have o13 := own_eq c187
        have o14 := rng32 i0
        have o15 := rng32 i1
        have o16 := rng32 y1
        have o17 : (3 : Int32).toInt = 3 := by decide
        have o18 : (0 : Int32).toInt = 0 := by decide
        have o19 : (1000 : Int32).toInt = 1000 := by decide
        have o20 : (1003 : Int32).toInt = 1003 := by decide
        have o21 : (1007 : Int32).toInt = 1007 := by decide
        have o22 : (1014 : Int32).toInt = 1014 := by decide
        have o23 : (3000 : Int32).toInt = 3000 := by decide
        have o24 : (4999 : Int32).toInt = 4999 := by decide
        have o25 : (1004 : Int32).toInt = 1004 := by decide
        have o26 : (1005 : Int32).toInt = 1005 := by decide
        have o27 : (1006 : Int32).toInt = 1006 := by decide
        exfalso
        omega
      · exfalso
        have o0 := own_o_mask hy1 2 (by decide) (by decide)
        have o1 := own_eq c3
        have o2 := own_nlt c23
        have o3 := own_lt c24
        have o4 := own_nlt c25
        have o5 := own_lt c26
        have o6 := own_nlt c27
        have o7 := own_nlt c28
        have o8 := own_lt c188
        have o9 := own_nlt c189
        have o10 := own_nlt c190
        have o11 := own_neq c191
        have o12 := own_neq c192
        have o13 := own_neq c193
        have o14 := rng32 i0
        have o15 := rng32 i1
        have o16 := rng32 y1
        have o17 : (3 : Int32).toInt = 3 := by decide
        have o18 : (0 : Int32).toInt = 0 := by decide
        have o19 : (1000 : Int32).toInt = 1000 := by decide
        have o20 : (1003 : Int32).toInt = 1003 := by decide
        have o21 : (1007 : Int32).toInt = 1007 := by decide
        have o22 : (1014 : Int32).toInt = 1014 := by decide
        have o23 : (3000 : Int32).toInt = 3000 := by decide
        have o24 : (4999 : Int32).toInt = 4999 := by decide
        have o25 : (1004 : Int32).toInt = 1004 := by decide
        have o26 : (1005 : Int32).toInt = 1005 := by decide
        have o27 : (1006 : Int32).toInt = 1006 := by decide
        exfalso
        omega
      · show own_Go p e below (T167.setTop (mkF m 77 #[.val (.int i0), .val (.int i1), .val (.int y1), .val (.int y2), .val (.int i1)] [(.int (1 : Int32)), (.int (1 : Int32))])) _
        refine own_icmpNo (pc' := 80) B X167 at_77 (teq (by decide : (1 : Int32) = (1 : Int32))).2 rfl ?_
        refine own_iconst (pc' := 81) B X167 (z := (1 : Int32)) at_80 rfl rfl ?_
        refine own_goto (pc' := 85) B X167 at_81 (by decide) rfl ?_
        exact own_retN B X167 (t := .boolean) (z' := (1 : Int32)) (by simp) (by decide) at_85 (by decide) (by decide) rfl
      · exfalso
        have o0 := own_o_mask hy1 2 (by decide) (by decide)
        have o1 := own_eq c3
        have o2 := own_nlt c23
        have o3 := own_lt c24
        have o4 := own_nlt c25
        have o5 := own_lt c26
        have o6 := own_nlt c27
        have o7 := own_nlt c28
        have o8 := own_nlt c196
        have o9 := own_nlt c197
        have o10 := own_nlt c198
        have o11 := own_lt c199
        have o12 := rng32 i0
        have o13 := rng32 i1
        have o14 := rng32 y1
        have o15 : (3 : Int32).toInt = 3 := by decide
        have o16 : (0 : Int32).toInt = 0 := by decide
        have o17 : (1000 : Int32).toInt = 1000 := by decide
        have o18 : (1003 : Int32).toInt = 1003 := by decide
        have o19 : (1007 : Int32).toInt = 1007 := by decide
        have o20 : (1014 : Int32).toInt = 1014 := by decide
        have o21 : (3000 : Int32).toInt = 3000 := by decide
        have o22 : (4999 : Int32).toInt = 4999 := by decide
        have o23 : (5000 : Int32).toInt = 5000 := by decide
        exfalso
        omega
    · show own_Go p e below (T4.setTop (mkF m 72 #[.val (.int i0), .val (.int i1), .val (.int y1), .val (.int y2), .val (.int i1)] [(.int (1 : Int32))])) _
      refine own_iload (pc' := 74) B X4 at_72 rfl rfl ?_
      refine own_callS (pc' := 77) B X4 (own_w hw 5 rfl) (own_w hw 6 rfl) (own_w hw 7 rfl) (own_w hw 8 rfl) (by decide) [(.int i1)] [(.int (1 : Int32))] (rm_2 l Z a0 hw [] (i1) h0 n0 (Nat.le_trans Z0 K.1) ) 1 (by decide) (by decide) rfl pd_0 rfl rfl (Nat.le_of_eq rfl) at_74 rfl (k' := 0) (n' := 0) rfl rfl (by decide) (by decide) ?_
      intro T200 v200 h200 X200 q200
      rcases q200 with ⟨c201, c202, rfl, rfl⟩ | ⟨c203, c204, c205, rfl, rfl⟩ | ⟨c206, c207, c208, c209, rfl, rfl⟩ | ⟨c210, c211, c212, c213, c214, rfl, rfl⟩ | ⟨c215, c216, c217, c218, c219, c220, rfl, rfl⟩ | ⟨c221, c222, c223, c224, c225, c226, rfl, rfl⟩ | ⟨c227, c228, rfl, rfl⟩ | ⟨c229, c230, c231, c232, rfl, rfl⟩
      · exfalso
        have o0 := own_o_mask hy1 2 (by decide) (by decide)
        have o1 := own_eq c3
        have o2 := own_nlt c29
        have o3 := own_lt c30
        have o4 := own_nlt c31
        have o5 := own_nlt c32
        have o6 := own_lt c201
        have o7 := own_lt c202
        have o8 := rng32 i0
        have o9 := rng32 i1
        have o10 := rng32 y1
        have o11 : (3 : Int32).toInt = 3 := by decide
        have o12 : (0 : Int32).toInt = 0 := by decide
        have o13 : (1000 : Int32).toInt = 1000 := by decide
        have o14 : (1003 : Int32).toInt = 1003 := by decide
        have o15 : (1007 : Int32).toInt = 1007 := by decide
        have o16 : (1014 : Int32).toInt = 1014 := by decide
        have o17 : (3000 : Int32).toInt = 3000 := by decide
        exfalso
        omega
      · exfalso
        have o0 := own_o_mask hy1 2 (by decide) (by decide)
        have o1 := own_eq c3
        have o2 := own_nlt c29
        have o3 := own_lt c30
        have o4 := own_nlt c31
        have o5 := own_nlt c32
        have o6 := own_lt c203
        have o7 := own_nlt c204
        have o8 := own_lt c205
        have o9 := rng32 i0
        have o10 := rng32 i1
        have o11 := rng32 y1
        have o12 : (3 : Int32).toInt = 3 := by decide
        have o13 : (0 : Int32).toInt = 0 := by decide
        have o14 : (1000 : Int32).toInt = 1000 := by decide
        have o15 : (1003 : Int32).toInt = 1003 := by decide
        have o16 : (1007 : Int32).toInt = 1007 := by decide
        have o17 : (1014 : Int32).toInt = 1014 := by decide
        have o18 : (3000 : Int32).toInt = 3000 := by decide
        exfalso
        omega
      · exfalso
        have o0 := own_o_mask hy1 2 (by decide) (by decide)
        have o1 := own_eq c3
        have o2 := own_nlt c29
        have o3 := own_lt c30
        have o4 := own_nlt c31
        have o5 := own_nlt c32
        have o6 := own_lt c206
        have o7 := own_nlt c207
        have o8 := own_nlt c208
        have o9 := own_eq c209
        have o10 := rng32 i0
        have o11 := rng32 i1
        have o12 := rng32 y1
        have o13 : (3 : Int32).toInt = 3 := by decide
        have o14 : (0 : Int32).toInt = 0 := by decide
        have o15 : (1000 : Int32).toInt = 1000 := by decide
        have o16 : (1003 : Int32).toInt = 1003 := by decide
        have o17 : (1007 : Int32).toInt = 1007 := by decide
        have o18 : (1014 : Int32).toInt = 1014 := by decide
        have o19 : (3000 : Int32).toInt = 3000 := by decide
        have o20 : (1004 : Int32).toInt = 1004 := by decide
        exfalso
        omega
      · exfalso
        have o0 := own_o_mask hy1 2 (by decide) (by decide)
        have o1 := own_eq c3
        have o2 := own_nlt c29
        have o3 := own_lt c30
        have o4 := own_nlt c31
        have o5 := own_nlt c32
        have o6 := own_lt c210
        have o7 := own_nlt c211
        have o8 := own_nlt c212
        have o9 := own_neq c213
        have o10 := own_eq c214
        have o11 := rng32 i0
        have o12 := rng32 i1
        have o13 := rng32 y1
        have o14 : (3 : Int32).toInt = 3 := by decide
        have o15 : (0 : Int32).toInt = 0 := by decide
        have o16 : (1000 : Int32).toInt = 1000 := by decide
        have o17 : (1003 : Int32).toInt = 1003 := by decide
        have o18 : (1007 : Int32).toInt = 1007 := by decide
        have o19 : (1014 : Int32).toInt = 1014 := by decide
        have o20 : (3000 : Int32).toInt = 3000 := by decide
        have o21 : (1004 : Int32).toInt = 1004 := by decide
        have o22 : (1005 : Int32).toInt = 1005 := by decide
        exfalso
        omega
      · exfalso
        have o0 := own_o_mask hy1 2 (by decide) (by decide)
        have o1 := own_eq c3
        have o2 := own_nlt c29
        have o3 := own_lt c30
        have o4 := own_nlt c31
        have o5 := own_nlt c32
        have o6 := own_lt c215
        have o7 := own_nlt c216
        have o8 := own_nlt c217
        have o9 := own_neq c218
        have o10 := own_neq c219
        have o11 := own_eq c220
        have o12 := rng32 i0
        have o13 := rng32 i1
        have o14 := rng32 y1
        have o15 : (3 : Int32).toInt = 3 := by decide
        have o16 : (0 : Int32).toInt = 0 := by decide
        have o17 : (1000 : Int32).toInt = 1000 := by decide
        have o18 : (1003 : Int32).toInt = 1003 := by decide
        have o19 : (1007 : Int32).toInt = 1007 := by decide
        have o20 : (1014 : Int32).toInt = 1014 := by decide
        have o21 : (3000 : Int32).toInt = 3000 := by decide
        have o22 : (1004 : Int32).toInt = 1004 := by decide
        have o23 : (1005 : Int32).toInt = 1005 := by decide
        have o24 : (1006 : Int32).toInt = 1006 := by decide
        exfalso
        omega
      · show own_Go p e below (T200.setTop (mkF m 77 #[.val (.int i0), .val (.int i1), .val (.int y1), .val (.int y2), .val (.int i1)] [(.int (1 : Int32)), (.int (1 : Int32))])) _
        refine own_icmpNo (pc' := 80) B X200 at_77 (teq (by decide : (1 : Int32) = (1 : Int32))).2 rfl ?_
        refine own_iconst (pc' := 81) B X200 (z := (1 : Int32)) at_80 rfl rfl ?_
        refine own_goto (pc' := 85) B X200 at_81 (by decide) rfl ?_
        exact own_retN B X200 (t := .boolean) (z' := (1 : Int32)) (by simp) (by decide) at_85 (by decide) (by decide) rfl
      · exfalso
        have o0 := own_o_mask hy1 2 (by decide) (by decide)
        have o1 := own_eq c3
        have o2 := own_nlt c29
        have o3 := own_lt c30
        have o4 := own_nlt c31
        have o5 := own_nlt c32
        have o6 := own_nlt c227
        have o7 := own_lt c228
        have o8 := rng32 i0
        have o9 := rng32 i1
        have o10 := rng32 y1
        have o11 : (3 : Int32).toInt = 3 := by decide
        have o12 : (0 : Int32).toInt = 0 := by decide
        have o13 : (1000 : Int32).toInt = 1000 := by decide
        have o14 : (1003 : Int32).toInt = 1003 := by decide
        have o15 : (1007 : Int32).toInt = 1007 := by decide
        have o16 : (1014 : Int32).toInt = 1014 := by decide
        have o17 : (3000 : Int32).toInt = 3000 := by decide
        have o18 : (5000 : Int32).toInt = 5000 := by decide
        exfalso
        omega
      · exfalso
        have o0 := own_o_mask hy1 2 (by decide) (by decide)
        have o1 := own_eq c3
        have o2 := own_nlt c29
        have o3 := own_lt c30
        have o4 := own_nlt c31
        have o5 := own_nlt c32
        have o6 := own_nlt c229
        have o7 := own_nlt c230
        have o8 := own_nlt c231
        have o9 := own_lt c232
        have o10 := rng32 i0
        have o11 := rng32 i1
        have o12 := rng32 y1
        have o13 : (3 : Int32).toInt = 3 := by decide
        have o14 : (0 : Int32).toInt = 0 := by decide
        have o15 : (1000 : Int32).toInt = 1000 := by decide
        have o16 : (1003 : Int32).toInt = 1003 := by decide
        have o17 : (1007 : Int32).toInt = 1007 := by decide
        have o18 : (1014 : Int32).toInt = 1014 := by decide
        have o19 : (3000 : Int32).toInt = 3000 := by decide
        have o20 : (5000 : Int32).toInt = 5000 := by decide
        exfalso
        omega
    · show own_Go p e below (T4.setTop (mkF m 72 #[.val (.int i0), .val (.int i1), .val (.int y1), .val (.int y2), .val (.int i1)] [(.int (1 : Int32))])) _
      refine own_iload (pc' := 74) B X4 at_72 rfl rfl ?_
      refine own_callS (pc' := 77) B X4 (own_w hw 5 rfl) (own_w hw 6 rfl) (own_w hw 7 rfl) (own_w hw 8 rfl) (by decide) [(.int i1)] [(.int (1 : Int32))] (rm_2 l Z a0 hw [] (i1) h0 n0 (Nat.le_trans Z0 K.1) ) 1 (by decide) (by decide) rfl pd_0 rfl rfl (Nat.le_of_eq rfl) at_74 rfl (k' := 0) (n' := 0) rfl rfl (by decide) (by decide) ?_
      intro T233 v233 h233 X233 q233
      rcases q233 with ⟨c234, c235, rfl, rfl⟩ | ⟨c236, c237, c238, rfl, rfl⟩ | ⟨c239, c240, c241, c242, rfl, rfl⟩ | ⟨c243, c244, c245, c246, c247, rfl, rfl⟩ | ⟨c248, c249, c250, c251, c252, c253, rfl, rfl⟩ | ⟨c254, c255, c256, c257, c258, c259, rfl, rfl⟩ | ⟨c260, c261, rfl, rfl⟩ | ⟨c262, c263, c264, c265, rfl, rfl⟩
      · exfalso
        have o0 := own_o_mask hy1 2 (by decide) (by decide)
        have o1 := own_eq c3
        have o2 := own_nlt c33
        have o3 := own_nlt c34
        have o4 := own_lt c234
        have o5 := own_lt c235
        have o6 := rng32 i0
        have o7 := rng32 i1
        have o8 := rng32 y1
        have o9 : (3 : Int32).toInt = 3 := by decide
        have o10 : (0 : Int32).toInt = 0 := by decide
        have o11 : (1000 : Int32).toInt = 1000 := by decide
        have o12 : (1003 : Int32).toInt = 1003 := by decide
        have o13 : (3000 : Int32).toInt = 3000 := by decide
        exfalso
        omega
      · exfalso
        have o0 := own_o_mask hy1 2 (by decide) (by decide)
        have o1 := own_eq c3
        have o2 := own_nlt c33
        have o3 := own_nlt c34
        have o4 := own_lt c236
        have o5 := own_nlt c237
        have o6 := own_lt c238
        have o7 := rng32 i0
        have o8 := rng32 i1
        have o9 := rng32 y1
        have o10 : (3 : Int32).toInt = 3 := by decide
        have o11 : (0 : Int32).toInt = 0 := by decide
        have o12 : (1000 : Int32).toInt = 1000 := by decide
        have o13 : (1003 : Int32).toInt = 1003 := by decide
        have o14 : (3000 : Int32).toInt = 3000 := by decide
        have o15 : (1014 : Int32).toInt = 1014 := by decide
        exfalso
        omega
      · exfalso
        have o0 := own_o_mask hy1 2 (by decide) (by decide)
        have o1 := own_eq c3
        have o2 := own_nlt c33
        have o3 := own_nlt c34
        have o4 := own_lt c239
        have o5 := own_nlt c240
        have o6 := own_nlt c241
        have o7 := own_eq c242
        have o8 := rng32 i0
        have o9 := rng32 i1
        have o10 := rng32 y1
        have o11 : (3 : Int32).toInt = 3 := by decide
        have o12 : (0 : Int32).toInt = 0 := by decide
        have o13 : (1000 : Int32).toInt = 1000 := by decide
        have o14 : (1003 : Int32).toInt = 1003 := by decide
        have o15 : (3000 : Int32).toInt = 3000 := by decide
        have o16 : (1014 : Int32).toInt = 1014 := by decide
        have o17 : (1004 : Int32).toInt = 1004 := by decide
        exfalso
        omega
      · exfalso
        have o0 := own_o_mask hy1 2 (by decide) (by decide)
        have o1 := own_eq c3
        have o2 := own_nlt c33
        have o3 := own_nlt c34
        have o4 := own_lt c243
        have o5 := own_nlt c244
        have o6 := own_nlt c245
        have o7 := own_neq c246
        have o8 := own_eq c247
        have o9 := rng32 i0
        have o10 := rng32 i1
        have o11 := rng32 y1
        have o12 : (3 : Int32).toInt = 3 := by decide
        have o13 : (0 : Int32).toInt = 0 := by decide
        have o14 : (1000 : Int32).toInt = 1000 := by decide
        have o15 : (1003 : Int32).toInt = 1003 := by decide
        have o16 : (3000 : Int32).toInt = 3000 := by decide
        have o17 : (1014 : Int32).toInt = 1014 := by decide
        have o18 : (1004 : Int32).toInt = 1004 := by decide
        have o19 : (1005 : Int32).toInt = 1005 := by decide
        exfalso
        omega
      · exfalso
        have o0 := own_o_mask hy1 2 (by decide) (by decide)
        have o1 := own_eq c3
        have o2 := own_nlt c33
        have o3 := own_nlt c34
        have o4 := own_lt c248
        have o5 := own_nlt c249
        have o6 := own_nlt c250
        have o7 := own_neq c251
        have o8 := own_neq c252
        have o9 := own_eq c253
        have o10 := rng32 i0
        have o11 := rng32 i1
        have o12 := rng32 y1
        have o13 : (3 : Int32).toInt = 3 := by decide
        have o14 : (0 : Int32).toInt = 0 := by decide
        have o15 : (1000 : Int32).toInt = 1000 := by decide
        have o16 : (1003 : Int32).toInt = 1003 := by decide
        have o17 : (3000 : Int32).toInt = 3000 := by decide
        have o18 : (1014 : Int32).toInt = 1014 := by decide
        have o19 : (1004 : Int32).toInt = 1004 := by decide
        have o20 : (1005 : Int32).toInt = 1005 := by decide
        have o21 : (1006 : Int32).toInt = 1006 := by decide
        exfalso
        omega
      · show own_Go p e below (T233.setTop (mkF m 77 #[.val (.int i0), .val (.int i1), .val (.int y1), .val (.int y2), .val (.int i1)] [(.int (1 : Int32)), (.int (1 : Int32))])) _
        refine own_icmpNo (pc' := 80) B X233 at_77 (teq (by decide : (1 : Int32) = (1 : Int32))).2 rfl ?_
        refine own_iconst (pc' := 81) B X233 (z := (1 : Int32)) at_80 rfl rfl ?_
        refine own_goto (pc' := 85) B X233 at_81 (by decide) rfl ?_
        exact own_retN B X233 (t := .boolean) (z' := (1 : Int32)) (by simp) (by decide) at_85 (by decide) (by decide) rfl
      · exfalso
        have o0 := own_o_mask hy1 2 (by decide) (by decide)
        have o1 := own_eq c3
        have o2 := own_nlt c33
        have o3 := own_nlt c34
        have o4 := own_nlt c260
        have o5 := own_lt c261
        have o6 := rng32 i0
        have o7 := rng32 i1
        have o8 := rng32 y1
        have o9 : (3 : Int32).toInt = 3 := by decide
        have o10 : (0 : Int32).toInt = 0 := by decide
        have o11 : (1000 : Int32).toInt = 1000 := by decide
        have o12 : (1003 : Int32).toInt = 1003 := by decide
        have o13 : (3000 : Int32).toInt = 3000 := by decide
        have o14 : (5000 : Int32).toInt = 5000 := by decide
        exfalso
        omega
      · exfalso
        have o0 := own_o_mask hy1 2 (by decide) (by decide)
        have o1 := own_eq c3
        have o2 := own_nlt c33
        have o3 := own_nlt c34
        have o4 := own_nlt c262
        have o5 := own_nlt c263
        have o6 := own_nlt c264
        have o7 := own_lt c265
        have o8 := rng32 i0
        have o9 := rng32 i1
        have o10 := rng32 y1
        have o11 : (3 : Int32).toInt = 3 := by decide
        have o12 : (0 : Int32).toInt = 0 := by decide
        have o13 : (1000 : Int32).toInt = 1000 := by decide
        have o14 : (1003 : Int32).toInt = 1003 := by decide
        have o15 : (3000 : Int32).toInt = 3000 := by decide
        have o16 : (5000 : Int32).toInt = 5000 := by decide
        have o17 : (1014 : Int32).toInt = 1014 := by decide
        exfalso
        omega
  · refine own_ifYes (pc' := 19) B X0 at_10 ((if0 _ _).trans (feq c3).2) (by decide) rfl ?_
    refine own_iloadN (pc' := 20) B X0 at_19 rfl rfl ?_
    refine own_iconst (pc' := 21) B X0 (z := (1 : Int32)) at_20 rfl rfl ?_
    by_cases c266 : y1 = (1 : Int32)
    · refine own_icmpNo (pc' := 24) B X0 at_21 (teq c266).2 rfl ?_
      refine own_sipush (pc' := 27) B X0 (z := (995 : Int32)) at_24 rfl (by decide) ?_
      refine own_iloadN (pc' := 28) B X0 at_27 rfl rfl ?_
      refine own_bipush (pc' := 30) B X0 (z := (25 : Int32)) at_28 rfl (by decide) ?_
      obtain ⟨y267, hy267⟩ : ∃ z : Int32, y2 % (25 : Int32) = z := ⟨_, rfl⟩
      refine own_irem (pc' := 31) B X0 at_30 rfl (by decide) hy267 ?_
      obtain ⟨y268, hy268⟩ : ∃ z : Int32, (995 : Int32) + y267 = z := ⟨_, rfl⟩
      refine own_iadd (pc' := 32) B X0 at_31 rfl hy268 ?_
      refine own_istore (pc' := 34) B X0 (Ls' := #[.val (.int i0), .val (.int i1), .val (.int y1), .val (.int y2), .val (.int y268)]) at_32 rfl rfl ?_
      refine own_goto (pc' := 67) B X0 at_34 (by decide) rfl ?_
      refine own_iload (pc' := 69) B X0 at_67 rfl rfl ?_
      refine own_callS (pc' := 72) B X0 (own_w hw 1 rfl) (own_w hw 2 rfl) (own_w hw 3 rfl) (own_w hw 4 rfl) (by decide) [(.int y268)] [] (rm_1 l Z a0 hw [] (y268) h0 n0 (Nat.le_trans Z0 K.1) ) 0 (by decide) (by decide) rfl pd_0 rfl rfl (Nat.le_of_eq rfl) at_69 rfl (k' := 0) (n' := 0) rfl rfl (by decide) (by decide) ?_
      intro T269 v269 h269 X269 q269
      rcases q269 with ⟨c270, c271, c272, rfl, rfl⟩ | ⟨c273, c274, c275, c276, rfl, rfl⟩ | ⟨c277, c278, c279, c280, c281, rfl, rfl⟩ | ⟨c282, c283, c284, c285, c286, c287, rfl, rfl⟩ | ⟨c288, c289, c290, c291, c292, c293, rfl, rfl⟩ | ⟨c294, c295, c296, c297, rfl, rfl⟩ | ⟨c298, c299, rfl, rfl⟩
      · show own_Go p e below (T269.setTop (mkF m 72 #[.val (.int i0), .val (.int i1), .val (.int y1), .val (.int y2), .val (.int y268)] [(.int (0 : Int32))])) _
        refine own_iload (pc' := 74) B X269 at_72 rfl rfl ?_
        refine own_callS (pc' := 77) B X269 (own_w hw 5 rfl) (own_w hw 6 rfl) (own_w hw 7 rfl) (own_w hw 8 rfl) (by decide) [(.int y268)] [(.int (0 : Int32))] (rm_2 l Z a0 hw [] (y268) h0 n0 (Nat.le_trans Z0 K.1) ) 1 (by decide) (by decide) rfl pd_0 rfl rfl (Nat.le_of_eq rfl) at_74 rfl (k' := 0) (n' := 0) rfl rfl (by decide) (by decide) ?_
        intro T300 v300 h300 X300 q300
        rcases q300 with ⟨c301, c302, rfl, rfl⟩ | ⟨c303, c304, c305, rfl, rfl⟩ | ⟨c306, c307, c308, c309, rfl, rfl⟩ | ⟨c310, c311, c312, c313, c314, rfl, rfl⟩ | ⟨c315, c316, c317, c318, c319, c320, rfl, rfl⟩ | ⟨c321, c322, c323, c324, c325, c326, rfl, rfl⟩ | ⟨c327, c328, rfl, rfl⟩ | ⟨c329, c330, c331, c332, rfl, rfl⟩
        · show own_Go p e below (T300.setTop (mkF m 77 #[.val (.int i0), .val (.int i1), .val (.int y1), .val (.int y2), .val (.int y268)] [(.int (0 : Int32)), (.int (0 : Int32))])) _
          refine own_icmpNo (pc' := 80) B X300 at_77 (teq (by decide : (0 : Int32) = (0 : Int32))).2 rfl ?_
          refine own_iconst (pc' := 81) B X300 (z := (1 : Int32)) at_80 rfl rfl ?_
          refine own_goto (pc' := 85) B X300 at_81 (by decide) rfl ?_
          exact own_retN B X300 (t := .boolean) (z' := (1 : Int32)) (by simp) (by decide) at_85 (by decide) (by decide) rfl
        · exfalso
          have o0 := own_o_mask hy1 2 (by decide) (by decide)
          have o1 := own_o_mask hy2 31 (by decide) (by decide)
          have o2 := own_o_irem hy267 25 (by decide)
          have o3 := own_o_iadd hy268
          have o4 := own_neq c3
          have o5 := own_eq c266
          have o6 := own_lt c270
          have o7 := own_lt c271
          have o8 := own_lt c272
          have o9 := own_lt c303
          have o10 := own_nlt c304
          have o11 := own_lt c305
          have o12 := rng32 i0
          have o13 := rng32 i1
          have o14 := rng32 y1
          have o15 := rng32 y2
          have o16 := rng32 y267
          have o17 := rng32 y268
          have o18 : (3 : Int32).toInt = 3 := by decide
          have o19 : (2147483647 : Int32).toInt = 2147483647 := by decide
          have o20 : (25 : Int32).toInt = 25 := by decide
          have o21 : (995 : Int32).toInt = 995 := by decide
          have o22 : (0 : Int32).toInt = 0 := by decide
          have o23 : (1 : Int32).toInt = 1 := by decide
          have o24 : (1000 : Int32).toInt = 1000 := by decide
          have o25 : (1007 : Int32).toInt = 1007 := by decide
          have o26 : (3000 : Int32).toInt = 3000 := by decide
          have o27 : (1014 : Int32).toInt = 1014 := by decide
          exfalso
          omega
        · exfalso
          have o0 := own_o_mask hy1 2 (by decide) (by decide)
          have o1 := own_o_mask hy2 31 (by decide) (by decide)
          have o2 := own_o_irem hy267 25 (by decide)
          have o3 := own_o_iadd hy268
          have o4 := own_neq c3
          have o5 := own_eq c266
          have o6 := own_lt c270
          have o7 := own_lt c271
          have o8 := own_lt c272
          have o9 := own_lt c306
          have o10 := own_nlt c307
          have o11 := own_nlt c308
          have o12 := own_eq c309
          have o13 := rng32 i0
          have o14 := rng32 i1
          have o15 := rng32 y1
          have o16 := rng32 y2
          have o17 := rng32 y267
          have o18 := rng32 y268
          have o19 : (3 : Int32).toInt = 3 := by decide
          have o20 : (2147483647 : Int32).toInt = 2147483647 := by decide
          have o21 : (25 : Int32).toInt = 25 := by decide
          have o22 : (995 : Int32).toInt = 995 := by decide
          have o23 : (0 : Int32).toInt = 0 := by decide
          have o24 : (1 : Int32).toInt = 1 := by decide
          have o25 : (1000 : Int32).toInt = 1000 := by decide
          have o26 : (1007 : Int32).toInt = 1007 := by decide
          have o27 : (3000 : Int32).toInt = 3000 := by decide
          have o28 : (1014 : Int32).toInt = 1014 := by decide
          have o29 : (1004 : Int32).toInt = 1004 := by decide
          exfalso
          omega
        · exfalso
          have o0 := own_o_mask hy1 2 (by decide) (by decide)
          have o1 := own_o_mask hy2 31 (by decide) (by decide)
          have o2 := own_o_irem hy267 25 (by decide)
          have o3 := own_o_iadd hy268
          have o4 := own_neq c3
          have o5 := own_eq c266
          have o6 := own_lt c270
          have o7 := own_lt c271
          have o8 := own_lt c272
          have o9 := own_lt c310
          have o10 := own_nlt c311
          have o11 := own_nlt c312
          have o12 := own_neq c313
          have o13 := own_eq c314
          have o14 := rng32 i0
          have o15 := rng32 i1
          have o16 := rng32 y1
          have o17 := rng32 y2
          have o18 := rng32 y267
          have o19 := rng32 y268
          have o20 : (3 : Int32).toInt = 3 := by decide
          have o21 : (2147483647 : Int32).toInt = 2147483647 := by decide
          have o22 : (25 : Int32).toInt = 25 := by decide
          have o23 : (995 : Int32).toInt = 995 := by decide
          have o24 : (0 : Int32).toInt = 0 := by decide
          have o25 : (1 : Int32).toInt = 1 := by decide
          have o26 : (1000 : Int32).toInt = 1000 := by decide
          have o27 : (1007 : Int32).toInt = 1007 := by decide
          have o28 : (3000 : Int32).toInt = 3000 := by decide
          have o29 : (1014 : Int32).toInt = 1014 := by decide
          have o30 : (1004 : Int32).toInt = 1004 := by decide
          have o31 : (1005 : Int32).toInt = 1005 := by decide
          exfalso
          omega
        · exfalso
          have o0 := own_o_mask hy1 2 (by decide) (by decide)
          have o1 := own_o_mask hy2 31 (by decide) (by decide)
          have o2 := own_o_irem hy267 25 (by decide)
          have o3 := own_o_iadd hy268
          have o4 := own_neq c3
          have o5 := own_eq c266
          have o6 := own_lt c270
          have o7 := own_lt c271
          have o8 := own_lt c272
          have o9 := own_lt c315
          have o10 := own_nlt c316
          have o11 := own_nlt c317
          have o12 := own_neq c318
          have o13 := own_neq c319
          have o14 := own_eq c320
          have o15 := rng32 i0
          have o16 := rng32 i1
          have o17 := rng32 y1
          have o18 := rng32 y2
          have o19 := rng32 y267
          have o20 := rng32 y268
          have o21 : (3 : Int32).toInt = 3 := by decide
          have o22 : (2147483647 : Int32).toInt = 2147483647 := by decide
          have o23 : (25 : Int32).toInt = 25 := by decide
          have o24 : (995 : Int32).toInt = 995 := by decide
          have o25 : (0 : Int32).toInt = 0 := by decide
          have o26 : (1 : Int32).toInt = 1 := by decide
          have o27 : (1000 : Int32).toInt = 1000 := by decide
          have o28 : (1007 : Int32).toInt = 1007 := by decide
          have o29 : (3000 : Int32).toInt = 3000 := by decide
          have o30 : (1014 : Int32).toInt = 1014 := by decide
          have o31 : (1004 : Int32).toInt = 1004 := by decide
          have o32 : (1005 : Int32).toInt = 1005 := by decide
          have o33 : (1006 : Int32).toInt = 1006 := by decide
          exfalso
          omega
        · exfalso
          have o0 := own_o_mask hy1 2 (by decide) (by decide)
          have o1 := own_o_mask hy2 31 (by decide) (by decide)
          have o2 := own_o_irem hy267 25 (by decide)
          have o3 := own_o_iadd hy268
          have o4 := own_neq c3
          have o5 := own_eq c266
          have o6 := own_lt c270
          have o7 := own_lt c271
          have o8 := own_lt c272
          have o9 := own_lt c321
          have o10 := own_nlt c322
          have o11 := own_nlt c323
          have o12 := own_neq c324
          have o13 := own_neq c325
          have o14 := own_neq c326
          have o15 := rng32 i0
          have o16 := rng32 i1
          have o17 := rng32 y1
          have o18 := rng32 y2
          have o19 := rng32 y267
          have o20 := rng32 y268
          have o21 : (3 : Int32).toInt = 3 := by decide
          have o22 : (2147483647 : Int32).toInt = 2147483647 := by decide
          have o23 : (25 : Int32).toInt = 25 := by decide
          have o24 : (995 : Int32).toInt = 995 := by decide
          have o25 : (0 : Int32).toInt = 0 := by decide
          have o26 : (1 : Int32).toInt = 1 := by decide
          have o27 : (1000 : Int32).toInt = 1000 := by decide
          have o28 : (1007 : Int32).toInt = 1007 := by decide
          have o29 : (3000 : Int32).toInt = 3000 := by decide
          have o30 : (1014 : Int32).toInt = 1014 := by decide
          have o31 : (1004 : Int32).toInt = 1004 := by decide
          have o32 : (1005 : Int32).toInt = 1005 := by decide
          have o33 : (1006 : Int32).toInt = 1006 := by decide
          exfalso
          omega
        · exfalso
          have o0 := own_o_mask hy1 2 (by decide) (by decide)
          have o1 := own_o_mask hy2 31 (by decide) (by decide)
          have o2 := own_o_irem hy267 25 (by decide)
          have o3 := own_o_iadd hy268
          have o4 := own_neq c3
          have o5 := own_eq c266
          have o6 := own_lt c270
          have o7 := own_lt c271
          have o8 := own_lt c272
          have o9 := own_nlt c327
          have o10 := own_lt c328
          have o11 := rng32 i0
          have o12 := rng32 i1
          have o13 := rng32 y1
          have o14 := rng32 y2
          have o15 := rng32 y267
          have o16 := rng32 y268
          have o17 : (3 : Int32).toInt = 3 := by decide
          have o18 : (2147483647 : Int32).toInt = 2147483647 := by decide
          have o19 : (25 : Int32).toInt = 25 := by decide
          have o20 : (995 : Int32).toInt = 995 := by decide
          have o21 : (0 : Int32).toInt = 0 := by decide
          have o22 : (1 : Int32).toInt = 1 := by decide
          have o23 : (1000 : Int32).toInt = 1000 := by decide
          have o24 : (1007 : Int32).toInt = 1007 := by decide
          have o25 : (3000 : Int32).toInt = 3000 := by decide
          have o26 : (5000 : Int32).toInt = 5000 := by decide
          exfalso
          omega
        · exfalso
          have o0 := own_o_mask hy1 2 (by decide) (by decide)
          have o1 := own_o_mask hy2 31 (by decide) (by decide)
          have o2 := own_o_irem hy267 25 (by decide)
          have o3 := own_o_iadd hy268
          have o4 := own_neq c3
          have o5 := own_eq c266
          have o6 := own_lt c270
          have o7 := own_lt c271
          have o8 := own_lt c272
          have o9 := own_nlt c329
          have o10 := own_nlt c330
          have o11 := own_nlt c331
          have o12 := own_lt c332
          have o13 := rng32 i0
          have o14 := rng32 i1
          have o15 := rng32 y1
          have o16 := rng32 y2
          have o17 := rng32 y267
          have o18 := rng32 y268
          have o19 : (3 : Int32).toInt = 3 := by decide
          have o20 : (2147483647 : Int32).toInt = 2147483647 := by decide
          have o21 : (25 : Int32).toInt = 25 := by decide
          have o22 : (995 : Int32).toInt = 995 := by decide
          have o23 : (0 : Int32).toInt = 0 := by decide
          have o24 : (1 : Int32).toInt = 1 := by decide
          have o25 : (1000 : Int32).toInt = 1000 := by decide
          have o26 : (1007 : Int32).toInt = 1007 := by decide
          have o27 : (3000 : Int32).toInt = 3000 := by decide
          have o28 : (5000 : Int32).toInt = 5000 := by decide
          have o29 : (1014 : Int32).toInt = 1014 := by decide
          exfalso
          omega
      · show own_Go p e below (T269.setTop (mkF m 72 #[.val (.int i0), .val (.int i1), .val (.int y1), .val (.int y2), .val (.int y268)] [(.int (0 : Int32))])) _
        refine own_iload (pc' := 74) B X269 at_72 rfl rfl ?_
        refine own_callS (pc' := 77) B X269 (own_w hw 5 rfl) (own_w hw 6 rfl) (own_w hw 7 rfl) (own_w hw 8 rfl) (by decide) [(.int y268)] [(.int (0 : Int32))] (rm_2 l Z a0 hw [] (y268) h0 n0 (Nat.le_trans Z0 K.1) ) 1 (by decide) (by decide) rfl pd_0 rfl rfl (Nat.le_of_eq rfl) at_74 rfl (k' := 0) (n' := 0) rfl rfl (by decide) (by decide) ?_
        intro T333 v333 h333 X333 q333
        rcases q333 with ⟨c334, c335, rfl, rfl⟩ | ⟨c336, c337, c338, rfl, rfl⟩ | ⟨c339, c340, c341, c342, rfl, rfl⟩ | ⟨c343, c344, c345, c346, c347, rfl, rfl⟩ | ⟨c348, c349, c350, c351, c352, c353, rfl, rfl⟩ | ⟨c354, c355, c356, c357, c358, c359, rfl, rfl⟩ | ⟨c360, c361, rfl, rfl⟩ | ⟨c362, c363, c364, c365, rfl, rfl⟩
        · exfalso
          have o0 := own_o_mask hy1 2 (by decide) (by decide)
          have o1 := own_o_mask hy2 31 (by decide) (by decide)
          have o2 := own_o_irem hy267 25 (by decide)
          have o3 := own_o_iadd hy268
          have o4 := own_neq c3
          have o5 := own_eq c266
          have o6 := own_nlt c273
          have o7 := own_lt c274
          have o8 := own_lt c275
          have o9 := own_lt c276
          have o10 := own_lt c334
          have o11 := own_lt c335
          have o12 := rng32 i0
          have o13 := rng32 i1
          have o14 := rng32 y1
          have o15 := rng32 y2
          have o16 := rng32 y267
          have o17 := rng32 y268
          have o18 : (3 : Int32).toInt = 3 := by decide
          have o19 : (2147483647 : Int32).toInt = 2147483647 := by decide
          have o20 : (25 : Int32).toInt = 25 := by decide
          have o21 : (995 : Int32).toInt = 995 := by decide
          have o22 : (0 : Int32).toInt = 0 := by decide
          have o23 : (1 : Int32).toInt = 1 := by decide
          have o24 : (1000 : Int32).toInt = 1000 := by decide
          have o25 : (1003 : Int32).toInt = 1003 := by decide
          have o26 : (1007 : Int32).toInt = 1007 := by decide
          have o27 : (3000 : Int32).toInt = 3000 := by decide
          exfalso
          omega
        · exfalso
          have o0 := own_o_mask hy1 2 (by decide) (by decide)
          have o1 := own_o_mask hy2 31 (by decide) (by decide)
          have o2 := own_o_irem hy267 25 (by decide)
          have o3 := own_o_iadd hy268
          have o4 := own_neq c3
          have o5 := own_eq c266
          have o6 := own_nlt c273
          have o7 := own_lt c274
          have o8 := own_lt c275
          have o9 := own_lt c276
          have o10 := own_lt c336
          have o11 := own_nlt c337
          have o12 := own_lt c338
          have o13 := rng32 i0
          have o14 := rng32 i1
          have o15 := rng32 y1
          have o16 := rng32 y2
          have o17 := rng32 y267
          have o18 := rng32 y268
          have o19 : (3 : Int32).toInt = 3 := by decide
          have o20 : (2147483647 : Int32).toInt = 2147483647 := by decide
          have o21 : (25 : Int32).toInt = 25 := by decide
          have o22 : (995 : Int32).toInt = 995 := by decide
          have o23 : (0 : Int32).toInt = 0 := by decide
          have o24 : (1 : Int32).toInt = 1 := by decide
          have o25 : (1000 : Int32).toInt = 1000 := by decide
          have o26 : (1003 : Int32).toInt = 1003 := by decide
          have o27 : (1007 : Int32).toInt = 1007 := by decide
          have o28 : (3000 : Int32).toInt = 3000 := by decide
          have o29 : (1014 : Int32).toInt = 1014 := by decide
          exfalso
          omega
        · show own_Go p e below (T333.setTop (mkF m 77 #[.val (.int i0), .val (.int i1), .val (.int y1), .val (.int y2), .val (.int y268)] [(.int (0 : Int32)), (.int (0 : Int32))])) _
          refine own_icmpNo (pc' := 80) B X333 at_77 (teq (by decide : (0 : Int32) = (0 : Int32))).2 rfl ?_
          refine own_iconst (pc' := 81) B X333 (z := (1 : Int32)) at_80 rfl rfl ?_
          refine own_goto (pc' := 85) B X333 at_81 (by decide) rfl ?_
          exact own_retN B X333 (t := .boolean) (z' := (1 : Int32)) (by simp) (by decide) at_85 (by decide) (by decide) rfl
        · show own_Go p e below (T333.setTop (mkF m 77 #[.val (.int i0), .val (.int i1), .val (.int y1), .val (.int y2), .val (.int y268)] [(.int (0 : Int32)), (.int (0 : Int32))])) _
          refine own_icmpNo (pc' := 80) B X333 at_77 (teq (by decide : (0 : Int32) = (0 : Int32))).2 rfl ?_
          refine own_iconst (pc' := 81) B X333 (z := (1 : Int32)) at_80 rfl rfl ?_
          refine own_goto (pc' := 85) B X333 at_81 (by decide) rfl ?_
          exact own_retN B X333 (t := .boolean) (z' := (1 : Int32)) (by simp) (by decide) at_85 (by decide) (by decide) rfl
        · show own_Go p e below (T333.setTop (mkF m 77 #[.val (.int i0), .val (.int i1), .val (.int y1), .val (.int y2), .val (.int y268)] [(.int (0 : Int32)), (.int (0 : Int32))])) _
          refine own_icmpNo (pc' := 80) B X333 at_77 (teq (by decide : (0 : Int32) = (0 : Int32))).2 rfl ?_
          refine own_iconst (pc' := 81) B X333 (z := (1 : Int32)) at_80 rfl rfl ?_
          refine own_goto (pc' := 85) B X333 at_81 (by decide) rfl ?_
          exact own_retN B X333 (t := .boolean) (z' := (1 : Int32)) (by simp) (by decide) at_85 (by decide) (by decide) rfl
        · exfalso
          have o0 := own_o_mask hy1 2 (by decide) (by decide)
          have o1 := own_o_mask hy2 31 (by decide) (by decide)
          have o2 := own_o_irem hy267 25 (by decide)
          have o3 := own_o_iadd hy268
          have o4 := own_neq c3
          have o5 := own_eq c266
          have o6 := own_nlt c273
          have o7 := own_lt c274
          have o8 := own_lt c275
          have o9 := own_lt c276
          have o10 := own_lt c354
          have o11 := own_nlt c355
          have o12 := own_nlt c356
          have o13 := own_neq c357
          have o14 := own_neq c358
          have o15 := own_neq c359
          have o16 := rng32 i0
          have o17 := rng32 i1
          have o18 := rng32 y1
          have o19 := rng32 y2
          have o20 := rng32 y267
          have o21 := rng32 y268
          have o22 : (3 : Int32).toInt = 3 := by decide
          have o23 : (2147483647 : Int32).toInt = 2147483647 := by decide
          have o24 : (25 : Int32).toInt = 25 := by decide
          have o25 : (995 : Int32).toInt = 995 := by decide
          have o26 : (0 : Int32).toInt = 0 := by decide
          have o27 : (1 : Int32).toInt = 1 := by decide
          have o28 : (1000 : Int32).toInt = 1000 := by decide
          have o29 : (1003 : Int32).toInt = 1003 := by decide
          have o30 : (1007 : Int32).toInt = 1007 := by decide
          have o31 : (3000 : Int32).toInt = 3000 := by decide
          have o32 : (1014 : Int32).toInt = 1014 := by decide
          have o33 : (1004 : Int32).toInt = 1004 := by decide
          have o34 : (1005 : Int32).toInt = 1005 := by decide
          have o35 : (1006 : Int32).toInt = 1006 := by decide
          exfalso
          omega
        · exfalso
          have o0 := own_o_mask hy1 2 (by decide) (by decide)
          have o1 := own_o_mask hy2 31 (by decide) (by decide)
          have o2 := own_o_irem hy267 25 (by decide)
          have o3 := own_o_iadd hy268
          have o4 := own_neq c3
          have o5 := own_eq c266
          have o6 := own_nlt c273
          have o7 := own_lt c274
          have o8 := own_lt c275
          have o9 := own_lt c276
          have o10 := own_nlt c360
          have o11 := own_lt c361
          have o12 := rng32 i0
          have o13 := rng32 i1
          have o14 := rng32 y1
          have o15 := rng32 y2
          have o16 := rng32 y267
          have o17 := rng32 y268
          have o18 : (3 : Int32).toInt = 3 := by decide
          have o19 : (2147483647 : Int32).toInt = 2147483647 := by decide
          have o20 : (25 : Int32).toInt = 25 := by decide
          have o21 : (995 : Int32).toInt = 995 := by decide
          have o22 : (0 : Int32).toInt = 0 := by decide
          have o23 : (1 : Int32).toInt = 1 := by decide
          have o24 : (1000 : Int32).toInt = 1000 := by decide
          have o25 : (1003 : Int32).toInt = 1003 := by decide
          have o26 : (1007 : Int32).toInt = 1007 := by decide
          have o27 : (3000 : Int32).toInt = 3000 := by decide
          have o28 : (5000 : Int32).toInt = 5000 := by decide
          exfalso
          omega
        · exfalso
          have o0 := own_o_mask hy1 2 (by decide) (by decide)
          have o1 := own_o_mask hy2 31 (by decide) (by decide)
          have o2 := own_o_irem hy267 25 (by decide)
          have o3 := own_o_iadd hy268
          have o4 := own_neq c3
          have o5 := own_eq c266
          have o6 := own_nlt c273
          have o7 := own_lt c274
          have o8 := own_lt c275
          have o9 := own_lt c276
          have o10 := own_nlt c362
          have o11 := own_nlt c363
          have o12 := own_nlt c364
          have o13 := own_lt c365
          have o14 := rng32 i0
          have o15 := rng32 i1
          have o16 := rng32 y1
          have o17 := rng32 y2
          have o18 := rng32 y267
          have o19 := rng32 y268
          have o20 : (3 : Int32).toInt = 3 := by decide
          have o21 : (2147483647 : Int32).toInt = 2147483647 := by decide
          have o22 : (25 : Int32).toInt = 25 := by decide
          have o23 : (995 : Int32).toInt = 995 := by decide
          have o24 : (0 : Int32).toInt = 0 := by decide
          have o25 : (1 : Int32).toInt = 1 := by decide
          have o26 : (1000 : Int32).toInt = 1000 := by decide
          have o27 : (1003 : Int32).toInt = 1003 := by decide
          have o28 : (1007 : Int32).toInt = 1007 := by decide
          have o29 : (3000 : Int32).toInt = 3000 := by decide
          have o30 : (5000 : Int32).toInt = 5000 := by decide
          have o31 : (1014 : Int32).toInt = 1014 := by decide
          exfalso
          omega
      · show own_Go p e below (T269.setTop (mkF m 72 #[.val (.int i0), .val (.int i1), .val (.int y1), .val (.int y2), .val (.int y268)] [(.int (0 : Int32))])) _
        refine own_iload (pc' := 74) B X269 at_72 rfl rfl ?_
        refine own_callS (pc' := 77) B X269 (own_w hw 5 rfl) (own_w hw 6 rfl) (own_w hw 7 rfl) (own_w hw 8 rfl) (by decide) [(.int y268)] [(.int (0 : Int32))] (rm_2 l Z a0 hw [] (y268) h0 n0 (Nat.le_trans Z0 K.1) ) 1 (by decide) (by decide) rfl pd_0 rfl rfl (Nat.le_of_eq rfl) at_74 rfl (k' := 0) (n' := 0) rfl rfl (by decide) (by decide) ?_
        intro T366 v366 h366 X366 q366
        rcases q366 with ⟨c367, c368, rfl, rfl⟩ | ⟨c369, c370, c371, rfl, rfl⟩ | ⟨c372, c373, c374, c375, rfl, rfl⟩ | ⟨c376, c377, c378, c379, c380, rfl, rfl⟩ | ⟨c381, c382, c383, c384, c385, c386, rfl, rfl⟩ | ⟨c387, c388, c389, c390, c391, c392, rfl, rfl⟩ | ⟨c393, c394, rfl, rfl⟩ | ⟨c395, c396, c397, c398, rfl, rfl⟩
        · exfalso
          have o0 := own_o_mask hy1 2 (by decide) (by decide)
          have o1 := own_o_mask hy2 31 (by decide) (by decide)
          have o2 := own_o_irem hy267 25 (by decide)
          have o3 := own_o_iadd hy268
          have o4 := own_neq c3
          have o5 := own_eq c266
          have o6 := own_nlt c277
          have o7 := own_lt c278
          have o8 := own_nlt c279
          have o9 := own_lt c280
          have o10 := own_lt c281
          have o11 := own_lt c367
          have o12 := own_lt c368
          have o13 := rng32 i0
          have o14 := rng32 i1
          have o15 := rng32 y1
          have o16 := rng32 y2
          have o17 := rng32 y267
          have o18 := rng32 y268
          have o19 : (3 : Int32).toInt = 3 := by decide
          have o20 : (2147483647 : Int32).toInt = 2147483647 := by decide
          have o21 : (25 : Int32).toInt = 25 := by decide
          have o22 : (995 : Int32).toInt = 995 := by decide
          have o23 : (0 : Int32).toInt = 0 := by decide
          have o24 : (1 : Int32).toInt = 1 := by decide
          have o25 : (1000 : Int32).toInt = 1000 := by decide
          have o26 : (1003 : Int32).toInt = 1003 := by decide
          have o27 : (1007 : Int32).toInt = 1007 := by decide
          have o28 : (1014 : Int32).toInt = 1014 := by decide
          have o29 : (3000 : Int32).toInt = 3000 := by decide
          exfalso
          omega
        · show own_Go p e below (T366.setTop (mkF m 77 #[.val (.int i0), .val (.int i1), .val (.int y1), .val (.int y2), .val (.int y268)] [(.int (0 : Int32)), (.int (0 : Int32))])) _
          refine own_icmpNo (pc' := 80) B X366 at_77 (teq (by decide : (0 : Int32) = (0 : Int32))).2 rfl ?_
          refine own_iconst (pc' := 81) B X366 (z := (1 : Int32)) at_80 rfl rfl ?_
          refine own_goto (pc' := 85) B X366 at_81 (by decide) rfl ?_
          exact own_retN B X366 (t := .boolean) (z' := (1 : Int32)) (by simp) (by decide) at_85 (by decide) (by decide) rfl
        · exfalso
          have o0 := own_o_mask hy1 2 (by decide) (by decide)
          have o1 := own_o_mask hy2 31 (by decide) (by decide)
          have o2 := own_o_irem hy267 25 (by decide)
          have o3 := own_o_iadd hy268
          have o4 := own_neq c3
          have o5 := own_eq c266
          have o6 := own_nlt c277
          have o7 := own_lt c278
          have o8 := own_nlt c279
          have o9 := own_lt c280
          have o10 := own_lt c281
          have o11 := own_lt c372
          have o12 := own_nlt c373
          have o13 := own_nlt c374
          have o14 := own_eq c375
          have o15 := rng32 i0
          have o16 := rng32 i1
          have o17 := rng32 y1
          have o18 := rng32 y2
          have o19 := rng32 y267
          have o20 := rng32 y268
          have o21 : (3 : Int32).toInt = 3 := by decide
          have o22 : (2147483647 : Int32).toInt = 2147483647 := by decide
          have o23 : (25 : Int32).toInt = 25 := by decide
          have o24 : (995 : Int32).toInt = 995 := by decide
          have o25 : (0 : Int32).toInt = 0 := by decide
          have o26 : (1 : Int32).toInt = 1 := by decide
          have o27 : (1000 : Int32).toInt = 1000 := by decide
          have o28 : (1003 : Int32).toInt = 1003 := by decide
          have o29 : (1007 : Int32).toInt = 1007 := by decide
          have o30 : (1014 : Int32).toInt = 1014 := by decide
          have o31 : (3000 : Int32).toInt = 3000 := by decide
          have o32 : (1004 : Int32).toInt = 1004 := by decide
          exfalso
          omega
        · exfalso
          have o0 := own_o_mask hy1 2 (by decide) (by decide)
          have o1 := own_o_mask hy2 31 (by decide) (by decide)
          have o2 := own_o_irem hy267 25 (by decide)
          have o3 := own_o_iadd hy268
          have o4 := own_neq c3
          have o5 := own_eq c266
          have o6 := own_nlt c277
          have o7 := own_lt c278
          have o8 := own_nlt c279
          have o9 := own_lt c280
          have o10 := own_lt c281
          have o11 := own_lt c376
          have o12 := own_nlt c377
          have o13 := own_nlt c378
          have o14 := own_neq c379
          have o15 := own_eq c380
          have o16 := rng32 i0
          have o17 := rng32 i1
          have o18 := rng32 y1
          have o19 := rng32 y2
          have o20 := rng32 y267
          have o21 := rng32 y268
          have o22 : (3 : Int32).toInt = 3 := by decide
          have o23 : (2147483647 : Int32).toInt = 2147483647 := by decide
          have o24 : (25 : Int32).toInt = 25 := by decide
          have o25 : (995 : Int32).toInt = 995 := by decide
          have o26 : (0 : Int32).toInt = 0 := by decide
          have o27 : (1 : Int32).toInt = 1 := by decide
          have o28 : (1000 : Int32).toInt = 1000 := by decide
          have o29 : (1003 : Int32).toInt = 1003 := by decide
          have o30 : (1007 : Int32).toInt = 1007 := by decide
          have o31 : (1014 : Int32).toInt = 1014 := by decide
          have o32 : (3000 : Int32).toInt = 3000 := by decide
          have o33 : (1004 : Int32).toInt = 1004 := by decide
          have o34 : (1005 : Int32).toInt = 1005 := by decide
          exfalso
          omega
        · exfalso
          have o0 := own_o_mask hy1 2 (by decide) (by decide)
          have o1 := own_o_mask hy2 31 (by decide) (by decide)
          have o2 := own_o_irem hy267 25 (by decide)
          have o3 := own_o_iadd hy268
          have o4 := own_neq c3
          have o5 := own_eq c266
          have o6 := own_nlt c277
          have o7 := own_lt c278
          have o8 := own_nlt c279
          have o9 := own_lt c280
          have o10 := own_lt c281
          have o11 := own_lt c381
          have o12 := own_nlt c382
          have o13 := own_nlt c383
          have o14 := own_neq c384
          have o15 := own_neq c385
          have o16 := own_eq c386
          have o17 := rng32 i0
          have o18 := rng32 i1
          have o19 := rng32 y1
          have o20 := rng32 y2
          have o21 := rng32 y267
          have o22 := rng32 y268
          have o23 : (3 : Int32).toInt = 3 := by decide
          have o24 : (2147483647 : Int32).toInt = 2147483647 := by decide
          have o25 : (25 : Int32).toInt = 25 := by decide
          have o26 : (995 : Int32).toInt = 995 := by decide
          have o27 : (0 : Int32).toInt = 0 := by decide
          have o28 : (1 : Int32).toInt = 1 := by decide
          have o29 : (1000 : Int32).toInt = 1000 := by decide
          have o30 : (1003 : Int32).toInt = 1003 := by decide
          have o31 : (1007 : Int32).toInt = 1007 := by decide
          have o32 : (1014 : Int32).toInt = 1014 := by decide
          have o33 : (3000 : Int32).toInt = 3000 := by decide
          have o34 : (1004 : Int32).toInt = 1004 := by decide
          have o35 : (1005 : Int32).toInt = 1005 := by decide
          have o36 : (1006 : Int32).toInt = 1006 := by decide
          exfalso
          omega
        · exfalso
          have o0 := own_o_mask hy1 2 (by decide) (by decide)
          have o1 := own_o_mask hy2 31 (by decide) (by decide)
          have o2 := own_o_irem hy267 25 (by decide)
          have o3 := own_o_iadd hy268
          have o4 := own_neq c3
          have o5 := own_eq c266
          have o6 := own_nlt c277
          have o7 := own_lt c278
          have o8 := own_nlt c279
          have o9 := own_lt c280
          have o10 := own_lt c281
          have o11 := own_lt c387
          have o12 := own_nlt c388
          have o13 := own_nlt c389
          have o14 := own_neq c390
          have o15 := own_neq c391
          have o16 := own_neq c392
          have o17 := rng32 i0
          have o18 := rng32 i1
          have o19 := rng32 y1
          have o20 := rng32 y2
          have o21 := rng32 y267
          have o22 := rng32 y268
          have o23 : (3 : Int32).toInt = 3 := by decide
          have o24 : (2147483647 : Int32).toInt = 2147483647 := by decide
          have o25 : (25 : Int32).toInt = 25 := by decide
          have o26 : (995 : Int32).toInt = 995 := by decide
          have o27 : (0 : Int32).toInt = 0 := by decide
          have o28 : (1 : Int32).toInt = 1 := by decide
          have o29 : (1000 : Int32).toInt = 1000 := by decide
          have o30 : (1003 : Int32).toInt = 1003 := by decide
          have o31 : (1007 : Int32).toInt = 1007 := by decide
          have o32 : (1014 : Int32).toInt = 1014 := by decide
          have o33 : (3000 : Int32).toInt = 3000 := by decide
          have o34 : (1004 : Int32).toInt = 1004 := by decide
          have o35 : (1005 : Int32).toInt = 1005 := by decide
          have o36 : (1006 : Int32).toInt = 1006 := by decide
          exfalso
          omega
        · exfalso
          have o0 := own_o_mask hy1 2 (by decide) (by decide)
          have o1 := own_o_mask hy2 31 (by decide) (by decide)
          have o2 := own_o_irem hy267 25 (by decide)
          have o3 := own_o_iadd hy268
          have o4 := own_neq c3
          have o5 := own_eq c266
          have o6 := own_nlt c277
          have o7 := own_lt c278
          have o8 := own_nlt c279
          have o9 := own_lt c280
          have o10 := own_lt c281
          have o11 := own_nlt c393
          have o12 := own_lt c394
          have o13 := rng32 i0
          have o14 := rng32 i1
          have o15 := rng32 y1
          have o16 := rng32 y2
          have o17 := rng32 y267
          have o18 := rng32 y268
          have o19 : (3 : Int32).toInt = 3 := by decide
          have o20 : (2147483647 : Int32).toInt = 2147483647 := by decide
          have o21 : (25 : Int32).toInt = 25 := by decide
          have o22 : (995 : Int32).toInt = 995 := by decide
          have o23 : (0 : Int32).toInt = 0 := by decide
          have o24 : (1 : Int32).toInt = 1 := by decide
          have o25 : (1000 : Int32).toInt = 1000 := by decide
          have o26 : (1003 : Int32).toInt = 1003 := by decide
          have o27 : (1007 : Int32).toInt = 1007 := by decide
          have o28 : (1014 : Int32).toInt = 1014 := by decide
          have o29 : (3000 : Int32).toInt = 3000 := by decide
          have o30 : (5000 : Int32).toInt = 5000 := by decide
          exfalso
          omega
        · exfalso
          have o0 := own_o_mask hy1 2 (by decide) (by decide)
          have o1 := own_o_mask hy2 31 (by decide) (by decide)
          have o2 := own_o_irem hy267 25 (by decide)
          have o3 := own_o_iadd hy268
          have o4 := own_neq c3
          have o5 := own_eq c266
          have o6 := own_nlt c277
          have o7 := own_lt c278
          have o8 := own_nlt c279
          have o9 := own_lt c280
          have o10 := own_lt c281
          have o11 := own_nlt c395
          have o12 := own_nlt c396
          have o13 := own_nlt c397
          have o14 := own_lt c398
          have o15 := rng32 i0
          have o16 := rng32 i1
          have o17 := rng32 y1
          have o18 := rng32 y2
          have o19 := rng32 y267
          have o20 := rng32 y268
          have o21 : (3 : Int32).toInt = 3 := by decide
          have o22 : (2147483647 : Int32).toInt = 2147483647 := by decide
          have o23 : (25 : Int32).toInt = 25 := by decide
          have o24 : (995 : Int32).toInt = 995 := by decide
          have o25 : (0 : Int32).toInt = 0 := by decide
          have o26 : (1 : Int32).toInt = 1 := by decide
          have o27 : (1000 : Int32).toInt = 1000 := by decide
          have o28 : (1003 : Int32).toInt = 1003 := by decide
          have o29 : (1007 : Int32).toInt = 1007 := by decide
          have o30 : (1014 : Int32).toInt = 1014 := by decide
          have o31 : (3000 : Int32).toInt = 3000 := by decide
          have o32 : (5000 : Int32).toInt = 5000 := by decide
          exfalso
          omega
      · exfalso
        have o0 := own_o_mask hy1 2 (by decide) (by decide)
        have o1 := own_o_mask hy2 31 (by decide) (by decide)
        have o2 := own_o_irem hy267 25 (by decide)
        have o3 := own_o_iadd hy268
        have o4 := own_neq c3
        have o5 := own_eq c266
        have o6 := own_nlt c282
        have o7 := own_lt c283
        have o8 := own_nlt c284
        have o9 := own_lt c285
        have o10 := own_nlt c286
        have o11 := own_lt c287
        have o12 := rng32 i0
        have o13 := rng32 i1
        have o14 := rng32 y1
        have o15 := rng32 y2
        have o16 := rng32 y267
        have o17 := rng32 y268
        have o18 : (3 : Int32).toInt = 3 := by decide
        have o19 : (2147483647 : Int32).toInt = 2147483647 := by decide
        have o20 : (25 : Int32).toInt = 25 := by decide
        have o21 : (995 : Int32).toInt = 995 := by decide
        have o22 : (0 : Int32).toInt = 0 := by decide
        have o23 : (1 : Int32).toInt = 1 := by decide
        have o24 : (1000 : Int32).toInt = 1000 := by decide
        have o25 : (1003 : Int32).toInt = 1003 := by decide
        have o26 : (1007 : Int32).toInt = 1007 := by decide
        have o27 : (1014 : Int32).toInt = 1014 := by decide
        have o28 : (3000 : Int32).toInt = 3000 := by decide
        have o29 : (4999 : Int32).toInt = 4999 := by decide
        exfalso
        omega
      · exfalso
        have o0 := own_o_mask hy1 2 (by decide) (by decide)
        have o1 := own_o_mask hy2 31 (by decide) (by decide)
        have o2 := own_o_irem hy267 25 (by decide)
        have o3 := own_o_iadd hy268
        have o4 := own_neq c3
        have o5 := own_eq c266
        have o6 := own_nlt c288
        have o7 := own_lt c289
        have o8 := own_nlt c290
        have o9 := own_lt c291
        have o10 := own_nlt c292
        have o11 := own_nlt c293
        have o12 := rng32 i0
        have o13 := rng32 i1
        have o14 := rng32 y1
        have o15 := rng32 y2
        have o16 := rng32 y267
        have o17 := rng32 y268
        have o18 : (3 : Int32).toInt = 3 := by decide
        have o19 : (2147483647 : Int32).toInt = 2147483647 := by decide
        have o20 : (25 : Int32).toInt = 25 := by decide
        have o21 : (995 : Int32).toInt = 995 := by decide
        have o22 : (0 : Int32).toInt = 0 := by decide
        have o23 : (1 : Int32).toInt = 1 := by decide
        have o24 : (1000 : Int32).toInt = 1000 := by decide
        have o25 : (1003 : Int32).toInt = 1003 := by decide
        have o26 : (1007 : Int32).toInt = 1007 := by decide
        have o27 : (1014 : Int32).toInt = 1014 := by decide
        have o28 : (3000 : Int32).toInt = 3000 := by decide
        have o29 : (4999 : Int32).toInt = 4999 := by decide
        exfalso
        omega
      · show own_Go p e below (T269.setTop (mkF m 72 #[.val (.int i0), .val (.int i1), .val (.int y1), .val (.int y2), .val (.int y268)] [(.int (1 : Int32))])) _
        refine own_iload (pc' := 74) B X269 at_72 rfl rfl ?_
        refine own_callS (pc' := 77) B X269 (own_w hw 5 rfl) (own_w hw 6 rfl) (own_w hw 7 rfl) (own_w hw 8 rfl) (by decide) [(.int y268)] [(.int (1 : Int32))] (rm_2 l Z a0 hw [] (y268) h0 n0 (Nat.le_trans Z0 K.1) ) 1 (by decide) (by decide) rfl pd_0 rfl rfl (Nat.le_of_eq rfl) at_74 rfl (k' := 0) (n' := 0) rfl rfl (by decide) (by decide) ?_
        intro T399 v399 h399 X399 q399
        rcases q399 with ⟨c400, c401, rfl, rfl⟩ | ⟨c402, c403, c404, rfl, rfl⟩ | ⟨c405, c406, c407, c408, rfl, rfl⟩ | ⟨c409, c410, c411, c412, c413, rfl, rfl⟩ | ⟨c414, c415, c416, c417, c418, c419, rfl, rfl⟩ | ⟨c420, c421, c422, c423, c424, c425, rfl, rfl⟩ | ⟨c426, c427, rfl, rfl⟩ | ⟨c428, c429, c430, c431, rfl, rfl⟩
        · exfalso
          have o0 := own_o_mask hy1 2 (by decide) (by decide)
          have o1 := own_o_mask hy2 31 (by decide) (by decide)
          have o2 := own_o_irem hy267 25 (by decide)
          have o3 := own_o_iadd hy268
          have o4 := own_neq c3
          have o5 := own_eq c266
          have o6 := own_nlt c294
          have o7 := own_lt c295
          have o8 := own_nlt c296
          have o9 := own_nlt c297
          have o10 := own_lt c400
          have o11 := own_lt c401
          have o12 := rng32 i0
          have o13 := rng32 i1
          have o14 := rng32 y1
          have o15 := rng32 y2
          have o16 := rng32 y267
          have o17 := rng32 y268
          have o18 : (3 : Int32).toInt = 3 := by decide
          have o19 : (2147483647 : Int32).toInt = 2147483647 := by decide
          have o20 : (25 : Int32).toInt = 25 := by decide
          have o21 : (995 : Int32).toInt = 995 := by decide
          have o22 : (0 : Int32).toInt = 0 := by decide
          have o23 : (1 : Int32).toInt = 1 := by decide
          have o24 : (1000 : Int32).toInt = 1000 := by decide
          have o25 : (1003 : Int32).toInt = 1003 := by decide
          have o26 : (1007 : Int32).toInt = 1007 := by decide
          have o27 : (1014 : Int32).toInt = 1014 := by decide
          have o28 : (3000 : Int32).toInt = 3000 := by decide
          exfalso
          omega
        · exfalso
          have o0 := own_o_mask hy1 2 (by decide) (by decide)
          have o1 := own_o_mask hy2 31 (by decide) (by decide)
          have o2 := own_o_irem hy267 25 (by decide)
          have o3 := own_o_iadd hy268
          have o4 := own_neq c3
          have o5 := own_eq c266
          have o6 := own_nlt c294
          have o7 := own_lt c295
          have o8 := own_nlt c296
          have o9 := own_nlt c297
          have o10 := own_lt c402
          have o11 := own_nlt c403
          have o12 := own_lt c404
          have o13 := rng32 i0
          have o14 := rng32 i1
          have o15 := rng32 y1
          have o16 := rng32 y2
          have o17 := rng32 y267
          have o18 := rng32 y268
          have o19 : (3 : Int32).toInt = 3 := by decide
          have o20 : (2147483647 : Int32).toInt = 2147483647 := by decide
          have o21 : (25 : Int32).toInt = 25 := by decide
          have o22 : (995 : Int32).toInt = 995 := by decide
          have o23 : (0 : Int32).toInt = 0 := by decide
          have o24 : (1 : Int32).toInt = 1 := by decide
          have o25 : (1000 : Int32).toInt = 1000 := by decide
          have o26 : (1003 : Int32).toInt = 1003 := by decide
          have o27 : (1007 : Int32).toInt = 1007 := by decide
          have o28 : (1014 : Int32).toInt = 1014 := by decide
          have o29 : (3000 : Int32).toInt = 3000 := by decide
          exfalso
          omega
        · exfalso
          have o0 := own_o_mask hy1 2 (by decide) (by decide)
          have o1 := own_o_mask hy2 31 (by decide) (by decide)
          have o2 := own_o_irem hy267 25 (by decide)
          have o3 := own_o_iadd hy268
          have o4 := own_neq c3
          have o5 := own_eq c266
          have o6 := own_nlt c294
          have o7 := own_lt c295
          have o8 := own_nlt c296
          have o9 := own_nlt c297
          have o10 := own_lt c405
          have o11 := own_nlt c406
          have o12 := own_nlt c407
          have o13 := own_eq c408
          have o14 := rng32 i0
          have o15 := rng32 i1
          have o16 := rng32 y1
          have o17 := rng32 y2
          have o18 := rng32 y267
          have o19 := rng32 y268
          have o20 : (3 : Int32).toInt = 3 := by decide
          have o21 : (2147483647 : Int32).toInt = 2147483647 := by decide
          have o22 : (25 : Int32).toInt = 25 := by decide
          have o23 : (995 : Int32).toInt = 995 := by decide
          have o24 : (0 : Int32).toInt = 0 := by decide
          have o25 : (1 : Int32).toInt = 1 := by decide
          have o26 : (1000 : Int32).toInt = 1000 := by decide
          have o27 : (1003 : Int32).toInt = 1003 := by decide
          have o28 : (1007 : Int32).toInt = 1007 := by decide
          have o29 : (1014 : Int32).toInt = 1014 := by decide
          have o30 : (3000 : Int32).toInt = 3000 := by decide
          have o31 : (1004 : Int32).toInt = 1004 := by decide
          exfalso
          omega
        · exfalso
          have o0 := own_o_mask hy1 2 (by decide) (by decide)
          have o1 := own_o_mask hy2 31 (by decide) (by decide)
          have o2 := own_o_irem hy267 25 (by decide)
          have o3 := own_o_iadd hy268
          have o4 := own_neq c3
          have o5 := own_eq c266
          have o6 := own_nlt c294
          have o7 := own_lt c295
          have o8 := own_nlt c296
          have o9 := own_nlt c297
          have o10 := own_lt c409
          have o11 := own_nlt c410
          have o12 := own_nlt c411
          have o13 := own_neq c412
          have o14 := own_eq c413
          have o15 := rng32 i0
          have o16 := rng32 i1
          have o17 := rng32 y1
          have o18 := rng32 y2
          have o19 := rng32 y267
          have o20 := rng32 y268
          have o21 : (3 : Int32).toInt = 3 := by decide
          have o22 : (2147483647 : Int32).toInt = 2147483647 := by decide
          have o23 : (25 : Int32).toInt = 25 := by decide
          have o24 : (995 : Int32).toInt = 995 := by decide
          have o25 : (0 : Int32).toInt = 0 := by decide
          have o26 : (1 : Int32).toInt = 1 := by decide
          have o27 : (1000 : Int32).toInt = 1000 := by decide
          have o28 : (1003 : Int32).toInt = 1003 := by decide
          have o29 : (1007 : Int32).toInt = 1007 := by decide
          have o30 : (1014 : Int32).toInt = 1014 := by decide
          have o31 : (3000 : Int32).toInt = 3000 := by decide
          have o32 : (1004 : Int32).toInt = 1004 := by decide
          have o33 : (1005 : Int32).toInt = 1005 := by decide
          exfalso
          omega
        · exfalso
          have o0 := own_o_mask hy1 2 (by decide) (by decide)
          have o1 := own_o_mask hy2 31 (by decide) (by decide)
          have o2 := own_o_irem hy267 25 (by decide)
          have o3 := own_o_iadd hy268
          have o4 := own_neq c3
          have o5 := own_eq c266
          have o6 := own_nlt c294
          have o7 := own_lt c295
          have o8 := own_nlt c296
          have o9 := own_nlt c297
          have o10 := own_lt c414
          have o11 := own_nlt c415
          have o12 := own_nlt c416
          have o13 := own_neq c417
          have o14 := own_neq c418
          have o15 := own_eq c419
          have o16 := rng32 i0
          have o17 := rng32 i1
          have o18 := rng32 y1
          have o19 := rng32 y2
          have o20 := rng32 y267
          have o21 := rng32 y268
          have o22 : (3 : Int32).toInt = 3 := by decide
          have o23 : (2147483647 : Int32).toInt = 2147483647 := by decide
          have o24 : (25 : Int32).toInt = 25 := by decide
          have o25 : (995 : Int32).toInt = 995 := by decide
          have o26 : (0 : Int32).toInt = 0 := by decide
          have o27 : (1 : Int32).toInt = 1 := by decide
          have o28 : (1000 : Int32).toInt = 1000 := by decide
          have o29 : (1003 : Int32).toInt = 1003 := by decide
          have o30 : (1007 : Int32).toInt = 1007 := by decide
          have o31 : (1014 : Int32).toInt = 1014 := by decide
          have o32 : (3000 : Int32).toInt = 3000 := by decide
          have o33 : (1004 : Int32).toInt = 1004 := by decide
          have o34 : (1005 : Int32).toInt = 1005 := by decide
          have o35 : (1006 : Int32).toInt = 1006 := by decide
          exfalso
          omega
        · show own_Go p e below (T399.setTop (mkF m 77 #[.val (.int i0), .val (.int i1), .val (.int y1), .val (.int y2), .val (.int y268)] [(.int (1 : Int32)), (.int (1 : Int32))])) _
          refine own_icmpNo (pc' := 80) B X399 at_77 (teq (by decide : (1 : Int32) = (1 : Int32))).2 rfl ?_
          refine own_iconst (pc' := 81) B X399 (z := (1 : Int32)) at_80 rfl rfl ?_
          refine own_goto (pc' := 85) B X399 at_81 (by decide) rfl ?_
          exact own_retN B X399 (t := .boolean) (z' := (1 : Int32)) (by simp) (by decide) at_85 (by decide) (by decide) rfl
        · exfalso
          have o0 := own_o_mask hy1 2 (by decide) (by decide)
          have o1 := own_o_mask hy2 31 (by decide) (by decide)
          have o2 := own_o_irem hy267 25 (by decide)
          have o3 := own_o_iadd hy268
          have o4 := own_neq c3
          have o5 := own_eq c266
          have o6 := own_nlt c294
          have o7 := own_lt c295
          have o8 := own_nlt c296
          have o9 := own_nlt c297
          have o10 := own_nlt c426
          have o11 := own_lt c427
          have o12 := rng32 i0
          have o13 := rng32 i1
          have o14 := rng32 y1
          have o15 := rng32 y2
          have o16 := rng32 y267
          have o17 := rng32 y268
          have o18 : (3 : Int32).toInt = 3 := by decide
          have o19 : (2147483647 : Int32).toInt = 2147483647 := by decide
          have o20 : (25 : Int32).toInt = 25 := by decide
          have o21 : (995 : Int32).toInt = 995 := by decide
          have o22 : (0 : Int32).toInt = 0 := by decide
          have o23 : (1 : Int32).toInt = 1 := by decide
          have o24 : (1000 : Int32).toInt = 1000 := by decide
          have o25 : (1003 : Int32).toInt = 1003 := by decide
          have o26 : (1007 : Int32).toInt = 1007 := by decide
          have o27 : (1014 : Int32).toInt = 1014 := by decide
          have o28 : (3000 : Int32).toInt = 3000 := by decide
          have o29 : (5000 : Int32).toInt = 5000 := by decide
          exfalso
          omega
        · exfalso
          have o0 := own_o_mask hy1 2 (by decide) (by decide)
          have o1 := own_o_mask hy2 31 (by decide) (by decide)
          have o2 := own_o_irem hy267 25 (by decide)
          have o3 := own_o_iadd hy268
          have o4 := own_neq c3
          have o5 := own_eq c266
          have o6 := own_nlt c294
          have o7 := own_lt c295
          have o8 := own_nlt c296
          have o9 := own_nlt c297
          have o10 := own_nlt c428
          have o11 := own_nlt c429
          have o12 := own_nlt c430
          have o13 := own_lt c431
          have o14 := rng32 i0
          have o15 := rng32 i1
          have o16 := rng32 y1
          have o17 := rng32 y2
          have o18 := rng32 y267
          have o19 := rng32 y268
          have o20 : (3 : Int32).toInt = 3 := by decide
          have o21 : (2147483647 : Int32).toInt = 2147483647 := by decide
          have o22 : (25 : Int32).toInt = 25 := by decide
          have o23 : (995 : Int32).toInt = 995 := by decide
          have o24 : (0 : Int32).toInt = 0 := by decide
          have o25 : (1 : Int32).toInt = 1 := by decide
          have o26 : (1000 : Int32).toInt = 1000 := by decide
          have o27 : (1003 : Int32).toInt = 1003 := by decide
          have o28 : (1007 : Int32).toInt = 1007 := by decide
          have o29 : (1014 : Int32).toInt = 1014 := by decide
          have o30 : (3000 : Int32).toInt = 3000 := by decide
          have o31 : (5000 : Int32).toInt = 5000 := by decide
          exfalso
          omega
      · show own_Go p e below (T269.setTop (mkF m 72 #[.val (.int i0), .val (.int i1), .val (.int y1), .val (.int y2), .val (.int y268)] [(.int (1 : Int32))])) _
        refine own_iload (pc' := 74) B X269 at_72 rfl rfl ?_
        refine own_callS (pc' := 77) B X269 (own_w hw 5 rfl) (own_w hw 6 rfl) (own_w hw 7 rfl) (own_w hw 8 rfl) (by decide) [(.int y268)] [(.int (1 : Int32))] (rm_2 l Z a0 hw [] (y268) h0 n0 (Nat.le_trans Z0 K.1) ) 1 (by decide) (by decide) rfl pd_0 rfl rfl (Nat.le_of_eq rfl) at_74 rfl (k' := 0) (n' := 0) rfl rfl (by decide) (by decide) ?_
        intro T432 v432 h432 X432 q432
        rcases q432 with ⟨c433, c434, rfl, rfl⟩ | ⟨c435, c436, c437, rfl, rfl⟩ | ⟨c438, c439, c440, c441, rfl, rfl⟩ | ⟨c442, c443, c444, c445, c446, rfl, rfl⟩ | ⟨c447, c448, c449, c450, c451, c452, rfl, rfl⟩ | ⟨c453, c454, c455, c456, c457, c458, rfl, rfl⟩ | ⟨c459, c460, rfl, rfl⟩ | ⟨c461, c462, c463, c464, rfl, rfl⟩
        · exfalso
          have o0 := own_o_mask hy1 2 (by decide) (by decide)
          have o1 := own_o_mask hy2 31 (by decide) (by decide)
          have o2 := own_o_irem hy267 25 (by decide)
          have o3 := own_o_iadd hy268
          have o4 := own_neq c3
          have o5 := own_eq c266
          have o6 := own_nlt c298
          have o7 := own_nlt c299
          have o8 := own_lt c433
          have o9 := own_lt c434
          have o10 := rng32 i0
          have o11 := rng32 i1
          have o12 := rng32 y1
          have o13 := rng32 y2
          have o14 := rng32 y267
          have o15 := rng32 y268
          have o16 : (3 : Int32).toInt = 3 := by decide
          have o17 : (2147483647 : Int32).toInt = 2147483647 := by decide
          have o18 : (25 : Int32).toInt = 25 := by decide
          have o19 : (995 : Int32).toInt = 995 := by decide
          have o20 : (0 : Int32).toInt = 0 := by decide
          have o21 : (1 : Int32).toInt = 1 := by decide
          have o22 : (1000 : Int32).toInt = 1000 := by decide
          have o23 : (1003 : Int32).toInt = 1003 := by decide
          have o24 : (3000 : Int32).toInt = 3000 := by decide
          exfalso
          omega
        · exfalso
          have o0 := own_o_mask hy1 2 (by decide) (by decide)
          have o1 := own_o_mask hy2 31 (by decide) (by decide)
          have o2 := own_o_irem hy267 25 (by decide)
          have o3 := own_o_iadd hy268
          have o4 := own_neq c3
          have o5 := own_eq c266
          have o6 := own_nlt c298
          have o7 := own_nlt c299
          have o8 := own_lt c435
          have o9 := own_nlt c436
          have o10 := own_lt c437
          have o11 := rng32 i0
          have o12 := rng32 i1
          have o13 := rng32 y1
          have o14 := rng32 y2
          have o15 := rng32 y267
          have o16 := rng32 y268
          have o17 : (3 : Int32).toInt = 3 := by decide
          have o18 : (2147483647 : Int32).toInt = 2147483647 := by decide
          have o19 : (25 : Int32).toInt = 25 := by decide
          have o20 : (995 : Int32).toInt = 995 := by decide
          have o21 : (0 : Int32).toInt = 0 := by decide
          have o22 : (1 : Int32).toInt = 1 := by decide
          have o23 : (1000 : Int32).toInt = 1000 := by decide
          have o24 : (1003 : Int32).toInt = 1003 := by decide
          have o25 : (3000 : Int32).toInt = 3000 := by decide
          have o26 : (1014 : Int32).toInt = 1014 := by decide
          exfalso
          omega
        · exfalso
          have o0 := own_o_mask hy1 2 (by decide) (by decide)
          have o1 := own_o_mask hy2 31 (by decide) (by decide)
          have o2 := own_o_irem hy267 25 (by decide)
          have o3 := own_o_iadd hy268
          have o4 := own_neq c3
          have o5 := own_eq c266
          have o6 := own_nlt c298
          have o7 := own_nlt c299
          have o8 := own_lt c438
          have o9 := own_nlt c439
          have o10 := own_nlt c440
          have o11 := own_eq c441
          have o12 := rng32 i0
          have o13 := rng32 i1
          have o14 := rng32 y1
          have o15 := rng32 y2
          have o16 := rng32 y267
          have o17 := rng32 y268
          have o18 : (3 : Int32).toInt = 3 := by decide
          have o19 : (2147483647 : Int32).toInt = 2147483647 := by decide
          have o20 : (25 : Int32).toInt = 25 := by decide
          have o21 : (995 : Int32).toInt = 995 := by decide
          have o22 : (0 : Int32).toInt = 0 := by decide
          have o23 : (1 : Int32).toInt = 1 := by decide
          have o24 : (1000 : Int32).toInt = 1000 := by decide
          have o25 : (1003 : Int32).toInt = 1003 := by decide
          have o26 : (3000 : Int32).toInt = 3000 := by decide
          have o27 : (1014 : Int32).toInt = 1014 := by decide
          have o28 : (1004 : Int32).toInt = 1004 := by decide
          exfalso
          omega
        · exfalso
          have o0 := own_o_mask hy1 2 (by decide) (by decide)
          have o1 := own_o_mask hy2 31 (by decide) (by decide)
          have o2 := own_o_irem hy267 25 (by decide)
          have o3 := own_o_iadd hy268
          have o4 := own_neq c3
          have o5 := own_eq c266
          have o6 := own_nlt c298
          have o7 := own_nlt c299
          have o8 := own_lt c442
          have o9 := own_nlt c443
          have o10 := own_nlt c444
          have o11 := own_neq c445
          have o12 := own_eq c446
          have o13 := rng32 i0
          have o14 := rng32 i1
          have o15 := rng32 y1
          have o16 := rng32 y2
          have o17 := rng32 y267
          have o18 := rng32 y268
          have o19 : (3 : Int32).toInt = 3 := by decide
          have o20 : (2147483647 : Int32).toInt = 2147483647 := by decide
          have o21 : (25 : Int32).toInt = 25 := by decide
          have o22 : (995 : Int32).toInt = 995 := by decide
          have o23 : (0 : Int32).toInt = 0 := by decide
          have o24 : (1 : Int32).toInt = 1 := by decide
          have o25 : (1000 : Int32).toInt = 1000 := by decide
          have o26 : (1003 : Int32).toInt = 1003 := by decide
          have o27 : (3000 : Int32).toInt = 3000 := by decide
          have o28 : (1014 : Int32).toInt = 1014 := by decide
          have o29 : (1004 : Int32).toInt = 1004 := by decide
          have o30 : (1005 : Int32).toInt = 1005 := by decide
          exfalso
          omega
        · exfalso
          have o0 := own_o_mask hy1 2 (by decide) (by decide)
          have o1 := own_o_mask hy2 31 (by decide) (by decide)
          have o2 := own_o_irem hy267 25 (by decide)
          have o3 := own_o_iadd hy268
          have o4 := own_neq c3
          have o5 := own_eq c266
          have o6 := own_nlt c298
          have o7 := own_nlt c299
          have o8 := own_lt c447
          have o9 := own_nlt c448
          have o10 := own_nlt c449
          have o11 := own_neq c450
          have o12 := own_neq c451
          have o13 := own_eq c452
          have o14 := rng32 i0
          have o15 := rng32 i1
          have o16 := rng32 y1
          have o17 := rng32 y2
          have o18 := rng32 y267
          have o19 := rng32 y268
          have o20 : (3 : Int32).toInt = 3 := by decide
          have o21 : (2147483647 : Int32).toInt = 2147483647 := by decide
          have o22 : (25 : Int32).toInt = 25 := by decide
          have o23 : (995 : Int32).toInt = 995 := by decide
          have o24 : (0 : Int32).toInt = 0 := by decide
          have o25 : (1 : Int32).toInt = 1 := by decide
          have o26 : (1000 : Int32).toInt = 1000 := by decide
          have o27 : (1003 : Int32).toInt = 1003 := by decide
          have o28 : (3000 : Int32).toInt = 3000 := by decide
          have o29 : (1014 : Int32).toInt = 1014 := by decide
          have o30 : (1004 : Int32).toInt = 1004 := by decide
          have o31 : (1005 : Int32).toInt = 1005 := by decide
          have o32 : (1006 : Int32).toInt = 1006 := by decide
          exfalso
          omega
        · show own_Go p e below (T432.setTop (mkF m 77 #[.val (.int i0), .val (.int i1), .val (.int y1), .val (.int y2), .val (.int y268)] [(.int (1 : Int32)), (.int (1 : Int32))])) _
          refine own_icmpNo (pc' := 80) B X432 at_77 (teq (by decide : (1 : Int32) = (1 : Int32))).2 rfl ?_
          refine own_iconst (pc' := 81) B X432 (z := (1 : Int32)) at_80 rfl rfl ?_
          refine own_goto (pc' := 85) B X432 at_81 (by decide) rfl ?_
          exact own_retN B X432 (t := .boolean) (z' := (1 : Int32)) (by simp) (by decide) at_85 (by decide) (by decide) rfl
        · exfalso
          have o0 := own_o_mask hy1 2 (by decide) (by decide)
          have o1 := own_o_mask hy2 31 (by decide) (by decide)
          have o2 := own_o_irem hy267 25 (by decide)
          have o3 := own_o_iadd hy268
          have o4 := own_neq c3
          have o5 := own_eq c266
          have o6 := own_nlt c298
          have o7 := own_nlt c299
          have o8 := own_nlt c459
          have o9 := own_lt c460
          have o10 := rng32 i0
          have o11 := rng32 i1
          have o12 := rng32 y1
          have o13 := rng32 y2
          have o14 := rng32 y267
          have o15 := rng32 y268
          have o16 : (3 : Int32).toInt = 3 := by decide
          have o17 : (2147483647 : Int32).toInt = 2147483647 := by decide
          have o18 : (25 : Int32).toInt = 25 := by decide
          have o19 : (995 : Int32).toInt = 995 := by decide
          have o20 : (0 : Int32).toInt = 0 := by decide
          have o21 : (1 : Int32).toInt = 1 := by decide
          have o22 : (1000 : Int32).toInt = 1000 := by decide
          have o23 : (1003 : Int32).toInt = 1003 := by decide
          have o24 : (3000 : Int32).toInt = 3000 := by decide
          have o25 : (5000 : Int32).toInt = 5000 := by decide
          exfalso
          omega
        · exfalso
          have o0 := own_o_mask hy1 2 (by decide) (by decide)
          have o1 := own_o_mask hy2 31 (by decide) (by decide)
          have o2 := own_o_irem hy267 25 (by decide)
          have o3 := own_o_iadd hy268
          have o4 := own_neq c3
          have o5 := own_eq c266
          have o6 := own_nlt c298
          have o7 := own_nlt c299
          have o8 := own_nlt c461
          have o9 := own_nlt c462
          have o10 := own_nlt c463
          have o11 := own_lt c464
          have o12 := rng32 i0
          have o13 := rng32 i1
          have o14 := rng32 y1
          have o15 := rng32 y2
          have o16 := rng32 y267
          have o17 := rng32 y268
          have o18 : (3 : Int32).toInt = 3 := by decide
          have o19 : (2147483647 : Int32).toInt = 2147483647 := by decide
          have o20 : (25 : Int32).toInt = 25 := by decide
          have o21 : (995 : Int32).toInt = 995 := by decide
          have o22 : (0 : Int32).toInt = 0 := by decide
          have o23 : (1 : Int32).toInt = 1 := by decide
          have o24 : (1000 : Int32).toInt = 1000 := by decide
          have o25 : (1003 : Int32).toInt = 1003 := by decide
          have o26 : (3000 : Int32).toInt = 3000 := by decide
          have o27 : (5000 : Int32).toInt = 5000 := by decide
          have o28 : (1014 : Int32).toInt = 1014 := by decide
          exfalso
          omega
    · refine own_icmpYes (pc' := 37) B X0 at_21 (feq c266).2 (by decide) rfl ?_
      refine own_iloadN (pc' := 38) B X0 at_37 rfl rfl ?_
      refine own_iconst (pc' := 39) B X0 (z := (2 : Int32)) at_38 rfl rfl ?_
      by_cases c465 : y1 = (2 : Int32)
      · refine own_icmpNo (pc' := 42) B X0 at_39 (teq c465).2 rfl ?_
        refine own_sipush (pc' := 45) B X0 (z := (2995 : Int32)) at_42 rfl (by decide) ?_
        refine own_iloadN (pc' := 46) B X0 at_45 rfl rfl ?_
        refine own_sipush (pc' := 49) B X0 (z := (2010 : Int32)) at_46 rfl (by decide) ?_
        obtain ⟨y466, hy466⟩ : ∃ z : Int32, y2 % (2010 : Int32) = z := ⟨_, rfl⟩
        refine own_irem (pc' := 50) B X0 at_49 rfl (by decide) hy466 ?_
        obtain ⟨y467, hy467⟩ : ∃ z : Int32, (2995 : Int32) + y466 = z := ⟨_, rfl⟩
        refine own_iadd (pc' := 51) B X0 at_50 rfl hy467 ?_
        refine own_istore (pc' := 53) B X0 (Ls' := #[.val (.int i0), .val (.int i1), .val (.int y1), .val (.int y2), .val (.int y467)]) at_51 rfl rfl ?_
        refine own_goto (pc' := 67) B X0 at_53 (by decide) rfl ?_
        refine own_iload (pc' := 69) B X0 at_67 rfl rfl ?_
        refine own_callS (pc' := 72) B X0 (own_w hw 1 rfl) (own_w hw 2 rfl) (own_w hw 3 rfl) (own_w hw 4 rfl) (by decide) [(.int y467)] [] (rm_1 l Z a0 hw [] (y467) h0 n0 (Nat.le_trans Z0 K.1) ) 0 (by decide) (by decide) rfl pd_0 rfl rfl (Nat.le_of_eq rfl) at_69 rfl (k' := 0) (n' := 0) rfl rfl (by decide) (by decide) ?_
        intro T468 v468 h468 X468 q468
        rcases q468 with ⟨c469, c470, c471, rfl, rfl⟩ | ⟨c472, c473, c474, c475, rfl, rfl⟩ | ⟨c476, c477, c478, c479, c480, rfl, rfl⟩ | ⟨c481, c482, c483, c484, c485, c486, rfl, rfl⟩ | ⟨c487, c488, c489, c490, c491, c492, rfl, rfl⟩ | ⟨c493, c494, c495, c496, rfl, rfl⟩ | ⟨c497, c498, rfl, rfl⟩
        · exfalso
          have o0 := own_o_mask hy1 2 (by decide) (by decide)
          have o1 := own_o_mask hy2 31 (by decide) (by decide)
          have o2 := own_o_irem hy466 2010 (by decide)
          have o3 := own_o_iadd hy467
          have o4 := own_neq c3
          have o5 := own_neq c266
          have o6 := own_eq c465
          have o7 := own_lt c469
          have o8 := own_lt c470
          have o9 := own_lt c471
          have o10 := rng32 i0
          have o11 := rng32 i1
          have o12 := rng32 y1
          have o13 := rng32 y2
          have o14 := rng32 y466
          have o15 := rng32 y467
          have o16 : (3 : Int32).toInt = 3 := by decide
          have o17 : (2147483647 : Int32).toInt = 2147483647 := by decide
          have o18 : (2010 : Int32).toInt = 2010 := by decide
          have o19 : (2995 : Int32).toInt = 2995 := by decide
          have o20 : (0 : Int32).toInt = 0 := by decide
          have o21 : (1 : Int32).toInt = 1 := by decide
          have o22 : (2 : Int32).toInt = 2 := by decide
          have o23 : (1000 : Int32).toInt = 1000 := by decide
          have o24 : (1007 : Int32).toInt = 1007 := by decide
          have o25 : (3000 : Int32).toInt = 3000 := by decide
          exfalso
          omega
        · exfalso
          have o0 := own_o_mask hy1 2 (by decide) (by decide)
          have o1 := own_o_mask hy2 31 (by decide) (by decide)
          have o2 := own_o_irem hy466 2010 (by decide)
          have o3 := own_o_iadd hy467
          have o4 := own_neq c3
          have o5 := own_neq c266
          have o6 := own_eq c465
          have o7 := own_nlt c472
          have o8 := own_lt c473
          have o9 := own_lt c474
          have o10 := own_lt c475
          have o11 := rng32 i0
          have o12 := rng32 i1
          have o13 := rng32 y1
          have o14 := rng32 y2
          have o15 := rng32 y466
          have o16 := rng32 y467
          have o17 : (3 : Int32).toInt = 3 := by decide
          have o18 : (2147483647 : Int32).toInt = 2147483647 := by decide
          have o19 : (2010 : Int32).toInt = 2010 := by decide
          have o20 : (2995 : Int32).toInt = 2995 := by decide
          have o21 : (0 : Int32).toInt = 0 := by decide
          have o22 : (1 : Int32).toInt = 1 := by decide
          have o23 : (2 : Int32).toInt = 2 := by decide
          have o24 : (1000 : Int32).toInt = 1000 := by decide
          have o25 : (1003 : Int32).toInt = 1003 := by decide
          have o26 : (1007 : Int32).toInt = 1007 := by decide
          have o27 : (3000 : Int32).toInt = 3000 := by decide
          exfalso
          omega
        · show own_Go p e below (T468.setTop (mkF m 72 #[.val (.int i0), .val (.int i1), .val (.int y1), .val (.int y2), .val (.int y467)] [(.int (0 : Int32))])) _
          refine own_iload (pc' := 74) B X468 at_72 rfl rfl ?_
          refine own_callS (pc' := 77) B X468 (own_w hw 5 rfl) (own_w hw 6 rfl) (own_w hw 7 rfl) (own_w hw 8 rfl) (by decide) [(.int y467)] [(.int (0 : Int32))] (rm_2 l Z a0 hw [] (y467) h0 n0 (Nat.le_trans Z0 K.1) ) 1 (by decide) (by decide) rfl pd_0 rfl rfl (Nat.le_of_eq rfl) at_74 rfl (k' := 0) (n' := 0) rfl rfl (by decide) (by decide) ?_
          intro T499 v499 h499 X499 q499
          rcases q499 with ⟨c500, c501, rfl, rfl⟩ | ⟨c502, c503, c504, rfl, rfl⟩ | ⟨c505, c506, c507, c508, rfl, rfl⟩ | ⟨c509, c510, c511, c512, c513, rfl, rfl⟩ | ⟨c514, c515, c516, c517, c518, c519, rfl, rfl⟩ | ⟨c520, c521, c522, c523, c524, c525, rfl, rfl⟩ | ⟨c526, c527, rfl, rfl⟩ | ⟨c528, c529, c530, c531, rfl, rfl⟩
          · exfalso
            have o0 := own_o_mask hy1 2 (by decide) (by decide)
            have o1 := own_o_mask hy2 31 (by decide) (by decide)
            have o2 := own_o_irem hy466 2010 (by decide)
            have o3 := own_o_iadd hy467
            have o4 := own_neq c3
            have o5 := own_neq c266
            have o6 := own_eq c465
            have o7 := own_nlt c476
            have o8 := own_lt c477
            have o9 := own_nlt c478
            have o10 := own_lt c479
            have o11 := own_lt c480
            have o12 := own_lt c500
            have o13 := own_lt c501
            have o14 := rng32 i0
            have o15 := rng32 i1
            have o16 := rng32 y1
            have o17 := rng32 y2
            have o18 := rng32 y466
            have o19 := rng32 y467
            have o20 : (3 : Int32).toInt = 3 := by decide
            have o21 : (2147483647 : Int32).toInt = 2147483647 := by decide
            have o22 : (2010 : Int32).toInt = 2010 := by decide
            have o23 : (2995 : Int32).toInt = 2995 := by decide
            have o24 : (0 : Int32).toInt = 0 := by decide
            have o25 : (1 : Int32).toInt = 1 := by decide
            have o26 : (2 : Int32).toInt = 2 := by decide
            have o27 : (1000 : Int32).toInt = 1000 := by decide
            have o28 : (1003 : Int32).toInt = 1003 := by decide
            have o29 : (1007 : Int32).toInt = 1007 := by decide
            have o30 : (1014 : Int32).toInt = 1014 := by decide
            have o31 : (3000 : Int32).toInt = 3000 := by decide
            exfalso
            omega
          · show own_Go p e below (T499.setTop (mkF m 77 #[.val (.int i0), .val (.int i1), .val (.int y1), .val (.int y2), .val (.int y467)] [(.int (0 : Int32)), (.int (0 : Int32))])) _
            refine own_icmpNo (pc' := 80) B X499 at_77 (teq (by decide : (0 : Int32) = (0 : Int32))).2 rfl ?_
            refine own_iconst (pc' := 81) B X499 (z := (1 : Int32)) at_80 rfl rfl ?_
            refine own_goto (pc' := 85) B X499 at_81 (by decide) rfl ?_
            exact own_retN B X499 (t := .boolean) (z' := (1 : Int32)) (by simp) (by decide) at_85 (by decide) (by decide) rfl
          · exfalso
            have o0 := own_o_mask hy1 2 (by decide) (by decide)
            have o1 := own_o_mask hy2 31 (by decide) (by decide)
            have o2 := own_o_irem hy466 2010 (by decide)
            have o3 := own_o_iadd hy467
            have o4 := own_neq c3
            have o5 := own_neq c266
            have o6 := own_eq c465
            have o7 := own_nlt c476
            have o8 := own_lt c477
            have o9 := own_nlt c478
            have o10 := own_lt c479
            have o11 := own_lt c480
            have o12 := own_lt c505
            have o13 := own_nlt c506
            have o14 := own_nlt c507
            have o15 := own_eq c508
            have o16 := rng32 i0
            have o17 := rng32 i1
            have o18 := rng32 y1
            have o19 := rng32 y2
            have o20 := rng32 y466
            have o21 := rng32 y467
            have o22 : (3 : Int32).toInt = 3 := by decide
            have o23 : (2147483647 : Int32).toInt = 2147483647 := by decide
            have o24 : (2010 : Int32).toInt = 2010 := by decide
            have o25 : (2995 : Int32).toInt = 2995 := by decide
            have o26 : (0 : Int32).toInt = 0 := by decide
            have o27 : (1 : Int32).toInt = 1 := by decide
            have o28 : (2 : Int32).toInt = 2 := by decide
            have o29 : (1000 : Int32).toInt = 1000 := by decide
            have o30 : (1003 : Int32).toInt = 1003 := by decide
            have o31 : (1007 : Int32).toInt = 1007 := by decide
            have o32 : (1014 : Int32).toInt = 1014 := by decide
            have o33 : (3000 : Int32).toInt = 3000 := by decide
            have o34 : (1004 : Int32).toInt = 1004 := by decide
            exfalso
            omega
          · exfalso
            have o0 := own_o_mask hy1 2 (by decide) (by decide)
            have o1 := own_o_mask hy2 31 (by decide) (by decide)
            have o2 := own_o_irem hy466 2010 (by decide)
            have o3 := own_o_iadd hy467
            have o4 := own_neq c3
            have o5 := own_neq c266
            have o6 := own_eq c465
            have o7 := own_nlt c476
            have o8 := own_lt c477
            have o9 := own_nlt c478
            have o10 := own_lt c479
            have o11 := own_lt c480
            have o12 := own_lt c509
            have o13 := own_nlt c510
            have o14 := own_nlt c511
            have o15 := own_neq c512
            have o16 := own_eq c513
            have o17 := rng32 i0
            have o18 := rng32 i1
            have o19 := rng32 y1
            have o20 := rng32 y2
            have o21 := rng32 y466
            have o22 := rng32 y467
            have o23 : (3 : Int32).toInt = 3 := by decide
            have o24 : (2147483647 : Int32).toInt = 2147483647 := by decide
            have o25 : (2010 : Int32).toInt = 2010 := by decide
            have o26 : (2995 : Int32).toInt = 2995 := by decide
            have o27 : (0 : Int32).toInt = 0 := by decide
            have o28 : (1 : Int32).toInt = 1 := by decide
            have o29 : (2 : Int32).toInt = 2 := by decide
            have o30 : (1000 : Int32).toInt = 1000 := by decide
            have o31 : (1003 : Int32).toInt = 1003 := by decide
            have o32 : (1007 : Int32).toInt = 1007 := by decide
            have o33 : (1014 : Int32).toInt = 1014 := by decide
            have o34 : (3000 : Int32).toInt = 3000 := by decide
            have o35 : (1004 : Int32).toInt = 1004 := by decide
            have o36 : (1005 : Int32).toInt = 1005 := by decide
            exfalso
            omega
          · exfalso
            have o0 := own_o_mask hy1 2 (by decide) (by decide)
            have o1 := own_o_mask hy2 31 (by decide) (by decide)
            have o2 := own_o_irem hy466 2010 (by decide)
            have o3 := own_o_iadd hy467
            have o4 := own_neq c3
            have o5 := own_neq c266
            have o6 := own_eq c465
            have o7 := own_nlt c476
            have o8 := own_lt c477
            have o9 := own_nlt c478
            have o10 := own_lt c479
            have o11 := own_lt c480
            have o12 := own_lt c514
            have o13 := own_nlt c515
            have o14 := own_nlt c516
            have o15 := own_neq c517
            have o16 := own_neq c518
            have o17 := own_eq c519
            have o18 := rng32 i0
            have o19 := rng32 i1
            have o20 := rng32 y1
            have o21 := rng32 y2
            have o22 := rng32 y466
            have o23 := rng32 y467
            have o24 : (3 : Int32).toInt = 3 := by decide
            have o25 : (2147483647 : Int32).toInt = 2147483647 := by decide
            have o26 : (2010 : Int32).toInt = 2010 := by decide
            have o27 : (2995 : Int32).toInt = 2995 := by decide
            have o28 : (0 : Int32).toInt = 0 := by decide
            have o29 : (1 : Int32).toInt = 1 := by decide
            have o30 : (2 : Int32).toInt = 2 := by decide
            have o31 : (1000 : Int32).toInt = 1000 := by decide
            have o32 : (1003 : Int32).toInt = 1003 := by decide
            have o33 : (1007 : Int32).toInt = 1007 := by decide
            have o34 : (1014 : Int32).toInt = 1014 := by decide
            have o35 : (3000 : Int32).toInt = 3000 := by decide
            have o36 : (1004 : Int32).toInt = 1004 := by decide
            have o37 : (1005 : Int32).toInt = 1005 := by decide
            have o38 : (1006 : Int32).toInt = 1006 := by decide
            exfalso
            omega
          · exfalso
            have o0 := own_o_mask hy1 2 (by decide) (by decide)
            have o1 := own_o_mask hy2 31 (by decide) (by decide)
            have o2 := own_o_irem hy466 2010 (by decide)
            have o3 := own_o_iadd hy467
            have o4 := own_neq c3
            have o5 := own_neq c266
            have o6 := own_eq c465
            have o7 := own_nlt c476
            have o8 := own_lt c477
            have o9 := own_nlt c478
            have o10 := own_lt c479
            have o11 := own_lt c480
            have o12 := own_lt c520
            have o13 := own_nlt c521
            have o14 := own_nlt c522
            have o15 := own_neq c523
            have o16 := own_neq c524
            have o17 := own_neq c525
            have o18 := rng32 i0
            have o19 := rng32 i1
            have o20 := rng32 y1
            have o21 := rng32 y2
            have o22 := rng32 y466
            have o23 := rng32 y467
            have o24 : (3 : Int32).toInt = 3 := by decide
            have o25 : (2147483647 : Int32).toInt = 2147483647 := by decide
            have o26 : (2010 : Int32).toInt = 2010 := by decide
            have o27 : (2995 : Int32).toInt = 2995 := by decide
            have o28 : (0 : Int32).toInt = 0 := by decide
            have o29 : (1 : Int32).toInt = 1 := by decide
            have o30 : (2 : Int32).toInt = 2 := by decide
            have o31 : (1000 : Int32).toInt = 1000 := by decide
            have o32 : (1003 : Int32).toInt = 1003 := by decide
            have o33 : (1007 : Int32).toInt = 1007 := by decide
            have o34 : (1014 : Int32).toInt = 1014 := by decide
            have o35 : (3000 : Int32).toInt = 3000 := by decide
            have o36 : (1004 : Int32).toInt = 1004 := by decide
            have o37 : (1005 : Int32).toInt = 1005 := by decide
            have o38 : (1006 : Int32).toInt = 1006 := by decide
            exfalso
            omega
          · exfalso
            have o0 := own_o_mask hy1 2 (by decide) (by decide)
            have o1 := own_o_mask hy2 31 (by decide) (by decide)
            have o2 := own_o_irem hy466 2010 (by decide)
            have o3 := own_o_iadd hy467
            have o4 := own_neq c3
            have o5 := own_neq c266
            have o6 := own_eq c465
            have o7 := own_nlt c476
            have o8 := own_lt c477
            have o9 := own_nlt c478
            have o10 := own_lt c479
            have o11 := own_lt c480
            have o12 := own_nlt c526
            have o13 := own_lt c527
            have o14 := rng32 i0
            have o15 := rng32 i1
            have o16 := rng32 y1
            have o17 := rng32 y2
            have o18 := rng32 y466
            have o19 := rng32 y467
            have o20 : (3 : Int32).toInt = 3 := by decide
            have o21 : (2147483647 : Int32).toInt = 2147483647 := by decide
            have o22 : (2010 : Int32).toInt = 2010 := by decide
            have o23 : (2995 : Int32).toInt = 2995 := by decide
            have o24 : (0 : Int32).toInt = 0 := by decide
            have o25 : (1 : Int32).toInt = 1 := by decide
            have o26 : (2 : Int32).toInt = 2 := by decide
            have o27 : (1000 : Int32).toInt = 1000 := by decide
            have o28 : (1003 : Int32).toInt = 1003 := by decide
            have o29 : (1007 : Int32).toInt = 1007 := by decide
            have o30 : (1014 : Int32).toInt = 1014 := by decide
            have o31 : (3000 : Int32).toInt = 3000 := by decide
            have o32 : (5000 : Int32).toInt = 5000 := by decide
            exfalso
            omega
          · exfalso
            have o0 := own_o_mask hy1 2 (by decide) (by decide)
            have o1 := own_o_mask hy2 31 (by decide) (by decide)
            have o2 := own_o_irem hy466 2010 (by decide)
            have o3 := own_o_iadd hy467
            have o4 := own_neq c3
            have o5 := own_neq c266
            have o6 := own_eq c465
            have o7 := own_nlt c476
            have o8 := own_lt c477
            have o9 := own_nlt c478
            have o10 := own_lt c479
            have o11 := own_lt c480
            have o12 := own_nlt c528
            have o13 := own_nlt c529
            have o14 := own_nlt c530
            have o15 := own_lt c531
            have o16 := rng32 i0
            have o17 := rng32 i1
            have o18 := rng32 y1
            have o19 := rng32 y2
            have o20 := rng32 y466
            have o21 := rng32 y467
            have o22 : (3 : Int32).toInt = 3 := by decide
            have o23 : (2147483647 : Int32).toInt = 2147483647 := by decide
            have o24 : (2010 : Int32).toInt = 2010 := by decide
            have o25 : (2995 : Int32).toInt = 2995 := by decide
            have o26 : (0 : Int32).toInt = 0 := by decide
            have o27 : (1 : Int32).toInt = 1 := by decide
            have o28 : (2 : Int32).toInt = 2 := by decide
            have o29 : (1000 : Int32).toInt = 1000 := by decide
            have o30 : (1003 : Int32).toInt = 1003 := by decide
            have o31 : (1007 : Int32).toInt = 1007 := by decide
            have o32 : (1014 : Int32).toInt = 1014 := by decide
            have o33 : (3000 : Int32).toInt = 3000 := by decide
            have o34 : (5000 : Int32).toInt = 5000 := by decide
            exfalso
            omega
        · show own_Go p e below (T468.setTop (mkF m 72 #[.val (.int i0), .val (.int i1), .val (.int y1), .val (.int y2), .val (.int y467)] [(.int (0 : Int32))])) _
          refine own_iload (pc' := 74) B X468 at_72 rfl rfl ?_
          refine own_callS (pc' := 77) B X468 (own_w hw 5 rfl) (own_w hw 6 rfl) (own_w hw 7 rfl) (own_w hw 8 rfl) (by decide) [(.int y467)] [(.int (0 : Int32))] (rm_2 l Z a0 hw [] (y467) h0 n0 (Nat.le_trans Z0 K.1) ) 1 (by decide) (by decide) rfl pd_0 rfl rfl (Nat.le_of_eq rfl) at_74 rfl (k' := 0) (n' := 0) rfl rfl (by decide) (by decide) ?_
          intro T532 v532 h532 X532 q532
          rcases q532 with ⟨c533, c534, rfl, rfl⟩ | ⟨c535, c536, c537, rfl, rfl⟩ | ⟨c538, c539, c540, c541, rfl, rfl⟩ | ⟨c542, c543, c544, c545, c546, rfl, rfl⟩ | ⟨c547, c548, c549, c550, c551, c552, rfl, rfl⟩ | ⟨c553, c554, c555, c556, c557, c558, rfl, rfl⟩ | ⟨c559, c560, rfl, rfl⟩ | ⟨c561, c562, c563, c564, rfl, rfl⟩
          · exfalso
            have o0 := own_o_mask hy1 2 (by decide) (by decide)
            have o1 := own_o_mask hy2 31 (by decide) (by decide)
            have o2 := own_o_irem hy466 2010 (by decide)
            have o3 := own_o_iadd hy467
            have o4 := own_neq c3
            have o5 := own_neq c266
            have o6 := own_eq c465
            have o7 := own_nlt c481
            have o8 := own_lt c482
            have o9 := own_nlt c483
            have o10 := own_lt c484
            have o11 := own_nlt c485
            have o12 := own_lt c486
            have o13 := own_lt c533
            have o14 := own_lt c534
            have o15 := rng32 i0
            have o16 := rng32 i1
            have o17 := rng32 y1
            have o18 := rng32 y2
            have o19 := rng32 y466
            have o20 := rng32 y467
            have o21 : (3 : Int32).toInt = 3 := by decide
            have o22 : (2147483647 : Int32).toInt = 2147483647 := by decide
            have o23 : (2010 : Int32).toInt = 2010 := by decide
            have o24 : (2995 : Int32).toInt = 2995 := by decide
            have o25 : (0 : Int32).toInt = 0 := by decide
            have o26 : (1 : Int32).toInt = 1 := by decide
            have o27 : (2 : Int32).toInt = 2 := by decide
            have o28 : (1000 : Int32).toInt = 1000 := by decide
            have o29 : (1003 : Int32).toInt = 1003 := by decide
            have o30 : (1007 : Int32).toInt = 1007 := by decide
            have o31 : (1014 : Int32).toInt = 1014 := by decide
            have o32 : (3000 : Int32).toInt = 3000 := by decide
            have o33 : (4999 : Int32).toInt = 4999 := by decide
            exfalso
            omega
          · exfalso
            have o0 := own_o_mask hy1 2 (by decide) (by decide)
            have o1 := own_o_mask hy2 31 (by decide) (by decide)
            have o2 := own_o_irem hy466 2010 (by decide)
            have o3 := own_o_iadd hy467
            have o4 := own_neq c3
            have o5 := own_neq c266
            have o6 := own_eq c465
            have o7 := own_nlt c481
            have o8 := own_lt c482
            have o9 := own_nlt c483
            have o10 := own_lt c484
            have o11 := own_nlt c485
            have o12 := own_lt c486
            have o13 := own_lt c535
            have o14 := own_nlt c536
            have o15 := own_lt c537
            have o16 := rng32 i0
            have o17 := rng32 i1
            have o18 := rng32 y1
            have o19 := rng32 y2
            have o20 := rng32 y466
            have o21 := rng32 y467
            have o22 : (3 : Int32).toInt = 3 := by decide
            have o23 : (2147483647 : Int32).toInt = 2147483647 := by decide
            have o24 : (2010 : Int32).toInt = 2010 := by decide
            have o25 : (2995 : Int32).toInt = 2995 := by decide
            have o26 : (0 : Int32).toInt = 0 := by decide
            have o27 : (1 : Int32).toInt = 1 := by decide
            have o28 : (2 : Int32).toInt = 2 := by decide
            have o29 : (1000 : Int32).toInt = 1000 := by decide
            have o30 : (1003 : Int32).toInt = 1003 := by decide
            have o31 : (1007 : Int32).toInt = 1007 := by decide
            have o32 : (1014 : Int32).toInt = 1014 := by decide
            have o33 : (3000 : Int32).toInt = 3000 := by decide
            have o34 : (4999 : Int32).toInt = 4999 := by decide
            exfalso
            omega
          · exfalso
            have o0 := own_o_mask hy1 2 (by decide) (by decide)
            have o1 := own_o_mask hy2 31 (by decide) (by decide)
            have o2 := own_o_irem hy466 2010 (by decide)
            have o3 := own_o_iadd hy467
            have o4 := own_neq c3
            have o5 := own_neq c266
            have o6 := own_eq c465
            have o7 := own_nlt c481
            have o8 := own_lt c482
            have o9 := own_nlt c483
            have o10 := own_lt c484
            have o11 := own_nlt c485
            have o12 := own_lt c486
            have o13 := own_lt c538
            have o14 := own_nlt c539
            have o15 := own_nlt c540
            have o16 := own_eq c541
            have o17 := rng32 i0
            have o18 := rng32 i1
            have o19 := rng32 y1
            have o20 := rng32 y2
            have o21 := rng32 y466
            have o22 := rng32 y467
            have o23 : (3 : Int32).toInt = 3 := by decide
            have o24 : (2147483647 : Int32).toInt = 2147483647 := by decide
            have o25 : (2010 : Int32).toInt = 2010 := by decide
            have o26 : (2995 : Int32).toInt = 2995 := by decide
            have o27 : (0 : Int32).toInt = 0 := by decide
            have o28 : (1 : Int32).toInt = 1 := by decide
            have o29 : (2 : Int32).toInt = 2 := by decide
            have o30 : (1000 : Int32).toInt = 1000 := by decide
            have o31 : (1003 : Int32).toInt = 1003 := by decide
            have o32 : (1007 : Int32).toInt = 1007 := by decide
            have o33 : (1014 : Int32).toInt = 1014 := by decide
            have o34 : (3000 : Int32).toInt = 3000 := by decide
            have o35 : (4999 : Int32).toInt = 4999 := by decide
            have o36 : (1004 : Int32).toInt = 1004 := by decide
            exfalso
            omega
          · exfalso
            have o0 := own_o_mask hy1 2 (by decide) (by decide)
            have o1 := own_o_mask hy2 31 (by decide) (by decide)
            have o2 := own_o_irem hy466 2010 (by decide)
            have o3 := own_o_iadd hy467
            have o4 := own_neq c3
            have o5 := own_neq c266
            have o6 := own_eq c465
            have o7 := own_nlt c481
            have o8 := own_lt c482
            have o9 := own_nlt c483
            have o10 := own_lt c484
            have o11 := own_nlt c485
            have o12 := own_lt c486
            have o13 := own_lt c542
            have o14 := own_nlt c543
            have o15 := own_nlt c544
            have o16 := own_neq c545
            have o17 := own_eq c546
            have o18 := rng32 i0
            have o19 := rng32 i1
            have o20 := rng32 y1
            have o21 := rng32 y2
            have o22 := rng32 y466
            have o23 := rng32 y467
            have o24 : (3 : Int32).toInt = 3 := by decide
            have o25 : (2147483647 : Int32).toInt = 2147483647 := by decide
            have o26 : (2010 : Int32).toInt = 2010 := by decide
            have o27 : (2995 : Int32).toInt = 2995 := by decide
            have o28 : (0 : Int32).toInt = 0 := by decide
            have o29 : (1 : Int32).toInt = 1 := by decide
            have o30 : (2 : Int32).toInt = 2 := by decide
            have o31 : (1000 : Int32).toInt = 1000 := by decide
            have o32 : (1003 : Int32).toInt = 1003 := by decide
            have o33 : (1007 : Int32).toInt = 1007 := by decide
            have o34 : (1014 : Int32).toInt = 1014 := by decide
            have o35 : (3000 : Int32).toInt = 3000 := by decide
            have o36 : (4999 : Int32).toInt = 4999 := by decide
            have o37 : (1004 : Int32).toInt = 1004 := by decide
            have o38 : (1005 : Int32).toInt = 1005 := by decide
            exfalso
            omega
          · exfalso
            have o0 := own_o_mask hy1 2 (by decide) (by decide)
            have o1 := own_o_mask hy2 31 (by decide) (by decide)
            have o2 := own_o_irem hy466 2010 (by decide)
            have o3 := own_o_iadd hy467
            have o4 := own_neq c3
            have o5 := own_neq c266
            have o6 := own_eq c465
            have o7 := own_nlt c481
            have o8 := own_lt c482
            have o9 := own_nlt c483
            have o10 := own_lt c484
            have o11 := own_nlt c485
            have o12 := own_lt c486
            have o13 := own_lt c547
            have o14 := own_nlt c548
            have o15 := own_nlt c549
            have o16 := own_neq c550
            have o17 := own_neq c551
            have o18 := own_eq c552
            have o19 := rng32 i0
            have o20 := rng32 i1
            have o21 := rng32 y1
            have o22 := rng32 y2
            have o23 := rng32 y466
            have o24 := rng32 y467
            have o25 : (3 : Int32).toInt = 3 := by decide
            have o26 : (2147483647 : Int32).toInt = 2147483647 := by decide
            have o27 : (2010 : Int32).toInt = 2010 := by decide
            have o28 : (2995 : Int32).toInt = 2995 := by decide
            have o29 : (0 : Int32).toInt = 0 := by decide
            have o30 : (1 : Int32).toInt = 1 := by decide
            have o31 : (2 : Int32).toInt = 2 := by decide
            have o32 : (1000 : Int32).toInt = 1000 := by decide
            have o33 : (1003 : Int32).toInt = 1003 := by decide
            have o34 : (1007 : Int32).toInt = 1007 := by decide
            have o35 : (1014 : Int32).toInt = 1014 := by decide
            have o36 : (3000 : Int32).toInt = 3000 := by decide
            have o37 : (4999 : Int32).toInt = 4999 := by decide
            have o38 : (1004 : Int32).toInt = 1004 := by decide
            have o39 : (1005 : Int32).toInt = 1005 := by decide
            have o40 : (1006 : Int32).toInt = 1006 := by decide
            exfalso
            omega
          · exfalso
            have o0 := own_o_mask hy1 2 (by decide) (by decide)
            have o1 := own_o_mask hy2 31 (by decide) (by decide)
            have o2 := own_o_irem hy466 2010 (by decide)
            have o3 := own_o_iadd hy467
            have o4 := own_neq c3
            have o5 := own_neq c266
            have o6 := own_eq c465
            have o7 := own_nlt c481
            have o8 := own_lt c482
            have o9 := own_nlt c483
            have o10 := own_lt c484
            have o11 := own_nlt c485
            have o12 := own_lt c486
            have o13 := own_lt c553
            have o14 := own_nlt c554
            have o15 := own_nlt c555
            have o16 := own_neq c556
            have o17 := own_neq c557
            have o18 := own_neq c558
            have o19 := rng32 i0
            have o20 := rng32 i1
            have o21 := rng32 y1
            have o22 := rng32 y2
            have o23 := rng32 y466
            have o24 := rng32 y467
            have o25 : (3 : Int32).toInt = 3 := by decide
            have o26 : (2147483647 : Int32).toInt = 2147483647 := by decide
            have o27 : (2010 : Int32).toInt = 2010 := by decide
            have o28 : (2995 : Int32).toInt = 2995 := by decide
            have o29 : (0 : Int32).toInt = 0 := by decide
            have o30 : (1 : Int32).toInt = 1 := by decide
            have o31 : (2 : Int32).toInt = 2 := by decide
            have o32 : (1000 : Int32).toInt = 1000 := by decide
            have o33 : (1003 : Int32).toInt = 1003 := by decide
            have o34 : (1007 : Int32).toInt = 1007 := by decide
            have o35 : (1014 : Int32).toInt = 1014 := by decide
            have o36 : (3000 : Int32).toInt = 3000 := by decide
            have o37 : (4999 : Int32).toInt = 4999 := by decide
            have o38 : (1004 : Int32).toInt = 1004 := by decide
            have o39 : (1005 : Int32).toInt = 1005 := by decide
            have o40 : (1006 : Int32).toInt = 1006 := by decide
            exfalso
            omega
          · exfalso
            have o0 := own_o_mask hy1 2 (by decide) (by decide)
            have o1 := own_o_mask hy2 31 (by decide) (by decide)
            have o2 := own_o_irem hy466 2010 (by decide)
            have o3 := own_o_iadd hy467
            have o4 := own_neq c3
            have o5 := own_neq c266
            have o6 := own_eq c465
            have o7 := own_nlt c481
            have o8 := own_lt c482
            have o9 := own_nlt c483
            have o10 := own_lt c484
            have o11 := own_nlt c485
            have o12 := own_lt c486
            have o13 := own_nlt c559
            have o14 := own_lt c560
            have o15 := rng32 i0
            have o16 := rng32 i1
            have o17 := rng32 y1
            have o18 := rng32 y2
            have o19 := rng32 y466
            have o20 := rng32 y467
            have o21 : (3 : Int32).toInt = 3 := by decide
            have o22 : (2147483647 : Int32).toInt = 2147483647 := by decide
            have o23 : (2010 : Int32).toInt = 2010 := by decide
            have o24 : (2995 : Int32).toInt = 2995 := by decide
            have o25 : (0 : Int32).toInt = 0 := by decide
            have o26 : (1 : Int32).toInt = 1 := by decide
            have o27 : (2 : Int32).toInt = 2 := by decide
            have o28 : (1000 : Int32).toInt = 1000 := by decide
            have o29 : (1003 : Int32).toInt = 1003 := by decide
            have o30 : (1007 : Int32).toInt = 1007 := by decide
            have o31 : (1014 : Int32).toInt = 1014 := by decide
            have o32 : (3000 : Int32).toInt = 3000 := by decide
            have o33 : (4999 : Int32).toInt = 4999 := by decide
            have o34 : (5000 : Int32).toInt = 5000 := by decide
            exfalso
            omega
          · show own_Go p e below (T532.setTop (mkF m 77 #[.val (.int i0), .val (.int i1), .val (.int y1), .val (.int y2), .val (.int y467)] [(.int (0 : Int32)), (.int (0 : Int32))])) _
            refine own_icmpNo (pc' := 80) B X532 at_77 (teq (by decide : (0 : Int32) = (0 : Int32))).2 rfl ?_
            refine own_iconst (pc' := 81) B X532 (z := (1 : Int32)) at_80 rfl rfl ?_
            refine own_goto (pc' := 85) B X532 at_81 (by decide) rfl ?_
            exact own_retN B X532 (t := .boolean) (z' := (1 : Int32)) (by simp) (by decide) at_85 (by decide) (by decide) rfl
        · show own_Go p e below (T468.setTop (mkF m 72 #[.val (.int i0), .val (.int i1), .val (.int y1), .val (.int y2), .val (.int y467)] [(.int (1 : Int32))])) _
          refine own_iload (pc' := 74) B X468 at_72 rfl rfl ?_
          refine own_callS (pc' := 77) B X468 (own_w hw 5 rfl) (own_w hw 6 rfl) (own_w hw 7 rfl) (own_w hw 8 rfl) (by decide) [(.int y467)] [(.int (1 : Int32))] (rm_2 l Z a0 hw [] (y467) h0 n0 (Nat.le_trans Z0 K.1) ) 1 (by decide) (by decide) rfl pd_0 rfl rfl (Nat.le_of_eq rfl) at_74 rfl (k' := 0) (n' := 0) rfl rfl (by decide) (by decide) ?_
          intro T565 v565 h565 X565 q565
          rcases q565 with ⟨c566, c567, rfl, rfl⟩ | ⟨c568, c569, c570, rfl, rfl⟩ | ⟨c571, c572, c573, c574, rfl, rfl⟩ | ⟨c575, c576, c577, c578, c579, rfl, rfl⟩ | ⟨c580, c581, c582, c583, c584, c585, rfl, rfl⟩ | ⟨c586, c587, c588, c589, c590, c591, rfl, rfl⟩ | ⟨c592, c593, rfl, rfl⟩ | ⟨c594, c595, c596, c597, rfl, rfl⟩
          · exfalso
            have o0 := own_o_mask hy1 2 (by decide) (by decide)
            have o1 := own_o_mask hy2 31 (by decide) (by decide)
            have o2 := own_o_irem hy466 2010 (by decide)
            have o3 := own_o_iadd hy467
            have o4 := own_neq c3
            have o5 := own_neq c266
            have o6 := own_eq c465
            have o7 := own_nlt c487
            have o8 := own_lt c488
            have o9 := own_nlt c489
            have o10 := own_lt c490
            have o11 := own_nlt c491
            have o12 := own_nlt c492
            have o13 := own_lt c566
            have o14 := own_lt c567
            have o15 := rng32 i0
            have o16 := rng32 i1
            have o17 := rng32 y1
            have o18 := rng32 y2
            have o19 := rng32 y466
            have o20 := rng32 y467
            have o21 : (3 : Int32).toInt = 3 := by decide
            have o22 : (2147483647 : Int32).toInt = 2147483647 := by decide
            have o23 : (2010 : Int32).toInt = 2010 := by decide
            have o24 : (2995 : Int32).toInt = 2995 := by decide
            have o25 : (0 : Int32).toInt = 0 := by decide
            have o26 : (1 : Int32).toInt = 1 := by decide
            have o27 : (2 : Int32).toInt = 2 := by decide
            have o28 : (1000 : Int32).toInt = 1000 := by decide
            have o29 : (1003 : Int32).toInt = 1003 := by decide
            have o30 : (1007 : Int32).toInt = 1007 := by decide
            have o31 : (1014 : Int32).toInt = 1014 := by decide
            have o32 : (3000 : Int32).toInt = 3000 := by decide
            have o33 : (4999 : Int32).toInt = 4999 := by decide
            exfalso
            omega
          · exfalso
            have o0 := own_o_mask hy1 2 (by decide) (by decide)
            have o1 := own_o_mask hy2 31 (by decide) (by decide)
            have o2 := own_o_irem hy466 2010 (by decide)
            have o3 := own_o_iadd hy467
            have o4 := own_neq c3
            have o5 := own_neq c266
            have o6 := own_eq c465
            have o7 := own_nlt c487
            have o8 := own_lt c488
            have o9 := own_nlt c489
            have o10 := own_lt c490
            have o11 := own_nlt c491
            have o12 := own_nlt c492
            have o13 := own_lt c568
            have o14 := own_nlt c569
            have o15 := own_lt c570
            have o16 := rng32 i0
            have o17 := rng32 i1
            have o18 := rng32 y1
            have o19 := rng32 y2
            have o20 := rng32 y466
            have o21 := rng32 y467
            have o22 : (3 : Int32).toInt = 3 := by decide
            have o23 : (2147483647 : Int32).toInt = 2147483647 := by decide
            have o24 : (2010 : Int32).toInt = 2010 := by decide
            have o25 : (2995 : Int32).toInt = 2995 := by decide
            have o26 : (0 : Int32).toInt = 0 := by decide
            have o27 : (1 : Int32).toInt = 1 := by decide
            have o28 : (2 : Int32).toInt = 2 := by decide
            have o29 : (1000 : Int32).toInt = 1000 := by decide
            have o30 : (1003 : Int32).toInt = 1003 := by decide
            have o31 : (1007 : Int32).toInt = 1007 := by decide
            have o32 : (1014 : Int32).toInt = 1014 := by decide
            have o33 : (3000 : Int32).toInt = 3000 := by decide
            have o34 : (4999 : Int32).toInt = 4999 := by decide
            exfalso
            omega
          · exfalso
            have o0 := own_o_mask hy1 2 (by decide) (by decide)
            have o1 := own_o_mask hy2 31 (by decide) (by decide)
            have o2 := own_o_irem hy466 2010 (by decide)
            have o3 := own_o_iadd hy467
            have o4 := own_neq c3
            have o5 := own_neq c266
            have o6 := own_eq c465
            have o7 := own_nlt c487
            have o8 := own_lt c488
            have o9 := own_nlt c489
            have o10 := own_lt c490
            have o11 := own_nlt c491
            have o12 := own_nlt c492
            have o13 := own_lt c571
            have o14 := own_nlt c572
            have o15 := own_nlt c573
            have o16 := own_eq c574
            have o17 := rng32 i0
            have o18 := rng32 i1
            have o19 := rng32 y1
            have o20 := rng32 y2
            have o21 := rng32 y466
            have o22 := rng32 y467
            have o23 : (3 : Int32).toInt = 3 := by decide
            have o24 : (2147483647 : Int32).toInt = 2147483647 := by decide
            have o25 : (2010 : Int32).toInt = 2010 := by decide
            have o26 : (2995 : Int32).toInt = 2995 := by decide
            have o27 : (0 : Int32).toInt = 0 := by decide
            have o28 : (1 : Int32).toInt = 1 := by decide
            have o29 : (2 : Int32).toInt = 2 := by decide
            have o30 : (1000 : Int32).toInt = 1000 := by decide
            have o31 : (1003 : Int32).toInt = 1003 := by decide
            have o32 : (1007 : Int32).toInt = 1007 := by decide
            have o33 : (1014 : Int32).toInt = 1014 := by decide
            have o34 : (3000 : Int32).toInt = 3000 := by decide
            have o35 : (4999 : Int32).toInt = 4999 := by decide
            have o36 : (1004 : Int32).toInt = 1004 := by decide
            exfalso
            omega
          · exfalso
            have o0 := own_o_mask hy1 2 (by decide) (by decide)
            have o1 := own_o_mask hy2 31 (by decide) (by decide)
            have o2 := own_o_irem hy466 2010 (by decide)
            have o3 := own_o_iadd hy467
            have o4 := own_neq c3
            have o5 := own_neq c266
            have o6 := own_eq c465
            have o7 := own_nlt c487
            have o8 := own_lt c488
            have o9 := own_nlt c489
            have o10 := own_lt c490
            have o11 := own_nlt c491
            have o12 := own_nlt c492
            have o13 := own_lt c575
            have o14 := own_nlt c576
            have o15 := own_nlt c577
            have o16 := own_neq c578
            have o17 := own_eq c579
            have o18 := rng32 i0
            have o19 := rng32 i1
            have o20 := rng32 y1
            have o21 := rng32 y2
            have o22 := rng32 y466
            have o23 := rng32 y467
            have o24 : (3 : Int32).toInt = 3 := by decide
            have o25 : (2147483647 : Int32).toInt = 2147483647 := by decide
            have o26 : (2010 : Int32).toInt = 2010 := by decide
            have o27 : (2995 : Int32).toInt = 2995 := by decide
            have o28 : (0 : Int32).toInt = 0 := by decide
            have o29 : (1 : Int32).toInt = 1 := by decide
            have o30 : (2 : Int32).toInt = 2 := by decide
            have o31 : (1000 : Int32).toInt = 1000 := by decide
            have o32 : (1003 : Int32).toInt = 1003 := by decide
            have o33 : (1007 : Int32).toInt = 1007 := by decide
            have o34 : (1014 : Int32).toInt = 1014 := by decide
            have o35 : (3000 : Int32).toInt = 3000 := by decide
            have o36 : (4999 : Int32).toInt = 4999 := by decide
            have o37 : (1004 : Int32).toInt = 1004 := by decide
            have o38 : (1005 : Int32).toInt = 1005 := by decide
            exfalso
            omega
          · exfalso
            have o0 := own_o_mask hy1 2 (by decide) (by decide)
            have o1 := own_o_mask hy2 31 (by decide) (by decide)
            have o2 := own_o_irem hy466 2010 (by decide)
            have o3 := own_o_iadd hy467
            have o4 := own_neq c3
            have o5 := own_neq c266
            have o6 := own_eq c465
            have o7 := own_nlt c487
            have o8 := own_lt c488
            have o9 := own_nlt c489
            have o10 := own_lt c490
            have o11 := own_nlt c491
            have o12 := own_nlt c492
            have o13 := own_lt c580
            have o14 := own_nlt c581
            have o15 := own_nlt c582
            have o16 := own_neq c583
            have o17 := own_neq c584
            have o18 := own_eq c585
            have o19 := rng32 i0
            have o20 := rng32 i1
            have o21 := rng32 y1
            have o22 := rng32 y2
            have o23 := rng32 y466
            have o24 := rng32 y467
            have o25 : (3 : Int32).toInt = 3 := by decide
            have o26 : (2147483647 : Int32).toInt = 2147483647 := by decide
            have o27 : (2010 : Int32).toInt = 2010 := by decide
            have o28 : (2995 : Int32).toInt = 2995 := by decide
            have o29 : (0 : Int32).toInt = 0 := by decide
            have o30 : (1 : Int32).toInt = 1 := by decide
            have o31 : (2 : Int32).toInt = 2 := by decide
            have o32 : (1000 : Int32).toInt = 1000 := by decide
            have o33 : (1003 : Int32).toInt = 1003 := by decide
            have o34 : (1007 : Int32).toInt = 1007 := by decide
            have o35 : (1014 : Int32).toInt = 1014 := by decide
            have o36 : (3000 : Int32).toInt = 3000 := by decide
            have o37 : (4999 : Int32).toInt = 4999 := by decide
            have o38 : (1004 : Int32).toInt = 1004 := by decide
            have o39 : (1005 : Int32).toInt = 1005 := by decide
            have o40 : (1006 : Int32).toInt = 1006 := by decide
            exfalso
            omega
          · exfalso
            have o0 := own_o_mask hy1 2 (by decide) (by decide)
            have o1 := own_o_mask hy2 31 (by decide) (by decide)
            have o2 := own_o_irem hy466 2010 (by decide)
            have o3 := own_o_iadd hy467
            have o4 := own_neq c3
            have o5 := own_neq c266
            have o6 := own_eq c465
            have o7 := own_nlt c487
            have o8 := own_lt c488
            have o9 := own_nlt c489
            have o10 := own_lt c490
            have o11 := own_nlt c491
            have o12 := own_nlt c492
            have o13 := own_lt c586
            have o14 := own_nlt c587
            have o15 := own_nlt c588
            have o16 := own_neq c589
            have o17 := own_neq c590
            have o18 := own_neq c591
            have o19 := rng32 i0
            have o20 := rng32 i1
            have o21 := rng32 y1
            have o22 := rng32 y2
            have o23 := rng32 y466
            have o24 := rng32 y467
            have o25 : (3 : Int32).toInt = 3 := by decide
            have o26 : (2147483647 : Int32).toInt = 2147483647 := by decide
            have o27 : (2010 : Int32).toInt = 2010 := by decide
            have o28 : (2995 : Int32).toInt = 2995 := by decide
            have o29 : (0 : Int32).toInt = 0 := by decide
            have o30 : (1 : Int32).toInt = 1 := by decide
            have o31 : (2 : Int32).toInt = 2 := by decide
            have o32 : (1000 : Int32).toInt = 1000 := by decide
            have o33 : (1003 : Int32).toInt = 1003 := by decide
            have o34 : (1007 : Int32).toInt = 1007 := by decide
            have o35 : (1014 : Int32).toInt = 1014 := by decide
            have o36 : (3000 : Int32).toInt = 3000 := by decide
            have o37 : (4999 : Int32).toInt = 4999 := by decide
            have o38 : (1004 : Int32).toInt = 1004 := by decide
            have o39 : (1005 : Int32).toInt = 1005 := by decide
            have o40 : (1006 : Int32).toInt = 1006 := by decide
            exfalso
            omega
          · show own_Go p e below (T565.setTop (mkF m 77 #[.val (.int i0), .val (.int i1), .val (.int y1), .val (.int y2), .val (.int y467)] [(.int (1 : Int32)), (.int (1 : Int32))])) _
            refine own_icmpNo (pc' := 80) B X565 at_77 (teq (by decide : (1 : Int32) = (1 : Int32))).2 rfl ?_
            refine own_iconst (pc' := 81) B X565 (z := (1 : Int32)) at_80 rfl rfl ?_
            refine own_goto (pc' := 85) B X565 at_81 (by decide) rfl ?_
            exact own_retN B X565 (t := .boolean) (z' := (1 : Int32)) (by simp) (by decide) at_85 (by decide) (by decide) rfl
          · exfalso
            have o0 := own_o_mask hy1 2 (by decide) (by decide)
            have o1 := own_o_mask hy2 31 (by decide) (by decide)
            have o2 := own_o_irem hy466 2010 (by decide)
            have o3 := own_o_iadd hy467
            have o4 := own_neq c3
            have o5 := own_neq c266
            have o6 := own_eq c465
            have o7 := own_nlt c487
            have o8 := own_lt c488
            have o9 := own_nlt c489
            have o10 := own_lt c490
            have o11 := own_nlt c491
            have o12 := own_nlt c492
            have o13 := own_nlt c594
            have o14 := own_nlt c595
            have o15 := own_nlt c596
            have o16 := own_lt c597
            have o17 := rng32 i0
            have o18 := rng32 i1
            have o19 := rng32 y1
            have o20 := rng32 y2
            have o21 := rng32 y466
            have o22 := rng32 y467
            have o23 : (3 : Int32).toInt = 3 := by decide
            have o24 : (2147483647 : Int32).toInt = 2147483647 := by decide
            have o25 : (2010 : Int32).toInt = 2010 := by decide
            have o26 : (2995 : Int32).toInt = 2995 := by decide
            have o27 : (0 : Int32).toInt = 0 := by decide
            have o28 : (1 : Int32).toInt = 1 := by decide
            have o29 : (2 : Int32).toInt = 2 := by decide
            have o30 : (1000 : Int32).toInt = 1000 := by decide
            have o31 : (1003 : Int32).toInt = 1003 := by decide
            have o32 : (1007 : Int32).toInt = 1007 := by decide
            have o33 : (1014 : Int32).toInt = 1014 := by decide
            have o34 : (3000 : Int32).toInt = 3000 := by decide
            have o35 : (4999 : Int32).toInt = 4999 := by decide
            have o36 : (5000 : Int32).toInt = 5000 := by decide
            exfalso
            omega
        · exfalso
          have o0 := own_o_mask hy1 2 (by decide) (by decide)
          have o1 := own_o_mask hy2 31 (by decide) (by decide)
          have o2 := own_o_irem hy466 2010 (by decide)
          have o3 := own_o_iadd hy467
          have o4 := own_neq c3
          have o5 := own_neq c266
          have o6 := own_eq c465
          have o7 := own_nlt c493
          have o8 := own_lt c494
          have o9 := own_nlt c495
          have o10 := own_nlt c496
          have o11 := rng32 i0
          have o12 := rng32 i1
          have o13 := rng32 y1
          have o14 := rng32 y2
          have o15 := rng32 y466
          have o16 := rng32 y467
          have o17 : (3 : Int32).toInt = 3 := by decide
          have o18 : (2147483647 : Int32).toInt = 2147483647 := by decide
          have o19 : (2010 : Int32).toInt = 2010 := by decide
          have o20 : (2995 : Int32).toInt = 2995 := by decide
          have o21 : (0 : Int32).toInt = 0 := by decide
          have o22 : (1 : Int32).toInt = 1 := by decide
          have o23 : (2 : Int32).toInt = 2 := by decide
          have o24 : (1000 : Int32).toInt = 1000 := by decide
          have o25 : (1003 : Int32).toInt = 1003 := by decide
          have o26 : (1007 : Int32).toInt = 1007 := by decide
          have o27 : (1014 : Int32).toInt = 1014 := by decide
          exfalso
          omega
        · exfalso
          have o0 := own_o_mask hy1 2 (by decide) (by decide)
          have o1 := own_o_mask hy2 31 (by decide) (by decide)
          have o2 := own_o_irem hy466 2010 (by decide)
          have o3 := own_o_iadd hy467
          have o4 := own_neq c3
          have o5 := own_neq c266
          have o6 := own_eq c465
          have o7 := own_nlt c497
          have o8 := own_nlt c498
          have o9 := rng32 i0
          have o10 := rng32 i1
          have o11 := rng32 y1
          have o12 := rng32 y2
          have o13 := rng32 y466
          have o14 := rng32 y467
          have o15 : (3 : Int32).toInt = 3 := by decide
          have o16 : (2147483647 : Int32).toInt = 2147483647 := by decide
          have o17 : (2010 : Int32).toInt = 2010 := by decide
          have o18 : (2995 : Int32).toInt = 2995 := by decide
          have o19 : (0 : Int32).toInt = 0 := by decide
          have o20 : (1 : Int32).toInt = 1 := by decide
          have o21 : (2 : Int32).toInt = 2 := by decide
          have o22 : (1000 : Int32).toInt = 1000 := by decide
          have o23 : (1003 : Int32).toInt = 1003 := by decide
          exfalso
          omega
      · refine own_icmpYes (pc' := 56) B X0 at_39 (feq c465).2 (by decide) rfl ?_
        refine own_sipush (pc' := 59) B X0 (z := (990 : Int32)) at_56 rfl (by decide) ?_
        refine own_iloadN (pc' := 60) B X0 at_59 rfl rfl ?_
        refine own_sipush (pc' := 63) B X0 (z := (4020 : Int32)) at_60 rfl (by decide) ?_
        obtain ⟨y598, hy598⟩ : ∃ z : Int32, y2 % (4020 : Int32) = z := ⟨_, rfl⟩
        refine own_irem (pc' := 64) B X0 at_63 rfl (by decide) hy598 ?_
        obtain ⟨y599, hy599⟩ : ∃ z : Int32, (990 : Int32) + y598 = z := ⟨_, rfl⟩
        refine own_iadd (pc' := 65) B X0 at_64 rfl hy599 ?_
        refine own_istore (pc' := 67) B X0 (Ls' := #[.val (.int i0), .val (.int i1), .val (.int y1), .val (.int y2), .val (.int y599)]) at_65 rfl rfl ?_
        refine own_iload (pc' := 69) B X0 at_67 rfl rfl ?_
        refine own_callS (pc' := 72) B X0 (own_w hw 1 rfl) (own_w hw 2 rfl) (own_w hw 3 rfl) (own_w hw 4 rfl) (by decide) [(.int y599)] [] (rm_1 l Z a0 hw [] (y599) h0 n0 (Nat.le_trans Z0 K.1) ) 0 (by decide) (by decide) rfl pd_0 rfl rfl (Nat.le_of_eq rfl) at_69 rfl (k' := 0) (n' := 0) rfl rfl (by decide) (by decide) ?_
        intro T600 v600 h600 X600 q600
        rcases q600 with ⟨c601, c602, c603, rfl, rfl⟩ | ⟨c604, c605, c606, c607, rfl, rfl⟩ | ⟨c608, c609, c610, c611, c612, rfl, rfl⟩ | ⟨c613, c614, c615, c616, c617, c618, rfl, rfl⟩ | ⟨c619, c620, c621, c622, c623, c624, rfl, rfl⟩ | ⟨c625, c626, c627, c628, rfl, rfl⟩ | ⟨c629, c630, rfl, rfl⟩
        · show own_Go p e below (T600.setTop (mkF m 72 #[.val (.int i0), .val (.int i1), .val (.int y1), .val (.int y2), .val (.int y599)] [(.int (0 : Int32))])) _
          refine own_iload (pc' := 74) B X600 at_72 rfl rfl ?_
          refine own_callS (pc' := 77) B X600 (own_w hw 5 rfl) (own_w hw 6 rfl) (own_w hw 7 rfl) (own_w hw 8 rfl) (by decide) [(.int y599)] [(.int (0 : Int32))] (rm_2 l Z a0 hw [] (y599) h0 n0 (Nat.le_trans Z0 K.1) ) 1 (by decide) (by decide) rfl pd_0 rfl rfl (Nat.le_of_eq rfl) at_74 rfl (k' := 0) (n' := 0) rfl rfl (by decide) (by decide) ?_
          intro T631 v631 h631 X631 q631
          rcases q631 with ⟨c632, c633, rfl, rfl⟩ | ⟨c634, c635, c636, rfl, rfl⟩ | ⟨c637, c638, c639, c640, rfl, rfl⟩ | ⟨c641, c642, c643, c644, c645, rfl, rfl⟩ | ⟨c646, c647, c648, c649, c650, c651, rfl, rfl⟩ | ⟨c652, c653, c654, c655, c656, c657, rfl, rfl⟩ | ⟨c658, c659, rfl, rfl⟩ | ⟨c660, c661, c662, c663, rfl, rfl⟩
          · show own_Go p e below (T631.setTop (mkF m 77 #[.val (.int i0), .val (.int i1), .val (.int y1), .val (.int y2), .val (.int y599)] [(.int (0 : Int32)), (.int (0 : Int32))])) _
            refine own_icmpNo (pc' := 80) B X631 at_77 (teq (by decide : (0 : Int32) = (0 : Int32))).2 rfl ?_
            refine own_iconst (pc' := 81) B X631 (z := (1 : Int32)) at_80 rfl rfl ?_
            refine own_goto (pc' := 85) B X631 at_81 (by decide) rfl ?_
            exact own_retN B X631 (t := .boolean) (z' := (1 : Int32)) (by simp) (by decide) at_85 (by decide) (by decide) rfl
          · exfalso
            have o0 := own_o_mask hy1 2 (by decide) (by decide)
            have o1 := own_o_mask hy2 31 (by decide) (by decide)
            have o2 := own_o_irem hy598 4020 (by decide)
            have o3 := own_o_iadd hy599
            have o4 := own_neq c3
            have o5 := own_neq c266
            have o6 := own_neq c465
            have o7 := own_lt c601
            have o8 := own_lt c602
            have o9 := own_lt c603
            have o10 := own_lt c634
            have o11 := own_nlt c635
            have o12 := own_lt c636
            have o13 := rng32 i0
            have o14 := rng32 i1
            have o15 := rng32 y1
            have o16 := rng32 y2
            have o17 := rng32 y598
            have o18 := rng32 y599
            have o19 : (3 : Int32).toInt = 3 := by decide
            have o20 : (2147483647 : Int32).toInt = 2147483647 := by decide
            have o21 : (4020 : Int32).toInt = 4020 := by decide
            have o22 : (990 : Int32).toInt = 990 := by decide
            have o23 : (0 : Int32).toInt = 0 := by decide
            have o24 : (1 : Int32).toInt = 1 := by decide
            have o25 : (2 : Int32).toInt = 2 := by decide
            have o26 : (1000 : Int32).toInt = 1000 := by decide
            have o27 : (1007 : Int32).toInt = 1007 := by decide
            have o28 : (3000 : Int32).toInt = 3000 := by decide
            have o29 : (1014 : Int32).toInt = 1014 := by decide
            exfalso
            omega
          · exfalso
            have o0 := own_o_mask hy1 2 (by decide) (by decide)
            have o1 := own_o_mask hy2 31 (by decide) (by decide)
            have o2 := own_o_irem hy598 4020 (by decide)
            have o3 := own_o_iadd hy599
            have o4 := own_neq c3
            have o5 := own_neq c266
            have o6 := own_neq c465
            have o7 := own_lt c601
            have o8 := own_lt c602
            have o9 := own_lt c603
            have o10 := own_lt c637
            have o11 := own_nlt c638
            have o12 := own_nlt c639
            have o13 := own_eq c640
            have o14 := rng32 i0
            have o15 := rng32 i1
            have o16 := rng32 y1
            have o17 := rng32 y2
            have o18 := rng32 y598
            have o19 := rng32 y599
            have o20 : (3 : Int32).toInt = 3 := by decide
            have o21 : (2147483647 : Int32).toInt = 2147483647 := by decide
            have o22 : (4020 : Int32).toInt = 4020 := by decide
            have o23 : (990 : Int32).toInt = 990 := by decide
            have o24 : (0 : Int32).toInt = 0 := by decide
            have o25 : (1 : Int32).toInt = 1 := by decide
            have o26 : (2 : Int32).toInt = 2 := by decide
            have o27 : (1000 : Int32).toInt = 1000 := by decide
            have o28 : (1007 : Int32).toInt = 1007 := by decide
            have o29 : (3000 : Int32).toInt = 3000 := by decide
            have o30 : (1014 : Int32).toInt = 1014 := by decide
            have o31 : (1004 : Int32).toInt = 1004 := by decide
            exfalso
            omega
          · exfalso
            have o0 := own_o_mask hy1 2 (by decide) (by decide)
            have o1 := own_o_mask hy2 31 (by decide) (by decide)
            have o2 := own_o_irem hy598 4020 (by decide)
            have o3 := own_o_iadd hy599
            have o4 := own_neq c3
            have o5 := own_neq c266
            have o6 := own_neq c465
            have o7 := own_lt c601
            have o8 := own_lt c602
            have o9 := own_lt c603
            have o10 := own_lt c641
            have o11 := own_nlt c642
            have o12 := own_nlt c643
            have o13 := own_neq c644
            have o14 := own_eq c645
            have o15 := rng32 i0
            have o16 := rng32 i1
            have o17 := rng32 y1
            have o18 := rng32 y2
            have o19 := rng32 y598
            have o20 := rng32 y599
            have o21 : (3 : Int32).toInt = 3 := by decide
            have o22 : (2147483647 : Int32).toInt = 2147483647 := by decide
            have o23 : (4020 : Int32).toInt = 4020 := by decide
            have o24 : (990 : Int32).toInt = 990 := by decide
            have o25 : (0 : Int32).toInt = 0 := by decide
            have o26 : (1 : Int32).toInt = 1 := by decide
            have o27 : (2 : Int32).toInt = 2 := by decide
            have o28 : (1000 : Int32).toInt = 1000 := by decide
            have o29 : (1007 : Int32).toInt = 1007 := by decide
            have o30 : (3000 : Int32).toInt = 3000 := by decide
            have o31 : (1014 : Int32).toInt = 1014 := by decide
            have o32 : (1004 : Int32).toInt = 1004 := by decide
            have o33 : (1005 : Int32).toInt = 1005 := by decide
            exfalso
            omega
          · exfalso
            have o0 := own_o_mask hy1 2 (by decide) (by decide)
            have o1 := own_o_mask hy2 31 (by decide) (by decide)
            have o2 := own_o_irem hy598 4020 (by decide)
            have o3 := own_o_iadd hy599
            have o4 := own_neq c3
            have o5 := own_neq c266
            have o6 := own_neq c465
            have o7 := own_lt c601
            have o8 := own_lt c602
            have o9 := own_lt c603
            have o10 := own_lt c646
            have o11 := own_nlt c647
            have o12 := own_nlt c648
            have o13 := own_neq c649
            have o14 := own_neq c650
            have o15 := own_eq c651
            have o16 := rng32 i0
            have o17 := rng32 i1
            have o18 := rng32 y1
            have o19 := rng32 y2
            have o20 := rng32 y598
            have o21 := rng32 y599
            have o22 : (3 : Int32).toInt = 3 := by decide
            have o23 : (2147483647 : Int32).toInt = 2147483647 := by decide
            have o24 : (4020 : Int32).toInt = 4020 := by decide
            have o25 : (990 : Int32).toInt = 990 := by decide
            have o26 : (0 : Int32).toInt = 0 := by decide
            have o27 : (1 : Int32).toInt = 1 := by decide
            have o28 : (2 : Int32).toInt = 2 := by decide
            have o29 : (1000 : Int32).toInt = 1000 := by decide
            have o30 : (1007 : Int32).toInt = 1007 := by decide
            have o31 : (3000 : Int32).toInt = 3000 := by decide
            have o32 : (1014 : Int32).toInt = 1014 := by decide
            have o33 : (1004 : Int32).toInt = 1004 := by decide
            have o34 : (1005 : Int32).toInt = 1005 := by decide
            have o35 : (1006 : Int32).toInt = 1006 := by decide
            exfalso
            omega
          · exfalso
            have o0 := own_o_mask hy1 2 (by decide) (by decide)
            have o1 := own_o_mask hy2 31 (by decide) (by decide)
            have o2 := own_o_irem hy598 4020 (by decide)
            have o3 := own_o_iadd hy599
            have o4 := own_neq c3
            have o5 := own_neq c266
            have o6 := own_neq c465
            have o7 := own_lt c601
            have o8 := own_lt c602
            have o9 := own_lt c603
            have o10 := own_lt c652
            have o11 := own_nlt c653
            have o12 := own_nlt c654
            have o13 := own_neq c655
            have o14 := own_neq c656
            have o15 := own_neq c657
            have o16 := rng32 i0
            have o17 := rng32 i1
            have o18 := rng32 y1
            have o19 := rng32 y2
            have o20 := rng32 y598
            have o21 := rng32 y599
            have o22 : (3 : Int32).toInt = 3 := by decide
            have o23 : (2147483647 : Int32).toInt = 2147483647 := by decide
            have o24 : (4020 : Int32).toInt = 4020 := by decide
            have o25 : (990 : Int32).toInt = 990 := by decide
            have o26 : (0 : Int32).toInt = 0 := by decide
            have o27 : (1 : Int32).toInt = 1 := by decide
            have o28 : (2 : Int32).toInt = 2 := by decide
            have o29 : (1000 : Int32).toInt = 1000 := by decide
            have o30 : (1007 : Int32).toInt = 1007 := by decide
            have o31 : (3000 : Int32).toInt = 3000 := by decide
            have o32 : (1014 : Int32).toInt = 1014 := by decide
            have o33 : (1004 : Int32).toInt = 1004 := by decide
            have o34 : (1005 : Int32).toInt = 1005 := by decide
            have o35 : (1006 : Int32).toInt = 1006 := by decide
            exfalso
            omega
          · exfalso
            have o0 := own_o_mask hy1 2 (by decide) (by decide)
            have o1 := own_o_mask hy2 31 (by decide) (by decide)
            have o2 := own_o_irem hy598 4020 (by decide)
            have o3 := own_o_iadd hy599
            have o4 := own_neq c3
            have o5 := own_neq c266
            have o6 := own_neq c465
            have o7 := own_lt c601
            have o8 := own_lt c602
            have o9 := own_lt c603
            have o10 := own_nlt c658
            have o11 := own_lt c659
            have o12 := rng32 i0
            have o13 := rng32 i1
            have o14 := rng32 y1
            have o15 := rng32 y2
            have o16 := rng32 y598
            have o17 := rng32 y599
            have o18 : (3 : Int32).toInt = 3 := by decide
            have o19 : (2147483647 : Int32).toInt = 2147483647 := by decide
            have o20 : (4020 : Int32).toInt = 4020 := by decide
            have o21 : (990 : Int32).toInt = 990 := by decide
            have o22 : (0 : Int32).toInt = 0 := by decide
            have o23 : (1 : Int32).toInt = 1 := by decide
            have o24 : (2 : Int32).toInt = 2 := by decide
            have o25 : (1000 : Int32).toInt = 1000 := by decide
            have o26 : (1007 : Int32).toInt = 1007 := by decide
            have o27 : (3000 : Int32).toInt = 3000 := by decide
            have o28 : (5000 : Int32).toInt = 5000 := by decide
            exfalso
            omega
          · exfalso
            have o0 := own_o_mask hy1 2 (by decide) (by decide)
            have o1 := own_o_mask hy2 31 (by decide) (by decide)
            have o2 := own_o_irem hy598 4020 (by decide)
            have o3 := own_o_iadd hy599
            have o4 := own_neq c3
            have o5 := own_neq c266
            have o6 := own_neq c465
            have o7 := own_lt c601
            have o8 := own_lt c602
            have o9 := own_lt c603
            have o10 := own_nlt c660
            have o11 := own_nlt c661
            have o12 := own_nlt c662
            have o13 := own_lt c663
            have o14 := rng32 i0
            have o15 := rng32 i1
            have o16 := rng32 y1
            have o17 := rng32 y2
            have o18 := rng32 y598
            have o19 := rng32 y599
            have o20 : (3 : Int32).toInt = 3 := by decide
            have o21 : (2147483647 : Int32).toInt = 2147483647 := by decide
            have o22 : (4020 : Int32).toInt = 4020 := by decide
            have o23 : (990 : Int32).toInt = 990 := by decide
            have o24 : (0 : Int32).toInt = 0 := by decide
            have o25 : (1 : Int32).toInt = 1 := by decide
            have o26 : (2 : Int32).toInt = 2 := by decide
            have o27 : (1000 : Int32).toInt = 1000 := by decide
            have o28 : (1007 : Int32).toInt = 1007 := by decide
            have o29 : (3000 : Int32).toInt = 3000 := by decide
            have o30 : (5000 : Int32).toInt = 5000 := by decide
            have o31 : (1014 : Int32).toInt = 1014 := by decide
            exfalso
            omega
        · show own_Go p e below (T600.setTop (mkF m 72 #[.val (.int i0), .val (.int i1), .val (.int y1), .val (.int y2), .val (.int y599)] [(.int (0 : Int32))])) _
          refine own_iload (pc' := 74) B X600 at_72 rfl rfl ?_
          refine own_callS (pc' := 77) B X600 (own_w hw 5 rfl) (own_w hw 6 rfl) (own_w hw 7 rfl) (own_w hw 8 rfl) (by decide) [(.int y599)] [(.int (0 : Int32))] (rm_2 l Z a0 hw [] (y599) h0 n0 (Nat.le_trans Z0 K.1) ) 1 (by decide) (by decide) rfl pd_0 rfl rfl (Nat.le_of_eq rfl) at_74 rfl (k' := 0) (n' := 0) rfl rfl (by decide) (by decide) ?_
          intro T664 v664 h664 X664 q664
          rcases q664 with ⟨c665, c666, rfl, rfl⟩ | ⟨c667, c668, c669, rfl, rfl⟩ | ⟨c670, c671, c672, c673, rfl, rfl⟩ | ⟨c674, c675, c676, c677, c678, rfl, rfl⟩ | ⟨c679, c680, c681, c682, c683, c684, rfl, rfl⟩ | ⟨c685, c686, c687, c688, c689, c690, rfl, rfl⟩ | ⟨c691, c692, rfl, rfl⟩ | ⟨c693, c694, c695, c696, rfl, rfl⟩
          · exfalso
            have o0 := own_o_mask hy1 2 (by decide) (by decide)
            have o1 := own_o_mask hy2 31 (by decide) (by decide)
            have o2 := own_o_irem hy598 4020 (by decide)
            have o3 := own_o_iadd hy599
            have o4 := own_neq c3
            have o5 := own_neq c266
            have o6 := own_neq c465
            have o7 := own_nlt c604
            have o8 := own_lt c605
            have o9 := own_lt c606
            have o10 := own_lt c607
            have o11 := own_lt c665
            have o12 := own_lt c666
            have o13 := rng32 i0
            have o14 := rng32 i1
            have o15 := rng32 y1
            have o16 := rng32 y2
            have o17 := rng32 y598
            have o18 := rng32 y599
            have o19 : (3 : Int32).toInt = 3 := by decide
            have o20 : (2147483647 : Int32).toInt = 2147483647 := by decide
            have o21 : (4020 : Int32).toInt = 4020 := by decide
            have o22 : (990 : Int32).toInt = 990 := by decide
            have o23 : (0 : Int32).toInt = 0 := by decide
            have o24 : (1 : Int32).toInt = 1 := by decide
            have o25 : (2 : Int32).toInt = 2 := by decide
            have o26 : (1000 : Int32).toInt = 1000 := by decide
            have o27 : (1003 : Int32).toInt = 1003 := by decide
            have o28 : (1007 : Int32).toInt = 1007 := by decide
            have o29 : (3000 : Int32).toInt = 3000 := by decide
            exfalso
            omega
          · exfalso
            have o0 := own_o_mask hy1 2 (by decide) (by decide)
            have o1 := own_o_mask hy2 31 (by decide) (by decide)
            have o2 := own_o_irem hy598 4020 (by decide)
            have o3 := own_o_iadd hy599
            have o4 := own_neq c3
            have o5 := own_neq c266
            have o6 := own_neq c465
            have o7 := own_nlt c604
            have o8 := own_lt c605
            have o9 := own_lt c606
            have o10 := own_lt c607
            have o11 := own_lt c667
            have o12 := own_nlt c668
            have o13 := own_lt c669
            have o14 := rng32 i0
            have o15 := rng32 i1
            have o16 := rng32 y1
            have o17 := rng32 y2
            have o18 := rng32 y598
            have o19 := rng32 y599
            have o20 : (3 : Int32).toInt = 3 := by decide
            have o21 : (2147483647 : Int32).toInt = 2147483647 := by decide
            have o22 : (4020 : Int32).toInt = 4020 := by decide
            have o23 : (990 : Int32).toInt = 990 := by decide
            have o24 : (0 : Int32).toInt = 0 := by decide
            have o25 : (1 : Int32).toInt = 1 := by decide
            have o26 : (2 : Int32).toInt = 2 := by decide
            have o27 : (1000 : Int32).toInt = 1000 := by decide
            have o28 : (1003 : Int32).toInt = 1003 := by decide
            have o29 : (1007 : Int32).toInt = 1007 := by decide
            have o30 : (3000 : Int32).toInt = 3000 := by decide
            have o31 : (1014 : Int32).toInt = 1014 := by decide
            exfalso
            omega
          · show own_Go p e below (T664.setTop (mkF m 77 #[.val (.int i0), .val (.int i1), .val (.int y1), .val (.int y2), .val (.int y599)] [(.int (0 : Int32)), (.int (0 : Int32))])) _
            refine own_icmpNo (pc' := 80) B X664 at_77 (teq (by decide : (0 : Int32) = (0 : Int32))).2 rfl ?_
            refine own_iconst (pc' := 81) B X664 (z := (1 : Int32)) at_80 rfl rfl ?_
            refine own_goto (pc' := 85) B X664 at_81 (by decide) rfl ?_
            exact own_retN B X664 (t := .boolean) (z' := (1 : Int32)) (by simp) (by decide) at_85 (by decide) (by decide) rfl
          · show own_Go p e below (T664.setTop (mkF m 77 #[.val (.int i0), .val (.int i1), .val (.int y1), .val (.int y2), .val (.int y599)] [(.int (0 : Int32)), (.int (0 : Int32))])) _
            refine own_icmpNo (pc' := 80) B X664 at_77 (teq (by decide : (0 : Int32) = (0 : Int32))).2 rfl ?_
            refine own_iconst (pc' := 81) B X664 (z := (1 : Int32)) at_80 rfl rfl ?_
            refine own_goto (pc' := 85) B X664 at_81 (by decide) rfl ?_
            exact own_retN B X664 (t := .boolean) (z' := (1 : Int32)) (by simp) (by decide) at_85 (by decide) (by decide) rfl
          · show own_Go p e below (T664.setTop (mkF m 77 #[.val (.int i0), .val (.int i1), .val (.int y1), .val (.int y2), .val (.int y599)] [(.int (0 : Int32)), (.int (0 : Int32))])) _
            refine own_icmpNo (pc' := 80) B X664 at_77 (teq (by decide : (0 : Int32) = (0 : Int32))).2 rfl ?_
            refine own_iconst (pc' := 81) B X664 (z := (1 : Int32)) at_80 rfl rfl ?_
            refine own_goto (pc' := 85) B X664 at_81 (by decide) rfl ?_
            exact own_retN B X664 (t := .boolean) (z' := (1 : Int32)) (by simp) (by decide) at_85 (by decide) (by decide) rfl
          · exfalso
            have o0 := own_o_mask hy1 2 (by decide) (by decide)
            have o1 := own_o_mask hy2 31 (by decide) (by decide)
            have o2 := own_o_irem hy598 4020 (by decide)
            have o3 := own_o_iadd hy599
            have o4 := own_neq c3
            have o5 := own_neq c266
            have o6 := own_neq c465
            have o7 := own_nlt c604
            have o8 := own_lt c605
            have o9 := own_lt c606
            have o10 := own_lt c607
            have o11 := own_lt c685
            have o12 := own_nlt c686
            have o13 := own_nlt c687
            have o14 := own_neq c688
            have o15 := own_neq c689
            have o16 := own_neq c690
            have o17 := rng32 i0
            have o18 := rng32 i1
            have o19 := rng32 y1
            have o20 := rng32 y2
            have o21 := rng32 y598
            have o22 := rng32 y599
            have o23 : (3 : Int32).toInt = 3 := by decide
            have o24 : (2147483647 : Int32).toInt = 2147483647 := by decide
            have o25 : (4020 : Int32).toInt = 4020 := by decide
            have o26 : (990 : Int32).toInt = 990 := by decide
            have o27 : (0 : Int32).toInt = 0 := by decide
            have o28 : (1 : Int32).toInt = 1 := by decide
            have o29 : (2 : Int32).toInt = 2 := by decide
            have o30 : (1000 : Int32).toInt = 1000 := by decide
            have o31 : (1003 : Int32).toInt = 1003 := by decide
            have o32 : (1007 : Int32).toInt = 1007 := by decide
            have o33 : (3000 : Int32).toInt = 3000 := by decide
            have o34 : (1014 : Int32).toInt = 1014 := by decide
            have o35 : (1004 : Int32).toInt = 1004 := by decide
            have o36 : (1005 : Int32).toInt = 1005 := by decide
            have o37 : (1006 : Int32).toInt = 1006 := by decide
            exfalso
            omega
          · exfalso
            have o0 := own_o_mask hy1 2 (by decide) (by decide)
            have o1 := own_o_mask hy2 31 (by decide) (by decide)
            have o2 := own_o_irem hy598 4020 (by decide)
            have o3 := own_o_iadd hy599
            have o4 := own_neq c3
            have o5 := own_neq c266
            have o6 := own_neq c465
            have o7 := own_nlt c604
            have o8 := own_lt c605
            have o9 := own_lt c606
            have o10 := own_lt c607
            have o11 := own_nlt c691
            have o12 := own_lt c692
            have o13 := rng32 i0
            have o14 := rng32 i1
            have o15 := rng32 y1
            have o16 := rng32 y2
            have o17 := rng32 y598
            have o18 := rng32 y599
            have o19 : (3 : Int32).toInt = 3 := by decide
            have o20 : (2147483647 : Int32).toInt = 2147483647 := by decide
            have o21 : (4020 : Int32).toInt = 4020 := by decide
            have o22 : (990 : Int32).toInt = 990 := by decide
            have o23 : (0 : Int32).toInt = 0 := by decide
            have o24 : (1 : Int32).toInt = 1 := by decide
            have o25 : (2 : Int32).toInt = 2 := by decide
            have o26 : (1000 : Int32).toInt = 1000 := by decide
            have o27 : (1003 : Int32).toInt = 1003 := by decide
            have o28 : (1007 : Int32).toInt = 1007 := by decide
            have o29 : (3000 : Int32).toInt = 3000 := by decide
            have o30 : (5000 : Int32).toInt = 5000 := by decide
            exfalso
            omega
          · exfalso
            have o0 := own_o_mask hy1 2 (by decide) (by decide)
            have o1 := own_o_mask hy2 31 (by decide) (by decide)
            have o2 := own_o_irem hy598 4020 (by decide)
            have o3 := own_o_iadd hy599
            have o4 := own_neq c3
            have o5 := own_neq c266
            have o6 := own_neq c465
            have o7 := own_nlt c604
            have o8 := own_lt c605
            have o9 := own_lt c606
            have o10 := own_lt c607
            have o11 := own_nlt c693
            have o12 := own_nlt c694
            have o13 := own_nlt c695
            have o14 := own_lt c696
            have o15 := rng32 i0
            have o16 := rng32 i1
            have o17 := rng32 y1
            have o18 := rng32 y2
            have o19 := rng32 y598
            have o20 := rng32 y599
            have o21 : (3 : Int32).toInt = 3 := by decide
            have o22 : (2147483647 : Int32).toInt = 2147483647 := by decide
            have o23 : (4020 : Int32).toInt = 4020 := by decide
            have o24 : (990 : Int32).toInt = 990 := by decide
            have o25 : (0 : Int32).toInt = 0 := by decide
            have o26 : (1 : Int32).toInt = 1 := by decide
            have o27 : (2 : Int32).toInt = 2 := by decide
            have o28 : (1000 : Int32).toInt = 1000 := by decide
            have o29 : (1003 : Int32).toInt = 1003 := by decide
            have o30 : (1007 : Int32).toInt = 1007 := by decide
            have o31 : (3000 : Int32).toInt = 3000 := by decide
            have o32 : (5000 : Int32).toInt = 5000 := by decide
            have o33 : (1014 : Int32).toInt = 1014 := by decide
            exfalso
            omega
        · show own_Go p e below (T600.setTop (mkF m 72 #[.val (.int i0), .val (.int i1), .val (.int y1), .val (.int y2), .val (.int y599)] [(.int (0 : Int32))])) _
          refine own_iload (pc' := 74) B X600 at_72 rfl rfl ?_
          refine own_callS (pc' := 77) B X600 (own_w hw 5 rfl) (own_w hw 6 rfl) (own_w hw 7 rfl) (own_w hw 8 rfl) (by decide) [(.int y599)] [(.int (0 : Int32))] (rm_2 l Z a0 hw [] (y599) h0 n0 (Nat.le_trans Z0 K.1) ) 1 (by decide) (by decide) rfl pd_0 rfl rfl (Nat.le_of_eq rfl) at_74 rfl (k' := 0) (n' := 0) rfl rfl (by decide) (by decide) ?_
          intro T697 v697 h697 X697 q697
          rcases q697 with ⟨c698, c699, rfl, rfl⟩ | ⟨c700, c701, c702, rfl, rfl⟩ | ⟨c703, c704, c705, c706, rfl, rfl⟩ | ⟨c707, c708, c709, c710, c711, rfl, rfl⟩ | ⟨c712, c713, c714, c715, c716, c717, rfl, rfl⟩ | ⟨c718, c719, c720, c721, c722, c723, rfl, rfl⟩ | ⟨c724, c725, rfl, rfl⟩ | ⟨c726, c727, c728, c729, rfl, rfl⟩
          · exfalso
            have o0 := own_o_mask hy1 2 (by decide) (by decide)
            have o1 := own_o_mask hy2 31 (by decide) (by decide)
            have o2 := own_o_irem hy598 4020 (by decide)
            have o3 := own_o_iadd hy599
            have o4 := own_neq c3
            have o5 := own_neq c266
            have o6 := own_neq c465
            have o7 := own_nlt c608
            have o8 := own_lt c609
            have o9 := own_nlt c610
            have o10 := own_lt c611
            have o11 := own_lt c612
            have o12 := own_lt c698
            have o13 := own_lt c699
            have o14 := rng32 i0
            have o15 := rng32 i1
            have o16 := rng32 y1
            have o17 := rng32 y2
            have o18 := rng32 y598
            have o19 := rng32 y599
            have o20 : (3 : Int32).toInt = 3 := by decide
            have o21 : (2147483647 : Int32).toInt = 2147483647 := by decide
            have o22 : (4020 : Int32).toInt = 4020 := by decide
            have o23 : (990 : Int32).toInt = 990 := by decide
            have o24 : (0 : Int32).toInt = 0 := by decide
            have o25 : (1 : Int32).toInt = 1 := by decide
            have o26 : (2 : Int32).toInt = 2 := by decide
            have o27 : (1000 : Int32).toInt = 1000 := by decide
            have o28 : (1003 : Int32).toInt = 1003 := by decide
            have o29 : (1007 : Int32).toInt = 1007 := by decide
            have o30 : (1014 : Int32).toInt = 1014 := by decide
            have o31 : (3000 : Int32).toInt = 3000 := by decide
            exfalso
            omega
          · show own_Go p e below (T697.setTop (mkF m 77 #[.val (.int i0), .val (.int i1), .val (.int y1), .val (.int y2), .val (.int y599)] [(.int (0 : Int32)), (.int (0 : Int32))])) _
            refine own_icmpNo (pc' := 80) B X697 at_77 (teq (by decide : (0 : Int32) = (0 : Int32))).2 rfl ?_
            refine own_iconst (pc' := 81) B X697 (z := (1 : Int32)) at_80 rfl rfl ?_
            refine own_goto (pc' := 85) B X697 at_81 (by decide) rfl ?_
            exact own_retN B X697 (t := .boolean) (z' := (1 : Int32)) (by simp) (by decide) at_85 (by decide) (by decide) rfl
          · exfalso
            have o0 := own_o_mask hy1 2 (by decide) (by decide)
            have o1 := own_o_mask hy2 31 (by decide) (by decide)
            have o2 := own_o_irem hy598 4020 (by decide)
            have o3 := own_o_iadd hy599
            have o4 := own_neq c3
            have o5 := own_neq c266
            have o6 := own_neq c465
            have o7 := own_nlt c608
            have o8 := own_lt c609
            have o9 := own_nlt c610
            have o10 := own_lt c611
            have o11 := own_lt c612
            have o12 := own_lt c703
            have o13 := own_nlt c704
            have o14 := own_nlt c705
            have o15 := own_eq c706
            have o16 := rng32 i0
            have o17 := rng32 i1
            have o18 := rng32 y1
            have o19 := rng32 y2
            have o20 := rng32 y598
            have o21 := rng32 y599
            have o22 : (3 : Int32).toInt = 3 := by decide
            have o23 : (2147483647 : Int32).toInt = 2147483647 := by decide
            have o24 : (4020 : Int32).toInt = 4020 := by decide
            have o25 : (990 : Int32).toInt = 990 := by decide
            have o26 : (0 : Int32).toInt = 0 := by decide
            have o27 : (1 : Int32).toInt = 1 := by decide
            have o28 : (2 : Int32).toInt = 2 := by decide
            have o29 : (1000 : Int32).toInt = 1000 := by decide
            have o30 : (1003 : Int32).toInt = 1003 := by decide
            have o31 : (1007 : Int32).toInt = 1007 := by decide
            have o32 : (1014 : Int32).toInt = 1014 := by decide
            have o33 : (3000 : Int32).toInt = 3000 := by decide
            have o34 : (1004 : Int32).toInt = 1004 := by decide
            exfalso
            omega
          · exfalso
            have o0 := own_o_mask hy1 2 (by decide) (by decide)
            have o1 := own_o_mask hy2 31 (by decide) (by decide)
            have o2 := own_o_irem hy598 4020 (by decide)
            have o3 := own_o_iadd hy599
            have o4 := own_neq c3
            have o5 := own_neq c266
            have o6 := own_neq c465
            have o7 := own_nlt c608
            have o8 := own_lt c609
            have o9 := own_nlt c610
            have o10 := own_lt c611
            have o11 := own_lt c612
            have o12 := own_lt c707
            have o13 := own_nlt c708
            have o14 := own_nlt c709
            have o15 := own_neq c710
            have o16 := own_eq c711
            have o17 := rng32 i0
            have o18 := rng32 i1
            have o19 := rng32 y1
            have o20 := rng32 y2
            have o21 := rng32 y598
            have o22 := rng32 y599
            have o23 : (3 : Int32).toInt = 3 := by decide
            have o24 : (2147483647 : Int32).toInt = 2147483647 := by decide
            have o25 : (4020 : Int32).toInt = 4020 := by decide
            have o26 : (990 : Int32).toInt = 990 := by decide
            have o27 : (0 : Int32).toInt = 0 := by decide
            have o28 : (1 : Int32).toInt = 1 := by decide
            have o29 : (2 : Int32).toInt = 2 := by decide
            have o30 : (1000 : Int32).toInt = 1000 := by decide
            have o31 : (1003 : Int32).toInt = 1003 := by decide
            have o32 : (1007 : Int32).toInt = 1007 := by decide
            have o33 : (1014 : Int32).toInt = 1014 := by decide
            have o34 : (3000 : Int32).toInt = 3000 := by decide
            have o35 : (1004 : Int32).toInt = 1004 := by decide
            have o36 : (1005 : Int32).toInt = 1005 := by decide
            exfalso
            omega
          · exfalso
            have o0 := own_o_mask hy1 2 (by decide) (by decide)
            have o1 := own_o_mask hy2 31 (by decide) (by decide)
            have o2 := own_o_irem hy598 4020 (by decide)
            have o3 := own_o_iadd hy599
            have o4 := own_neq c3
            have o5 := own_neq c266
            have o6 := own_neq c465
            have o7 := own_nlt c608
            have o8 := own_lt c609
            have o9 := own_nlt c610
            have o10 := own_lt c611
            have o11 := own_lt c612
            have o12 := own_lt c712
            have o13 := own_nlt c713
            have o14 := own_nlt c714
            have o15 := own_neq c715
            have o16 := own_neq c716
            have o17 := own_eq c717
            have o18 := rng32 i0
            have o19 := rng32 i1
            have o20 := rng32 y1
            have o21 := rng32 y2
            have o22 := rng32 y598
            have o23 := rng32 y599
            have o24 : (3 : Int32).toInt = 3 := by decide
            have o25 : (2147483647 : Int32).toInt = 2147483647 := by decide
            have o26 : (4020 : Int32).toInt = 4020 := by decide
            have o27 : (990 : Int32).toInt = 990 := by decide
            have o28 : (0 : Int32).toInt = 0 := by decide
            have o29 : (1 : Int32).toInt = 1 := by decide
            have o30 : (2 : Int32).toInt = 2 := by decide
            have o31 : (1000 : Int32).toInt = 1000 := by decide
            have o32 : (1003 : Int32).toInt = 1003 := by decide
            have o33 : (1007 : Int32).toInt = 1007 := by decide
            have o34 : (1014 : Int32).toInt = 1014 := by decide
            have o35 : (3000 : Int32).toInt = 3000 := by decide
            have o36 : (1004 : Int32).toInt = 1004 := by decide
            have o37 : (1005 : Int32).toInt = 1005 := by decide
            have o38 : (1006 : Int32).toInt = 1006 := by decide
            exfalso
            omega
          · exfalso
            have o0 := own_o_mask hy1 2 (by decide) (by decide)
            have o1 := own_o_mask hy2 31 (by decide) (by decide)
            have o2 := own_o_irem hy598 4020 (by decide)
            have o3 := own_o_iadd hy599
            have o4 := own_neq c3
            have o5 := own_neq c266
            have o6 := own_neq c465
            have o7 := own_nlt c608
            have o8 := own_lt c609
            have o9 := own_nlt c610
            have o10 := own_lt c611
            have o11 := own_lt c612
            have o12 := own_lt c718
            have o13 := own_nlt c719
            have o14 := own_nlt c720
            have o15 := own_neq c721
            have o16 := own_neq c722
            have o17 := own_neq c723
            have o18 := rng32 i0
            have o19 := rng32 i1
            have o20 := rng32 y1
            have o21 := rng32 y2
            have o22 := rng32 y598
            have o23 := rng32 y599
            have o24 : (3 : Int32).toInt = 3 := by decide
            have o25 : (2147483647 : Int32).toInt = 2147483647 := by decide
            have o26 : (4020 : Int32).toInt = 4020 := by decide
            have o27 : (990 : Int32).toInt = 990 := by decide
            have o28 : (0 : Int32).toInt = 0 := by decide
            have o29 : (1 : Int32).toInt = 1 := by decide
            have o30 : (2 : Int32).toInt = 2 := by decide
            have o31 : (1000 : Int32).toInt = 1000 := by decide
            have o32 : (1003 : Int32).toInt = 1003 := by decide
            have o33 : (1007 : Int32).toInt = 1007 := by decide
            have o34 : (1014 : Int32).toInt = 1014 := by decide
            have o35 : (3000 : Int32).toInt = 3000 := by decide
            have o36 : (1004 : Int32).toInt = 1004 := by decide
            have o37 : (1005 : Int32).toInt = 1005 := by decide
            have o38 : (1006 : Int32).toInt = 1006 := by decide
            exfalso
            omega
          · exfalso
            have o0 := own_o_mask hy1 2 (by decide) (by decide)
            have o1 := own_o_mask hy2 31 (by decide) (by decide)
            have o2 := own_o_irem hy598 4020 (by decide)
            have o3 := own_o_iadd hy599
            have o4 := own_neq c3
            have o5 := own_neq c266
            have o6 := own_neq c465
            have o7 := own_nlt c608
            have o8 := own_lt c609
            have o9 := own_nlt c610
            have o10 := own_lt c611
            have o11 := own_lt c612
            have o12 := own_nlt c724
            have o13 := own_lt c725
            have o14 := rng32 i0
            have o15 := rng32 i1
            have o16 := rng32 y1
            have o17 := rng32 y2
            have o18 := rng32 y598
            have o19 := rng32 y599
            have o20 : (3 : Int32).toInt = 3 := by decide
            have o21 : (2147483647 : Int32).toInt = 2147483647 := by decide
            have o22 : (4020 : Int32).toInt = 4020 := by decide
            have o23 : (990 : Int32).toInt = 990 := by decide
            have o24 : (0 : Int32).toInt = 0 := by decide
            have o25 : (1 : Int32).toInt = 1 := by decide
            have o26 : (2 : Int32).toInt = 2 := by decide
            have o27 : (1000 : Int32).toInt = 1000 := by decide
            have o28 : (1003 : Int32).toInt = 1003 := by decide
            have o29 : (1007 : Int32).toInt = 1007 := by decide
            have o30 : (1014 : Int32).toInt = 1014 := by decide
            have o31 : (3000 : Int32).toInt = 3000 := by decide
            have o32 : (5000 : Int32).toInt = 5000 := by decide
            exfalso
            omega
          · exfalso
            have o0 := own_o_mask hy1 2 (by decide) (by decide)
            have o1 := own_o_mask hy2 31 (by decide) (by decide)
            have o2 := own_o_irem hy598 4020 (by decide)
            have o3 := own_o_iadd hy599
            have o4 := own_neq c3
            have o5 := own_neq c266
            have o6 := own_neq c465
            have o7 := own_nlt c608
            have o8 := own_lt c609
            have o9 := own_nlt c610
            have o10 := own_lt c611
            have o11 := own_lt c612
            have o12 := own_nlt c726
            have o13 := own_nlt c727
            have o14 := own_nlt c728
            have o15 := own_lt c729
            have o16 := rng32 i0
            have o17 := rng32 i1
            have o18 := rng32 y1
            have o19 := rng32 y2
            have o20 := rng32 y598
            have o21 := rng32 y599
            have o22 : (3 : Int32).toInt = 3 := by decide
            have o23 : (2147483647 : Int32).toInt = 2147483647 := by decide
            have o24 : (4020 : Int32).toInt = 4020 := by decide
            have o25 : (990 : Int32).toInt = 990 := by decide
            have o26 : (0 : Int32).toInt = 0 := by decide
            have o27 : (1 : Int32).toInt = 1 := by decide
            have o28 : (2 : Int32).toInt = 2 := by decide
            have o29 : (1000 : Int32).toInt = 1000 := by decide
            have o30 : (1003 : Int32).toInt = 1003 := by decide
            have o31 : (1007 : Int32).toInt = 1007 := by decide
            have o32 : (1014 : Int32).toInt = 1014 := by decide
            have o33 : (3000 : Int32).toInt = 3000 := by decide
            have o34 : (5000 : Int32).toInt = 5000 := by decide
            exfalso
            omega
        · show own_Go p e below (T600.setTop (mkF m 72 #[.val (.int i0), .val (.int i1), .val (.int y1), .val (.int y2), .val (.int y599)] [(.int (0 : Int32))])) _
          refine own_iload (pc' := 74) B X600 at_72 rfl rfl ?_
          refine own_callS (pc' := 77) B X600 (own_w hw 5 rfl) (own_w hw 6 rfl) (own_w hw 7 rfl) (own_w hw 8 rfl) (by decide) [(.int y599)] [(.int (0 : Int32))] (rm_2 l Z a0 hw [] (y599) h0 n0 (Nat.le_trans Z0 K.1) ) 1 (by decide) (by decide) rfl pd_0 rfl rfl (Nat.le_of_eq rfl) at_74 rfl (k' := 0) (n' := 0) rfl rfl (by decide) (by decide) ?_
          intro T730 v730 h730 X730 q730
          rcases q730 with ⟨c731, c732, rfl, rfl⟩ | ⟨c733, c734, c735, rfl, rfl⟩ | ⟨c736, c737, c738, c739, rfl, rfl⟩ | ⟨c740, c741, c742, c743, c744, rfl, rfl⟩ | ⟨c745, c746, c747, c748, c749, c750, rfl, rfl⟩ | ⟨c751, c752, c753, c754, c755, c756, rfl, rfl⟩ | ⟨c757, c758, rfl, rfl⟩ | ⟨c759, c760, c761, c762, rfl, rfl⟩
          · exfalso
            have o0 := own_o_mask hy1 2 (by decide) (by decide)
            have o1 := own_o_mask hy2 31 (by decide) (by decide)
            have o2 := own_o_irem hy598 4020 (by decide)
            have o3 := own_o_iadd hy599
            have o4 := own_neq c3
            have o5 := own_neq c266
            have o6 := own_neq c465
            have o7 := own_nlt c613
            have o8 := own_lt c614
            have o9 := own_nlt c615
            have o10 := own_lt c616
            have o11 := own_nlt c617
            have o12 := own_lt c618
            have o13 := own_lt c731
            have o14 := own_lt c732
            have o15 := rng32 i0
            have o16 := rng32 i1
            have o17 := rng32 y1
            have o18 := rng32 y2
            have o19 := rng32 y598
            have o20 := rng32 y599
            have o21 : (3 : Int32).toInt = 3 := by decide
            have o22 : (2147483647 : Int32).toInt = 2147483647 := by decide
            have o23 : (4020 : Int32).toInt = 4020 := by decide
            have o24 : (990 : Int32).toInt = 990 := by decide
            have o25 : (0 : Int32).toInt = 0 := by decide
            have o26 : (1 : Int32).toInt = 1 := by decide
            have o27 : (2 : Int32).toInt = 2 := by decide
            have o28 : (1000 : Int32).toInt = 1000 := by decide
            have o29 : (1003 : Int32).toInt = 1003 := by decide
            have o30 : (1007 : Int32).toInt = 1007 := by decide
            have o31 : (1014 : Int32).toInt = 1014 := by decide
            have o32 : (3000 : Int32).toInt = 3000 := by decide
            have o33 : (4999 : Int32).toInt = 4999 := by decide
            exfalso
            omega
          · exfalso
            have o0 := own_o_mask hy1 2 (by decide) (by decide)
            have o1 := own_o_mask hy2 31 (by decide) (by decide)
            have o2 := own_o_irem hy598 4020 (by decide)
            have o3 := own_o_iadd hy599
            have o4 := own_neq c3
            have o5 := own_neq c266
            have o6 := own_neq c465
            have o7 := own_nlt c613
            have o8 := own_lt c614
            have o9 := own_nlt c615
            have o10 := own_lt c616
            have o11 := own_nlt c617
            have o12 := own_lt c618
            have o13 := own_lt c733
            have o14 := own_nlt c734
            have o15 := own_lt c735
            have o16 := rng32 i0
            have o17 := rng32 i1
            have o18 := rng32 y1
            have o19 := rng32 y2
            have o20 := rng32 y598
            have o21 := rng32 y599
            have o22 : (3 : Int32).toInt = 3 := by decide
            have o23 : (2147483647 : Int32).toInt = 2147483647 := by decide
            have o24 : (4020 : Int32).toInt = 4020 := by decide
            have o25 : (990 : Int32).toInt = 990 := by decide
            have o26 : (0 : Int32).toInt = 0 := by decide
            have o27 : (1 : Int32).toInt = 1 := by decide
            have o28 : (2 : Int32).toInt = 2 := by decide
            have o29 : (1000 : Int32).toInt = 1000 := by decide
            have o30 : (1003 : Int32).toInt = 1003 := by decide
            have o31 : (1007 : Int32).toInt = 1007 := by decide
            have o32 : (1014 : Int32).toInt = 1014 := by decide
            have o33 : (3000 : Int32).toInt = 3000 := by decide
            have o34 : (4999 : Int32).toInt = 4999 := by decide
            exfalso
            omega
          · exfalso
            have o0 := own_o_mask hy1 2 (by decide) (by decide)
            have o1 := own_o_mask hy2 31 (by decide) (by decide)
            have o2 := own_o_irem hy598 4020 (by decide)
            have o3 := own_o_iadd hy599
            have o4 := own_neq c3
            have o5 := own_neq c266
            have o6 := own_neq c465
            have o7 := own_nlt c613
            have o8 := own_lt c614
            have o9 := own_nlt c615
            have o10 := own_lt c616
            have o11 := own_nlt c617
            have o12 := own_lt c618
            have o13 := own_lt c736
            have o14 := own_nlt c737
            have o15 := own_nlt c738
            have o16 := own_eq c739
            have o17 := rng32 i0
            have o18 := rng32 i1
            have o19 := rng32 y1
            have o20 := rng32 y2
            have o21 := rng32 y598
            have o22 := rng32 y599
            have o23 : (3 : Int32).toInt = 3 := by decide
            have o24 : (2147483647 : Int32).toInt = 2147483647 := by decide
            have o25 : (4020 : Int32).toInt = 4020 := by decide
            have o26 : (990 : Int32).toInt = 990 := by decide
            have o27 : (0 : Int32).toInt = 0 := by decide
            have o28 : (1 : Int32).toInt = 1 := by decide
            have o29 : (2 : Int32).toInt = 2 := by decide
            have o30 : (1000 : Int32).toInt = 1000 := by decide
            have o31 : (1003 : Int32).toInt = 1003 := by decide
            have o32 : (1007 : Int32).toInt = 1007 := by decide
            have o33 : (1014 : Int32).toInt = 1014 := by decide
            have o34 : (3000 : Int32).toInt = 3000 := by decide
            have o35 : (4999 : Int32).toInt = 4999 := by decide
            have o36 : (1004 : Int32).toInt = 1004 := by decide
            exfalso
            omega
          · exfalso
            have o0 := own_o_mask hy1 2 (by decide) (by decide)
            have o1 := own_o_mask hy2 31 (by decide) (by decide)
            have o2 := own_o_irem hy598 4020 (by decide)
            have o3 := own_o_iadd hy599
            have o4 := own_neq c3
            have o5 := own_neq c266
            have o6 := own_neq c465
            have o7 := own_nlt c613
            have o8 := own_lt c614
            have o9 := own_nlt c615
            have o10 := own_lt c616
            have o11 := own_nlt c617
            have o12 := own_lt c618
            have o13 := own_lt c740
            have o14 := own_nlt c741
            have o15 := own_nlt c742
            have o16 := own_neq c743
            have o17 := own_eq c744
            have o18 := rng32 i0
            have o19 := rng32 i1
            have o20 := rng32 y1
            have o21 := rng32 y2
            have o22 := rng32 y598
            have o23 := rng32 y599
            have o24 : (3 : Int32).toInt = 3 := by decide
            have o25 : (2147483647 : Int32).toInt = 2147483647 := by decide
            have o26 : (4020 : Int32).toInt = 4020 := by decide
            have o27 : (990 : Int32).toInt = 990 := by decide
            have o28 : (0 : Int32).toInt = 0 := by decide
            have o29 : (1 : Int32).toInt = 1 := by decide
            have o30 : (2 : Int32).toInt = 2 := by decide
            have o31 : (1000 : Int32).toInt = 1000 := by decide
            have o32 : (1003 : Int32).toInt = 1003 := by decide
            have o33 : (1007 : Int32).toInt = 1007 := by decide
            have o34 : (1014 : Int32).toInt = 1014 := by decide
            have o35 : (3000 : Int32).toInt = 3000 := by decide
            have o36 : (4999 : Int32).toInt = 4999 := by decide
            have o37 : (1004 : Int32).toInt = 1004 := by decide
            have o38 : (1005 : Int32).toInt = 1005 := by decide
            exfalso
            omega
          · exfalso
            have o0 := own_o_mask hy1 2 (by decide) (by decide)
            have o1 := own_o_mask hy2 31 (by decide) (by decide)
            have o2 := own_o_irem hy598 4020 (by decide)
            have o3 := own_o_iadd hy599
            have o4 := own_neq c3
            have o5 := own_neq c266
            have o6 := own_neq c465
            have o7 := own_nlt c613
            have o8 := own_lt c614
            have o9 := own_nlt c615
            have o10 := own_lt c616
            have o11 := own_nlt c617
            have o12 := own_lt c618
            have o13 := own_lt c745
            have o14 := own_nlt c746
            have o15 := own_nlt c747
            have o16 := own_neq c748
            have o17 := own_neq c749
            have o18 := own_eq c750
            have o19 := rng32 i0
            have o20 := rng32 i1
            have o21 := rng32 y1
            have o22 := rng32 y2
            have o23 := rng32 y598
            have o24 := rng32 y599
            have o25 : (3 : Int32).toInt = 3 := by decide
            have o26 : (2147483647 : Int32).toInt = 2147483647 := by decide
            have o27 : (4020 : Int32).toInt = 4020 := by decide
            have o28 : (990 : Int32).toInt = 990 := by decide
            have o29 : (0 : Int32).toInt = 0 := by decide
            have o30 : (1 : Int32).toInt = 1 := by decide
            have o31 : (2 : Int32).toInt = 2 := by decide
            have o32 : (1000 : Int32).toInt = 1000 := by decide
            have o33 : (1003 : Int32).toInt = 1003 := by decide
            have o34 : (1007 : Int32).toInt = 1007 := by decide
            have o35 : (1014 : Int32).toInt = 1014 := by decide
            have o36 : (3000 : Int32).toInt = 3000 := by decide
            have o37 : (4999 : Int32).toInt = 4999 := by decide
            have o38 : (1004 : Int32).toInt = 1004 := by decide
            have o39 : (1005 : Int32).toInt = 1005 := by decide
            have o40 : (1006 : Int32).toInt = 1006 := by decide
            exfalso
            omega
          · exfalso
            have o0 := own_o_mask hy1 2 (by decide) (by decide)
            have o1 := own_o_mask hy2 31 (by decide) (by decide)
            have o2 := own_o_irem hy598 4020 (by decide)
            have o3 := own_o_iadd hy599
            have o4 := own_neq c3
            have o5 := own_neq c266
            have o6 := own_neq c465
            have o7 := own_nlt c613
            have o8 := own_lt c614
            have o9 := own_nlt c615
            have o10 := own_lt c616
            have o11 := own_nlt c617
            have o12 := own_lt c618
            have o13 := own_lt c751
            have o14 := own_nlt c752
            have o15 := own_nlt c753
            have o16 := own_neq c754
            have o17 := own_neq c755
            have o18 := own_neq c756
            have o19 := rng32 i0
            have o20 := rng32 i1
            have o21 := rng32 y1
            have o22 := rng32 y2
            have o23 := rng32 y598
            have o24 := rng32 y599
            have o25 : (3 : Int32).toInt = 3 := by decide
            have o26 : (2147483647 : Int32).toInt = 2147483647 := by decide
            have o27 : (4020 : Int32).toInt = 4020 := by decide
            have o28 : (990 : Int32).toInt = 990 := by decide
            have o29 : (0 : Int32).toInt = 0 := by decide
            have o30 : (1 : Int32).toInt = 1 := by decide
            have o31 : (2 : Int32).toInt = 2 := by decide
            have o32 : (1000 : Int32).toInt = 1000 := by decide
            have o33 : (1003 : Int32).toInt = 1003 := by decide
            have o34 : (1007 : Int32).toInt = 1007 := by decide
            have o35 : (1014 : Int32).toInt = 1014 := by decide
            have o36 : (3000 : Int32).toInt = 3000 := by decide
            have o37 : (4999 : Int32).toInt = 4999 := by decide
            have o38 : (1004 : Int32).toInt = 1004 := by decide
            have o39 : (1005 : Int32).toInt = 1005 := by decide
            have o40 : (1006 : Int32).toInt = 1006 := by decide
            exfalso
            omega
          · exfalso
            have o0 := own_o_mask hy1 2 (by decide) (by decide)
            have o1 := own_o_mask hy2 31 (by decide) (by decide)
            have o2 := own_o_irem hy598 4020 (by decide)
            have o3 := own_o_iadd hy599
            have o4 := own_neq c3
            have o5 := own_neq c266
            have o6 := own_neq c465
            have o7 := own_nlt c613
            have o8 := own_lt c614
            have o9 := own_nlt c615
            have o10 := own_lt c616
            have o11 := own_nlt c617
            have o12 := own_lt c618
            have o13 := own_nlt c757
            have o14 := own_lt c758
            have o15 := rng32 i0
            have o16 := rng32 i1
            have o17 := rng32 y1
            have o18 := rng32 y2
            have o19 := rng32 y598
            have o20 := rng32 y599
            have o21 : (3 : Int32).toInt = 3 := by decide
            have o22 : (2147483647 : Int32).toInt = 2147483647 := by decide
            have o23 : (4020 : Int32).toInt = 4020 := by decide
            have o24 : (990 : Int32).toInt = 990 := by decide
            have o25 : (0 : Int32).toInt = 0 := by decide
            have o26 : (1 : Int32).toInt = 1 := by decide
            have o27 : (2 : Int32).toInt = 2 := by decide
            have o28 : (1000 : Int32).toInt = 1000 := by decide
            have o29 : (1003 : Int32).toInt = 1003 := by decide
            have o30 : (1007 : Int32).toInt = 1007 := by decide
            have o31 : (1014 : Int32).toInt = 1014 := by decide
            have o32 : (3000 : Int32).toInt = 3000 := by decide
            have o33 : (4999 : Int32).toInt = 4999 := by decide
            have o34 : (5000 : Int32).toInt = 5000 := by decide
            exfalso
            omega
          · show own_Go p e below (T730.setTop (mkF m 77 #[.val (.int i0), .val (.int i1), .val (.int y1), .val (.int y2), .val (.int y599)] [(.int (0 : Int32)), (.int (0 : Int32))])) _
            refine own_icmpNo (pc' := 80) B X730 at_77 (teq (by decide : (0 : Int32) = (0 : Int32))).2 rfl ?_
            refine own_iconst (pc' := 81) B X730 (z := (1 : Int32)) at_80 rfl rfl ?_
            refine own_goto (pc' := 85) B X730 at_81 (by decide) rfl ?_
            exact own_retN B X730 (t := .boolean) (z' := (1 : Int32)) (by simp) (by decide) at_85 (by decide) (by decide) rfl
        · show own_Go p e below (T600.setTop (mkF m 72 #[.val (.int i0), .val (.int i1), .val (.int y1), .val (.int y2), .val (.int y599)] [(.int (1 : Int32))])) _
          refine own_iload (pc' := 74) B X600 at_72 rfl rfl ?_
          refine own_callS (pc' := 77) B X600 (own_w hw 5 rfl) (own_w hw 6 rfl) (own_w hw 7 rfl) (own_w hw 8 rfl) (by decide) [(.int y599)] [(.int (1 : Int32))] (rm_2 l Z a0 hw [] (y599) h0 n0 (Nat.le_trans Z0 K.1) ) 1 (by decide) (by decide) rfl pd_0 rfl rfl (Nat.le_of_eq rfl) at_74 rfl (k' := 0) (n' := 0) rfl rfl (by decide) (by decide) ?_
          intro T763 v763 h763 X763 q763
          rcases q763 with ⟨c764, c765, rfl, rfl⟩ | ⟨c766, c767, c768, rfl, rfl⟩ | ⟨c769, c770, c771, c772, rfl, rfl⟩ | ⟨c773, c774, c775, c776, c777, rfl, rfl⟩ | ⟨c778, c779, c780, c781, c782, c783, rfl, rfl⟩ | ⟨c784, c785, c786, c787, c788, c789, rfl, rfl⟩ | ⟨c790, c791, rfl, rfl⟩ | ⟨c792, c793, c794, c795, rfl, rfl⟩
          · exfalso
            have o0 := own_o_mask hy1 2 (by decide) (by decide)
            have o1 := own_o_mask hy2 31 (by decide) (by decide)
            have o2 := own_o_irem hy598 4020 (by decide)
            have o3 := own_o_iadd hy599
            have o4 := own_neq c3
            have o5 := own_neq c266
            have o6 := own_neq c465
            have o7 := own_nlt c619
            have o8 := own_lt c620
            have o9 := own_nlt c621
            have o10 := own_lt c622
            have o11 := own_nlt c623
            have o12 := own_nlt c624
            have o13 := own_lt c764
            have o14 := own_lt c765
            have o15 := rng32 i0
            have o16 := rng32 i1
            have o17 := rng32 y1
            have o18 := rng32 y2
            have o19 := rng32 y598
            have o20 := rng32 y599
            have o21 : (3 : Int32).toInt = 3 := by decide
            have o22 : (2147483647 : Int32).toInt = 2147483647 := by decide
            have o23 : (4020 : Int32).toInt = 4020 := by decide
            have o24 : (990 : Int32).toInt = 990 := by decide
            have o25 : (0 : Int32).toInt = 0 := by decide
            have o26 : (1 : Int32).toInt = 1 := by decide
            have o27 : (2 : Int32).toInt = 2 := by decide
            have o28 : (1000 : Int32).toInt = 1000 := by decide
            have o29 : (1003 : Int32).toInt = 1003 := by decide
            have o30 : (1007 : Int32).toInt = 1007 := by decide
            have o31 : (1014 : Int32).toInt = 1014 := by decide
            have o32 : (3000 : Int32).toInt = 3000 := by decide
            have o33 : (4999 : Int32).toInt = 4999 := by decide
            exfalso
            omega
          · exfalso
            have o0 := own_o_mask hy1 2 (by decide) (by decide)
            have o1 := own_o_mask hy2 31 (by decide) (by decide)
            have o2 := own_o_irem hy598 4020 (by decide)
            have o3 := own_o_iadd hy599
            have o4 := own_neq c3
            have o5 := own_neq c266
            have o6 := own_neq c465
            have o7 := own_nlt c619
            have o8 := own_lt c620
            have o9 := own_nlt c621
            have o10 := own_lt c622
            have o11 := own_nlt c623
            have o12 := own_nlt c624
            have o13 := own_lt c766
            have o14 := own_nlt c767
            have o15 := own_lt c768
            have o16 := rng32 i0
            have o17 := rng32 i1
            have o18 := rng32 y1
            have o19 := rng32 y2
            have o20 := rng32 y598
            have o21 := rng32 y599
            have o22 : (3 : Int32).toInt = 3 := by decide
            have o23 : (2147483647 : Int32).toInt = 2147483647 := by decide
            have o24 : (4020 : Int32).toInt = 4020 := by decide
            have o25 : (990 : Int32).toInt = 990 := by decide
            have o26 : (0 : Int32).toInt = 0 := by decide
            have o27 : (1 : Int32).toInt = 1 := by decide
            have o28 : (2 : Int32).toInt = 2 := by decide
            have o29 : (1000 : Int32).toInt = 1000 := by decide
            have o30 : (1003 : Int32).toInt = 1003 := by decide
            have o31 : (1007 : Int32).toInt = 1007 := by decide
            have o32 : (1014 : Int32).toInt = 1014 := by decide
            have o33 : (3000 : Int32).toInt = 3000 := by decide
            have o34 : (4999 : Int32).toInt = 4999 := by decide
            exfalso
            omega
          · exfalso
            have o0 := own_o_mask hy1 2 (by decide) (by decide)
            have o1 := own_o_mask hy2 31 (by decide) (by decide)
            have o2 := own_o_irem hy598 4020 (by decide)
            have o3 := own_o_iadd hy599
            have o4 := own_neq c3
            have o5 := own_neq c266
            have o6 := own_neq c465
            have o7 := own_nlt c619
            have o8 := own_lt c620
            have o9 := own_nlt c621
            have o10 := own_lt c622
            have o11 := own_nlt c623
            have o12 := own_nlt c624
            have o13 := own_lt c769
            have o14 := own_nlt c770
            have o15 := own_nlt c771
            have o16 := own_eq c772
            have o17 := rng32 i0
            have o18 := rng32 i1
            have o19 := rng32 y1
            have o20 := rng32 y2
            have o21 := rng32 y598
            have o22 := rng32 y599
            have o23 : (3 : Int32).toInt = 3 := by decide
            have o24 : (2147483647 : Int32).toInt = 2147483647 := by decide
            have o25 : (4020 : Int32).toInt = 4020 := by decide
            have o26 : (990 : Int32).toInt = 990 := by decide
            have o27 : (0 : Int32).toInt = 0 := by decide
            have o28 : (1 : Int32).toInt = 1 := by decide
            have o29 : (2 : Int32).toInt = 2 := by decide
            have o30 : (1000 : Int32).toInt = 1000 := by decide
            have o31 : (1003 : Int32).toInt = 1003 := by decide
            have o32 : (1007 : Int32).toInt = 1007 := by decide
            have o33 : (1014 : Int32).toInt = 1014 := by decide
            have o34 : (3000 : Int32).toInt = 3000 := by decide
            have o35 : (4999 : Int32).toInt = 4999 := by decide
            have o36 : (1004 : Int32).toInt = 1004 := by decide
            exfalso
            omega
          · exfalso
            have o0 := own_o_mask hy1 2 (by decide) (by decide)
            have o1 := own_o_mask hy2 31 (by decide) (by decide)
            have o2 := own_o_irem hy598 4020 (by decide)
            have o3 := own_o_iadd hy599
            have o4 := own_neq c3
            have o5 := own_neq c266
            have o6 := own_neq c465
            have o7 := own_nlt c619
            have o8 := own_lt c620
            have o9 := own_nlt c621
            have o10 := own_lt c622
            have o11 := own_nlt c623
            have o12 := own_nlt c624
            have o13 := own_lt c773
            have o14 := own_nlt c774
            have o15 := own_nlt c775
            have o16 := own_neq c776
            have o17 := own_eq c777
            have o18 := rng32 i0
            have o19 := rng32 i1
            have o20 := rng32 y1
            have o21 := rng32 y2
            have o22 := rng32 y598
            have o23 := rng32 y599
            have o24 : (3 : Int32).toInt = 3 := by decide
            have o25 : (2147483647 : Int32).toInt = 2147483647 := by decide
            have o26 : (4020 : Int32).toInt = 4020 := by decide
            have o27 : (990 : Int32).toInt = 990 := by decide
            have o28 : (0 : Int32).toInt = 0 := by decide
            have o29 : (1 : Int32).toInt = 1 := by decide
            have o30 : (2 : Int32).toInt = 2 := by decide
            have o31 : (1000 : Int32).toInt = 1000 := by decide
            have o32 : (1003 : Int32).toInt = 1003 := by decide
            have o33 : (1007 : Int32).toInt = 1007 := by decide
            have o34 : (1014 : Int32).toInt = 1014 := by decide
            have o35 : (3000 : Int32).toInt = 3000 := by decide
            have o36 : (4999 : Int32).toInt = 4999 := by decide
            have o37 : (1004 : Int32).toInt = 1004 := by decide
            have o38 : (1005 : Int32).toInt = 1005 := by decide
            exfalso
            omega
          · exfalso
            have o0 := own_o_mask hy1 2 (by decide) (by decide)
            have o1 := own_o_mask hy2 31 (by decide) (by decide)
            have o2 := own_o_irem hy598 4020 (by decide)
            have o3 := own_o_iadd hy599
            have o4 := own_neq c3
            have o5 := own_neq c266
            have o6 := own_neq c465
            have o7 := own_nlt c619
            have o8 := own_lt c620
            have o9 := own_nlt c621
            have o10 := own_lt c622
            have o11 := own_nlt c623
            have o12 := own_nlt c624
            have o13 := own_lt c778
            have o14 := own_nlt c779
            have o15 := own_nlt c780
            have o16 := own_neq c781
            have o17 := own_neq c782
            have o18 := own_eq c783
            have o19 := rng32 i0
            have o20 := rng32 i1
            have o21 := rng32 y1
            have o22 := rng32 y2
            have o23 := rng32 y598
            have o24 := rng32 y599
            have o25 : (3 : Int32).toInt = 3 := by decide
            have o26 : (2147483647 : Int32).toInt = 2147483647 := by decide
            have o27 : (4020 : Int32).toInt = 4020 := by decide
            have o28 : (990 : Int32).toInt = 990 := by decide
            have o29 : (0 : Int32).toInt = 0 := by decide
            have o30 : (1 : Int32).toInt = 1 := by decide
            have o31 : (2 : Int32).toInt = 2 := by decide
            have o32 : (1000 : Int32).toInt = 1000 := by decide
            have o33 : (1003 : Int32).toInt = 1003 := by decide
            have o34 : (1007 : Int32).toInt = 1007 := by decide
            have o35 : (1014 : Int32).toInt = 1014 := by decide
            have o36 : (3000 : Int32).toInt = 3000 := by decide
            have o37 : (4999 : Int32).toInt = 4999 := by decide
            have o38 : (1004 : Int32).toInt = 1004 := by decide
            have o39 : (1005 : Int32).toInt = 1005 := by decide
            have o40 : (1006 : Int32).toInt = 1006 := by decide
            exfalso
            omega
          · exfalso
            have o0 := own_o_mask hy1 2 (by decide) (by decide)
            have o1 := own_o_mask hy2 31 (by decide) (by decide)
            have o2 := own_o_irem hy598 4020 (by decide)
            have o3 := own_o_iadd hy599
            have o4 := own_neq c3
            have o5 := own_neq c266
            have o6 := own_neq c465
            have o7 := own_nlt c619
            have o8 := own_lt c620
            have o9 := own_nlt c621
            have o10 := own_lt c622
            have o11 := own_nlt c623
            have o12 := own_nlt c624
            have o13 := own_lt c784
            have o14 := own_nlt c785
            have o15 := own_nlt c786
            have o16 := own_neq c787
            have o17 := own_neq c788
            have o18 := own_neq c789
            have o19 := rng32 i0
            have o20 := rng32 i1
            have o21 := rng32 y1
            have o22 := rng32 y2
            have o23 := rng32 y598
            have o24 := rng32 y599
            have o25 : (3 : Int32).toInt = 3 := by decide
            have o26 : (2147483647 : Int32).toInt = 2147483647 := by decide
            have o27 : (4020 : Int32).toInt = 4020 := by decide
            have o28 : (990 : Int32).toInt = 990 := by decide
            have o29 : (0 : Int32).toInt = 0 := by decide
            have o30 : (1 : Int32).toInt = 1 := by decide
            have o31 : (2 : Int32).toInt = 2 := by decide
            have o32 : (1000 : Int32).toInt = 1000 := by decide
            have o33 : (1003 : Int32).toInt = 1003 := by decide
            have o34 : (1007 : Int32).toInt = 1007 := by decide
            have o35 : (1014 : Int32).toInt = 1014 := by decide
            have o36 : (3000 : Int32).toInt = 3000 := by decide
            have o37 : (4999 : Int32).toInt = 4999 := by decide
            have o38 : (1004 : Int32).toInt = 1004 := by decide
            have o39 : (1005 : Int32).toInt = 1005 := by decide
            have o40 : (1006 : Int32).toInt = 1006 := by decide
            exfalso
            omega
          · show own_Go p e below (T763.setTop (mkF m 77 #[.val (.int i0), .val (.int i1), .val (.int y1), .val (.int y2), .val (.int y599)] [(.int (1 : Int32)), (.int (1 : Int32))])) _
            refine own_icmpNo (pc' := 80) B X763 at_77 (teq (by decide : (1 : Int32) = (1 : Int32))).2 rfl ?_
            refine own_iconst (pc' := 81) B X763 (z := (1 : Int32)) at_80 rfl rfl ?_
            refine own_goto (pc' := 85) B X763 at_81 (by decide) rfl ?_
            exact own_retN B X763 (t := .boolean) (z' := (1 : Int32)) (by simp) (by decide) at_85 (by decide) (by decide) rfl
          · exfalso
            have o0 := own_o_mask hy1 2 (by decide) (by decide)
            have o1 := own_o_mask hy2 31 (by decide) (by decide)
            have o2 := own_o_irem hy598 4020 (by decide)
            have o3 := own_o_iadd hy599
            have o4 := own_neq c3
            have o5 := own_neq c266
            have o6 := own_neq c465
            have o7 := own_nlt c619
            have o8 := own_lt c620
            have o9 := own_nlt c621
            have o10 := own_lt c622
            have o11 := own_nlt c623
            have o12 := own_nlt c624
            have o13 := own_nlt c792
            have o14 := own_nlt c793
            have o15 := own_nlt c794
            have o16 := own_lt c795
            have o17 := rng32 i0
            have o18 := rng32 i1
            have o19 := rng32 y1
            have o20 := rng32 y2
            have o21 := rng32 y598
            have o22 := rng32 y599
            have o23 : (3 : Int32).toInt = 3 := by decide
            have o24 : (2147483647 : Int32).toInt = 2147483647 := by decide
            have o25 : (4020 : Int32).toInt = 4020 := by decide
            have o26 : (990 : Int32).toInt = 990 := by decide
            have o27 : (0 : Int32).toInt = 0 := by decide
            have o28 : (1 : Int32).toInt = 1 := by decide
            have o29 : (2 : Int32).toInt = 2 := by decide
            have o30 : (1000 : Int32).toInt = 1000 := by decide
            have o31 : (1003 : Int32).toInt = 1003 := by decide
            have o32 : (1007 : Int32).toInt = 1007 := by decide
            have o33 : (1014 : Int32).toInt = 1014 := by decide
            have o34 : (3000 : Int32).toInt = 3000 := by decide
            have o35 : (4999 : Int32).toInt = 4999 := by decide
            have o36 : (5000 : Int32).toInt = 5000 := by decide
            exfalso
            omega
        · show own_Go p e below (T600.setTop (mkF m 72 #[.val (.int i0), .val (.int i1), .val (.int y1), .val (.int y2), .val (.int y599)] [(.int (1 : Int32))])) _
          refine own_iload (pc' := 74) B X600 at_72 rfl rfl ?_
          refine own_callS (pc' := 77) B X600 (own_w hw 5 rfl) (own_w hw 6 rfl) (own_w hw 7 rfl) (own_w hw 8 rfl) (by decide) [(.int y599)] [(.int (1 : Int32))] (rm_2 l Z a0 hw [] (y599) h0 n0 (Nat.le_trans Z0 K.1) ) 1 (by decide) (by decide) rfl pd_0 rfl rfl (Nat.le_of_eq rfl) at_74 rfl (k' := 0) (n' := 0) rfl rfl (by decide) (by decide) ?_
          intro T796 v796 h796 X796 q796
          rcases q796 with ⟨c797, c798, rfl, rfl⟩ | ⟨c799, c800, c801, rfl, rfl⟩ | ⟨c802, c803, c804, c805, rfl, rfl⟩ | ⟨c806, c807, c808, c809, c810, rfl, rfl⟩ | ⟨c811, c812, c813, c814, c815, c816, rfl, rfl⟩ | ⟨c817, c818, c819, c820, c821, c822, rfl, rfl⟩ | ⟨c823, c824, rfl, rfl⟩ | ⟨c825, c826, c827, c828, rfl, rfl⟩
          · exfalso
            have o0 := own_o_mask hy1 2 (by decide) (by decide)
            have o1 := own_o_mask hy2 31 (by decide) (by decide)
            have o2 := own_o_irem hy598 4020 (by decide)
            have o3 := own_o_iadd hy599
            have o4 := own_neq c3
            have o5 := own_neq c266
            have o6 := own_neq c465
            have o7 := own_nlt c625
            have o8 := own_lt c626
            have o9 := own_nlt c627
            have o10 := own_nlt c628
            have o11 := own_lt c797
            have o12 := own_lt c798
            have o13 := rng32 i0
            have o14 := rng32 i1
            have o15 := rng32 y1
            have o16 := rng32 y2
            have o17 := rng32 y598
            have o18 := rng32 y599
            have o19 : (3 : Int32).toInt = 3 := by decide
            have o20 : (2147483647 : Int32).toInt = 2147483647 := by decide
            have o21 : (4020 : Int32).toInt = 4020 := by decide
            have o22 : (990 : Int32).toInt = 990 := by decide
            have o23 : (0 : Int32).toInt = 0 := by decide
            have o24 : (1 : Int32).toInt = 1 := by decide
            have o25 : (2 : Int32).toInt = 2 := by decide
            have o26 : (1000 : Int32).toInt = 1000 := by decide
            have o27 : (1003 : Int32).toInt = 1003 := by decide
            have o28 : (1007 : Int32).toInt = 1007 := by decide
            have o29 : (1014 : Int32).toInt = 1014 := by decide
            have o30 : (3000 : Int32).toInt = 3000 := by decide
            exfalso
            omega
          · exfalso
            have o0 := own_o_mask hy1 2 (by decide) (by decide)
            have o1 := own_o_mask hy2 31 (by decide) (by decide)
            have o2 := own_o_irem hy598 4020 (by decide)
            have o3 := own_o_iadd hy599
            have o4 := own_neq c3
            have o5 := own_neq c266
            have o6 := own_neq c465
            have o7 := own_nlt c625
            have o8 := own_lt c626
            have o9 := own_nlt c627
            have o10 := own_nlt c628
            have o11 := own_lt c799
            have o12 := own_nlt c800
            have o13 := own_lt c801
            have o14 := rng32 i0
            have o15 := rng32 i1
            have o16 := rng32 y1
            have o17 := rng32 y2
            have o18 := rng32 y598
            have o19 := rng32 y599
            have o20 : (3 : Int32).toInt = 3 := by decide
            have o21 : (2147483647 : Int32).toInt = 2147483647 := by decide
            have o22 : (4020 : Int32).toInt = 4020 := by decide
            have o23 : (990 : Int32).toInt = 990 := by decide
            have o24 : (0 : Int32).toInt = 0 := by decide
            have o25 : (1 : Int32).toInt = 1 := by decide
            have o26 : (2 : Int32).toInt = 2 := by decide
            have o27 : (1000 : Int32).toInt = 1000 := by decide
            have o28 : (1003 : Int32).toInt = 1003 := by decide
            have o29 : (1007 : Int32).toInt = 1007 := by decide
            have o30 : (1014 : Int32).toInt = 1014 := by decide
            have o31 : (3000 : Int32).toInt = 3000 := by decide
            exfalso
            omega
          · exfalso
            have o0 := own_o_mask hy1 2 (by decide) (by decide)
            have o1 := own_o_mask hy2 31 (by decide) (by decide)
            have o2 := own_o_irem hy598 4020 (by decide)
            have o3 := own_o_iadd hy599
            have o4 := own_neq c3
            have o5 := own_neq c266
            have o6 := own_neq c465
            have o7 := own_nlt c625
            have o8 := own_lt c626
            have o9 := own_nlt c627
            have o10 := own_nlt c628
            have o11 := own_lt c802
            have o12 := own_nlt c803
            have o13 := own_nlt c804
            have o14 := own_eq c805
            have o15 := rng32 i0
            have o16 := rng32 i1
            have o17 := rng32 y1
            have o18 := rng32 y2
            have o19 := rng32 y598
            have o20 := rng32 y599
            have o21 : (3 : Int32).toInt = 3 := by decide
            have o22 : (2147483647 : Int32).toInt = 2147483647 := by decide
            have o23 : (4020 : Int32).toInt = 4020 := by decide
            have o24 : (990 : Int32).toInt = 990 := by decide
            have o25 : (0 : Int32).toInt = 0 := by decide
            have o26 : (1 : Int32).toInt = 1 := by decide
            have o27 : (2 : Int32).toInt = 2 := by decide
            have o28 : (1000 : Int32).toInt = 1000 := by decide
            have o29 : (1003 : Int32).toInt = 1003 := by decide
            have o30 : (1007 : Int32).toInt = 1007 := by decide
            have o31 : (1014 : Int32).toInt = 1014 := by decide
            have o32 : (3000 : Int32).toInt = 3000 := by decide
            have o33 : (1004 : Int32).toInt = 1004 := by decide
            exfalso
            omega
          · exfalso
            have o0 := own_o_mask hy1 2 (by decide) (by decide)
            have o1 := own_o_mask hy2 31 (by decide) (by decide)
            have o2 := own_o_irem hy598 4020 (by decide)
            have o3 := own_o_iadd hy599
            have o4 := own_neq c3
            have o5 := own_neq c266
            have o6 := own_neq c465
            have o7 := own_nlt c625
            have o8 := own_lt c626
            have o9 := own_nlt c627
            have o10 := own_nlt c628
            have o11 := own_lt c806
            have o12 := own_nlt c807
            have o13 := own_nlt c808
            have o14 := own_neq c809
            have o15 := own_eq c810
            have o16 := rng32 i0
            have o17 := rng32 i1
            have o18 := rng32 y1
            have o19 := rng32 y2
            have o20 := rng32 y598
            have o21 := rng32 y599
            have o22 : (3 : Int32).toInt = 3 := by decide
            have o23 : (2147483647 : Int32).toInt = 2147483647 := by decide
            have o24 : (4020 : Int32).toInt = 4020 := by decide
            have o25 : (990 : Int32).toInt = 990 := by decide
            have o26 : (0 : Int32).toInt = 0 := by decide
            have o27 : (1 : Int32).toInt = 1 := by decide
            have o28 : (2 : Int32).toInt = 2 := by decide
            have o29 : (1000 : Int32).toInt = 1000 := by decide
            have o30 : (1003 : Int32).toInt = 1003 := by decide
            have o31 : (1007 : Int32).toInt = 1007 := by decide
            have o32 : (1014 : Int32).toInt = 1014 := by decide
            have o33 : (3000 : Int32).toInt = 3000 := by decide
            have o34 : (1004 : Int32).toInt = 1004 := by decide
            have o35 : (1005 : Int32).toInt = 1005 := by decide
            exfalso
            omega
          · exfalso
            have o0 := own_o_mask hy1 2 (by decide) (by decide)
            have o1 := own_o_mask hy2 31 (by decide) (by decide)
            have o2 := own_o_irem hy598 4020 (by decide)
            have o3 := own_o_iadd hy599
            have o4 := own_neq c3
            have o5 := own_neq c266
            have o6 := own_neq c465
            have o7 := own_nlt c625
            have o8 := own_lt c626
            have o9 := own_nlt c627
            have o10 := own_nlt c628
            have o11 := own_lt c811
            have o12 := own_nlt c812
            have o13 := own_nlt c813
            have o14 := own_neq c814
            have o15 := own_neq c815
            have o16 := own_eq c816
            have o17 := rng32 i0
            have o18 := rng32 i1
            have o19 := rng32 y1
            have o20 := rng32 y2
            have o21 := rng32 y598
            have o22 := rng32 y599
            have o23 : (3 : Int32).toInt = 3 := by decide
            have o24 : (2147483647 : Int32).toInt = 2147483647 := by decide
            have o25 : (4020 : Int32).toInt = 4020 := by decide
            have o26 : (990 : Int32).toInt = 990 := by decide
            have o27 : (0 : Int32).toInt = 0 := by decide
            have o28 : (1 : Int32).toInt = 1 := by decide
            have o29 : (2 : Int32).toInt = 2 := by decide
            have o30 : (1000 : Int32).toInt = 1000 := by decide
            have o31 : (1003 : Int32).toInt = 1003 := by decide
            have o32 : (1007 : Int32).toInt = 1007 := by decide
            have o33 : (1014 : Int32).toInt = 1014 := by decide
            have o34 : (3000 : Int32).toInt = 3000 := by decide
            have o35 : (1004 : Int32).toInt = 1004 := by decide
            have o36 : (1005 : Int32).toInt = 1005 := by decide
            have o37 : (1006 : Int32).toInt = 1006 := by decide
            exfalso
            omega
          · show own_Go p e below (T796.setTop (mkF m 77 #[.val (.int i0), .val (.int i1), .val (.int y1), .val (.int y2), .val (.int y599)] [(.int (1 : Int32)), (.int (1 : Int32))])) _
            refine own_icmpNo (pc' := 80) B X796 at_77 (teq (by decide : (1 : Int32) = (1 : Int32))).2 rfl ?_
            refine own_iconst (pc' := 81) B X796 (z := (1 : Int32)) at_80 rfl rfl ?_
            refine own_goto (pc' := 85) B X796 at_81 (by decide) rfl ?_
            exact own_retN B X796 (t := .boolean) (z' := (1 : Int32)) (by simp) (by decide) at_85 (by decide) (by decide) rfl
          · exfalso
            have o0 := own_o_mask hy1 2 (by decide) (by decide)
            have o1 := own_o_mask hy2 31 (by decide) (by decide)
            have o2 := own_o_irem hy598 4020 (by decide)
            have o3 := own_o_iadd hy599
            have o4 := own_neq c3
            have o5 := own_neq c266
            have o6 := own_neq c465
            have o7 := own_nlt c625
            have o8 := own_lt c626
            have o9 := own_nlt c627
            have o10 := own_nlt c628
            have o11 := own_nlt c823
            have o12 := own_lt c824
            have o13 := rng32 i0
            have o14 := rng32 i1
            have o15 := rng32 y1
            have o16 := rng32 y2
            have o17 := rng32 y598
            have o18 := rng32 y599
            have o19 : (3 : Int32).toInt = 3 := by decide
            have o20 : (2147483647 : Int32).toInt = 2147483647 := by decide
            have o21 : (4020 : Int32).toInt = 4020 := by decide
            have o22 : (990 : Int32).toInt = 990 := by decide
            have o23 : (0 : Int32).toInt = 0 := by decide
            have o24 : (1 : Int32).toInt = 1 := by decide
            have o25 : (2 : Int32).toInt = 2 := by decide
            have o26 : (1000 : Int32).toInt = 1000 := by decide
            have o27 : (1003 : Int32).toInt = 1003 := by decide
            have o28 : (1007 : Int32).toInt = 1007 := by decide
            have o29 : (1014 : Int32).toInt = 1014 := by decide
            have o30 : (3000 : Int32).toInt = 3000 := by decide
            have o31 : (5000 : Int32).toInt = 5000 := by decide
            exfalso
            omega
          · exfalso
            have o0 := own_o_mask hy1 2 (by decide) (by decide)
            have o1 := own_o_mask hy2 31 (by decide) (by decide)
            have o2 := own_o_irem hy598 4020 (by decide)
            have o3 := own_o_iadd hy599
            have o4 := own_neq c3
            have o5 := own_neq c266
            have o6 := own_neq c465
            have o7 := own_nlt c625
            have o8 := own_lt c626
            have o9 := own_nlt c627
            have o10 := own_nlt c628
            have o11 := own_nlt c825
            have o12 := own_nlt c826
            have o13 := own_nlt c827
            have o14 := own_lt c828
            have o15 := rng32 i0
            have o16 := rng32 i1
            have o17 := rng32 y1
            have o18 := rng32 y2
            have o19 := rng32 y598
            have o20 := rng32 y599
            have o21 : (3 : Int32).toInt = 3 := by decide
            have o22 : (2147483647 : Int32).toInt = 2147483647 := by decide
            have o23 : (4020 : Int32).toInt = 4020 := by decide
            have o24 : (990 : Int32).toInt = 990 := by decide
            have o25 : (0 : Int32).toInt = 0 := by decide
            have o26 : (1 : Int32).toInt = 1 := by decide
            have o27 : (2 : Int32).toInt = 2 := by decide
            have o28 : (1000 : Int32).toInt = 1000 := by decide
            have o29 : (1003 : Int32).toInt = 1003 := by decide
            have o30 : (1007 : Int32).toInt = 1007 := by decide
            have o31 : (1014 : Int32).toInt = 1014 := by decide
            have o32 : (3000 : Int32).toInt = 3000 := by decide
            have o33 : (5000 : Int32).toInt = 5000 := by decide
            exfalso
            omega
        · show own_Go p e below (T600.setTop (mkF m 72 #[.val (.int i0), .val (.int i1), .val (.int y1), .val (.int y2), .val (.int y599)] [(.int (1 : Int32))])) _
          refine own_iload (pc' := 74) B X600 at_72 rfl rfl ?_
          refine own_callS (pc' := 77) B X600 (own_w hw 5 rfl) (own_w hw 6 rfl) (own_w hw 7 rfl) (own_w hw 8 rfl) (by decide) [(.int y599)] [(.int (1 : Int32))] (rm_2 l Z a0 hw [] (y599) h0 n0 (Nat.le_trans Z0 K.1) ) 1 (by decide) (by decide) rfl pd_0 rfl rfl (Nat.le_of_eq rfl) at_74 rfl (k' := 0) (n' := 0) rfl rfl (by decide) (by decide) ?_
          intro T829 v829 h829 X829 q829
          rcases q829 with ⟨c830, c831, rfl, rfl⟩ | ⟨c832, c833, c834, rfl, rfl⟩ | ⟨c835, c836, c837, c838, rfl, rfl⟩ | ⟨c839, c840, c841, c842, c843, rfl, rfl⟩ | ⟨c844, c845, c846, c847, c848, c849, rfl, rfl⟩ | ⟨c850, c851, c852, c853, c854, c855, rfl, rfl⟩ | ⟨c856, c857, rfl, rfl⟩ | ⟨c858, c859, c860, c861, rfl, rfl⟩
          · exfalso
            have o0 := own_o_mask hy1 2 (by decide) (by decide)
            have o1 := own_o_mask hy2 31 (by decide) (by decide)
            have o2 := own_o_irem hy598 4020 (by decide)
            have o3 := own_o_iadd hy599
            have o4 := own_neq c3
            have o5 := own_neq c266
            have o6 := own_neq c465
            have o7 := own_nlt c629
            have o8 := own_nlt c630
            have o9 := own_lt c830
            have o10 := own_lt c831
            have o11 := rng32 i0
            have o12 := rng32 i1
            have o13 := rng32 y1
            have o14 := rng32 y2
            have o15 := rng32 y598
            have o16 := rng32 y599
            have o17 : (3 : Int32).toInt = 3 := by decide
            have o18 : (2147483647 : Int32).toInt = 2147483647 := by decide
            have o19 : (4020 : Int32).toInt = 4020 := by decide
            have o20 : (990 : Int32).toInt = 990 := by decide
            have o21 : (0 : Int32).toInt = 0 := by decide
            have o22 : (1 : Int32).toInt = 1 := by decide
            have o23 : (2 : Int32).toInt = 2 := by decide
            have o24 : (1000 : Int32).toInt = 1000 := by decide
            have o25 : (1003 : Int32).toInt = 1003 := by decide
            have o26 : (3000 : Int32).toInt = 3000 := by decide
            exfalso
            omega
          · exfalso
            have o0 := own_o_mask hy1 2 (by decide) (by decide)
            have o1 := own_o_mask hy2 31 (by decide) (by decide)
            have o2 := own_o_irem hy598 4020 (by decide)
            have o3 := own_o_iadd hy599
            have o4 := own_neq c3
            have o5 := own_neq c266
            have o6 := own_neq c465
            have o7 := own_nlt c629
            have o8 := own_nlt c630
            have o9 := own_lt c832
            have o10 := own_nlt c833
            have o11 := own_lt c834
            have o12 := rng32 i0
            have o13 := rng32 i1
            have o14 := rng32 y1
            have o15 := rng32 y2
            have o16 := rng32 y598
            have o17 := rng32 y599
            have o18 : (3 : Int32).toInt = 3 := by decide
            have o19 : (2147483647 : Int32).toInt = 2147483647 := by decide
            have o20 : (4020 : Int32).toInt = 4020 := by decide
            have o21 : (990 : Int32).toInt = 990 := by decide
            have o22 : (0 : Int32).toInt = 0 := by decide
            have o23 : (1 : Int32).toInt = 1 := by decide
            have o24 : (2 : Int32).toInt = 2 := by decide
            have o25 : (1000 : Int32).toInt = 1000 := by decide
            have o26 : (1003 : Int32).toInt = 1003 := by decide
            have o27 : (3000 : Int32).toInt = 3000 := by decide
            have o28 : (1014 : Int32).toInt = 1014 := by decide
            exfalso
            omega
          · exfalso
            have o0 := own_o_mask hy1 2 (by decide) (by decide)
            have o1 := own_o_mask hy2 31 (by decide) (by decide)
            have o2 := own_o_irem hy598 4020 (by decide)
            have o3 := own_o_iadd hy599
            have o4 := own_neq c3
            have o5 := own_neq c266
            have o6 := own_neq c465
            have o7 := own_nlt c629
            have o8 := own_nlt c630
            have o9 := own_lt c835
            have o10 := own_nlt c836
            have o11 := own_nlt c837
            have o12 := own_eq c838
            have o13 := rng32 i0
            have o14 := rng32 i1
            have o15 := rng32 y1
            have o16 := rng32 y2
            have o17 := rng32 y598
            have o18 := rng32 y599
            have o19 : (3 : Int32).toInt = 3 := by decide
            have o20 : (2147483647 : Int32).toInt = 2147483647 := by decide
            have o21 : (4020 : Int32).toInt = 4020 := by decide
            have o22 : (990 : Int32).toInt = 990 := by decide
            have o23 : (0 : Int32).toInt = 0 := by decide
            have o24 : (1 : Int32).toInt = 1 := by decide
            have o25 : (2 : Int32).toInt = 2 := by decide
            have o26 : (1000 : Int32).toInt = 1000 := by decide
            have o27 : (1003 : Int32).toInt = 1003 := by decide
            have o28 : (3000 : Int32).toInt = 3000 := by decide
            have o29 : (1014 : Int32).toInt = 1014 := by decide
            have o30 : (1004 : Int32).toInt = 1004 := by decide
            exfalso
            omega
          · exfalso
            have o0 := own_o_mask hy1 2 (by decide) (by decide)
            have o1 := own_o_mask hy2 31 (by decide) (by decide)
            have o2 := own_o_irem hy598 4020 (by decide)
            have o3 := own_o_iadd hy599
            have o4 := own_neq c3
            have o5 := own_neq c266
            have o6 := own_neq c465
            have o7 := own_nlt c629
            have o8 := own_nlt c630
            have o9 := own_lt c839
            have o10 := own_nlt c840
            have o11 := own_nlt c841
            have o12 := own_neq c842
            have o13 := own_eq c843
            have o14 := rng32 i0
            have o15 := rng32 i1
            have o16 := rng32 y1
            have o17 := rng32 y2
            have o18 := rng32 y598
            have o19 := rng32 y599
            have o20 : (3 : Int32).toInt = 3 := by decide
            have o21 : (2147483647 : Int32).toInt = 2147483647 := by decide
            have o22 : (4020 : Int32).toInt = 4020 := by decide
            have o23 : (990 : Int32).toInt = 990 := by decide
            have o24 : (0 : Int32).toInt = 0 := by decide
            have o25 : (1 : Int32).toInt = 1 := by decide
            have o26 : (2 : Int32).toInt = 2 := by decide
            have o27 : (1000 : Int32).toInt = 1000 := by decide
            have o28 : (1003 : Int32).toInt = 1003 := by decide
            have o29 : (3000 : Int32).toInt = 3000 := by decide
            have o30 : (1014 : Int32).toInt = 1014 := by decide
            have o31 : (1004 : Int32).toInt = 1004 := by decide
            have o32 : (1005 : Int32).toInt = 1005 := by decide
            exfalso
            omega
          · exfalso
            have o0 := own_o_mask hy1 2 (by decide) (by decide)
            have o1 := own_o_mask hy2 31 (by decide) (by decide)
            have o2 := own_o_irem hy598 4020 (by decide)
            have o3 := own_o_iadd hy599
            have o4 := own_neq c3
            have o5 := own_neq c266
            have o6 := own_neq c465
            have o7 := own_nlt c629
            have o8 := own_nlt c630
            have o9 := own_lt c844
            have o10 := own_nlt c845
            have o11 := own_nlt c846
            have o12 := own_neq c847
            have o13 := own_neq c848
            have o14 := own_eq c849
            have o15 := rng32 i0
            have o16 := rng32 i1
            have o17 := rng32 y1
            have o18 := rng32 y2
            have o19 := rng32 y598
            have o20 := rng32 y599
            have o21 : (3 : Int32).toInt = 3 := by decide
            have o22 : (2147483647 : Int32).toInt = 2147483647 := by decide
            have o23 : (4020 : Int32).toInt = 4020 := by decide
            have o24 : (990 : Int32).toInt = 990 := by decide
            have o25 : (0 : Int32).toInt = 0 := by decide
            have o26 : (1 : Int32).toInt = 1 := by decide
            have o27 : (2 : Int32).toInt = 2 := by decide
            have o28 : (1000 : Int32).toInt = 1000 := by decide
            have o29 : (1003 : Int32).toInt = 1003 := by decide
            have o30 : (3000 : Int32).toInt = 3000 := by decide
            have o31 : (1014 : Int32).toInt = 1014 := by decide
            have o32 : (1004 : Int32).toInt = 1004 := by decide
            have o33 : (1005 : Int32).toInt = 1005 := by decide
            have o34 : (1006 : Int32).toInt = 1006 := by decide
            exfalso
            omega
          · show own_Go p e below (T829.setTop (mkF m 77 #[.val (.int i0), .val (.int i1), .val (.int y1), .val (.int y2), .val (.int y599)] [(.int (1 : Int32)), (.int (1 : Int32))])) _
            refine own_icmpNo (pc' := 80) B X829 at_77 (teq (by decide : (1 : Int32) = (1 : Int32))).2 rfl ?_
            refine own_iconst (pc' := 81) B X829 (z := (1 : Int32)) at_80 rfl rfl ?_
            refine own_goto (pc' := 85) B X829 at_81 (by decide) rfl ?_
            exact own_retN B X829 (t := .boolean) (z' := (1 : Int32)) (by simp) (by decide) at_85 (by decide) (by decide) rfl
          · exfalso
            have o0 := own_o_mask hy1 2 (by decide) (by decide)
            have o1 := own_o_mask hy2 31 (by decide) (by decide)
            have o2 := own_o_irem hy598 4020 (by decide)
            have o3 := own_o_iadd hy599
            have o4 := own_neq c3
            have o5 := own_neq c266
            have o6 := own_neq c465
            have o7 := own_nlt c629
            have o8 := own_nlt c630
            have o9 := own_nlt c856
            have o10 := own_lt c857
            have o11 := rng32 i0
            have o12 := rng32 i1
            have o13 := rng32 y1
            have o14 := rng32 y2
            have o15 := rng32 y598
            have o16 := rng32 y599
            have o17 : (3 : Int32).toInt = 3 := by decide
            have o18 : (2147483647 : Int32).toInt = 2147483647 := by decide
            have o19 : (4020 : Int32).toInt = 4020 := by decide
            have o20 : (990 : Int32).toInt = 990 := by decide
            have o21 : (0 : Int32).toInt = 0 := by decide
            have o22 : (1 : Int32).toInt = 1 := by decide
            have o23 : (2 : Int32).toInt = 2 := by decide
            have o24 : (1000 : Int32).toInt = 1000 := by decide
            have o25 : (1003 : Int32).toInt = 1003 := by decide
            have o26 : (3000 : Int32).toInt = 3000 := by decide
            have o27 : (5000 : Int32).toInt = 5000 := by decide
            exfalso
            omega
          · exfalso
            have o0 := own_o_mask hy1 2 (by decide) (by decide)
            have o1 := own_o_mask hy2 31 (by decide) (by decide)
            have o2 := own_o_irem hy598 4020 (by decide)
            have o3 := own_o_iadd hy599
            have o4 := own_neq c3
            have o5 := own_neq c266
            have o6 := own_neq c465
            have o7 := own_nlt c629
            have o8 := own_nlt c630
            have o9 := own_nlt c858
            have o10 := own_nlt c859
            have o11 := own_nlt c860
            have o12 := own_lt c861
            have o13 := rng32 i0
            have o14 := rng32 i1
            have o15 := rng32 y1
            have o16 := rng32 y2
            have o17 := rng32 y598
            have o18 := rng32 y599
            have o19 : (3 : Int32).toInt = 3 := by decide
            have o20 : (2147483647 : Int32).toInt = 2147483647 := by decide
            have o21 : (4020 : Int32).toInt = 4020 := by decide
            have o22 : (990 : Int32).toInt = 990 := by decide
            have o23 : (0 : Int32).toInt = 0 := by decide
            have o24 : (1 : Int32).toInt = 1 := by decide
            have o25 : (2 : Int32).toInt = 2 := by decide
            have o26 : (1000 : Int32).toInt = 1000 := by decide
            have o27 : (1003 : Int32).toInt = 1003 := by decide
            have o28 : (3000 : Int32).toInt = 3000 := by decide
            have o29 : (5000 : Int32).toInt = 5000 := by decide
            have o30 : (1014 : Int32).toInt = 1014 := by decide
            exfalso
            omega
set_option maxRecDepth 65536 in
set_option maxHeartbeats 40000000 in
theorem comes_1 {Post : Tables → Env → Array Value → State → Outcome → State → Prop} (hpost : ∀ tb e args s v u, (limb_1_1.after args s (.returned v) u = true ∧ limb_1_2.after args s (.returned v) u = true ∧ True) → FrameEnd s (.returned v) u (Jvm.fieldLocs frame_1_writes args s ++ Jvm.arrayLocs frame_1_arrays args s ++ Jvm.staticLocs frame_1_statics s) 0 0 → Post tb e args s (.returned v) u) :
    ArmFor flags0 classFile x code maxLocals ret World_1 tables_1 room_1 Calls_1 rest_1 Pre_1 Post := by
  intro l hfl _ _ p e ha hc hk s m args below hf hA hF happ hP
  obtain ⟨hcalls, hrest, hpre⟩ := hP
  obtain ⟨-, -, -, hnamed, -, -, -, hat⟩ := (Spec.applies_iff hf).mp happ
  obtain ⟨hg, hn⟩ := and_e (Cond.before_iff.mp (show (Jvm.Cond.and given_1 narrow_1).before args s = true from hpre))
  obtain ⟨g1, g2⟩ := and_e hg
  obtain ⟨g3, g4⟩ := and_e g2
  obtain ⟨w0, w1, rfl⟩ : ∃ w0 w1 : Value, args = #[w0, w1] := by
    have hs : args.size = 2 := by simpa [Cond.value, given_1] using g1
    obtain ⟨L⟩ := args
    match L, hs with
    | [w0, w1], _ => exact ⟨w0, w1, rfl⟩
  have hw := fun d (hd : d ∈ tables_1) => atoms_spec (ws := Jvm.Cond.code x code maxLocals ret :: tables_1) hat d (List.mem_cons_of_mem _ hd)
  obtain ⟨i0, ei0⟩ := is_v g3
  obtain rfl : w0 = (.int i0) := Option.some.inj ei0
  obtain ⟨i1, ei1⟩ := is_v g4
  obtain rfl : w1 = (.int i1) := Option.some.inj ei1
  obtain ⟨n, o, h1, h2, h3, _, L, rfl, ⟨N, rfl⟩, hq⟩ := rm_0 l s _ hw tables_1 i0 i1 s.heap s.heap.size (Nat.le_refl _)  p e ha hc hk s m _ below hf ((Spec.applies_iff_loose hf).mp happ).1 ⟨rfl, State.Warmed39.refl s, rfl⟩ trivial
  refine ⟨n, _, h1, h2, h3, hpost _ _ _ _ _ _ ⟨Cond.after_iff.mpr rfl, Cond.after_iff.mpr (eq_i res_at (Term.int_eval (1)) rfl), trivial⟩ ⟨hq.1, hq.2.1, (hq.2.2.sift fun y hy => Or.inr (N y hy)).mono (by decide) (by decide)⟩⟩
theorem main_1_1 : Claimed_1_1 := comes_1 fun _ _ _ _ _ _ h hF => ⟨h.1, hF⟩
theorem main_1_2 : Claimed_1_2 := comes_1 fun _ _ _ _ _ _ h hF => ⟨h.2.1, hF⟩
end Jvm.Pilot.@@N@@
namespace Jvm.Pilot.@@N@@
open Jvm Jvm.ClassFile Sem Op Lib Jvm.Free Jvm.Stand Jvm.Pilot.@@N@@.Jvm.D
/-! MADE BY PROGRAM (witnessworld.py) out of the Statement's table words and the real class files: 9 classes; the members and pool entries that the words name. The judged class is class 1, her method 2. -/
namespace start1
open Jvm.ClassFile
def u (s : String) : CpInfo := .utf8 (stringToUtf16 s)
/-- a pool by its gaps: so many unusable entries, then the entry; so many at the end -/
def gap : Nat → List CpInfo → List CpInfo
  | 0, r => r
  | n + 1, r => .unusable :: gap n r
def poolList (es : List (Nat × CpInfo)) (last : Nat) : List CpInfo := es.foldr (fun e r => gap e.1 (e.2 :: r)) (gap last [])
def pool (es : List (Nat × CpInfo)) (last : Nat) : Array CpInfo := ⟨poolList es last⟩
def fileOf (pool : Array CpInfo) (this : Nat) (attrs : Array Attribute := #[]) (ms : Array MethodInfo := #[]) (fl : Nat := 33) (sup : Nat := 0) (ifs : Array Nat := #[]) (fds : Array FieldInfo := #[]) : ClassFile where
  minorVersion := 0
  majorVersion := 65
  constantPool := pool
  accessFlags := fl
  thisClass := this
  superClass := sup
  interfaces := ifs
  fields := fds
  methods := ms
  attributes := attrs
def plain (name : String) (sup : Option ClassId) : Class where
  name := name
  kind := .ordinary
  loader := none
  accessFlags := 33
  super := sup
  interfaces := #[]
  cf := none
  fields := #[]
  methods := #[]
  instanceTypes := #[]
  staticTypes := #[]
  resolved := #[]
  callSites := []
  init := .initialized
  statics := none
  mirror := none

def pool0 : Array CpInfo := pool [(5, u "<init>"), (0, u "()V"), (1, .class_ 10), (1, u "java/lang/Object")] 113

def k0m0 : Method := { name := "<init>", desc := "()V", sig := { parameters := [], returnType := none }, accessFlags := 1, code := none }
/-- java/lang/Object -/
def k0 : Class := { plain "java/lang/Object" none with
  accessFlags := 33
  interfaces := #[]
  cf := some (fileOf pool0 8 #[] #[{ accessFlags := 1, nameIndex := 5, descriptorIndex := 6, attributes := #[] }] 33 0 #[] #[])
  fields := #[]
  methods := #[k0m0]
  instanceTypes := #[]
  staticTypes := #[]
  resolved := Array.replicate 124 none
  statics := none }

def pool1 : Array CpInfo := pool [(2, .class_ 4), (1, u "java/lang/Object"), (0, u "<init>"), (0, u "()V"), (0, .integer 2147483647), (0, .methodref 9 10), (0, .class_ 11), (0, .nameAndType 12 13), (0, u "com/example/octet/octet/server/websocket/WebSocketCodes"), (0, u "isSendable"), (0, u "(I)Z"), (0, .methodref 15 16), (0, .class_ 17), (0, .nameAndType 18 13), (0, u "com/example/octet/octet/server/websocket/WebSocketCodesIsSendablePinLaw"), (0, u "ref"), (3, u "law"), (0, u "(II)Z")] 2

def k1m0 : Method := { name := "<init>", desc := "()V", sig := { parameters := [], returnType := none }, accessFlags := 2, code := none }
def k1c1 : Code := { maxStack := 2, maxLocals := 1, code := method_2_code, exceptionTable := #[], attributes := #[] }
def k1m1 : Method := { name := "ref", desc := "(I)Z", sig := { parameters := [.int], returnType := some .boolean }, accessFlags := 10, code := some k1c1 }
def k1c2 : Code := { maxStack := 3, maxLocals := 5, code := code, exceptionTable := #[], attributes := #[] }
def k1m2 : Method := { name := "law", desc := "(II)Z", sig := { parameters := [.int, .int], returnType := some .boolean }, accessFlags := 9, code := some k1c2 }
/-- com/example/octet/octet/server/websocket/WebSocketCodesIsSendablePinLaw -/
def k1 : Class := { plain "com/example/octet/octet/server/websocket/WebSocketCodesIsSendablePinLaw" (some 0) with
  accessFlags := 49
  interfaces := #[]
  cf := some (fileOf pool1 15 #[] #[{ accessFlags := 2, nameIndex := 5, descriptorIndex := 6, attributes := #[] }, { accessFlags := 10, nameIndex := 18, descriptorIndex := 13, attributes := #[] }, { accessFlags := 9, nameIndex := 22, descriptorIndex := 23, attributes := #[] }] 49 2 #[] #[])
  fields := #[]
  methods := #[k1m0, k1m1, k1m2]
  instanceTypes := #[]
  staticTypes := #[]
  resolved := Array.replicate 26 none
  statics := none }

def pool2 : Array CpInfo := pool [(2, .class_ 4), (1, u "java/lang/Object"), (0, u "<init>"), (0, u "()V"), (0, .class_ 8), (0, u "com/example/octet/octet/server/websocket/WebSocketCodes"), (0, u "CONTINUATION"), (0, u "I"), (2, u "TEXT"), (1, u "BINARY"), (1, u "CLOSE"), (1, u "PING"), (1, u "PONG"), (1, u "NORMAL"), (1, u "GOING_AWAY"), (1, u "PROTOCOL_ERROR"), (1, u "UNSUPPORTED_DATA"), (1, u "INVALID_DATA"), (1, u "POLICY_VIOLATION"), (1, u "MESSAGE_TOO_BIG"), (3, u "isSendable"), (0, u "(I)Z")] 3

def k2m0 : Method := { name := "<init>", desc := "()V", sig := { parameters := [], returnType := none }, accessFlags := 2, code := none }
def k2c1 : Code := { maxStack := 2, maxLocals := 1, code := prog_38_method_2_code, exceptionTable := #[], attributes := #[] }
def k2m1 : Method := { name := "isSendable", desc := "(I)Z", sig := { parameters := [.int], returnType := some .boolean }, accessFlags := 8, code := some k2c1 }
/-- com/example/octet/octet/server/websocket/WebSocketCodes -/
def k2 : Class := { plain "com/example/octet/octet/server/websocket/WebSocketCodes" (some 0) with
  accessFlags := 48
  interfaces := #[]
  cf := some (fileOf pool2 7 #[] #[{ accessFlags := 2, nameIndex := 5, descriptorIndex := 6, attributes := #[] }, { accessFlags := 8, nameIndex := 39, descriptorIndex := 40, attributes := #[] }] 48 2 #[] #[{ accessFlags := 24, nameIndex := 9, descriptorIndex := 10, attributes := #[] }, { accessFlags := 24, nameIndex := 13, descriptorIndex := 10, attributes := #[] }, { accessFlags := 24, nameIndex := 15, descriptorIndex := 10, attributes := #[] }, { accessFlags := 24, nameIndex := 17, descriptorIndex := 10, attributes := #[] }, { accessFlags := 24, nameIndex := 19, descriptorIndex := 10, attributes := #[] }, { accessFlags := 24, nameIndex := 21, descriptorIndex := 10, attributes := #[] }, { accessFlags := 24, nameIndex := 23, descriptorIndex := 10, attributes := #[] }, { accessFlags := 24, nameIndex := 25, descriptorIndex := 10, attributes := #[] }, { accessFlags := 24, nameIndex := 27, descriptorIndex := 10, attributes := #[] }, { accessFlags := 24, nameIndex := 29, descriptorIndex := 10, attributes := #[] }, { accessFlags := 24, nameIndex := 31, descriptorIndex := 10, attributes := #[] }, { accessFlags := 24, nameIndex := 33, descriptorIndex := 10, attributes := #[] }, { accessFlags := 24, nameIndex := 35, descriptorIndex := 10, attributes := #[] }])
  fields := #[{ name := "CONTINUATION", type := .int, accessFlags := 24, slot := 0, constantValue := 0 }, { name := "TEXT", type := .int, accessFlags := 24, slot := 1, constantValue := 0 }, { name := "BINARY", type := .int, accessFlags := 24, slot := 2, constantValue := 0 }, { name := "CLOSE", type := .int, accessFlags := 24, slot := 3, constantValue := 0 }, { name := "PING", type := .int, accessFlags := 24, slot := 4, constantValue := 0 }, { name := "PONG", type := .int, accessFlags := 24, slot := 5, constantValue := 0 }, { name := "NORMAL", type := .int, accessFlags := 24, slot := 6, constantValue := 0 }, { name := "GOING_AWAY", type := .int, accessFlags := 24, slot := 7, constantValue := 0 }, { name := "PROTOCOL_ERROR", type := .int, accessFlags := 24, slot := 8, constantValue := 0 }, { name := "UNSUPPORTED_DATA", type := .int, accessFlags := 24, slot := 9, constantValue := 0 }, { name := "INVALID_DATA", type := .int, accessFlags := 24, slot := 10, constantValue := 0 }, { name := "POLICY_VIOLATION", type := .int, accessFlags := 24, slot := 11, constantValue := 0 }, { name := "MESSAGE_TOO_BIG", type := .int, accessFlags := 24, slot := 12, constantValue := 0 }]
  methods := #[k2m0, k2m1]
  instanceTypes := #[]
  staticTypes := #[.int, .int, .int, .int, .int, .int, .int, .int, .int, .int, .int, .int, .int]
  resolved := Array.replicate 44 none
  statics := none }

def pool3 : Array CpInfo := pool [(1, u "java/lang/Cloneable"), (0, .class_ 1), (0, u "java/lang/Object"), (0, .class_ 3)] 3

/-- java/lang/Cloneable -/
def k3 : Class := { plain "java/lang/Cloneable" (some 0) with
  accessFlags := 1537
  interfaces := #[]
  cf := some (fileOf pool3 2 #[] #[] 1537 4 #[] #[])
  fields := #[]
  methods := #[]
  instanceTypes := #[]
  staticTypes := #[]
  resolved := Array.replicate 8 none
  statics := none }

def pool4 : Array CpInfo := pool [(1, u "java/io/Serializable"), (0, .class_ 1), (0, u "java/lang/Object"), (0, .class_ 3)] 3

/-- java/io/Serializable -/
def k4 : Class := { plain "java/io/Serializable" (some 0) with
  accessFlags := 1537
  interfaces := #[]
  cf := some (fileOf pool4 2 #[] #[] 1537 4 #[] #[])
  fields := #[]
  methods := #[]
  instanceTypes := #[]
  staticTypes := #[]
  resolved := Array.replicate 8 none
  statics := none }

/-- the primitive byte -/
def k5 : Class := { plain "byte" none with kind := .primitive 'B', accessFlags := 0x411 }
/-- [B -/
def k6 : Class := { plain "[B" (some 0) with kind := .array 5 .byte, interfaces := #[3, 4], accessFlags := 1041 }

/-- the primitive int -/
def k7 : Class := { plain "int" none with kind := .primitive 'I', accessFlags := 0x411 }
/-- [I -/
def k8 : Class := { plain "[I" (some 0) with kind := .array 7 .int, interfaces := #[3, 4], accessFlags := 1041 }

def heap : Heap := #[]
def classes : Array Class := #[k0, k1, k2, k3, k4, k5, k6, k7, k8]
def interned : List (Array UInt16 × Addr) := []
def slotsUsed : Nat := 0
def theMethod : MethodId := ⟨1, 2⟩
def args0 : Array Value := #[.int 1, .int 5]
def aboutOver (below : List Frame) : State where
  vm := { classes := classes, interned := interned.toArray }
  heap := heap
  slotsUsed := slotsUsed
  threads := #[{ frames := .invoking theMethod args0 :: below }]
def below0 : List Frame := [.native { method := ⟨0, 0⟩, args := #[] }]
def about1 : State := aboutOver below0
def p0 : Program := .bare "" "" ""
def e0 : Env := launch0.env 0 0 0
theorem w_frames : about1.frames = Frame.invoking theMethod args0 :: below0 := rfl
set_option maxRecDepth 65536 in
theorem w_args : argsFit about1.vm theMethod args0 = true := by decide +kernel
set_option maxRecDepth 65536 in
theorem w_heap : heapFits about1 = true := by decide +kernel
set_option maxRecDepth 65536 in
theorem w_runnable : about1.curStatus? = some .runnable := by decide +kernel
set_option maxRecDepth 65536 in
theorem w_alone : about1.alone = true := by decide +kernel
set_option maxRecDepth 65536 in
theorem w_named : about1.methodNamed? x = some theMethod := by decide +kernel
set_option maxRecDepth 65536 in
theorem w_hears : about1.hears theMethod below0 = true := by decide +kernel
set_option maxRecDepth 65536 in
theorem w_ripe : about1.ripe theMethod args0 below0 = true := by decide +kernel
theorem w_running : about1.status = .running := rfl
set_option maxRecDepth 65536 in
theorem w_room : about1.hasRoom e0.platform room_1 = true :=
  launch0.hasRoom_least _ room_1 (by decide +kernel) (by decide +kernel) (by decide +kernel) (by decide +kernel) (by decide +kernel) (by decide +kernel)
theorem allAtoms_all (ts : List Jvm.Cond) (a : Array Jvm.Value) (st : Jvm.State) : (allAtoms ts).before a st = ts.all (fun c => c.before a st) := by
  induction ts with
  | nil => rfl
  | cons c t ih =>
    show (Jvm.Cond.and c (allAtoms t)).before a st = _
    rw [Jvm.Cond.before_and, ih, List.all_cons]
def words1 : List Jvm.Cond := Jvm.Cond.code x code maxLocals ret :: tables_1
/-- a 'code' word, met by the world's own term for the bytes: nothing is compared byte by byte -/
theorem code_word {y : MethodName} {bytes : ByteArray} {mx : Nat} {rt : Option FieldType} {a : Array Value} {s : State} {m : MethodId} {meth : Method} {c : Code} (h1 : s.methodNamed? y = some m) (h2 : s.vm.method? m = some meth) (h3 : meth.code = some c) (h4 : c.code = bytes)
    (h5 : (c.maxLocals == mx && c.exceptionTable.isEmpty && decide (c.maxStack ≤ mostOperands) && decide (meth.sig.returnType = rt) && !meth.locks && decide (parseMethodDescriptor y.desc = some meth.sig)) = true) : (Jvm.Cond.code y bytes mx rt).before a s = true := by
  simp only [Bool.and_eq_true, beq_iff_eq, Bool.not_eq_true', decide_eq_true_eq] at h5
  obtain ⟨⟨⟨⟨⟨g1, g2⟩, g3⟩, g4⟩, g5⟩, g6⟩ := h5
  simp [Cond.before, Cond.holds, Cond.value, h1, h2, h3, h4, g1, g2, g3, g4, g5, g6]
def isCode : Jvm.Cond → Bool
  | .code _ _ _ _ => true
  | _ => false
theorem all_split {L : List Jvm.Cond} {P : Jvm.Cond → Bool} (h1 : L.all (fun c => isCode c || P c) = true) (h2 : ∀ c ∈ L.filter isCode, P c = true) : L.all P = true := by
  refine List.all_eq_true.mpr fun c hc => ?_
  have h := List.all_eq_true.mp h1 c hc
  rcases Bool.eq_false_or_eq_true (isCode c) with hi | hi
  · exact h2 c (List.mem_filter.mpr ⟨hc, hi⟩)
  · simpa [hi] using h
set_option maxRecDepth 65536 in
theorem w_c0 : (Jvm.Cond.code x code maxLocals ret).before args0 about1 = true := code_word (m := ⟨1, 2⟩) (meth := k1m2) (c := k1c2) (by decide +kernel) rfl rfl rfl (by decide +kernel)
set_option maxRecDepth 65536 in
theorem w_c1 : (Jvm.Cond.code ({ cls := "com/example/octet/octet/server/websocket/WebSocketCodes", name := "isSendable", desc := "(I)Z" } : Jvm.MethodName) prog_38_method_2_code (1 : Nat) (Option.some Jvm.ClassFile.FieldType.boolean)).before args0 about1 = true := code_word (m := ⟨2, 1⟩) (meth := k2m1) (c := k2c1) (by decide +kernel) rfl rfl rfl (by decide +kernel)
set_option maxRecDepth 65536 in
theorem w_c2 : (Jvm.Cond.code ({ cls := "com/example/octet/octet/server/websocket/WebSocketCodesIsSendablePinLaw", name := "ref", desc := "(I)Z" } : Jvm.MethodName) method_2_code (1 : Nat) (Option.some Jvm.ClassFile.FieldType.boolean)).before args0 about1 = true := code_word (m := ⟨1, 1⟩) (meth := k1m1) (c := k1c1) (by decide +kernel) rfl rfl rfl (by decide +kernel)
def codes1 : List Jvm.Cond := [Jvm.Cond.code x code maxLocals ret, Jvm.Cond.code ({ cls := "com/example/octet/octet/server/websocket/WebSocketCodes", name := "isSendable", desc := "(I)Z" } : Jvm.MethodName) prog_38_method_2_code (1 : Nat) (Option.some Jvm.ClassFile.FieldType.boolean), Jvm.Cond.code ({ cls := "com/example/octet/octet/server/websocket/WebSocketCodesIsSendablePinLaw", name := "ref", desc := "(I)Z" } : Jvm.MethodName) method_2_code (1 : Nat) (Option.some Jvm.ClassFile.FieldType.boolean)]
set_option maxRecDepth 65536 in
theorem codes_eq : words1.filter isCode = codes1 := rfl
theorem w_codes : ∀ c ∈ words1.filter isCode, c.before args0 about1 = true := by
  rw [codes_eq]
  intro c hc
  simp only [codes1, List.mem_cons, List.not_mem_nil, or_false] at hc
  rcases hc with rfl | rfl | rfl
  · exact w_c0
  · exact w_c1
  · exact w_c2
set_option maxRecDepth 65536 in
theorem w_t1 : words1.all (fun c => isCode c || c.before args0 about1) = true := by decide +kernel
theorem w_tables : (allAtoms (Jvm.Cond.code x code maxLocals ret :: tables_1)).before args0 about1 = true := by
  rw [allAtoms_all]
  show words1.all (fun c => c.before args0 about1) = true
  refine all_split ?_ w_codes
  rw [w_t1]
set_option maxRecDepth 65536 in
theorem w_case : (Jvm.Cond.and given_1 narrow_1).before args0 about1 = true := by decide +kernel
theorem w_applies : (headSpec (Jvm.Cond.code x code maxLocals ret :: tables_1) room_1).applies x e0.platform about1 = true :=
  (Spec.applies_iff w_frames).mpr ⟨w_running, w_runnable, w_alone, w_named, w_hears, w_ripe, w_room, w_tables⟩
theorem atStart : AtStart classFile x code maxLocals ret World_1 tables_1 room_1 Calls_1 rest_1 Pre_1 launch0 p0 e0 about1 theMethod args0 below0 :=
  ⟨lists_1, trivial, launch0.admits_env _ _ _, launch0.least_env, fairChoices_fair.cas, fairChoices_fair.clock, w_frames, w_args, w_heap, w_applies, trivial, trivial, w_case⟩
end start1
theorem witness_1 : WitnessClaimed_1 := ⟨start1.p0, start1.e0, start1.about1, start1.theMethod, start1.args0, start1.below0, start1.atStart⟩
end Jvm.Pilot.@@N@@
