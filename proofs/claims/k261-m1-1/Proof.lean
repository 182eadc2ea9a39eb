import JvmDerived
import JvmDerived.Pilot.@@N@@Statement
import JvmDerived.Pilot.@@N@@Code
set_option linter.unusedVariables false
set_option linter.unusedSimpArgs false
namespace Jvm.Pilot.@@N@@
open Jvm Jvm.ClassFile Sem Op Lib Jvm.Free Jvm.Stand Jvm.LawKit Jvm.RoadKit Bundle Jvm.Pilot.@@N@@.Jvm.D
section OwnKit
variable {p : Program} {l : Launch} {e : Env} {R : Room} {s : State} {m : MethodId} {args : Array Value} {below : List Frame} {meth : Method} {c : Code} {T : State} {cells slots : Nat} {P : State → Outcome → Prop}
variable {Z : State} {a0 : Array Value} {h h0 : Heap} {n0 : Nat} {own nm : String} {bytes : ByteArray} {maxL : Nat} {ret : Option FieldType}
variable {pc pc' : Nat} {Ls : Array Slot} {st : List Value}
/-- from the state U the run comes to an end that P allows -/
def own_Go (p : Program) (e : Env) (below : List Frame) (U : State) (P : State → Outcome → Prop) : Prop := ∃ a o, Steps p.tables e below U a ∧ P a o
theorem own_by {U U' : State} (q : ∀ t, Steps p.tables e below U' t → Steps p.tables e below U t) (G : own_Go p e below U' P) : own_Go p e below U P := by
  obtain ⟨a, o, h1, h2⟩ := G
  exact ⟨a, o, q a h1, h2⟩
/-- what stays the same in one body -/
def own_B (p : Program) (s : State) (m : MethodId) (meth : Method) (c : Code) (Z : State) (own nm : String) (bytes : ByteArray) (maxL : Nat) (ret : Option FieldType) : Prop :=
  p.tables.exec = Jvm.exec ∧ Z.Warmed39 s.vm ∧ c.maxLocals = maxL ∧ s.vm.findClass own = some m.cls ∧ meth.sig.returnType = ret ∧ meth.locks = false ∧ meth.name = nm ∧ c.code = bytes
/-- where the run stands: the state T, its heap h; nothing below n0 has been written -/
def own_S (p : Program) (l : Launch) (e : Env) (R : Room) (s : State) (m : MethodId) (args : Array Value) (below : List Frame) (meth : Method) (c : Code) (n0 : Nat) (T : State) (h : Heap) (cells slots : Nat) : Prop :=
  ∃ locs, Stand p l e R s m args below meth c T locs cells slots ∧ T.heap = h ∧ Fr n0 locs
/-- what a body owes at its end -/
def own_P (s : State) (below : List Frame) (n0 : Nat) (Q : Option Value → Heap → Prop) (k n : Nat) (a : State) (o : Outcome) : Prop :=
  a.status = .running ∧ Ended a below o ∧ ∃ v L, o = .returned v ∧ (Fr n0 L ∧ Q v a.heap) ∧ FrameEnd s o a L k n
theorem own_iload (B : own_B p s m meth c Z own nm bytes maxL ret) (X : own_S p l e R s m args below meth c n0 T h cells slots) {k : Nat} {v : Int32} (d : decode bytes pc = .ok (.iload k, 2)) (hp : pc + 2 = pc') (hl : Ls[k]? = some (.val (.int v)))
    (G : own_Go p e below (T.setTop (mkF m pc' Ls (.int v :: st))) P) : own_Go p e below (T.setTop (mkF m pc Ls (st))) P := by
  obtain ⟨locs, X, -, -⟩ := X
  subst hp
  exact own_by (fun _ => XS.iload X.here B.1 rfl (hb B.2.2.2.2.2.2.2 d) hl) G
theorem own_iloadN (B : own_B p s m meth c Z own nm bytes maxL ret) (X : own_S p l e R s m args below meth c n0 T h cells slots) {k : Fin 4} {v : Int32} (d : decode bytes pc = .ok (.iload_n k, 1)) (hp : pc + 1 = pc') (hl : Ls[k.val]? = some (.val (.int v)))
    (G : own_Go p e below (T.setTop (mkF m pc' Ls (.int v :: st))) P) : own_Go p e below (T.setTop (mkF m pc Ls (st))) P := by
  obtain ⟨locs, X, -, -⟩ := X
  subst hp
  exact own_by (fun _ => XS.iloadN X.here B.1 rfl (hb B.2.2.2.2.2.2.2 d) hl) G
theorem own_istore (B : own_B p s m meth c Z own nm bytes maxL ret) (X : own_S p l e R s m args below meth c n0 T h cells slots) {k : Nat} {v : Int32} {Ls' : Array Slot} (d : decode bytes pc = .ok (.istore k, 2)) (hp : pc + 2 = pc') (hl : storeLocals Ls k (.int v) = some Ls')
    (G : own_Go p e below (T.setTop (mkF m pc' Ls' st)) P) : own_Go p e below (T.setTop (mkF m pc Ls (.int v :: st))) P := by
  obtain ⟨locs, X, -, -⟩ := X
  subst hp
  exact own_by (fun _ => XS.istore X.here B.1 rfl (hb B.2.2.2.2.2.2.2 d) rfl hl) G
theorem own_istoreN (B : own_B p s m meth c Z own nm bytes maxL ret) (X : own_S p l e R s m args below meth c n0 T h cells slots) {k : Fin 4} {v : Int32} {Ls' : Array Slot} (d : decode bytes pc = .ok (.istore_n k, 1)) (hp : pc + 1 = pc') (hl : storeLocals Ls k.val (.int v) = some Ls')
    (G : own_Go p e below (T.setTop (mkF m pc' Ls' st)) P) : own_Go p e below (T.setTop (mkF m pc Ls (.int v :: st))) P := by
  obtain ⟨locs, X, -, -⟩ := X
  subst hp
  exact own_by (fun _ => XS.istoreN X.here B.1 rfl (hb B.2.2.2.2.2.2.2 d) rfl hl) G
theorem own_iconst (B : own_B p s m meth c Z own nm bytes maxL ret) (X : own_S p l e R s m args below meth c n0 T h cells slots) {i : Int} {z : Int32} (d : decode bytes pc = .ok (.iconst i, 1)) (hp : pc + 1 = pc') (hz : Int32.ofInt i = z)
    (G : own_Go p e below (T.setTop (mkF m pc' Ls (.int z :: st))) P) : own_Go p e below (T.setTop (mkF m pc Ls (st))) P := by
  obtain ⟨locs, X, -, -⟩ := X
  subst hp
  subst hz
  exact own_by (fun _ => XS.iconst X.here B.1 rfl (hb B.2.2.2.2.2.2.2 d)) G
theorem own_bipush (B : own_B p s m meth c Z own nm bytes maxL ret) (X : own_S p l e R s m args below meth c n0 T h cells slots) {i : Int} {z : Int32} (d : decode bytes pc = .ok (.bipush i, 2)) (hp : pc + 2 = pc') (hz : (Int8.ofInt i).toInt32 = z)
    (G : own_Go p e below (T.setTop (mkF m pc' Ls (.int z :: st))) P) : own_Go p e below (T.setTop (mkF m pc Ls (st))) P := by
  obtain ⟨locs, X, -, -⟩ := X
  subst hp
  subst hz
  exact own_by (fun _ => XS.bipush X.here B.1 rfl (hb B.2.2.2.2.2.2.2 d)) G
theorem own_isub (B : own_B p s m meth c Z own nm bytes maxL ret) (X : own_S p l e R s m args below meth c n0 T h cells slots) {x y z : Int32} (d : decode bytes pc = .ok (.isub, 1)) (hp : pc + 1 = pc') (hz : x - y = z)
    (G : own_Go p e below (T.setTop (mkF m pc' Ls (.int z :: st))) P) : own_Go p e below (T.setTop (mkF m pc Ls (.int y :: .int x :: st))) P := by
  obtain ⟨locs, X, -, -⟩ := X
  subst hp
  subst hz
  exact own_by (fun _ => XS.isub X.here B.1 rfl (hb B.2.2.2.2.2.2.2 d) rfl) G
theorem own_ior (B : own_B p s m meth c Z own nm bytes maxL ret) (X : own_S p l e R s m args below meth c n0 T h cells slots) {x y z : Int32} (d : decode bytes pc = .ok (.ior, 1)) (hp : pc + 1 = pc') (hz : x ||| y = z)
    (G : own_Go p e below (T.setTop (mkF m pc' Ls (.int z :: st))) P) : own_Go p e below (T.setTop (mkF m pc Ls (.int y :: .int x :: st))) P := by
  obtain ⟨locs, X, -, -⟩ := X
  subst hp
  subst hz
  exact own_by (fun _ => XS.ior X.here B.1 rfl (hb B.2.2.2.2.2.2.2 d) rfl) G
theorem own_i2c (B : own_B p s m meth c Z own nm bytes maxL ret) (X : own_S p l e R s m args below meth c n0 T h cells slots) {x : Int32} {z : Int32} (d : decode bytes pc = .ok (.i2c, 1)) (hp : pc + 1 = pc') (hz : x.toUInt32.toUInt16.toUInt32.toInt32 = z)
    (G : own_Go p e below (T.setTop (mkF m pc' Ls (.int z :: st))) P) : own_Go p e below (T.setTop (mkF m pc Ls (.int x :: st))) P := by
  obtain ⟨locs, X, -, -⟩ := X
  subst hp
  subst hz
  exact own_by (fun _ => XS.i2c X.here B.1 rfl (hb B.2.2.2.2.2.2.2 d) rfl) G
theorem own_goto (B : own_B p s m meth c Z own nm bytes maxL ret) (X : own_S p l e R s m args below meth c n0 T h cells slots) {o : Int} (d : decode bytes pc = .ok (.goto o, 3)) (ho : 0 ≤ (pc : Int) + o) (hp : ((pc : Int) + o).toNat = pc')
    (G : own_Go p e below (T.setTop (mkF m pc' Ls st)) P) : own_Go p e below (T.setTop (mkF m pc Ls st)) P := by
  obtain ⟨locs, X, -, -⟩ := X
  exact own_by (fun _ => XS.goto X.here B.1 rfl (pc0 := pc) rfl (hb B.2.2.2.2.2.2.2 d) ho hp) G
theorem own_ifYes (B : own_B p s m meth c Z own nm bytes maxL ret) (X : own_S p l e R s m args below meth c n0 T h cells slots) {cd : ClassFile.Cond} {o : Int} {x : Int32} (d : decode bytes pc = .ok (.ifCond cd o, 3)) (hc : ifCond.holds cd x = true) (ho : 0 ≤ (pc : Int) + o) (hp : ((pc : Int) + o).toNat = pc')
    (G : own_Go p e below (T.setTop (mkF m pc' Ls st)) P) : own_Go p e below (T.setTop (mkF m pc Ls (.int x :: st))) P := by
  obtain ⟨locs, X, -, -⟩ := X
  exact own_by (fun _ => XS.ifYes X.here B.1 rfl (pc0 := pc) rfl (hb B.2.2.2.2.2.2.2 d) rfl hc ho hp) G
theorem own_ifNo (B : own_B p s m meth c Z own nm bytes maxL ret) (X : own_S p l e R s m args below meth c n0 T h cells slots) {cd : ClassFile.Cond} {o : Int} {x : Int32} (d : decode bytes pc = .ok (.ifCond cd o, 3)) (hc : ifCond.holds cd x = false) (hp : pc + 3 = pc')
    (G : own_Go p e below (T.setTop (mkF m pc' Ls st)) P) : own_Go p e below (T.setTop (mkF m pc Ls (.int x :: st))) P := by
  obtain ⟨locs, X, -, -⟩ := X
  subst hp
  exact own_by (fun _ => XS.ifNo X.here B.1 rfl (hb B.2.2.2.2.2.2.2 d) rfl hc) G
theorem own_icmpYes (B : own_B p s m meth c Z own nm bytes maxL ret) (X : own_S p l e R s m args below meth c n0 T h cells slots) {cd : ClassFile.Cond} {o : Int} {x y : Int32} (d : decode bytes pc = .ok (.if_icmp cd o, 3)) (hc : if_icmp.holds cd x y = true) (ho : 0 ≤ (pc : Int) + o) (hp : ((pc : Int) + o).toNat = pc')
    (G : own_Go p e below (T.setTop (mkF m pc' Ls st)) P) : own_Go p e below (T.setTop (mkF m pc Ls (.int y :: .int x :: st))) P := by
  obtain ⟨locs, X, -, -⟩ := X
  exact own_by (fun _ => XS.icmpYes X.here B.1 rfl (pc0 := pc) rfl (hb B.2.2.2.2.2.2.2 d) rfl hc ho hp) G
theorem own_icmpNo (B : own_B p s m meth c Z own nm bytes maxL ret) (X : own_S p l e R s m args below meth c n0 T h cells slots) {cd : ClassFile.Cond} {o : Int} {x y : Int32} (d : decode bytes pc = .ok (.if_icmp cd o, 3)) (hc : if_icmp.holds cd x y = false) (hp : pc + 3 = pc')
    (G : own_Go p e below (T.setTop (mkF m pc' Ls st)) P) : own_Go p e below (T.setTop (mkF m pc Ls (.int y :: .int x :: st))) P := by
  obtain ⟨locs, X, -, -⟩ := X
  subst hp
  exact own_by (fun _ => XS.icmpNo X.here B.1 rfl (hb B.2.2.2.2.2.2.2 d) rfl hc) G
theorem own_retN {t : FieldType} (B : own_B p s m meth c Z own nm bytes maxL (some t)) (X : own_S p l e R s m args below meth c n0 T h cells slots) {Q : Option Value → Heap → Prop} {k n : Nat} {z z' : Int32} (ht : t = .boolean ∨ t = .byte ∨ t = .char ∨ t = .short) (hz : nar t z = z') (d : decode bytes pc = .ok (.ireturn, 1)) (hk : cells ≤ k) (hn : slots ≤ n) (hq : Q (some (.int z')) h) : own_Go p e below (T.setTop (mkF m pc Ls (.int z :: st))) (own_P s below n0 Q k n) := by
  subst hz
  obtain ⟨locs, X, eT, N0⟩ := X
  obtain ⟨fs, hr, hrun, hended, hW, hsame⟩ := X.leave (v := (some (.int (nar t z)))) (fun h => by rw [B.2.2.2.2.1] at h; cases h) B.2.2.2.2.2.1
  exact ⟨_, _, retN X B.1 B.2.2.2.2.1 ht (hb B.2.2.2.2.2.2.2 d) hr, hrun, hended, _, _, rfl, ⟨N0, by show Q _ T.heap; rw [eT]; exact hq⟩, ⟨_, rfl⟩, hW, hsame.mono hk hn⟩
theorem own_enter {y : MethodName} {rm : Room} {ws : List Jvm.Cond} {as' : Array Value} {Q : Option Value → Heap → Prop} {F : MethodId → JFrame} (hpl : plainFor y = true) (hF : ∀ m, entryFrame m as' maxL = F m)
    (body : ∀ p e s m below meth c s₁, own_B p s m meth c Z y.cls y.name bytes maxL ret → own_S p l e rm s m as' below meth c n0 s₁ h0 0 0 → own_Go p e below (s₁.setTop (F m)) (own_P s below n0 Q rm.cells rm.slots)) :
    MetFree l y (head1 (Jvm.Cond.code y bytes maxL ret :: ws) rm) (fun a U => a = as' ∧ Z.Warmed39 U.vm ∧ U.heap = h0) (fun _ _ _ _ _ => True) (fun _ U o U' => ∃ v L, o = .returned v ∧ (Fr n0 L ∧ Q v U'.heap) ∧ FrameEnd U o U' L rm.cells rm.slots) := by
  refine MetFree.of_bodySF hpl hisR ?_
  intro p e s m args below meth c s₁ Bd hml0 hP hK
  obtain ⟨rfl, hZ, hh⟩ := hP
  have e0 : s₁.heap = h0 := by rw [← hh, Bd.state]; rfl
  have nm := (name_of_methodNamed Bd.named Bd.method).1
  obtain ⟨a, o, h1, h2⟩ := body p e s m below meth c s₁ ⟨Bd.exec, hZ, hml0, findClass_of_methodNamed Bd.named, Bd.returns, Bd.notSynchronized, nm, Bd.bytes⟩ ⟨[], Stand.of_body Bd, e0, Fr.nil n0⟩
  exact ⟨a, o, castTop (hF m) h1, h2⟩
theorem own_callS (B : own_B p s m meth c Z own nm bytes maxL ret) (X : own_S p l e R s m args below meth c n0 T h cells slots) {i : Nat} {y : MethodName} {yb : ByteArray} {yl : Nat} {yr : Option FieldType} (w1 : (Cond.methodLink own i y).before a0 Z = true) (w2 : (Cond.static y).before a0 Z = true) (w3 : (Cond.initialized y.cls).before a0 Z = true) (w4 : (Cond.code y yb yl yr).before a0 Z = true) (hy : y.cls ≠ "java/lang/invoke/MethodHandle" ∧ y.cls ≠ "java/lang/invoke/VarHandle") {rm : Room} {Q : Option Value → Heap → Prop} (argsL rest : List Value)
    (hM : MetFree l y (head1 [Jvm.Cond.code y yb yl yr] rm) (fun b U => b = argsL.toArray ∧ Z.Warmed39 U.vm ∧ U.heap = h) (fun _ _ _ _ _ => True) (fun _ U o U' => ∃ v L, o = .returned v ∧ (Fr n0 L ∧ Q v U'.heap) ∧ FrameEnd U o U' L rm.cells rm.slots))
    (W : Nat) (hf : rm.frames + 1 ≤ R.frames) (hl : W + (yl + 11) + rm.locals ≤ R.locals) (hsz : Ls.size = maxL) {ps : List FieldType} {rt : Option FieldType} (hpd : parseMethodDescriptor y.desc = some ⟨ps, rt⟩) (hln : argsL.length = ps.length) (hst : st = argsL.reverse ++ rest) (hW : (rest.map fun v => v.category).sum ≤ W) (d : decode bytes pc = .ok (.invokestatic i, 3)) (hp : pc + 3 = pc') {k' n' : Nat} (hk : cells + rm.cells = k') (hn : slots + rm.slots = n') (hkR : k' ≤ R.cells) (hnR : n' ≤ R.slots)
    (G : ∀ T' v h', own_S p l e R s m args below meth c n0 T' h' k' n' → Q v h' → own_Go p e below (T'.setTop (mkF m pc' Ls (v.toList ++ rest))) P) : own_Go p e below (T.setTop (mkF m pc Ls st)) P := by
  obtain ⟨locs, X, eT, N0⟩ := X
  subst hp hk hn
  have bk := backOf (p := p) (e := e) (below := below) (args := args) (len := 3) (W := W) (Q := fun v h' L => Fr n0 L ∧ Q v h') hM B.2.1 w4 w3 hf hl
  obtain ⟨v, vm₁, ⟨T', L', k1, n1⟩, hW1, X', ⟨Lc, hQ, l1, y1, z1⟩, stp⟩ := Jvm.LawKit.callS X B.1 (y := y) B.2.2.2.1 (mvT B.2.1 w1) (mvT B.2.1 w2) (mvT B.2.1 w3) (mvT B.2.1 w4) hy bk (g := mkF m pc Ls st) rfl (by rw [B.2.2.1]; exact hsz) (argsL := argsL) (rest := rest) (lenOf hpd hln) hst (by show 2 * 0 + _ ≤ _; omega) (hb B.2.2.2.2.2.2.2 d) (fun _ _ => ⟨rfl, eT, hkR, hnR⟩)
  dsimp only [Pt.U, Pt.locs, Pt.cells, Pt.slots] at X' l1 y1 z1 stp hQ
  subst l1 y1 z1
  exact own_by stp (G T' v _ ⟨_, X', rfl, N0.app hQ.1⟩ hQ.2)
end OwnKit
section OwnNum
theorem own_w {a0 : Array Value} {Z : State} (hw : ∀ d ∈ tables_1, d.before a0 Z = true) (i : Nat) {d : Jvm.Cond} (hd : tables_1[i]? = some d) : d.before a0 Z = true := hw _ (List.mem_of_getElem? hd)
theorem own_lt {x y : Int32} (h : x < y) : x.toInt < y.toInt := Int32.lt_iff_toInt_lt.mp h
theorem own_nlt {x y : Int32} (h : ¬ x < y) : ¬ x.toInt < y.toInt := fun q => h (Int32.lt_iff_toInt_lt.mpr q)
theorem own_ltI {x y : Int32} (h : x.toInt < y.toInt) : x < y := Int32.lt_iff_toInt_lt.mpr h
theorem own_nltI {x y : Int32} (h : ¬ x.toInt < y.toInt) : ¬ x < y := fun q => h (Int32.lt_iff_toInt_lt.mp q)
theorem own_o_isub {x y z : Int32} (h : x - y = z) : (z.toInt - (x.toInt - y.toInt)) % 4294967296 = 0 := h ▸ c_isub x y
theorem own_o_i2c {x z : Int32} (h : x.toUInt32.toUInt16.toUInt32.toInt32 = z) : (z.toInt - x.toInt) % 65536 = 0 ∧ 0 ≤ z.toInt ∧ z.toInt < 65536 := h ▸ c_i2c x
theorem own_nat (x : Int32) : (x.toInt - (x.toBitVec.toNat : Int)) % 4294967296 = 0 := by
  rw [Int32.toInt, BitVec.toInt_eq_toNat_bmod]
  have := Int.bmod_emod (x := (x.toBitVec.toNat : Int)) (m := 2 ^ 32)
  omega
theorem own_natr (x : Int32) : (x.toBitVec.toNat : Int) < 4294967296 := by have := x.toBitVec.isLt; omega
theorem own_or32n (n : Nat) : n ||| 32 = n + 32 * (1 - n / 32 % 2) := by
  have hr : ∀ r : Fin 64, r.1 ||| 32 = r.1 + 32 * (1 - r.1 / 32 % 2) ∧ r.1 ||| 32 < 64 := by decide
  have h := hr ⟨n % 64, Nat.mod_lt _ (by decide)⟩
  have e : n = (n / 64) <<< 6 ||| n % 64 := by
    rw [← Nat.shiftLeft_add_eq_or_of_lt (by omega), Nat.shiftLeft_eq]; omega
  have e2 : n ||| 32 = (n / 64) <<< 6 + (n % 64 ||| 32) := by
    rw [Nat.shiftLeft_add_eq_or_of_lt (by exact h.2), ← Nat.or_assoc, ← e]
  simp only at h
  rw [e2, h.1, Nat.shiftLeft_eq]; clear e e2 hr; omega
theorem own_or32 (x : Int32) (hx : 0 ≤ x.toInt) : (x ||| (32 : Int32)).toInt = x.toInt + 32 * (1 - x.toInt / 32 % 2) := by
  have h1 := own_nat x
  have h2 := own_natr x
  have h3 := own_nat (x ||| 32)
  have h4 := own_natr (x ||| 32)
  have e : (x ||| (32 : Int32)).toBitVec.toNat = x.toBitVec.toNat ||| 32 := by simp
  rw [e, own_or32n] at h3 h4
  have := x.toInt_lt
  have := (x ||| 32).toInt_lt
  have := (x ||| 32).le_toInt
  omega
theorem own_o_or32 {x z : Int32} (h : x ||| (32 : Int32) = z) : 0 ≤ x.toInt → z.toInt = x.toInt + 32 * (1 - x.toInt / 32 % 2) := h ▸ own_or32 x
end OwnNum

theorem d1_0 : decode prog_1_method_2_code 0 = .ok (.iload_n 0, 1) := by decide +kernel
theorem d1_1 : decode prog_1_method_2_code 1 = .ok (.bipush 97, 2) := by decide +kernel
theorem d1_3 : decode prog_1_method_2_code 3 = .ok (.if_icmp .lt 9, 3) := by decide +kernel
theorem d1_12 : decode prog_1_method_2_code 12 = .ok (.iload_n 0, 1) := by decide +kernel
theorem d1_13 : decode prog_1_method_2_code 13 = .ok (.bipush 65, 2) := by decide +kernel
theorem d1_15 : decode prog_1_method_2_code 15 = .ok (.if_icmp .lt 9, 3) := by decide +kernel
theorem d1_24 : decode prog_1_method_2_code 24 = .ok (.iload_n 0, 1) := by decide +kernel
theorem d1_25 : decode prog_1_method_2_code 25 = .ok (.bipush 48, 2) := by decide +kernel
theorem d1_27 : decode prog_1_method_2_code 27 = .ok (.if_icmp .lt 13, 3) := by decide +kernel
theorem d1_40 : decode prog_1_method_2_code 40 = .ok (.iconst 0, 1) := by decide +kernel
theorem d1_41 : decode prog_1_method_2_code 41 = .ok (.ireturn, 1) := by decide +kernel
theorem d1_30 : decode prog_1_method_2_code 30 = .ok (.iload_n 0, 1) := by decide +kernel
theorem d1_31 : decode prog_1_method_2_code 31 = .ok (.bipush 57, 2) := by decide +kernel
theorem d1_33 : decode prog_1_method_2_code 33 = .ok (.if_icmp .gt 7, 3) := by decide +kernel
theorem d1_36 : decode prog_1_method_2_code 36 = .ok (.iconst 1, 1) := by decide +kernel
theorem d1_37 : decode prog_1_method_2_code 37 = .ok (.goto 4, 3) := by decide +kernel
theorem d1_18 : decode prog_1_method_2_code 18 = .ok (.iload_n 0, 1) := by decide +kernel
theorem d1_19 : decode prog_1_method_2_code 19 = .ok (.bipush 90, 2) := by decide +kernel
theorem d1_21 : decode prog_1_method_2_code 21 = .ok (.if_icmp .le 15, 3) := by decide +kernel
theorem d1_6 : decode prog_1_method_2_code 6 = .ok (.iload_n 0, 1) := by decide +kernel
theorem d1_7 : decode prog_1_method_2_code 7 = .ok (.bipush 122, 2) := by decide +kernel
theorem d1_9 : decode prog_1_method_2_code 9 = .ok (.if_icmp .le 27, 3) := by decide +kernel
theorem pn_0 : plainName "com/example/lean_route/leanroute/Ascii" = true := by first | (simp [plainName, overriddenIn]; done) | decide +kernel
theorem pd_0 : parseMethodDescriptor "(C)Z" = some ⟨[.char], some .boolean⟩ := by decide +kernel
theorem pn_1 : plainName "com/example/lean_route/leanroute/AsciiIsLetterOrDigitPinLaw" = true := by first | (simp [plainName, overriddenIn]; done) | decide +kernel
def Q_1 (Z : State) (p0 : Int32) (h0 : Heap) (n0 : Nat) (v : Option Value) (h : Heap) : Prop :=
  (p0 < (97 : Int32) ∧ p0 < (65 : Int32) ∧ p0 < (48 : Int32) ∧ v = some (.int (0 : Int32)) ∧ h0 = h) ∨
  (p0 < (97 : Int32) ∧ p0 < (65 : Int32) ∧ ¬ (p0 < (48 : Int32)) ∧ (57 : Int32) < p0 ∧ v = some (.int (0 : Int32)) ∧ h0 = h) ∨
  (p0 < (97 : Int32) ∧ p0 < (65 : Int32) ∧ ¬ (p0 < (48 : Int32)) ∧ ¬ ((57 : Int32) < p0) ∧ v = some (.int (1 : Int32)) ∧ h0 = h) ∨
  (p0 < (97 : Int32) ∧ ¬ (p0 < (65 : Int32)) ∧ (90 : Int32) < p0 ∧ ¬ (p0 < (48 : Int32)) ∧ (57 : Int32) < p0 ∧ v = some (.int (0 : Int32)) ∧ h0 = h) ∨
  (p0 < (97 : Int32) ∧ ¬ (p0 < (65 : Int32)) ∧ ¬ ((90 : Int32) < p0) ∧ v = some (.int (1 : Int32)) ∧ h0 = h) ∨
  (¬ (p0 < (97 : Int32)) ∧ (122 : Int32) < p0 ∧ ¬ (p0 < (65 : Int32)) ∧ (90 : Int32) < p0 ∧ ¬ (p0 < (48 : Int32)) ∧ (57 : Int32) < p0 ∧ v = some (.int (0 : Int32)) ∧ h0 = h) ∨
  (¬ (p0 < (97 : Int32)) ∧ ¬ ((122 : Int32) < p0) ∧ v = some (.int (1 : Int32)) ∧ h0 = h)
set_option maxRecDepth 65536 in
set_option maxHeartbeats 40000000 in
theorem rm_1 (l : Launch) (Z : State) (a0 : Array Value) (hw : ∀ d ∈ tables_1, d.before a0 Z = true) (ws : List Jvm.Cond) (p0 : Int32) (h0 : Heap) (n0 : Nat) (Z0 : n0 ≤ h0.size)  :
    MetFree l (⟨"com/example/lean_route/leanroute/Ascii", "isLetterOrDigit", "(C)Z"⟩ : MethodName) (head1 (Jvm.Cond.code (⟨"com/example/lean_route/leanroute/Ascii", "isLetterOrDigit", "(C)Z"⟩ : MethodName) prog_1_method_2_code 1 (some .boolean) :: ws) ({ frames := 0, cells := 0, slots := 0, locals := 0 } : Room)) (fun a U => a = #[(.int p0)] ∧ Z.Warmed39 U.vm ∧ U.heap = h0) (fun _ _ _ _ _ => True) (fun _ U o U' => ∃ v L, o = .returned v ∧ (Fr n0 L ∧ Q_1 Z p0 h0 n0 v U'.heap) ∧ FrameEnd U o U' L ({ frames := 0, cells := 0, slots := 0, locals := 0 } : Room).cells ({ frames := 0, cells := 0, slots := 0, locals := 0 } : Room).slots) := by
  refine own_enter (Q := Q_1 Z p0 h0 n0) (F := fun m => mkF m 0 #[.val (.int p0)] []) (plainFor_of_name pn_0) (fun m => by first | (simp [entryFrame, mkF, argsToLocals, Value.category]; done) | rfl) ?_
  intro p e s m below meth c s₁ B X0
  have K : Keep h0 h0 [] := Keep.refl h0 _
  refine own_iloadN (pc' := 1) B X0 d1_0 rfl rfl ?_
  refine own_bipush (pc' := 3) B X0 (z := (97 : Int32)) d1_1 rfl (by decide) ?_
  by_cases c1 : p0 < (97 : Int32)
  · refine own_icmpYes (pc' := 12) B X0 d1_3 (tlt c1).1 (by decide) rfl ?_
    refine own_iloadN (pc' := 13) B X0 d1_12 rfl rfl ?_
    refine own_bipush (pc' := 15) B X0 (z := (65 : Int32)) d1_13 rfl (by decide) ?_
    by_cases c2 : p0 < (65 : Int32)
    · refine own_icmpYes (pc' := 24) B X0 d1_15 (tlt c2).1 (by decide) rfl ?_
      refine own_iloadN (pc' := 25) B X0 d1_24 rfl rfl ?_
      refine own_bipush (pc' := 27) B X0 (z := (48 : Int32)) d1_25 rfl (by decide) ?_
      by_cases c3 : p0 < (48 : Int32)
      · refine own_icmpYes (pc' := 40) B X0 d1_27 (tlt c3).1 (by decide) rfl ?_
        refine own_iconst (pc' := 41) B X0 (z := (0 : Int32)) d1_40 rfl rfl ?_
        exact own_retN B X0 (t := .boolean) (z' := (0 : Int32)) (by simp) (by decide) d1_41 (by decide) (by decide) (Or.inl ⟨c1, c2, c3, rfl, rfl⟩)
      · refine own_icmpNo (pc' := 30) B X0 d1_27 (flt c3).1 rfl ?_
        refine own_iloadN (pc' := 31) B X0 d1_30 rfl rfl ?_
        refine own_bipush (pc' := 33) B X0 (z := (57 : Int32)) d1_31 rfl (by decide) ?_
        by_cases c4 : (57 : Int32) < p0
        · refine own_icmpYes (pc' := 40) B X0 d1_33 (tlt c4).2.2.1 (by decide) rfl ?_
          refine own_iconst (pc' := 41) B X0 (z := (0 : Int32)) d1_40 rfl rfl ?_
          exact own_retN B X0 (t := .boolean) (z' := (0 : Int32)) (by simp) (by decide) d1_41 (by decide) (by decide) (Or.inr (Or.inl ⟨c1, c2, c3, c4, rfl, rfl⟩))
        · refine own_icmpNo (pc' := 36) B X0 d1_33 (flt c4).2.2.1 rfl ?_
          refine own_iconst (pc' := 37) B X0 (z := (1 : Int32)) d1_36 rfl rfl ?_
          refine own_goto (pc' := 41) B X0 d1_37 (by decide) rfl ?_
          exact own_retN B X0 (t := .boolean) (z' := (1 : Int32)) (by simp) (by decide) d1_41 (by decide) (by decide) (Or.inr (Or.inr (Or.inl ⟨c1, c2, c3, c4, rfl, rfl⟩)))
    · refine own_icmpNo (pc' := 18) B X0 d1_15 (flt c2).1 rfl ?_
      refine own_iloadN (pc' := 19) B X0 d1_18 rfl rfl ?_
      refine own_bipush (pc' := 21) B X0 (z := (90 : Int32)) d1_19 rfl (by decide) ?_
      by_cases c5 : (90 : Int32) < p0
      · refine own_icmpNo (pc' := 24) B X0 d1_21 (tlt c5).2.2.2 rfl ?_
        refine own_iloadN (pc' := 25) B X0 d1_24 rfl rfl ?_
        refine own_bipush (pc' := 27) B X0 (z := (48 : Int32)) d1_25 rfl (by decide) ?_
        have c6 : ¬ (p0 < (48 : Int32)) := by
          have o0 := own_lt c1
          have o1 := own_nlt c2
          have o2 := own_lt c5
          have o3 := rng32 p0
          have o4 : (97 : Int32).toInt = 97 := by decide
          have o5 : (65 : Int32).toInt = 65 := by decide
          have o6 : (90 : Int32).toInt = 90 := by decide
          have o7 : (48 : Int32).toInt = 48 := by decide
          refine own_nltI ?_
          omega
        refine own_icmpNo (pc' := 30) B X0 d1_27 (flt c6).1 rfl ?_
        refine own_iloadN (pc' := 31) B X0 d1_30 rfl rfl ?_
        refine own_bipush (pc' := 33) B X0 (z := (57 : Int32)) d1_31 rfl (by decide) ?_
        have c7 : (57 : Int32) < p0 := by
          have o0 := own_lt c1
          have o1 := own_nlt c2
          have o2 := own_lt c5
          have o3 := own_nlt c6
          have o4 := rng32 p0
          have o5 : (97 : Int32).toInt = 97 := by decide
          have o6 : (65 : Int32).toInt = 65 := by decide
          have o7 : (90 : Int32).toInt = 90 := by decide
          have o8 : (48 : Int32).toInt = 48 := by decide
          have o9 : (57 : Int32).toInt = 57 := by decide
          refine own_ltI ?_
          omega
        refine own_icmpYes (pc' := 40) B X0 d1_33 (tlt c7).2.2.1 (by decide) rfl ?_
        refine own_iconst (pc' := 41) B X0 (z := (0 : Int32)) d1_40 rfl rfl ?_
        exact own_retN B X0 (t := .boolean) (z' := (0 : Int32)) (by simp) (by decide) d1_41 (by decide) (by decide) (Or.inr (Or.inr (Or.inr (Or.inl ⟨c1, c2, c5, c6, c7, rfl, rfl⟩))))
      · refine own_icmpYes (pc' := 36) B X0 d1_21 (flt c5).2.2.2 (by decide) rfl ?_
        refine own_iconst (pc' := 37) B X0 (z := (1 : Int32)) d1_36 rfl rfl ?_
        refine own_goto (pc' := 41) B X0 d1_37 (by decide) rfl ?_
        exact own_retN B X0 (t := .boolean) (z' := (1 : Int32)) (by simp) (by decide) d1_41 (by decide) (by decide) (Or.inr (Or.inr (Or.inr (Or.inr (Or.inl ⟨c1, c2, c5, rfl, rfl⟩)))))
  · refine own_icmpNo (pc' := 6) B X0 d1_3 (flt c1).1 rfl ?_
    refine own_iloadN (pc' := 7) B X0 d1_6 rfl rfl ?_
    refine own_bipush (pc' := 9) B X0 (z := (122 : Int32)) d1_7 rfl (by decide) ?_
    by_cases c8 : (122 : Int32) < p0
    · refine own_icmpNo (pc' := 12) B X0 d1_9 (tlt c8).2.2.2 rfl ?_
      refine own_iloadN (pc' := 13) B X0 d1_12 rfl rfl ?_
      refine own_bipush (pc' := 15) B X0 (z := (65 : Int32)) d1_13 rfl (by decide) ?_
      have c9 : ¬ (p0 < (65 : Int32)) := by
        have o0 := own_nlt c1
        have o1 := own_lt c8
        have o2 := rng32 p0
        have o3 : (97 : Int32).toInt = 97 := by decide
        have o4 : (122 : Int32).toInt = 122 := by decide
        have o5 : (65 : Int32).toInt = 65 := by decide
        refine own_nltI ?_
        omega
      refine own_icmpNo (pc' := 18) B X0 d1_15 (flt c9).1 rfl ?_
      refine own_iloadN (pc' := 19) B X0 d1_18 rfl rfl ?_
      refine own_bipush (pc' := 21) B X0 (z := (90 : Int32)) d1_19 rfl (by decide) ?_
      have c10 : (90 : Int32) < p0 := by
        have o0 := own_nlt c1
        have o1 := own_lt c8
        have o2 := own_nlt c9
        have o3 := rng32 p0
        have o4 : (97 : Int32).toInt = 97 := by decide
        have o5 : (122 : Int32).toInt = 122 := by decide
        have o6 : (65 : Int32).toInt = 65 := by decide
        have o7 : (90 : Int32).toInt = 90 := by decide
        refine own_ltI ?_
        omega
      refine own_icmpNo (pc' := 24) B X0 d1_21 (tlt c10).2.2.2 rfl ?_
      refine own_iloadN (pc' := 25) B X0 d1_24 rfl rfl ?_
      refine own_bipush (pc' := 27) B X0 (z := (48 : Int32)) d1_25 rfl (by decide) ?_
      have c11 : ¬ (p0 < (48 : Int32)) := by
        have o0 := own_nlt c1
        have o1 := own_lt c8
        have o2 := own_nlt c9
        have o3 := own_lt c10
        have o4 := rng32 p0
        have o5 : (97 : Int32).toInt = 97 := by decide
        have o6 : (122 : Int32).toInt = 122 := by decide
        have o7 : (65 : Int32).toInt = 65 := by decide
        have o8 : (90 : Int32).toInt = 90 := by decide
        have o9 : (48 : Int32).toInt = 48 := by decide
        refine own_nltI ?_
        omega
      refine own_icmpNo (pc' := 30) B X0 d1_27 (flt c11).1 rfl ?_
      refine own_iloadN (pc' := 31) B X0 d1_30 rfl rfl ?_
      refine own_bipush (pc' := 33) B X0 (z := (57 : Int32)) d1_31 rfl (by decide) ?_
      have c12 : (57 : Int32) < p0 := by
        have o0 := own_nlt c1
        have o1 := own_lt c8
        have o2 := own_nlt c9
        have o3 := own_lt c10
        have o4 := own_nlt c11
        have o5 := rng32 p0
        have o6 : (97 : Int32).toInt = 97 := by decide
        have o7 : (122 : Int32).toInt = 122 := by decide
        have o8 : (65 : Int32).toInt = 65 := by decide
        have o9 : (90 : Int32).toInt = 90 := by decide
        have o10 : (48 : Int32).toInt = 48 := by decide
        have o11 : (57 : Int32).toInt = 57 := by decide
        refine own_ltI ?_
        omega
      refine own_icmpYes (pc' := 40) B X0 d1_33 (tlt c12).2.2.1 (by decide) rfl ?_
      refine own_iconst (pc' := 41) B X0 (z := (0 : Int32)) d1_40 rfl rfl ?_
      exact own_retN B X0 (t := .boolean) (z' := (0 : Int32)) (by simp) (by decide) d1_41 (by decide) (by decide) (Or.inr (Or.inr (Or.inr (Or.inr (Or.inr (Or.inl ⟨c1, c8, c9, c10, c11, c12, rfl, rfl⟩))))))
    · refine own_icmpYes (pc' := 36) B X0 d1_9 (flt c8).2.2.2 (by decide) rfl ?_
      refine own_iconst (pc' := 37) B X0 (z := (1 : Int32)) d1_36 rfl rfl ?_
      refine own_goto (pc' := 41) B X0 d1_37 (by decide) rfl ?_
      exact own_retN B X0 (t := .boolean) (z' := (1 : Int32)) (by simp) (by decide) d1_41 (by decide) (by decide) (Or.inr (Or.inr (Or.inr (Or.inr (Or.inr (Or.inr (⟨c1, c8, rfl, rfl⟩)))))))
def Q_0 (Z : State) (i0 : Int32) (h0 : Heap) (n0 : Nat) (v : Option Value) (h : Heap) : Prop :=
  (v = some (.int (1 : Int32)))
set_option maxRecDepth 65536 in
set_option maxHeartbeats 40000000 in
theorem rm_0 (l : Launch) (Z : State) (a0 : Array Value) (hw : ∀ d ∈ tables_1, d.before a0 Z = true) (ws : List Jvm.Cond) (i0 : Int32) (h0 : Heap) (n0 : Nat) (Z0 : n0 ≤ h0.size)  :
    MetFree l x (head1 (Jvm.Cond.code x code maxLocals ret :: ws) room_1) (fun a U => a = #[(.int i0)] ∧ Z.Warmed39 U.vm ∧ U.heap = h0) (fun _ _ _ _ _ => True) (fun _ U o U' => ∃ v L, o = .returned v ∧ (Fr n0 L ∧ Q_0 Z i0 h0 n0 v U'.heap) ∧ FrameEnd U o U' L room_1.cells room_1.slots) := by
  refine own_enter (Q := Q_0 Z i0 h0 n0) (F := fun m => mkF m 0 #[.val (.int i0), .unset, .unset, .unset, .unset, .unset, .unset] []) (plainFor_of_name pn_1) (fun m => by first | (simp [entryFrame, mkF, argsToLocals, Value.category, maxLocals]; done) | rfl) ?_
  intro p e s m below meth c s₁ B X0
  have K : Keep h0 h0 [] := Keep.refl h0 _
  refine own_iloadN (pc' := 1) B X0 at_0 rfl rfl ?_
  obtain ⟨y1, hy1⟩ : ∃ z : Int32, i0.toUInt32.toUInt16.toUInt32.toInt32 = z := ⟨_, rfl⟩
  refine own_i2c (pc' := 2) B X0 at_1 rfl hy1 ?_
  refine own_istoreN (pc' := 3) B X0 (Ls' := #[.val (.int i0), .val (.int y1), .unset, .unset, .unset, .unset, .unset]) at_2 rfl rfl ?_
  refine own_iloadN (pc' := 4) B X0 at_3 rfl rfl ?_
  refine own_istoreN (pc' := 5) B X0 (Ls' := #[.val (.int i0), .val (.int y1), .val (.int y1), .unset, .unset, .unset, .unset]) at_4 rfl rfl ?_
  refine own_iloadN (pc' := 6) B X0 at_5 rfl rfl ?_
  refine own_bipush (pc' := 8) B X0 (z := (32 : Int32)) at_6 rfl (by decide) ?_
  obtain ⟨y2, hy2⟩ : ∃ z : Int32, y1 ||| (32 : Int32) = z := ⟨_, rfl⟩
  refine own_ior (pc' := 9) B X0 at_8 rfl hy2 ?_
  refine own_bipush (pc' := 11) B X0 (z := (97 : Int32)) at_9 rfl (by decide) ?_
  obtain ⟨y3, hy3⟩ : ∃ z : Int32, y2 - (97 : Int32) = z := ⟨_, rfl⟩
  refine own_isub (pc' := 12) B X0 at_11 rfl hy3 ?_
  refine own_istoreN (pc' := 13) B X0 (Ls' := #[.val (.int i0), .val (.int y1), .val (.int y1), .val (.int y3), .unset, .unset, .unset]) at_12 rfl rfl ?_
  refine own_iloadN (pc' := 14) B X0 at_13 rfl rfl ?_
  by_cases c4 : y3 < (0 : Int32)
  · refine own_ifYes (pc' := 27) B X0 at_14 ((if0 _ _).trans (tlt c4).1) (by decide) rfl ?_
    refine own_iconst (pc' := 28) B X0 (z := (0 : Int32)) at_27 rfl rfl ?_
    refine own_istore (pc' := 30) B X0 (Ls' := #[.val (.int i0), .val (.int y1), .val (.int y1), .val (.int y3), .val (.int (0 : Int32)), .unset, .unset]) at_28 rfl rfl ?_
    refine own_iloadN (pc' := 31) B X0 at_30 rfl rfl ?_
    refine own_bipush (pc' := 33) B X0 (z := (48 : Int32)) at_31 rfl (by decide) ?_
    obtain ⟨y5, hy5⟩ : ∃ z : Int32, y1 - (48 : Int32) = z := ⟨_, rfl⟩
    refine own_isub (pc' := 34) B X0 at_33 rfl hy5 ?_
    refine own_istore (pc' := 36) B X0 (Ls' := #[.val (.int i0), .val (.int y1), .val (.int y1), .val (.int y3), .val (.int (0 : Int32)), .val (.int y5), .unset]) at_34 rfl rfl ?_
    refine own_iload (pc' := 38) B X0 at_36 rfl rfl ?_
    by_cases c6 : y5 < (0 : Int32)
    · refine own_ifYes (pc' := 52) B X0 at_38 ((if0 _ _).trans (tlt c6).1) (by decide) rfl ?_
      refine own_iconst (pc' := 53) B X0 (z := (0 : Int32)) at_52 rfl rfl ?_
      refine own_istore (pc' := 55) B X0 (Ls' := #[.val (.int i0), .val (.int y1), .val (.int y1), .val (.int y3), .val (.int (0 : Int32)), .val (.int y5), .val (.int (0 : Int32))]) at_53 rfl rfl ?_
      refine own_iloadN (pc' := 56) B X0 at_55 rfl rfl ?_
      refine own_callS (pc' := 59) B X0 (own_w hw 0 rfl) (own_w hw 1 rfl) (own_w hw 2 rfl) (own_w hw 3 rfl) (by decide) [(.int y1)] [] (rm_1 l Z a0 hw [] (y1) h0 n0 (Nat.le_trans Z0 K.1) ) 0 (by decide) (by decide) rfl pd_0 rfl rfl (Nat.le_of_eq rfl) at_56 rfl (k' := 0) (n' := 0) rfl rfl (by decide) (by decide) ?_
      intro T7 v7 h7 X7 q7
      rcases q7 with ⟨c8, c9, c10, rfl, rfl⟩ | ⟨c11, c12, c13, c14, rfl, rfl⟩ | ⟨c15, c16, c17, c18, rfl, rfl⟩ | ⟨c19, c20, c21, c22, c23, rfl, rfl⟩ | ⟨c24, c25, c26, rfl, rfl⟩ | ⟨c27, c28, c29, c30, c31, c32, rfl, rfl⟩ | ⟨c33, c34, rfl, rfl⟩
      · show own_Go p e below (T7.setTop (mkF m 59 #[.val (.int i0), .val (.int y1), .val (.int y1), .val (.int y3), .val (.int (0 : Int32)), .val (.int y5), .val (.int (0 : Int32))] [(.int (0 : Int32))])) _
        refine own_iload (pc' := 61) B X7 at_59 rfl rfl ?_
        refine own_ifNo (pc' := 64) B X7 at_61 ((if0 _ _).trans (teq (by decide : (0 : Int32) = (0 : Int32))).2) rfl ?_
        refine own_iload (pc' := 66) B X7 at_64 rfl rfl ?_
        refine own_ifYes (pc' := 73) B X7 at_66 ((if0 _ _).trans (teq (by decide : (0 : Int32) = (0 : Int32))).1) (by decide) rfl ?_
        refine own_iconst (pc' := 74) B X7 (z := (0 : Int32)) at_73 rfl rfl ?_
        refine own_icmpNo (pc' := 77) B X7 at_74 (teq (by decide : (0 : Int32) = (0 : Int32))).2 rfl ?_
        refine own_iconst (pc' := 78) B X7 (z := (1 : Int32)) at_77 rfl rfl ?_
        refine own_goto (pc' := 82) B X7 at_78 (by decide) rfl ?_
        exact own_retN B X7 (t := .boolean) (z' := (1 : Int32)) (by simp) (by decide) at_82 (by decide) (by decide) rfl
      · exfalso
        have o0 := own_o_i2c hy1
        have o1 := own_o_or32 hy2
        have o2 := own_o_isub hy3
        have o3 := own_o_isub hy5
        have o4 := own_lt c4
        have o5 := own_lt c6
        have o6 := own_lt c11
        have o7 := own_lt c12
        have o8 := own_nlt c13
        have o9 := own_lt c14
        have o10 := rng32 i0
        have o11 := rng32 y1
        have o12 := rng32 y2
        have o13 := rng32 y3
        have o14 := rng32 y5
        have o15 : (32 : Int32).toInt = 32 := by decide
        have o16 : (97 : Int32).toInt = 97 := by decide
        have o17 : (48 : Int32).toInt = 48 := by decide
        have o18 : (0 : Int32).toInt = 0 := by decide
        have o19 : (65 : Int32).toInt = 65 := by decide
        have o20 : (57 : Int32).toInt = 57 := by decide
        exfalso
        omega
      · exfalso
        have o0 := own_o_i2c hy1
        have o1 := own_o_or32 hy2
        have o2 := own_o_isub hy3
        have o3 := own_o_isub hy5
        have o4 := own_lt c4
        have o5 := own_lt c6
        have o6 := own_lt c15
        have o7 := own_lt c16
        have o8 := own_nlt c17
        have o9 := own_nlt c18
        have o10 := rng32 i0
        have o11 := rng32 y1
        have o12 := rng32 y2
        have o13 := rng32 y3
        have o14 := rng32 y5
        have o15 : (32 : Int32).toInt = 32 := by decide
        have o16 : (97 : Int32).toInt = 97 := by decide
        have o17 : (48 : Int32).toInt = 48 := by decide
        have o18 : (0 : Int32).toInt = 0 := by decide
        have o19 : (65 : Int32).toInt = 65 := by decide
        have o20 : (57 : Int32).toInt = 57 := by decide
        exfalso
        omega
      · exfalso
        have o0 := own_o_i2c hy1
        have o1 := own_o_or32 hy2
        have o2 := own_o_isub hy3
        have o3 := own_o_isub hy5
        have o4 := own_lt c4
        have o5 := own_lt c6
        have o6 := own_lt c19
        have o7 := own_nlt c20
        have o8 := own_lt c21
        have o9 := own_nlt c22
        have o10 := own_lt c23
        have o11 := rng32 i0
        have o12 := rng32 y1
        have o13 := rng32 y2
        have o14 := rng32 y3
        have o15 := rng32 y5
        have o16 : (32 : Int32).toInt = 32 := by decide
        have o17 : (97 : Int32).toInt = 97 := by decide
        have o18 : (48 : Int32).toInt = 48 := by decide
        have o19 : (0 : Int32).toInt = 0 := by decide
        have o20 : (65 : Int32).toInt = 65 := by decide
        have o21 : (90 : Int32).toInt = 90 := by decide
        have o22 : (57 : Int32).toInt = 57 := by decide
        exfalso
        omega
      · exfalso
        have o0 := own_o_i2c hy1
        have o1 := own_o_or32 hy2
        have o2 := own_o_isub hy3
        have o3 := own_o_isub hy5
        have o4 := own_lt c4
        have o5 := own_lt c6
        have o6 := own_lt c24
        have o7 := own_nlt c25
        have o8 := own_nlt c26
        have o9 := rng32 i0
        have o10 := rng32 y1
        have o11 := rng32 y2
        have o12 := rng32 y3
        have o13 := rng32 y5
        have o14 : (32 : Int32).toInt = 32 := by decide
        have o15 : (97 : Int32).toInt = 97 := by decide
        have o16 : (48 : Int32).toInt = 48 := by decide
        have o17 : (0 : Int32).toInt = 0 := by decide
        have o18 : (65 : Int32).toInt = 65 := by decide
        have o19 : (90 : Int32).toInt = 90 := by decide
        exfalso
        omega
      · exfalso
        have o0 := own_o_i2c hy1
        have o1 := own_o_or32 hy2
        have o2 := own_o_isub hy3
        have o3 := own_o_isub hy5
        have o4 := own_lt c4
        have o5 := own_lt c6
        have o6 := own_nlt c27
        have o7 := own_lt c28
        have o8 := own_nlt c29
        have o9 := own_lt c30
        have o10 := own_nlt c31
        have o11 := own_lt c32
        have o12 := rng32 i0
        have o13 := rng32 y1
        have o14 := rng32 y2
        have o15 := rng32 y3
        have o16 := rng32 y5
        have o17 : (32 : Int32).toInt = 32 := by decide
        have o18 : (97 : Int32).toInt = 97 := by decide
        have o19 : (48 : Int32).toInt = 48 := by decide
        have o20 : (0 : Int32).toInt = 0 := by decide
        have o21 : (122 : Int32).toInt = 122 := by decide
        have o22 : (65 : Int32).toInt = 65 := by decide
        have o23 : (90 : Int32).toInt = 90 := by decide
        have o24 : (57 : Int32).toInt = 57 := by decide
        exfalso
        omega
      · exfalso
        have o0 := own_o_i2c hy1
        have o1 := own_o_or32 hy2
        have o2 := own_o_isub hy3
        have o3 := own_o_isub hy5
        have o4 := own_lt c4
        have o5 := own_lt c6
        have o6 := own_nlt c33
        have o7 := own_nlt c34
        have o8 := rng32 i0
        have o9 := rng32 y1
        have o10 := rng32 y2
        have o11 := rng32 y3
        have o12 := rng32 y5
        have o13 : (32 : Int32).toInt = 32 := by decide
        have o14 : (97 : Int32).toInt = 97 := by decide
        have o15 : (48 : Int32).toInt = 48 := by decide
        have o16 : (0 : Int32).toInt = 0 := by decide
        have o17 : (122 : Int32).toInt = 122 := by decide
        exfalso
        omega
    · refine own_ifNo (pc' := 41) B X0 at_38 ((if0 _ _).trans (flt c6).1) rfl ?_
      refine own_iload (pc' := 43) B X0 at_41 rfl rfl ?_
      refine own_bipush (pc' := 45) B X0 (z := (10 : Int32)) at_43 rfl (by decide) ?_
      by_cases c35 : y5 < (10 : Int32)
      · refine own_icmpNo (pc' := 48) B X0 at_45 (tlt c35).2.1 rfl ?_
        refine own_iconst (pc' := 49) B X0 (z := (1 : Int32)) at_48 rfl rfl ?_
        refine own_goto (pc' := 53) B X0 at_49 (by decide) rfl ?_
        refine own_istore (pc' := 55) B X0 (Ls' := #[.val (.int i0), .val (.int y1), .val (.int y1), .val (.int y3), .val (.int (0 : Int32)), .val (.int y5), .val (.int (1 : Int32))]) at_53 rfl rfl ?_
        refine own_iloadN (pc' := 56) B X0 at_55 rfl rfl ?_
        refine own_callS (pc' := 59) B X0 (own_w hw 0 rfl) (own_w hw 1 rfl) (own_w hw 2 rfl) (own_w hw 3 rfl) (by decide) [(.int y1)] [] (rm_1 l Z a0 hw [] (y1) h0 n0 (Nat.le_trans Z0 K.1) ) 0 (by decide) (by decide) rfl pd_0 rfl rfl (Nat.le_of_eq rfl) at_56 rfl (k' := 0) (n' := 0) rfl rfl (by decide) (by decide) ?_
        intro T36 v36 h36 X36 q36
        rcases q36 with ⟨c37, c38, c39, rfl, rfl⟩ | ⟨c40, c41, c42, c43, rfl, rfl⟩ | ⟨c44, c45, c46, c47, rfl, rfl⟩ | ⟨c48, c49, c50, c51, c52, rfl, rfl⟩ | ⟨c53, c54, c55, rfl, rfl⟩ | ⟨c56, c57, c58, c59, c60, c61, rfl, rfl⟩ | ⟨c62, c63, rfl, rfl⟩
        · exfalso
          have o0 := own_o_i2c hy1
          have o1 := own_o_or32 hy2
          have o2 := own_o_isub hy3
          have o3 := own_o_isub hy5
          have o4 := own_lt c4
          have o5 := own_nlt c6
          have o6 := own_lt c35
          have o7 := own_lt c37
          have o8 := own_lt c38
          have o9 := own_lt c39
          have o10 := rng32 i0
          have o11 := rng32 y1
          have o12 := rng32 y2
          have o13 := rng32 y3
          have o14 := rng32 y5
          have o15 : (32 : Int32).toInt = 32 := by decide
          have o16 : (97 : Int32).toInt = 97 := by decide
          have o17 : (48 : Int32).toInt = 48 := by decide
          have o18 : (0 : Int32).toInt = 0 := by decide
          have o19 : (10 : Int32).toInt = 10 := by decide
          have o20 : (65 : Int32).toInt = 65 := by decide
          exfalso
          omega
        · exfalso
          have o0 := own_o_i2c hy1
          have o1 := own_o_or32 hy2
          have o2 := own_o_isub hy3
          have o3 := own_o_isub hy5
          have o4 := own_lt c4
          have o5 := own_nlt c6
          have o6 := own_lt c35
          have o7 := own_lt c40
          have o8 := own_lt c41
          have o9 := own_nlt c42
          have o10 := own_lt c43
          have o11 := rng32 i0
          have o12 := rng32 y1
          have o13 := rng32 y2
          have o14 := rng32 y3
          have o15 := rng32 y5
          have o16 : (32 : Int32).toInt = 32 := by decide
          have o17 : (97 : Int32).toInt = 97 := by decide
          have o18 : (48 : Int32).toInt = 48 := by decide
          have o19 : (0 : Int32).toInt = 0 := by decide
          have o20 : (10 : Int32).toInt = 10 := by decide
          have o21 : (65 : Int32).toInt = 65 := by decide
          have o22 : (57 : Int32).toInt = 57 := by decide
          exfalso
          omega
        · show own_Go p e below (T36.setTop (mkF m 59 #[.val (.int i0), .val (.int y1), .val (.int y1), .val (.int y3), .val (.int (0 : Int32)), .val (.int y5), .val (.int (1 : Int32))] [(.int (1 : Int32))])) _
          refine own_iload (pc' := 61) B X36 at_59 rfl rfl ?_
          refine own_ifNo (pc' := 64) B X36 at_61 ((if0 _ _).trans (teq (by decide : (0 : Int32) = (0 : Int32))).2) rfl ?_
          refine own_iload (pc' := 66) B X36 at_64 rfl rfl ?_
          refine own_ifNo (pc' := 69) B X36 at_66 ((if0 _ _).trans (feq (by decide : ¬ ((1 : Int32) = (0 : Int32)))).1) rfl ?_
          refine own_iconst (pc' := 70) B X36 (z := (1 : Int32)) at_69 rfl rfl ?_
          refine own_goto (pc' := 74) B X36 at_70 (by decide) rfl ?_
          refine own_icmpNo (pc' := 77) B X36 at_74 (teq (by decide : (1 : Int32) = (1 : Int32))).2 rfl ?_
          refine own_iconst (pc' := 78) B X36 (z := (1 : Int32)) at_77 rfl rfl ?_
          refine own_goto (pc' := 82) B X36 at_78 (by decide) rfl ?_
          exact own_retN B X36 (t := .boolean) (z' := (1 : Int32)) (by simp) (by decide) at_82 (by decide) (by decide) rfl
        · exfalso
          have o0 := own_o_i2c hy1
          have o1 := own_o_or32 hy2
          have o2 := own_o_isub hy3
          have o3 := own_o_isub hy5
          have o4 := own_lt c4
          have o5 := own_nlt c6
          have o6 := own_lt c35
          have o7 := own_lt c48
          have o8 := own_nlt c49
          have o9 := own_lt c50
          have o10 := own_nlt c51
          have o11 := own_lt c52
          have o12 := rng32 i0
          have o13 := rng32 y1
          have o14 := rng32 y2
          have o15 := rng32 y3
          have o16 := rng32 y5
          have o17 : (32 : Int32).toInt = 32 := by decide
          have o18 : (97 : Int32).toInt = 97 := by decide
          have o19 : (48 : Int32).toInt = 48 := by decide
          have o20 : (0 : Int32).toInt = 0 := by decide
          have o21 : (10 : Int32).toInt = 10 := by decide
          have o22 : (65 : Int32).toInt = 65 := by decide
          have o23 : (90 : Int32).toInt = 90 := by decide
          have o24 : (57 : Int32).toInt = 57 := by decide
          exfalso
          omega
        · exfalso
          have o0 := own_o_i2c hy1
          have o1 := own_o_or32 hy2
          have o2 := own_o_isub hy3
          have o3 := own_o_isub hy5
          have o4 := own_lt c4
          have o5 := own_nlt c6
          have o6 := own_lt c35
          have o7 := own_lt c53
          have o8 := own_nlt c54
          have o9 := own_nlt c55
          have o10 := rng32 i0
          have o11 := rng32 y1
          have o12 := rng32 y2
          have o13 := rng32 y3
          have o14 := rng32 y5
          have o15 : (32 : Int32).toInt = 32 := by decide
          have o16 : (97 : Int32).toInt = 97 := by decide
          have o17 : (48 : Int32).toInt = 48 := by decide
          have o18 : (0 : Int32).toInt = 0 := by decide
          have o19 : (10 : Int32).toInt = 10 := by decide
          have o20 : (65 : Int32).toInt = 65 := by decide
          have o21 : (90 : Int32).toInt = 90 := by decide
          exfalso
          omega
        · exfalso
          have o0 := own_o_i2c hy1
          have o1 := own_o_or32 hy2
          have o2 := own_o_isub hy3
          have o3 := own_o_isub hy5
          have o4 := own_lt c4
          have o5 := own_nlt c6
          have o6 := own_lt c35
          have o7 := own_nlt c56
          have o8 := own_lt c57
          have o9 := own_nlt c58
          have o10 := own_lt c59
          have o11 := own_nlt c60
          have o12 := own_lt c61
          have o13 := rng32 i0
          have o14 := rng32 y1
          have o15 := rng32 y2
          have o16 := rng32 y3
          have o17 := rng32 y5
          have o18 : (32 : Int32).toInt = 32 := by decide
          have o19 : (97 : Int32).toInt = 97 := by decide
          have o20 : (48 : Int32).toInt = 48 := by decide
          have o21 : (0 : Int32).toInt = 0 := by decide
          have o22 : (10 : Int32).toInt = 10 := by decide
          have o23 : (122 : Int32).toInt = 122 := by decide
          have o24 : (65 : Int32).toInt = 65 := by decide
          have o25 : (90 : Int32).toInt = 90 := by decide
          have o26 : (57 : Int32).toInt = 57 := by decide
          exfalso
          omega
        · exfalso
          have o0 := own_o_i2c hy1
          have o1 := own_o_or32 hy2
          have o2 := own_o_isub hy3
          have o3 := own_o_isub hy5
          have o4 := own_lt c4
          have o5 := own_nlt c6
          have o6 := own_lt c35
          have o7 := own_nlt c62
          have o8 := own_nlt c63
          have o9 := rng32 i0
          have o10 := rng32 y1
          have o11 := rng32 y2
          have o12 := rng32 y3
          have o13 := rng32 y5
          have o14 : (32 : Int32).toInt = 32 := by decide
          have o15 : (97 : Int32).toInt = 97 := by decide
          have o16 : (48 : Int32).toInt = 48 := by decide
          have o17 : (0 : Int32).toInt = 0 := by decide
          have o18 : (10 : Int32).toInt = 10 := by decide
          have o19 : (122 : Int32).toInt = 122 := by decide
          exfalso
          omega
      · refine own_icmpYes (pc' := 52) B X0 at_45 (flt c35).2.1 (by decide) rfl ?_
        refine own_iconst (pc' := 53) B X0 (z := (0 : Int32)) at_52 rfl rfl ?_
        refine own_istore (pc' := 55) B X0 (Ls' := #[.val (.int i0), .val (.int y1), .val (.int y1), .val (.int y3), .val (.int (0 : Int32)), .val (.int y5), .val (.int (0 : Int32))]) at_53 rfl rfl ?_
        refine own_iloadN (pc' := 56) B X0 at_55 rfl rfl ?_
        refine own_callS (pc' := 59) B X0 (own_w hw 0 rfl) (own_w hw 1 rfl) (own_w hw 2 rfl) (own_w hw 3 rfl) (by decide) [(.int y1)] [] (rm_1 l Z a0 hw [] (y1) h0 n0 (Nat.le_trans Z0 K.1) ) 0 (by decide) (by decide) rfl pd_0 rfl rfl (Nat.le_of_eq rfl) at_56 rfl (k' := 0) (n' := 0) rfl rfl (by decide) (by decide) ?_
        intro T64 v64 h64 X64 q64
        rcases q64 with ⟨c65, c66, c67, rfl, rfl⟩ | ⟨c68, c69, c70, c71, rfl, rfl⟩ | ⟨c72, c73, c74, c75, rfl, rfl⟩ | ⟨c76, c77, c78, c79, c80, rfl, rfl⟩ | ⟨c81, c82, c83, rfl, rfl⟩ | ⟨c84, c85, c86, c87, c88, c89, rfl, rfl⟩ | ⟨c90, c91, rfl, rfl⟩
        · exfalso
          have o0 := own_o_i2c hy1
          have o1 := own_o_or32 hy2
          have o2 := own_o_isub hy3
          have o3 := own_o_isub hy5
          have o4 := own_lt c4
          have o5 := own_nlt c6
          have o6 := own_nlt c35
          have o7 := own_lt c65
          have o8 := own_lt c66
          have o9 := own_lt c67
          have o10 := rng32 i0
          have o11 := rng32 y1
          have o12 := rng32 y2
          have o13 := rng32 y3
          have o14 := rng32 y5
          have o15 : (32 : Int32).toInt = 32 := by decide
          have o16 : (97 : Int32).toInt = 97 := by decide
          have o17 : (48 : Int32).toInt = 48 := by decide
          have o18 : (0 : Int32).toInt = 0 := by decide
          have o19 : (10 : Int32).toInt = 10 := by decide
          have o20 : (65 : Int32).toInt = 65 := by decide
          exfalso
          omega
        · show own_Go p e below (T64.setTop (mkF m 59 #[.val (.int i0), .val (.int y1), .val (.int y1), .val (.int y3), .val (.int (0 : Int32)), .val (.int y5), .val (.int (0 : Int32))] [(.int (0 : Int32))])) _
          refine own_iload (pc' := 61) B X64 at_59 rfl rfl ?_
          refine own_ifNo (pc' := 64) B X64 at_61 ((if0 _ _).trans (teq (by decide : (0 : Int32) = (0 : Int32))).2) rfl ?_
          refine own_iload (pc' := 66) B X64 at_64 rfl rfl ?_
          refine own_ifYes (pc' := 73) B X64 at_66 ((if0 _ _).trans (teq (by decide : (0 : Int32) = (0 : Int32))).1) (by decide) rfl ?_
          refine own_iconst (pc' := 74) B X64 (z := (0 : Int32)) at_73 rfl rfl ?_
          refine own_icmpNo (pc' := 77) B X64 at_74 (teq (by decide : (0 : Int32) = (0 : Int32))).2 rfl ?_
          refine own_iconst (pc' := 78) B X64 (z := (1 : Int32)) at_77 rfl rfl ?_
          refine own_goto (pc' := 82) B X64 at_78 (by decide) rfl ?_
          exact own_retN B X64 (t := .boolean) (z' := (1 : Int32)) (by simp) (by decide) at_82 (by decide) (by decide) rfl
        · exfalso
          have o0 := own_o_i2c hy1
          have o1 := own_o_or32 hy2
          have o2 := own_o_isub hy3
          have o3 := own_o_isub hy5
          have o4 := own_lt c4
          have o5 := own_nlt c6
          have o6 := own_nlt c35
          have o7 := own_lt c72
          have o8 := own_lt c73
          have o9 := own_nlt c74
          have o10 := own_nlt c75
          have o11 := rng32 i0
          have o12 := rng32 y1
          have o13 := rng32 y2
          have o14 := rng32 y3
          have o15 := rng32 y5
          have o16 : (32 : Int32).toInt = 32 := by decide
          have o17 : (97 : Int32).toInt = 97 := by decide
          have o18 : (48 : Int32).toInt = 48 := by decide
          have o19 : (0 : Int32).toInt = 0 := by decide
          have o20 : (10 : Int32).toInt = 10 := by decide
          have o21 : (65 : Int32).toInt = 65 := by decide
          have o22 : (57 : Int32).toInt = 57 := by decide
          exfalso
          omega
        · show own_Go p e below (T64.setTop (mkF m 59 #[.val (.int i0), .val (.int y1), .val (.int y1), .val (.int y3), .val (.int (0 : Int32)), .val (.int y5), .val (.int (0 : Int32))] [(.int (0 : Int32))])) _
          refine own_iload (pc' := 61) B X64 at_59 rfl rfl ?_
          refine own_ifNo (pc' := 64) B X64 at_61 ((if0 _ _).trans (teq (by decide : (0 : Int32) = (0 : Int32))).2) rfl ?_
          refine own_iload (pc' := 66) B X64 at_64 rfl rfl ?_
          refine own_ifYes (pc' := 73) B X64 at_66 ((if0 _ _).trans (teq (by decide : (0 : Int32) = (0 : Int32))).1) (by decide) rfl ?_
          refine own_iconst (pc' := 74) B X64 (z := (0 : Int32)) at_73 rfl rfl ?_
          refine own_icmpNo (pc' := 77) B X64 at_74 (teq (by decide : (0 : Int32) = (0 : Int32))).2 rfl ?_
          refine own_iconst (pc' := 78) B X64 (z := (1 : Int32)) at_77 rfl rfl ?_
          refine own_goto (pc' := 82) B X64 at_78 (by decide) rfl ?_
          exact own_retN B X64 (t := .boolean) (z' := (1 : Int32)) (by simp) (by decide) at_82 (by decide) (by decide) rfl
        · exfalso
          have o0 := own_o_i2c hy1
          have o1 := own_o_or32 hy2
          have o2 := own_o_isub hy3
          have o3 := own_o_isub hy5
          have o4 := own_lt c4
          have o5 := own_nlt c6
          have o6 := own_nlt c35
          have o7 := own_lt c81
          have o8 := own_nlt c82
          have o9 := own_nlt c83
          have o10 := rng32 i0
          have o11 := rng32 y1
          have o12 := rng32 y2
          have o13 := rng32 y3
          have o14 := rng32 y5
          have o15 : (32 : Int32).toInt = 32 := by decide
          have o16 : (97 : Int32).toInt = 97 := by decide
          have o17 : (48 : Int32).toInt = 48 := by decide
          have o18 : (0 : Int32).toInt = 0 := by decide
          have o19 : (10 : Int32).toInt = 10 := by decide
          have o20 : (65 : Int32).toInt = 65 := by decide
          have o21 : (90 : Int32).toInt = 90 := by decide
          exfalso
          omega
        · exfalso
          have o0 := own_o_i2c hy1
          have o1 := own_o_or32 hy2
          have o2 := own_o_isub hy3
          have o3 := own_o_isub hy5
          have o4 := own_lt c4
          have o5 := own_nlt c6
          have o6 := own_nlt c35
          have o7 := own_nlt c84
          have o8 := own_lt c85
          have o9 := own_nlt c86
          have o10 := own_lt c87
          have o11 := own_nlt c88
          have o12 := own_lt c89
          have o13 := rng32 i0
          have o14 := rng32 y1
          have o15 := rng32 y2
          have o16 := rng32 y3
          have o17 := rng32 y5
          have o18 : (32 : Int32).toInt = 32 := by decide
          have o19 : (97 : Int32).toInt = 97 := by decide
          have o20 : (48 : Int32).toInt = 48 := by decide
          have o21 : (0 : Int32).toInt = 0 := by decide
          have o22 : (10 : Int32).toInt = 10 := by decide
          have o23 : (122 : Int32).toInt = 122 := by decide
          have o24 : (65 : Int32).toInt = 65 := by decide
          have o25 : (90 : Int32).toInt = 90 := by decide
          have o26 : (57 : Int32).toInt = 57 := by decide
          exfalso
          omega
        · exfalso
          have o0 := own_o_i2c hy1
          have o1 := own_o_or32 hy2
          have o2 := own_o_isub hy3
          have o3 := own_o_isub hy5
          have o4 := own_lt c4
          have o5 := own_nlt c6
          have o6 := own_nlt c35
          have o7 := own_nlt c90
          have o8 := own_nlt c91
          have o9 := rng32 i0
          have o10 := rng32 y1
          have o11 := rng32 y2
          have o12 := rng32 y3
          have o13 := rng32 y5
          have o14 : (32 : Int32).toInt = 32 := by decide
          have o15 : (97 : Int32).toInt = 97 := by decide
          have o16 : (48 : Int32).toInt = 48 := by decide
          have o17 : (0 : Int32).toInt = 0 := by decide
          have o18 : (10 : Int32).toInt = 10 := by decide
          have o19 : (122 : Int32).toInt = 122 := by decide
          exfalso
          omega
  · refine own_ifNo (pc' := 17) B X0 at_14 ((if0 _ _).trans (flt c4).1) rfl ?_
    refine own_iloadN (pc' := 18) B X0 at_17 rfl rfl ?_
    refine own_bipush (pc' := 20) B X0 (z := (26 : Int32)) at_18 rfl (by decide) ?_
    by_cases c92 : y3 < (26 : Int32)
    · refine own_icmpNo (pc' := 23) B X0 at_20 (tlt c92).2.1 rfl ?_
      refine own_iconst (pc' := 24) B X0 (z := (1 : Int32)) at_23 rfl rfl ?_
      refine own_goto (pc' := 28) B X0 at_24 (by decide) rfl ?_
      refine own_istore (pc' := 30) B X0 (Ls' := #[.val (.int i0), .val (.int y1), .val (.int y1), .val (.int y3), .val (.int (1 : Int32)), .unset, .unset]) at_28 rfl rfl ?_
      refine own_iloadN (pc' := 31) B X0 at_30 rfl rfl ?_
      refine own_bipush (pc' := 33) B X0 (z := (48 : Int32)) at_31 rfl (by decide) ?_
      obtain ⟨y93, hy93⟩ : ∃ z : Int32, y1 - (48 : Int32) = z := ⟨_, rfl⟩
      refine own_isub (pc' := 34) B X0 at_33 rfl hy93 ?_
      refine own_istore (pc' := 36) B X0 (Ls' := #[.val (.int i0), .val (.int y1), .val (.int y1), .val (.int y3), .val (.int (1 : Int32)), .val (.int y93), .unset]) at_34 rfl rfl ?_
      refine own_iload (pc' := 38) B X0 at_36 rfl rfl ?_
      have c94 : ¬ (y93 < (0 : Int32)) := by
        have o0 := own_o_i2c hy1
        have o1 := own_o_or32 hy2
        have o2 := own_o_isub hy3
        have o3 := own_o_isub hy93
        have o4 := own_nlt c4
        have o5 := own_lt c92
        have o6 := rng32 i0
        have o7 := rng32 y1
        have o8 := rng32 y2
        have o9 := rng32 y3
        have o10 := rng32 y93
        have o11 : (32 : Int32).toInt = 32 := by decide
        have o12 : (97 : Int32).toInt = 97 := by decide
        have o13 : (48 : Int32).toInt = 48 := by decide
        have o14 : (0 : Int32).toInt = 0 := by decide
        have o15 : (26 : Int32).toInt = 26 := by decide
        refine own_nltI ?_
        omega
      refine own_ifNo (pc' := 41) B X0 at_38 ((if0 _ _).trans (flt c94).1) rfl ?_
      refine own_iload (pc' := 43) B X0 at_41 rfl rfl ?_
      refine own_bipush (pc' := 45) B X0 (z := (10 : Int32)) at_43 rfl (by decide) ?_
      have c95 : ¬ (y93 < (10 : Int32)) := by
        have o0 := own_o_i2c hy1
        have o1 := own_o_or32 hy2
        have o2 := own_o_isub hy3
        have o3 := own_o_isub hy93
        have o4 := own_nlt c4
        have o5 := own_lt c92
        have o6 := own_nlt c94
        have o7 := rng32 i0
        have o8 := rng32 y1
        have o9 := rng32 y2
        have o10 := rng32 y3
        have o11 := rng32 y93
        have o12 : (32 : Int32).toInt = 32 := by decide
        have o13 : (97 : Int32).toInt = 97 := by decide
        have o14 : (48 : Int32).toInt = 48 := by decide
        have o15 : (0 : Int32).toInt = 0 := by decide
        have o16 : (26 : Int32).toInt = 26 := by decide
        have o17 : (10 : Int32).toInt = 10 := by decide
        refine own_nltI ?_
        omega
      refine own_icmpYes (pc' := 52) B X0 at_45 (flt c95).2.1 (by decide) rfl ?_
      refine own_iconst (pc' := 53) B X0 (z := (0 : Int32)) at_52 rfl rfl ?_
      refine own_istore (pc' := 55) B X0 (Ls' := #[.val (.int i0), .val (.int y1), .val (.int y1), .val (.int y3), .val (.int (1 : Int32)), .val (.int y93), .val (.int (0 : Int32))]) at_53 rfl rfl ?_
      refine own_iloadN (pc' := 56) B X0 at_55 rfl rfl ?_
      refine own_callS (pc' := 59) B X0 (own_w hw 0 rfl) (own_w hw 1 rfl) (own_w hw 2 rfl) (own_w hw 3 rfl) (by decide) [(.int y1)] [] (rm_1 l Z a0 hw [] (y1) h0 n0 (Nat.le_trans Z0 K.1) ) 0 (by decide) (by decide) rfl pd_0 rfl rfl (Nat.le_of_eq rfl) at_56 rfl (k' := 0) (n' := 0) rfl rfl (by decide) (by decide) ?_
      intro T96 v96 h96 X96 q96
      rcases q96 with ⟨c97, c98, c99, rfl, rfl⟩ | ⟨c100, c101, c102, c103, rfl, rfl⟩ | ⟨c104, c105, c106, c107, rfl, rfl⟩ | ⟨c108, c109, c110, c111, c112, rfl, rfl⟩ | ⟨c113, c114, c115, rfl, rfl⟩ | ⟨c116, c117, c118, c119, c120, c121, rfl, rfl⟩ | ⟨c122, c123, rfl, rfl⟩
      · exfalso
        have o0 := own_o_i2c hy1
        have o1 := own_o_or32 hy2
        have o2 := own_o_isub hy3
        have o3 := own_o_isub hy93
        have o4 := own_nlt c4
        have o5 := own_lt c92
        have o6 := own_nlt c94
        have o7 := own_nlt c95
        have o8 := own_lt c97
        have o9 := own_lt c98
        have o10 := own_lt c99
        have o11 := rng32 i0
        have o12 := rng32 y1
        have o13 := rng32 y2
        have o14 := rng32 y3
        have o15 := rng32 y93
        have o16 : (32 : Int32).toInt = 32 := by decide
        have o17 : (97 : Int32).toInt = 97 := by decide
        have o18 : (48 : Int32).toInt = 48 := by decide
        have o19 : (0 : Int32).toInt = 0 := by decide
        have o20 : (26 : Int32).toInt = 26 := by decide
        have o21 : (10 : Int32).toInt = 10 := by decide
        have o22 : (65 : Int32).toInt = 65 := by decide
        exfalso
        omega
      · exfalso
        have o0 := own_o_i2c hy1
        have o1 := own_o_or32 hy2
        have o2 := own_o_isub hy3
        have o3 := own_o_isub hy93
        have o4 := own_nlt c4
        have o5 := own_lt c92
        have o6 := own_nlt c94
        have o7 := own_nlt c95
        have o8 := own_lt c100
        have o9 := own_lt c101
        have o10 := own_nlt c102
        have o11 := own_lt c103
        have o12 := rng32 i0
        have o13 := rng32 y1
        have o14 := rng32 y2
        have o15 := rng32 y3
        have o16 := rng32 y93
        have o17 : (32 : Int32).toInt = 32 := by decide
        have o18 : (97 : Int32).toInt = 97 := by decide
        have o19 : (48 : Int32).toInt = 48 := by decide
        have o20 : (0 : Int32).toInt = 0 := by decide
        have o21 : (26 : Int32).toInt = 26 := by decide
        have o22 : (10 : Int32).toInt = 10 := by decide
        have o23 : (65 : Int32).toInt = 65 := by decide
        have o24 : (57 : Int32).toInt = 57 := by decide
        exfalso
        omega
      · exfalso
        have o0 := own_o_i2c hy1
        have o1 := own_o_or32 hy2
        have o2 := own_o_isub hy3
        have o3 := own_o_isub hy93
        have o4 := own_nlt c4
        have o5 := own_lt c92
        have o6 := own_nlt c94
        have o7 := own_nlt c95
        have o8 := own_lt c104
        have o9 := own_lt c105
        have o10 := own_nlt c106
        have o11 := own_nlt c107
        have o12 := rng32 i0
        have o13 := rng32 y1
        have o14 := rng32 y2
        have o15 := rng32 y3
        have o16 := rng32 y93
        have o17 : (32 : Int32).toInt = 32 := by decide
        have o18 : (97 : Int32).toInt = 97 := by decide
        have o19 : (48 : Int32).toInt = 48 := by decide
        have o20 : (0 : Int32).toInt = 0 := by decide
        have o21 : (26 : Int32).toInt = 26 := by decide
        have o22 : (10 : Int32).toInt = 10 := by decide
        have o23 : (65 : Int32).toInt = 65 := by decide
        have o24 : (57 : Int32).toInt = 57 := by decide
        exfalso
        omega
      · exfalso
        have o0 := own_o_i2c hy1
        have o1 := own_o_or32 hy2
        have o2 := own_o_isub hy3
        have o3 := own_o_isub hy93
        have o4 := own_nlt c4
        have o5 := own_lt c92
        have o6 := own_nlt c94
        have o7 := own_nlt c95
        have o8 := own_lt c108
        have o9 := own_nlt c109
        have o10 := own_lt c110
        have o11 := own_nlt c111
        have o12 := own_lt c112
        have o13 := rng32 i0
        have o14 := rng32 y1
        have o15 := rng32 y2
        have o16 := rng32 y3
        have o17 := rng32 y93
        have o18 : (32 : Int32).toInt = 32 := by decide
        have o19 : (97 : Int32).toInt = 97 := by decide
        have o20 : (48 : Int32).toInt = 48 := by decide
        have o21 : (0 : Int32).toInt = 0 := by decide
        have o22 : (26 : Int32).toInt = 26 := by decide
        have o23 : (10 : Int32).toInt = 10 := by decide
        have o24 : (65 : Int32).toInt = 65 := by decide
        have o25 : (90 : Int32).toInt = 90 := by decide
        have o26 : (57 : Int32).toInt = 57 := by decide
        exfalso
        omega
      · show own_Go p e below (T96.setTop (mkF m 59 #[.val (.int i0), .val (.int y1), .val (.int y1), .val (.int y3), .val (.int (1 : Int32)), .val (.int y93), .val (.int (0 : Int32))] [(.int (1 : Int32))])) _
        refine own_iload (pc' := 61) B X96 at_59 rfl rfl ?_
        refine own_ifYes (pc' := 69) B X96 at_61 ((if0 _ _).trans (feq (by decide : ¬ ((1 : Int32) = (0 : Int32)))).2) (by decide) rfl ?_
        refine own_iconst (pc' := 70) B X96 (z := (1 : Int32)) at_69 rfl rfl ?_
        refine own_goto (pc' := 74) B X96 at_70 (by decide) rfl ?_
        refine own_icmpNo (pc' := 77) B X96 at_74 (teq (by decide : (1 : Int32) = (1 : Int32))).2 rfl ?_
        refine own_iconst (pc' := 78) B X96 (z := (1 : Int32)) at_77 rfl rfl ?_
        refine own_goto (pc' := 82) B X96 at_78 (by decide) rfl ?_
        exact own_retN B X96 (t := .boolean) (z' := (1 : Int32)) (by simp) (by decide) at_82 (by decide) (by decide) rfl
      · exfalso
        have o0 := own_o_i2c hy1
        have o1 := own_o_or32 hy2
        have o2 := own_o_isub hy3
        have o3 := own_o_isub hy93
        have o4 := own_nlt c4
        have o5 := own_lt c92
        have o6 := own_nlt c94
        have o7 := own_nlt c95
        have o8 := own_nlt c116
        have o9 := own_lt c117
        have o10 := own_nlt c118
        have o11 := own_lt c119
        have o12 := own_nlt c120
        have o13 := own_lt c121
        have o14 := rng32 i0
        have o15 := rng32 y1
        have o16 := rng32 y2
        have o17 := rng32 y3
        have o18 := rng32 y93
        have o19 : (32 : Int32).toInt = 32 := by decide
        have o20 : (97 : Int32).toInt = 97 := by decide
        have o21 : (48 : Int32).toInt = 48 := by decide
        have o22 : (0 : Int32).toInt = 0 := by decide
        have o23 : (26 : Int32).toInt = 26 := by decide
        have o24 : (10 : Int32).toInt = 10 := by decide
        have o25 : (122 : Int32).toInt = 122 := by decide
        have o26 : (65 : Int32).toInt = 65 := by decide
        have o27 : (90 : Int32).toInt = 90 := by decide
        have o28 : (57 : Int32).toInt = 57 := by decide
        exfalso
        omega
      · show own_Go p e below (T96.setTop (mkF m 59 #[.val (.int i0), .val (.int y1), .val (.int y1), .val (.int y3), .val (.int (1 : Int32)), .val (.int y93), .val (.int (0 : Int32))] [(.int (1 : Int32))])) _
        refine own_iload (pc' := 61) B X96 at_59 rfl rfl ?_
        refine own_ifYes (pc' := 69) B X96 at_61 ((if0 _ _).trans (feq (by decide : ¬ ((1 : Int32) = (0 : Int32)))).2) (by decide) rfl ?_
        refine own_iconst (pc' := 70) B X96 (z := (1 : Int32)) at_69 rfl rfl ?_
        refine own_goto (pc' := 74) B X96 at_70 (by decide) rfl ?_
        refine own_icmpNo (pc' := 77) B X96 at_74 (teq (by decide : (1 : Int32) = (1 : Int32))).2 rfl ?_
        refine own_iconst (pc' := 78) B X96 (z := (1 : Int32)) at_77 rfl rfl ?_
        refine own_goto (pc' := 82) B X96 at_78 (by decide) rfl ?_
        exact own_retN B X96 (t := .boolean) (z' := (1 : Int32)) (by simp) (by decide) at_82 (by decide) (by decide) rfl
    · refine own_icmpYes (pc' := 27) B X0 at_20 (flt c92).2.1 (by decide) rfl ?_
      refine own_iconst (pc' := 28) B X0 (z := (0 : Int32)) at_27 rfl rfl ?_
      refine own_istore (pc' := 30) B X0 (Ls' := #[.val (.int i0), .val (.int y1), .val (.int y1), .val (.int y3), .val (.int (0 : Int32)), .unset, .unset]) at_28 rfl rfl ?_
      refine own_iloadN (pc' := 31) B X0 at_30 rfl rfl ?_
      refine own_bipush (pc' := 33) B X0 (z := (48 : Int32)) at_31 rfl (by decide) ?_
      obtain ⟨y124, hy124⟩ : ∃ z : Int32, y1 - (48 : Int32) = z := ⟨_, rfl⟩
      refine own_isub (pc' := 34) B X0 at_33 rfl hy124 ?_
      refine own_istore (pc' := 36) B X0 (Ls' := #[.val (.int i0), .val (.int y1), .val (.int y1), .val (.int y3), .val (.int (0 : Int32)), .val (.int y124), .unset]) at_34 rfl rfl ?_
      refine own_iload (pc' := 38) B X0 at_36 rfl rfl ?_
      have c125 : ¬ (y124 < (0 : Int32)) := by
        have o0 := own_o_i2c hy1
        have o1 := own_o_or32 hy2
        have o2 := own_o_isub hy3
        have o3 := own_o_isub hy124
        have o4 := own_nlt c4
        have o5 := own_nlt c92
        have o6 := rng32 i0
        have o7 := rng32 y1
        have o8 := rng32 y124
        have o9 := rng32 y2
        have o10 := rng32 y3
        have o11 : (32 : Int32).toInt = 32 := by decide
        have o12 : (97 : Int32).toInt = 97 := by decide
        have o13 : (48 : Int32).toInt = 48 := by decide
        have o14 : (0 : Int32).toInt = 0 := by decide
        have o15 : (26 : Int32).toInt = 26 := by decide
        refine own_nltI ?_
        omega
      refine own_ifNo (pc' := 41) B X0 at_38 ((if0 _ _).trans (flt c125).1) rfl ?_
      refine own_iload (pc' := 43) B X0 at_41 rfl rfl ?_
      refine own_bipush (pc' := 45) B X0 (z := (10 : Int32)) at_43 rfl (by decide) ?_
      have c126 : ¬ (y124 < (10 : Int32)) := by
        have o0 := own_o_i2c hy1
        have o1 := own_o_or32 hy2
        have o2 := own_o_isub hy3
        have o3 := own_o_isub hy124
        have o4 := own_nlt c4
        have o5 := own_nlt c92
        have o6 := own_nlt c125
        have o7 := rng32 i0
        have o8 := rng32 y1
        have o9 := rng32 y124
        have o10 := rng32 y2
        have o11 := rng32 y3
        have o12 : (32 : Int32).toInt = 32 := by decide
        have o13 : (97 : Int32).toInt = 97 := by decide
        have o14 : (48 : Int32).toInt = 48 := by decide
        have o15 : (0 : Int32).toInt = 0 := by decide
        have o16 : (26 : Int32).toInt = 26 := by decide
        have o17 : (10 : Int32).toInt = 10 := by decide
        refine own_nltI ?_
        omega
      refine own_icmpYes (pc' := 52) B X0 at_45 (flt c126).2.1 (by decide) rfl ?_
      refine own_iconst (pc' := 53) B X0 (z := (0 : Int32)) at_52 rfl rfl ?_
      refine own_istore (pc' := 55) B X0 (Ls' := #[.val (.int i0), .val (.int y1), .val (.int y1), .val (.int y3), .val (.int (0 : Int32)), .val (.int y124), .val (.int (0 : Int32))]) at_53 rfl rfl ?_
      refine own_iloadN (pc' := 56) B X0 at_55 rfl rfl ?_
      refine own_callS (pc' := 59) B X0 (own_w hw 0 rfl) (own_w hw 1 rfl) (own_w hw 2 rfl) (own_w hw 3 rfl) (by decide) [(.int y1)] [] (rm_1 l Z a0 hw [] (y1) h0 n0 (Nat.le_trans Z0 K.1) ) 0 (by decide) (by decide) rfl pd_0 rfl rfl (Nat.le_of_eq rfl) at_56 rfl (k' := 0) (n' := 0) rfl rfl (by decide) (by decide) ?_
      intro T127 v127 h127 X127 q127
      rcases q127 with ⟨c128, c129, c130, rfl, rfl⟩ | ⟨c131, c132, c133, c134, rfl, rfl⟩ | ⟨c135, c136, c137, c138, rfl, rfl⟩ | ⟨c139, c140, c141, c142, c143, rfl, rfl⟩ | ⟨c144, c145, c146, rfl, rfl⟩ | ⟨c147, c148, c149, c150, c151, c152, rfl, rfl⟩ | ⟨c153, c154, rfl, rfl⟩
      · exfalso
        have o0 := own_o_i2c hy1
        have o1 := own_o_or32 hy2
        have o2 := own_o_isub hy3
        have o3 := own_o_isub hy124
        have o4 := own_nlt c4
        have o5 := own_nlt c92
        have o6 := own_nlt c125
        have o7 := own_nlt c126
        have o8 := own_lt c128
        have o9 := own_lt c129
        have o10 := own_lt c130
        have o11 := rng32 i0
        have o12 := rng32 y1
        have o13 := rng32 y124
        have o14 := rng32 y2
        have o15 := rng32 y3
        have o16 : (32 : Int32).toInt = 32 := by decide
        have o17 : (97 : Int32).toInt = 97 := by decide
        have o18 : (48 : Int32).toInt = 48 := by decide
        have o19 : (0 : Int32).toInt = 0 := by decide
        have o20 : (26 : Int32).toInt = 26 := by decide
        have o21 : (10 : Int32).toInt = 10 := by decide
        have o22 : (65 : Int32).toInt = 65 := by decide
        exfalso
        omega
      · exfalso
        have o0 := own_o_i2c hy1
        have o1 := own_o_or32 hy2
        have o2 := own_o_isub hy3
        have o3 := own_o_isub hy124
        have o4 := own_nlt c4
        have o5 := own_nlt c92
        have o6 := own_nlt c125
        have o7 := own_nlt c126
        have o8 := own_lt c131
        have o9 := own_lt c132
        have o10 := own_nlt c133
        have o11 := own_lt c134
        have o12 := rng32 i0
        have o13 := rng32 y1
        have o14 := rng32 y124
        have o15 := rng32 y2
        have o16 := rng32 y3
        have o17 : (32 : Int32).toInt = 32 := by decide
        have o18 : (97 : Int32).toInt = 97 := by decide
        have o19 : (48 : Int32).toInt = 48 := by decide
        have o20 : (0 : Int32).toInt = 0 := by decide
        have o21 : (26 : Int32).toInt = 26 := by decide
        have o22 : (10 : Int32).toInt = 10 := by decide
        have o23 : (65 : Int32).toInt = 65 := by decide
        have o24 : (57 : Int32).toInt = 57 := by decide
        exfalso
        omega
      · exfalso
        have o0 := own_o_i2c hy1
        have o1 := own_o_or32 hy2
        have o2 := own_o_isub hy3
        have o3 := own_o_isub hy124
        have o4 := own_nlt c4
        have o5 := own_nlt c92
        have o6 := own_nlt c125
        have o7 := own_nlt c126
        have o8 := own_lt c135
        have o9 := own_lt c136
        have o10 := own_nlt c137
        have o11 := own_nlt c138
        have o12 := rng32 i0
        have o13 := rng32 y1
        have o14 := rng32 y124
        have o15 := rng32 y2
        have o16 := rng32 y3
        have o17 : (32 : Int32).toInt = 32 := by decide
        have o18 : (97 : Int32).toInt = 97 := by decide
        have o19 : (48 : Int32).toInt = 48 := by decide
        have o20 : (0 : Int32).toInt = 0 := by decide
        have o21 : (26 : Int32).toInt = 26 := by decide
        have o22 : (10 : Int32).toInt = 10 := by decide
        have o23 : (65 : Int32).toInt = 65 := by decide
        have o24 : (57 : Int32).toInt = 57 := by decide
        exfalso
        omega
      · show own_Go p e below (T127.setTop (mkF m 59 #[.val (.int i0), .val (.int y1), .val (.int y1), .val (.int y3), .val (.int (0 : Int32)), .val (.int y124), .val (.int (0 : Int32))] [(.int (0 : Int32))])) _
        refine own_iload (pc' := 61) B X127 at_59 rfl rfl ?_
        refine own_ifNo (pc' := 64) B X127 at_61 ((if0 _ _).trans (teq (by decide : (0 : Int32) = (0 : Int32))).2) rfl ?_
        refine own_iload (pc' := 66) B X127 at_64 rfl rfl ?_
        refine own_ifYes (pc' := 73) B X127 at_66 ((if0 _ _).trans (teq (by decide : (0 : Int32) = (0 : Int32))).1) (by decide) rfl ?_
        refine own_iconst (pc' := 74) B X127 (z := (0 : Int32)) at_73 rfl rfl ?_
        refine own_icmpNo (pc' := 77) B X127 at_74 (teq (by decide : (0 : Int32) = (0 : Int32))).2 rfl ?_
        refine own_iconst (pc' := 78) B X127 (z := (1 : Int32)) at_77 rfl rfl ?_
        refine own_goto (pc' := 82) B X127 at_78 (by decide) rfl ?_
        exact own_retN B X127 (t := .boolean) (z' := (1 : Int32)) (by simp) (by decide) at_82 (by decide) (by decide) rfl
      · exfalso
        have o0 := own_o_i2c hy1
        have o1 := own_o_or32 hy2
        have o2 := own_o_isub hy3
        have o3 := own_o_isub hy124
        have o4 := own_nlt c4
        have o5 := own_nlt c92
        have o6 := own_nlt c125
        have o7 := own_nlt c126
        have o8 := own_lt c144
        have o9 := own_nlt c145
        have o10 := own_nlt c146
        have o11 := rng32 i0
        have o12 := rng32 y1
        have o13 := rng32 y124
        have o14 := rng32 y2
        have o15 := rng32 y3
        have o16 : (32 : Int32).toInt = 32 := by decide
        have o17 : (97 : Int32).toInt = 97 := by decide
        have o18 : (48 : Int32).toInt = 48 := by decide
        have o19 : (0 : Int32).toInt = 0 := by decide
        have o20 : (26 : Int32).toInt = 26 := by decide
        have o21 : (10 : Int32).toInt = 10 := by decide
        have o22 : (65 : Int32).toInt = 65 := by decide
        have o23 : (90 : Int32).toInt = 90 := by decide
        exfalso
        omega
      · show own_Go p e below (T127.setTop (mkF m 59 #[.val (.int i0), .val (.int y1), .val (.int y1), .val (.int y3), .val (.int (0 : Int32)), .val (.int y124), .val (.int (0 : Int32))] [(.int (0 : Int32))])) _
        refine own_iload (pc' := 61) B X127 at_59 rfl rfl ?_
        refine own_ifNo (pc' := 64) B X127 at_61 ((if0 _ _).trans (teq (by decide : (0 : Int32) = (0 : Int32))).2) rfl ?_
        refine own_iload (pc' := 66) B X127 at_64 rfl rfl ?_
        refine own_ifYes (pc' := 73) B X127 at_66 ((if0 _ _).trans (teq (by decide : (0 : Int32) = (0 : Int32))).1) (by decide) rfl ?_
        refine own_iconst (pc' := 74) B X127 (z := (0 : Int32)) at_73 rfl rfl ?_
        refine own_icmpNo (pc' := 77) B X127 at_74 (teq (by decide : (0 : Int32) = (0 : Int32))).2 rfl ?_
        refine own_iconst (pc' := 78) B X127 (z := (1 : Int32)) at_77 rfl rfl ?_
        refine own_goto (pc' := 82) B X127 at_78 (by decide) rfl ?_
        exact own_retN B X127 (t := .boolean) (z' := (1 : Int32)) (by simp) (by decide) at_82 (by decide) (by decide) rfl
      · exfalso
        have o0 := own_o_i2c hy1
        have o1 := own_o_or32 hy2
        have o2 := own_o_isub hy3
        have o3 := own_o_isub hy124
        have o4 := own_nlt c4
        have o5 := own_nlt c92
        have o6 := own_nlt c125
        have o7 := own_nlt c126
        have o8 := own_nlt c153
        have o9 := own_nlt c154
        have o10 := rng32 i0
        have o11 := rng32 y1
        have o12 := rng32 y124
        have o13 := rng32 y2
        have o14 := rng32 y3
        have o15 : (32 : Int32).toInt = 32 := by decide
        have o16 : (97 : Int32).toInt = 97 := by decide
        have o17 : (48 : Int32).toInt = 48 := by decide
        have o18 : (0 : Int32).toInt = 0 := by decide
        have o19 : (26 : Int32).toInt = 26 := by decide
        have o20 : (10 : Int32).toInt = 10 := by decide
        have o21 : (122 : Int32).toInt = 122 := by decide
        exfalso
        omega
set_option maxRecDepth 65536 in
set_option maxHeartbeats 40000000 in
theorem comes_1 {Post : Tables → Env → Array Value → State → Outcome → State → Prop} (hpost : ∀ tb e args s v u, (limb_1_1.after args s (.returned v) u = true ∧ limb_1_2.after args s (.returned v) u = true ∧ True) → FrameEnd s (.returned v) u (Jvm.fieldLocs frame_1_writes args s ++ Jvm.arrayLocs frame_1_arrays args s ++ Jvm.staticLocs frame_1_statics s) 0 0 → Post tb e args s (.returned v) u) :
    ArmFor flags0 classFile x code maxLocals ret World_1 tables_1 room_1 Calls_1 rest_1 Pre_1 Post := by
  intro l hfl _ _ p e ha hc hk s m args below hf hA hF happ hP
  obtain ⟨hcalls, hrest, hpre⟩ := hP
  obtain ⟨-, -, -, hnamed, -, -, -, hat⟩ := (Spec.applies_iff hf).mp happ
  obtain ⟨hg, hn⟩ := and_e (Cond.before_iff.mp (show (Jvm.Cond.and given_1 narrow_1).before args s = true from hpre))
  obtain ⟨g1, g2⟩ := and_e hg
  obtain ⟨w0, rfl⟩ : ∃ w0 : Value, args = #[w0] := by
    have hs : args.size = 1 := by simpa [Cond.value, given_1] using g1
    obtain ⟨L⟩ := args
    match L, hs with
    | [w0], _ => exact ⟨w0, rfl⟩
  have hw := fun d (hd : d ∈ tables_1) => atoms_spec (ws := Jvm.Cond.code x code maxLocals ret :: tables_1) hat d (List.mem_cons_of_mem _ hd)
  obtain ⟨i0, ei0⟩ := is_v g2
  obtain rfl : w0 = (.int i0) := Option.some.inj ei0
  obtain ⟨n, o, h1, h2, h3, _, L, rfl, ⟨N, rfl⟩, hq⟩ := rm_0 l s _ hw tables_1 i0 s.heap s.heap.size (Nat.le_refl _)  p e ha hc hk s m _ below hf ((Spec.applies_iff_loose hf).mp happ).1 ⟨rfl, State.Warmed39.refl s, rfl⟩ trivial
  refine ⟨n, _, h1, h2, h3, hpost _ _ _ _ _ _ ⟨Cond.after_iff.mpr rfl, Cond.after_iff.mpr (eq_i res_at (Term.int_eval (1)) rfl), trivial⟩ ⟨hq.1, hq.2.1, (hq.2.2.sift fun y hy => Or.inr (N y hy)).mono (by decide) (by decide)⟩⟩
theorem main_1_1 : Claimed_1_1 := comes_1 fun _ _ _ _ _ _ h hF => ⟨h.1, hF⟩
theorem main_1_2 : Claimed_1_2 := comes_1 fun _ _ _ _ _ _ h hF => ⟨h.2.1, hF⟩
end Jvm.Pilot.@@N@@
namespace Jvm.Pilot.@@N@@
open Jvm Jvm.ClassFile Sem Op Lib Jvm.Free Jvm.Stand Jvm.Pilot.@@N@@.Jvm.D
/-! MADE BY PROGRAM (witnessworld.py) out of the Statement's table words and the real class files: 9 classes; the members and pool entries that the words name. The judged class is class 1, her method 1. -/
namespace start1
open Jvm.ClassFile
def u (s : String) : CpInfo := .utf8 (stringToUtf16 s)
/-- a pool by its gaps: so many unusable entries, then the entry; so many at the end -/
def gap : Nat → List CpInfo → List CpInfo
  | 0, r => r
  | n + 1, r => .unusable :: gap n r
def poolList (es : List (Nat × CpInfo)) (last : Nat) : List CpInfo := es.foldr (fun e r => gap e.1 (e.2 :: r)) (gap last [])
def pool (es : List (Nat × CpInfo)) (last : Nat) : Array CpInfo := ⟨poolList es last⟩
def fileOf (pool : Array CpInfo) (this : Nat) (attrs : Array Attribute := #[]) (ms : Array MethodInfo := #[]) (fl : Nat := 33) (sup : Nat := 0) (ifs : Array Nat := #[]) (fds : Array FieldInfo := #[]) : ClassFile where
  minorVersion := 0
  majorVersion := 65
  constantPool := pool
  accessFlags := fl
  thisClass := this
  superClass := sup
  interfaces := ifs
  fields := fds
  methods := ms
  attributes := attrs
def plain (name : String) (sup : Option ClassId) : Class where
  name := name
  kind := .ordinary
  loader := none
  accessFlags := 33
  super := sup
  interfaces := #[]
  cf := none
  fields := #[]
  methods := #[]
  instanceTypes := #[]
  staticTypes := #[]
  resolved := #[]
  callSites := []
  init := .initialized
  statics := none
  mirror := none

def pool0 : Array CpInfo := pool [(5, u "<init>"), (0, u "()V"), (1, .class_ 10), (1, u "java/lang/Object")] 113

def k0m0 : Method := { name := "<init>", desc := "()V", sig := { parameters := [], returnType := none }, accessFlags := 1, code := none }
/-- java/lang/Object -/
def k0 : Class := { plain "java/lang/Object" none with
  accessFlags := 33
  interfaces := #[]
  cf := some (fileOf pool0 8 #[] #[{ accessFlags := 1, nameIndex := 5, descriptorIndex := 6, attributes := #[] }] 33 0 #[] #[])
  fields := #[]
  methods := #[k0m0]
  instanceTypes := #[]
  staticTypes := #[]
  resolved := Array.replicate 124 none
  statics := none }

def pool1 : Array CpInfo := pool [(2, .class_ 4), (1, u "java/lang/Object"), (0, u "<init>"), (0, u "()V"), (0, .methodref 8 9), (0, .class_ 10), (0, .nameAndType 11 12), (0, u "com/example/lean_route/leanroute/Ascii"), (0, u "isLetterOrDigit"), (0, u "(C)Z"), (0, .class_ 14), (0, u "com/example/lean_route/leanroute/AsciiIsLetterOrDigitPinLaw"), (2, u "law"), (0, u "(I)Z")] 3

def k1m0 : Method := { name := "<init>", desc := "()V", sig := { parameters := [], returnType := none }, accessFlags := 2, code := none }
def k1c1 : Code := { maxStack := 2, maxLocals := 7, code := code, exceptionTable := #[], attributes := #[] }
def k1m1 : Method := { name := "law", desc := "(I)Z", sig := { parameters := [.int], returnType := some .boolean }, accessFlags := 9, code := some k1c1 }
/-- com/example/lean_route/leanroute/AsciiIsLetterOrDigitPinLaw -/
def k1 : Class := { plain "com/example/lean_route/leanroute/AsciiIsLetterOrDigitPinLaw" (some 0) with
  accessFlags := 49
  interfaces := #[]
  cf := some (fileOf pool1 13 #[] #[{ accessFlags := 2, nameIndex := 5, descriptorIndex := 6, attributes := #[] }, { accessFlags := 9, nameIndex := 17, descriptorIndex := 18, attributes := #[] }] 49 2 #[] #[])
  fields := #[]
  methods := #[k1m0, k1m1]
  instanceTypes := #[]
  staticTypes := #[]
  resolved := Array.replicate 22 none
  statics := none }

def pool2 : Array CpInfo := pool [(2, .class_ 4), (1, u "java/lang/Object"), (0, u "<init>"), (0, u "()V"), (21, .class_ 29), (0, u "com/example/lean_route/leanroute/Ascii"), (4, u "MAX_PORT"), (0, u "I"), (3, u "isLetterOrDigit"), (0, u "(C)Z")] 24

def k2m0 : Method := { name := "<init>", desc := "()V", sig := { parameters := [], returnType := none }, accessFlags := 2, code := none }
def k2c1 : Code := { maxStack := 2, maxLocals := 1, code := prog_1_method_2_code, exceptionTable := #[], attributes := #[] }
def k2m1 : Method := { name := "isLetterOrDigit", desc := "(C)Z", sig := { parameters := [.char], returnType := some .boolean }, accessFlags := 9, code := some k2c1 }
/-- com/example/lean_route/leanroute/Ascii -/
def k2 : Class := { plain "com/example/lean_route/leanroute/Ascii" (some 0) with
  accessFlags := 49
  interfaces := #[]
  cf := some (fileOf pool2 28 #[] #[{ accessFlags := 2, nameIndex := 5, descriptorIndex := 6, attributes := #[] }, { accessFlags := 9, nameIndex := 39, descriptorIndex := 40, attributes := #[] }] 49 2 #[] #[{ accessFlags := 25, nameIndex := 34, descriptorIndex := 35, attributes := #[] }])
  fields := #[{ name := "MAX_PORT", type := .int, accessFlags := 25, slot := 0, constantValue := 0 }]
  methods := #[k2m0, k2m1]
  instanceTypes := #[]
  staticTypes := #[.int]
  resolved := Array.replicate 65 none
  statics := none }

def pool3 : Array CpInfo := pool [(1, u "java/lang/Cloneable"), (0, .class_ 1), (0, u "java/lang/Object"), (0, .class_ 3)] 3

/-- java/lang/Cloneable -/
def k3 : Class := { plain "java/lang/Cloneable" (some 0) with
  accessFlags := 1537
  interfaces := #[]
  cf := some (fileOf pool3 2 #[] #[] 1537 4 #[] #[])
  fields := #[]
  methods := #[]
  instanceTypes := #[]
  staticTypes := #[]
  resolved := Array.replicate 8 none
  statics := none }

def pool4 : Array CpInfo := pool [(1, u "java/io/Serializable"), (0, .class_ 1), (0, u "java/lang/Object"), (0, .class_ 3)] 3

/-- java/io/Serializable -/
def k4 : Class := { plain "java/io/Serializable" (some 0) with
  accessFlags := 1537
  interfaces := #[]
  cf := some (fileOf pool4 2 #[] #[] 1537 4 #[] #[])
  fields := #[]
  methods := #[]
  instanceTypes := #[]
  staticTypes := #[]
  resolved := Array.replicate 8 none
  statics := none }

/-- the primitive byte -/
def k5 : Class := { plain "byte" none with kind := .primitive 'B', accessFlags := 0x411 }
/-- [B -/
def k6 : Class := { plain "[B" (some 0) with kind := .array 5 .byte, interfaces := #[3, 4], accessFlags := 1041 }

/-- the primitive int -/
def k7 : Class := { plain "int" none with kind := .primitive 'I', accessFlags := 0x411 }
/-- [I -/
def k8 : Class := { plain "[I" (some 0) with kind := .array 7 .int, interfaces := #[3, 4], accessFlags := 1041 }

def heap : Heap := #[]
def classes : Array Class := #[k0, k1, k2, k3, k4, k5, k6, k7, k8]
def interned : List (Array UInt16 × Addr) := []
def slotsUsed : Nat := 0
def theMethod : MethodId := ⟨1, 1⟩
def args0 : Array Value := #[.int 65]
def aboutOver (below : List Frame) : State where
  vm := { classes := classes, interned := interned.toArray }
  heap := heap
  slotsUsed := slotsUsed
  threads := #[{ frames := .invoking theMethod args0 :: below }]
def below0 : List Frame := [.native { method := ⟨0, 0⟩, args := #[] }]
def about1 : State := aboutOver below0
def p0 : Program := .bare "" "" ""
def e0 : Env := launch0.env 0 0 0
theorem w_frames : about1.frames = Frame.invoking theMethod args0 :: below0 := rfl
set_option maxRecDepth 65536 in
theorem w_args : argsFit about1.vm theMethod args0 = true := by decide +kernel
set_option maxRecDepth 65536 in
theorem w_heap : heapFits about1 = true := by decide +kernel
set_option maxRecDepth 65536 in
theorem w_runnable : about1.curStatus? = some .runnable := by decide +kernel
set_option maxRecDepth 65536 in
theorem w_alone : about1.alone = true := by decide +kernel
set_option maxRecDepth 65536 in
theorem w_named : about1.methodNamed? x = some theMethod := by decide +kernel
set_option maxRecDepth 65536 in
theorem w_hears : about1.hears theMethod below0 = true := by decide +kernel
set_option maxRecDepth 65536 in
theorem w_ripe : about1.ripe theMethod args0 below0 = true := by decide +kernel
theorem w_running : about1.status = .running := rfl
set_option maxRecDepth 65536 in
theorem w_room : about1.hasRoom e0.platform room_1 = true :=
  launch0.hasRoom_least _ room_1 (by decide +kernel) (by decide +kernel) (by decide +kernel) (by decide +kernel) (by decide +kernel) (by decide +kernel)
theorem allAtoms_all (ts : List Jvm.Cond) (a : Array Jvm.Value) (st : Jvm.State) : (allAtoms ts).before a st = ts.all (fun c => c.before a st) := by
  induction ts with
  | nil => rfl
  | cons c t ih =>
    show (Jvm.Cond.and c (allAtoms t)).before a st = _
    rw [Jvm.Cond.before_and, ih, List.all_cons]
def words1 : List Jvm.Cond := Jvm.Cond.code x code maxLocals ret :: tables_1
/-- a 'code' word, met by the world's own term for the bytes: nothing is compared byte by byte -/
theorem code_word {y : MethodName} {bytes : ByteArray} {mx : Nat} {rt : Option FieldType} {a : Array Value} {s : State} {m : MethodId} {meth : Method} {c : Code} (h1 : s.methodNamed? y = some m) (h2 : s.vm.method? m = some meth) (h3 : meth.code = some c) (h4 : c.code = bytes)
    (h5 : (c.maxLocals == mx && c.exceptionTable.isEmpty && decide (c.maxStack ≤ mostOperands) && decide (meth.sig.returnType = rt) && !meth.locks && decide (parseMethodDescriptor y.desc = some meth.sig)) = true) : (Jvm.Cond.code y bytes mx rt).before a s = true := by
  simp only [Bool.and_eq_true, beq_iff_eq, Bool.not_eq_true', decide_eq_true_eq] at h5
  obtain ⟨⟨⟨⟨⟨g1, g2⟩, g3⟩, g4⟩, g5⟩, g6⟩ := h5
  simp [Cond.before, Cond.holds, Cond.value, h1, h2, h3, h4, g1, g2, g3, g4, g5, g6]
def isCode : Jvm.Cond → Bool
  | .code _ _ _ _ => true
  | _ => false
theorem all_split {L : List Jvm.Cond} {P : Jvm.Cond → Bool} (h1 : L.all (fun c => isCode c || P c) = true) (h2 : ∀ c ∈ L.filter isCode, P c = true) : L.all P = true := by
  refine List.all_eq_true.mpr fun c hc => ?_
  have h := List.all_eq_true.mp h1 c hc
  rcases Bool.eq_false_or_eq_true (isCode c) with hi | hi
  · exact h2 c (List.mem_filter.mpr ⟨hc, hi⟩)
  · simpa [hi] using h
set_option maxRecDepth 65536 in
theorem w_c0 : (Jvm.Cond.code x code maxLocals ret).before args0 about1 = true := code_word (m := ⟨1, 1⟩) (meth := k1m1) (c := k1c1) (by decide +kernel) rfl rfl rfl (by decide +kernel)
set_option maxRecDepth 65536 in
theorem w_c1 : (Jvm.Cond.code ({ cls := "com/example/lean_route/leanroute/Ascii", name := "isLetterOrDigit", desc := "(C)Z" } : Jvm.MethodName) prog_1_method_2_code (1 : Nat) (Option.some Jvm.ClassFile.FieldType.boolean)).before args0 about1 = true := code_word (m := ⟨2, 1⟩) (meth := k2m1) (c := k2c1) (by decide +kernel) rfl rfl rfl (by decide +kernel)
def codes1 : List Jvm.Cond := [Jvm.Cond.code x code maxLocals ret, Jvm.Cond.code ({ cls := "com/example/lean_route/leanroute/Ascii", name := "isLetterOrDigit", desc := "(C)Z" } : Jvm.MethodName) prog_1_method_2_code (1 : Nat) (Option.some Jvm.ClassFile.FieldType.boolean)]
set_option maxRecDepth 65536 in
theorem codes_eq : words1.filter isCode = codes1 := rfl
theorem w_codes : ∀ c ∈ words1.filter isCode, c.before args0 about1 = true := by
  rw [codes_eq]
  intro c hc
  simp only [codes1, List.mem_cons, List.not_mem_nil, or_false] at hc
  rcases hc with rfl | rfl
  · exact w_c0
  · exact w_c1
set_option maxRecDepth 65536 in
theorem w_t1 : words1.all (fun c => isCode c || c.before args0 about1) = true := by decide +kernel
theorem w_tables : (allAtoms (Jvm.Cond.code x code maxLocals ret :: tables_1)).before args0 about1 = true := by
  rw [allAtoms_all]
  show words1.all (fun c => c.before args0 about1) = true
  refine all_split ?_ w_codes
  rw [w_t1]
set_option maxRecDepth 65536 in
theorem w_case : (Jvm.Cond.and given_1 narrow_1).before args0 about1 = true := by decide +kernel
theorem w_applies : (headSpec (Jvm.Cond.code x code maxLocals ret :: tables_1) room_1).applies x e0.platform about1 = true :=
  (Spec.applies_iff w_frames).mpr ⟨w_running, w_runnable, w_alone, w_named, w_hears, w_ripe, w_room, w_tables⟩
theorem atStart : AtStart classFile x code maxLocals ret World_1 tables_1 room_1 Calls_1 rest_1 Pre_1 launch0 p0 e0 about1 theMethod args0 below0 :=
  ⟨lists_1, trivial, launch0.admits_env _ _ _, launch0.least_env, fairChoices_fair.cas, fairChoices_fair.clock, w_frames, w_args, w_heap, w_applies, trivial, trivial, w_case⟩
end start1
theorem witness_1 : WitnessClaimed_1 := ⟨start1.p0, start1.e0, start1.about1, start1.theMethod, start1.args0, start1.below0, start1.atStart⟩
end Jvm.Pilot.@@N@@
