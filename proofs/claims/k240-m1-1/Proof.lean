import JvmDerived
import JvmDerived.Pilot.@@N@@Statement
import JvmDerived.Pilot.@@N@@Code
set_option linter.unusedVariables false
set_option linter.unusedSimpArgs false
namespace Jvm.Pilot.@@N@@
open Jvm Jvm.ClassFile Sem Op Lib Jvm.Free Jvm.Stand Jvm.LawKit Jvm.RoadKit Bundle Jvm.Pilot.@@N@@.Jvm.D
section OwnKit
variable {p : Program} {l : Launch} {e : Env} {R : Room} {s : State} {m : MethodId} {args : Array Value} {below : List Frame} {meth : Method} {c : Code} {T : State} {cells slots : Nat} {P : State → Outcome → Prop}
variable {Z : State} {a0 : Array Value} {h h0 : Heap} {n0 : Nat} {own nm : String} {bytes : ByteArray} {maxL : Nat} {ret : Option FieldType}
variable {pc pc' : Nat} {Ls : Array Slot} {st : List Value}
/-- from the state U the run comes to an end that P allows -/
def own_Go (p : Program) (e : Env) (below : List Frame) (U : State) (P : State → Outcome → Prop) : Prop := ∃ a o, Steps p.tables e below U a ∧ P a o
theorem own_by {U U' : State} (q : ∀ t, Steps p.tables e below U' t → Steps p.tables e below U t) (G : own_Go p e below U' P) : own_Go p e below U P := by
  obtain ⟨a, o, h1, h2⟩ := G
  exact ⟨a, o, q a h1, h2⟩
/-- what stays the same in one body -/
def own_B (p : Program) (s : State) (m : MethodId) (meth : Method) (c : Code) (Z : State) (own nm : String) (bytes : ByteArray) (maxL : Nat) (ret : Option FieldType) : Prop :=
  p.tables.exec = Jvm.exec ∧ Z.Warmed39 s.vm ∧ c.maxLocals = maxL ∧ s.vm.findClass own = some m.cls ∧ meth.sig.returnType = ret ∧ meth.locks = false ∧ meth.name = nm ∧ c.code = bytes
/-- where the run stands: the state T, its heap h; nothing below n0 has been written -/
def own_S (p : Program) (l : Launch) (e : Env) (R : Room) (s : State) (m : MethodId) (args : Array Value) (below : List Frame) (meth : Method) (c : Code) (n0 : Nat) (T : State) (h : Heap) (cells slots : Nat) : Prop :=
  ∃ locs, Stand p l e R s m args below meth c T locs cells slots ∧ T.heap = h ∧ Fr n0 locs
/-- what a body owes at its end -/
def own_P (s : State) (below : List Frame) (n0 : Nat) (Q : Option Value → Heap → Prop) (k n : Nat) (a : State) (o : Outcome) : Prop :=
  a.status = .running ∧ Ended a below o ∧ ∃ v L, o = .returned v ∧ (Fr n0 L ∧ Q v a.heap) ∧ FrameEnd s o a L k n
theorem own_iload (B : own_B p s m meth c Z own nm bytes maxL ret) (X : own_S p l e R s m args below meth c n0 T h cells slots) {k : Nat} {v : Int32} (d : decode bytes pc = .ok (.iload k, 2)) (hp : pc + 2 = pc') (hl : Ls[k]? = some (.val (.int v)))
    (G : own_Go p e below (T.setTop (mkF m pc' Ls (.int v :: st))) P) : own_Go p e below (T.setTop (mkF m pc Ls (st))) P := by
  obtain ⟨locs, X, -, -⟩ := X
  subst hp
  exact own_by (fun _ => XS.iload X.here B.1 rfl (hb B.2.2.2.2.2.2.2 d) hl) G
theorem own_iloadN (B : own_B p s m meth c Z own nm bytes maxL ret) (X : own_S p l e R s m args below meth c n0 T h cells slots) {k : Fin 4} {v : Int32} (d : decode bytes pc = .ok (.iload_n k, 1)) (hp : pc + 1 = pc') (hl : Ls[k.val]? = some (.val (.int v)))
    (G : own_Go p e below (T.setTop (mkF m pc' Ls (.int v :: st))) P) : own_Go p e below (T.setTop (mkF m pc Ls (st))) P := by
  obtain ⟨locs, X, -, -⟩ := X
  subst hp
  exact own_by (fun _ => XS.iloadN X.here B.1 rfl (hb B.2.2.2.2.2.2.2 d) hl) G
theorem own_aload (B : own_B p s m meth c Z own nm bytes maxL ret) (X : own_S p l e R s m args below meth c n0 T h cells slots) {k : Nat} {v : Value} (d : decode bytes pc = .ok (.aload k, 2)) (hp : pc + 2 = pc') (hl : Ls[k]? = some (.val v)) (hv : v.isRef = true)
    (G : own_Go p e below (T.setTop (mkF m pc' Ls (v :: st))) P) : own_Go p e below (T.setTop (mkF m pc Ls (st))) P := by
  obtain ⟨locs, X, -, -⟩ := X
  subst hp
  exact own_by (fun _ => XS.aload X.here B.1 rfl (hb B.2.2.2.2.2.2.2 d) hl hv) G
theorem own_aloadN (B : own_B p s m meth c Z own nm bytes maxL ret) (X : own_S p l e R s m args below meth c n0 T h cells slots) {k : Fin 4} {v : Value} (d : decode bytes pc = .ok (.aload_n k, 1)) (hp : pc + 1 = pc') (hl : Ls[k.val]? = some (.val v)) (hv : v.isRef = true)
    (G : own_Go p e below (T.setTop (mkF m pc' Ls (v :: st))) P) : own_Go p e below (T.setTop (mkF m pc Ls (st))) P := by
  obtain ⟨locs, X, -, -⟩ := X
  subst hp
  exact own_by (fun _ => XS.aloadN X.here B.1 rfl (hb B.2.2.2.2.2.2.2 d) hl hv) G
theorem own_istore (B : own_B p s m meth c Z own nm bytes maxL ret) (X : own_S p l e R s m args below meth c n0 T h cells slots) {k : Nat} {v : Int32} {Ls' : Array Slot} (d : decode bytes pc = .ok (.istore k, 2)) (hp : pc + 2 = pc') (hl : storeLocals Ls k (.int v) = some Ls')
    (G : own_Go p e below (T.setTop (mkF m pc' Ls' st)) P) : own_Go p e below (T.setTop (mkF m pc Ls (.int v :: st))) P := by
  obtain ⟨locs, X, -, -⟩ := X
  subst hp
  exact own_by (fun _ => XS.istore X.here B.1 rfl (hb B.2.2.2.2.2.2.2 d) rfl hl) G
theorem own_istoreN (B : own_B p s m meth c Z own nm bytes maxL ret) (X : own_S p l e R s m args below meth c n0 T h cells slots) {k : Fin 4} {v : Int32} {Ls' : Array Slot} (d : decode bytes pc = .ok (.istore_n k, 1)) (hp : pc + 1 = pc') (hl : storeLocals Ls k.val (.int v) = some Ls')
    (G : own_Go p e below (T.setTop (mkF m pc' Ls' st)) P) : own_Go p e below (T.setTop (mkF m pc Ls (.int v :: st))) P := by
  obtain ⟨locs, X, -, -⟩ := X
  subst hp
  exact own_by (fun _ => XS.istoreN X.here B.1 rfl (hb B.2.2.2.2.2.2.2 d) rfl hl) G
theorem own_astore (B : own_B p s m meth c Z own nm bytes maxL ret) (X : own_S p l e R s m args below meth c n0 T h cells slots) {k : Nat} {v : Value} {Ls' : Array Slot} (d : decode bytes pc = .ok (.astore k, 2)) (hp : pc + 2 = pc') (hv : v.isRef = true) (hl : storeLocals Ls k (v) = some Ls')
    (G : own_Go p e below (T.setTop (mkF m pc' Ls' st)) P) : own_Go p e below (T.setTop (mkF m pc Ls (v :: st))) P := by
  obtain ⟨locs, X, -, -⟩ := X
  subst hp
  exact own_by (fun _ => XS.astore X.here B.1 rfl (hb B.2.2.2.2.2.2.2 d) rfl hv hl) G
theorem own_astoreN (B : own_B p s m meth c Z own nm bytes maxL ret) (X : own_S p l e R s m args below meth c n0 T h cells slots) {k : Fin 4} {v : Value} {Ls' : Array Slot} (d : decode bytes pc = .ok (.astore_n k, 1)) (hp : pc + 1 = pc') (hv : v.isRef = true) (hl : storeLocals Ls k.val (v) = some Ls')
    (G : own_Go p e below (T.setTop (mkF m pc' Ls' st)) P) : own_Go p e below (T.setTop (mkF m pc Ls (v :: st))) P := by
  obtain ⟨locs, X, -, -⟩ := X
  subst hp
  exact own_by (fun _ => XS.astoreN X.here B.1 rfl (hb B.2.2.2.2.2.2.2 d) rfl hv hl) G
theorem own_iinc (B : own_B p s m meth c Z own nm bytes maxL ret) (X : own_S p l e R s m args below meth c n0 T h cells slots) {k : Nat} {i : Int} {x z : Int32} {Ls' : Array Slot} (d : decode bytes pc = .ok (.iinc k i, 3)) (hp : pc + 3 = pc') (hl : Ls[k]? = some (.val (.int x))) (hz : x + Int32.ofInt i = z) (hs : storeLocals Ls k (.int z) = some Ls')
    (G : own_Go p e below (T.setTop (mkF m pc' Ls' st)) P) : own_Go p e below (T.setTop (mkF m pc Ls st)) P := by
  obtain ⟨locs, X, -, -⟩ := X
  subst hp hz
  exact own_by (fun _ => XS.iinc X.here B.1 rfl (hb B.2.2.2.2.2.2.2 d) hl hs) G
theorem own_iconst (B : own_B p s m meth c Z own nm bytes maxL ret) (X : own_S p l e R s m args below meth c n0 T h cells slots) {i : Int} {z : Int32} (d : decode bytes pc = .ok (.iconst i, 1)) (hp : pc + 1 = pc') (hz : Int32.ofInt i = z)
    (G : own_Go p e below (T.setTop (mkF m pc' Ls (.int z :: st))) P) : own_Go p e below (T.setTop (mkF m pc Ls (st))) P := by
  obtain ⟨locs, X, -, -⟩ := X
  subst hp
  subst hz
  exact own_by (fun _ => XS.iconst X.here B.1 rfl (hb B.2.2.2.2.2.2.2 d)) G
theorem own_bipush (B : own_B p s m meth c Z own nm bytes maxL ret) (X : own_S p l e R s m args below meth c n0 T h cells slots) {i : Int} {z : Int32} (d : decode bytes pc = .ok (.bipush i, 2)) (hp : pc + 2 = pc') (hz : (Int8.ofInt i).toInt32 = z)
    (G : own_Go p e below (T.setTop (mkF m pc' Ls (.int z :: st))) P) : own_Go p e below (T.setTop (mkF m pc Ls (st))) P := by
  obtain ⟨locs, X, -, -⟩ := X
  subst hp
  subst hz
  exact own_by (fun _ => XS.bipush X.here B.1 rfl (hb B.2.2.2.2.2.2.2 d)) G
theorem own_ldcI (B : own_B p s m meth c Z own nm bytes maxL ret) (X : own_S p l e R s m args below meth c n0 T h cells slots) {i : Nat} {z : Int32} (w : (Cond.constant own i z).before a0 Z = true) (d : decode bytes pc = .ok (.ldc i, 2)) (hp : pc + 2 = pc') 
    (G : own_Go p e below (T.setTop (mkF m pc' Ls (.int z :: st))) P) : own_Go p e below (T.setTop (mkF m pc Ls (st))) P := by
  obtain ⟨locs, X, -, -⟩ := X
  subst hp
  exact own_by (fun _ => X.ldcInt B.1 B.2.2.2.1 (mvT B.2.1 w) (g := mkF m pc Ls st) rfl (hb B.2.2.2.2.2.2.2 d) _) G
theorem own_ldcF (B : own_B p s m meth c Z own nm bytes maxL ret) (X : own_S p l e R s m args below meth c n0 T h cells slots) {i : Nat} {z : UInt32} (w : (Cond.constantFloat own i z).before a0 Z = true) (d : decode bytes pc = .ok (.ldc i, 2)) (hp : pc + 2 = pc') 
    (G : own_Go p e below (T.setTop (mkF m pc' Ls (.float z :: st))) P) : own_Go p e below (T.setTop (mkF m pc Ls (st))) P := by
  obtain ⟨locs, X, -, -⟩ := X
  subst hp
  exact own_by (fun _ => X.ldcFloatC B.1 B.2.2.2.1 (mvT B.2.1 w) (g := mkF m pc Ls st) rfl (hb B.2.2.2.2.2.2.2 d) _) G
theorem own_iadd (B : own_B p s m meth c Z own nm bytes maxL ret) (X : own_S p l e R s m args below meth c n0 T h cells slots) {x y z : Int32} (d : decode bytes pc = .ok (.iadd, 1)) (hp : pc + 1 = pc') (hz : x + y = z)
    (G : own_Go p e below (T.setTop (mkF m pc' Ls (.int z :: st))) P) : own_Go p e below (T.setTop (mkF m pc Ls (.int y :: .int x :: st))) P := by
  obtain ⟨locs, X, -, -⟩ := X
  subst hp
  subst hz
  exact own_by (fun _ => XS.iadd X.here B.1 rfl (hb B.2.2.2.2.2.2.2 d) rfl) G
theorem own_isub (B : own_B p s m meth c Z own nm bytes maxL ret) (X : own_S p l e R s m args below meth c n0 T h cells slots) {x y z : Int32} (d : decode bytes pc = .ok (.isub, 1)) (hp : pc + 1 = pc') (hz : x - y = z)
    (G : own_Go p e below (T.setTop (mkF m pc' Ls (.int z :: st))) P) : own_Go p e below (T.setTop (mkF m pc Ls (.int y :: .int x :: st))) P := by
  obtain ⟨locs, X, -, -⟩ := X
  subst hp
  subst hz
  exact own_by (fun _ => XS.isub X.here B.1 rfl (hb B.2.2.2.2.2.2.2 d) rfl) G
theorem own_imul (B : own_B p s m meth c Z own nm bytes maxL ret) (X : own_S p l e R s m args below meth c n0 T h cells slots) {x y z : Int32} (d : decode bytes pc = .ok (.imul, 1)) (hp : pc + 1 = pc') (hz : x * y = z)
    (G : own_Go p e below (T.setTop (mkF m pc' Ls (.int z :: st))) P) : own_Go p e below (T.setTop (mkF m pc Ls (.int y :: .int x :: st))) P := by
  obtain ⟨locs, X, -, -⟩ := X
  subst hp
  subst hz
  exact own_by (fun _ => XS.imul X.here B.1 rfl (hb B.2.2.2.2.2.2.2 d) rfl) G
theorem own_iand (B : own_B p s m meth c Z own nm bytes maxL ret) (X : own_S p l e R s m args below meth c n0 T h cells slots) {x y z : Int32} (d : decode bytes pc = .ok (.iand, 1)) (hp : pc + 1 = pc') (hz : x &&& y = z)
    (G : own_Go p e below (T.setTop (mkF m pc' Ls (.int z :: st))) P) : own_Go p e below (T.setTop (mkF m pc Ls (.int y :: .int x :: st))) P := by
  obtain ⟨locs, X, -, -⟩ := X
  subst hp
  subst hz
  exact own_by (fun _ => XS.iand X.here B.1 rfl (hb B.2.2.2.2.2.2.2 d) rfl) G
theorem own_ixor (B : own_B p s m meth c Z own nm bytes maxL ret) (X : own_S p l e R s m args below meth c n0 T h cells slots) {x y z : Int32} (d : decode bytes pc = .ok (.ixor, 1)) (hp : pc + 1 = pc') (hz : x ^^^ y = z)
    (G : own_Go p e below (T.setTop (mkF m pc' Ls (.int z :: st))) P) : own_Go p e below (T.setTop (mkF m pc Ls (.int y :: .int x :: st))) P := by
  obtain ⟨locs, X, -, -⟩ := X
  subst hp
  subst hz
  exact own_by (fun _ => XS.ixor X.here B.1 rfl (hb B.2.2.2.2.2.2.2 d) rfl) G
theorem own_iushr (B : own_B p s m meth c Z own nm bytes maxL ret) (X : own_S p l e R s m args below meth c n0 T h cells slots) {x y z : Int32} (d : decode bytes pc = .ok (.iushr, 1)) (hp : pc + 1 = pc') (hz : (x.toUInt32 >>> (y &&& 31).toUInt32).toInt32 = z)
    (G : own_Go p e below (T.setTop (mkF m pc' Ls (.int z :: st))) P) : own_Go p e below (T.setTop (mkF m pc Ls (.int y :: .int x :: st))) P := by
  obtain ⟨locs, X, -, -⟩ := X
  subst hp
  subst hz
  exact own_by (fun _ => XS.iushr X.here B.1 rfl (hb B.2.2.2.2.2.2.2 d) rfl) G
theorem own_idiv (B : own_B p s m meth c Z own nm bytes maxL ret) (X : own_S p l e R s m args below meth c n0 T h cells slots) {x y z : Int32} (d : decode bytes pc = .ok (.idiv, 1)) (hp : pc + 1 = pc') (hy : y ≠ 0) (hz : x / y = z)
    (G : own_Go p e below (T.setTop (mkF m pc' Ls (.int z :: st))) P) : own_Go p e below (T.setTop (mkF m pc Ls (.int y :: .int x :: st))) P := by
  obtain ⟨locs, X, -, -⟩ := X
  subst hp
  subst hz
  exact own_by (fun _ => XS.idiv X.here B.1 rfl (hb B.2.2.2.2.2.2.2 d) rfl hy) G
theorem own_dup (B : own_B p s m meth c Z own nm bytes maxL ret) (X : own_S p l e R s m args below meth c n0 T h cells slots) {v : Value} (d : decode bytes pc = .ok (.dup, 1)) (hp : pc + 1 = pc') (hv : v.category = 1)
    (G : own_Go p e below (T.setTop (mkF m pc' Ls (v :: v :: st))) P) : own_Go p e below (T.setTop (mkF m pc Ls (v :: st))) P := by
  obtain ⟨locs, X, -, -⟩ := X
  subst hp
  exact own_by (fun _ => XS.dup X.here B.1 rfl (hb B.2.2.2.2.2.2.2 d) rfl hv) G
theorem own_pop (B : own_B p s m meth c Z own nm bytes maxL ret) (X : own_S p l e R s m args below meth c n0 T h cells slots) {v : Value} (d : decode bytes pc = .ok (.pop, 1)) (hp : pc + 1 = pc') (hv : v.category = 1)
    (G : own_Go p e below (T.setTop (mkF m pc' Ls (st))) P) : own_Go p e below (T.setTop (mkF m pc Ls (v :: st))) P := by
  obtain ⟨locs, X, -, -⟩ := X
  subst hp
  exact own_by (fun _ => XS.pop X.here B.1 rfl (hb B.2.2.2.2.2.2.2 d) rfl hv) G
theorem own_dup_x1 (B : own_B p s m meth c Z own nm bytes maxL ret) (X : own_S p l e R s m args below meth c n0 T h cells slots) {v w : Value} (d : decode bytes pc = .ok (.dup_x1, 1)) (hp : pc + 1 = pc') (hv : v.category = 1) (hw : w.category = 1)
    (G : own_Go p e below (T.setTop (mkF m pc' Ls (v :: w :: v :: st))) P) : own_Go p e below (T.setTop (mkF m pc Ls (v :: w :: st))) P := by
  obtain ⟨locs, X, -, -⟩ := X
  subst hp
  exact own_by (fun _ => XS.dupX1 X.here B.1 rfl (hb B.2.2.2.2.2.2.2 d) rfl hv hw) G
theorem own_goto (B : own_B p s m meth c Z own nm bytes maxL ret) (X : own_S p l e R s m args below meth c n0 T h cells slots) {o : Int} (d : decode bytes pc = .ok (.goto o, 3)) (ho : 0 ≤ (pc : Int) + o) (hp : ((pc : Int) + o).toNat = pc')
    (G : own_Go p e below (T.setTop (mkF m pc' Ls st)) P) : own_Go p e below (T.setTop (mkF m pc Ls st)) P := by
  obtain ⟨locs, X, -, -⟩ := X
  exact own_by (fun _ => XS.goto X.here B.1 rfl (pc0 := pc) rfl (hb B.2.2.2.2.2.2.2 d) ho hp) G
theorem own_ifYes (B : own_B p s m meth c Z own nm bytes maxL ret) (X : own_S p l e R s m args below meth c n0 T h cells slots) {cd : ClassFile.Cond} {o : Int} {x : Int32} (d : decode bytes pc = .ok (.ifCond cd o, 3)) (hc : ifCond.holds cd x = true) (ho : 0 ≤ (pc : Int) + o) (hp : ((pc : Int) + o).toNat = pc')
    (G : own_Go p e below (T.setTop (mkF m pc' Ls st)) P) : own_Go p e below (T.setTop (mkF m pc Ls (.int x :: st))) P := by
  obtain ⟨locs, X, -, -⟩ := X
  exact own_by (fun _ => XS.ifYes X.here B.1 rfl (pc0 := pc) rfl (hb B.2.2.2.2.2.2.2 d) rfl hc ho hp) G
theorem own_ifNo (B : own_B p s m meth c Z own nm bytes maxL ret) (X : own_S p l e R s m args below meth c n0 T h cells slots) {cd : ClassFile.Cond} {o : Int} {x : Int32} (d : decode bytes pc = .ok (.ifCond cd o, 3)) (hc : ifCond.holds cd x = false) (hp : pc + 3 = pc')
    (G : own_Go p e below (T.setTop (mkF m pc' Ls st)) P) : own_Go p e below (T.setTop (mkF m pc Ls (.int x :: st))) P := by
  obtain ⟨locs, X, -, -⟩ := X
  subst hp
  exact own_by (fun _ => XS.ifNo X.here B.1 rfl (hb B.2.2.2.2.2.2.2 d) rfl hc) G
theorem own_icmpYes (B : own_B p s m meth c Z own nm bytes maxL ret) (X : own_S p l e R s m args below meth c n0 T h cells slots) {cd : ClassFile.Cond} {o : Int} {x y : Int32} (d : decode bytes pc = .ok (.if_icmp cd o, 3)) (hc : if_icmp.holds cd x y = true) (ho : 0 ≤ (pc : Int) + o) (hp : ((pc : Int) + o).toNat = pc')
    (G : own_Go p e below (T.setTop (mkF m pc' Ls st)) P) : own_Go p e below (T.setTop (mkF m pc Ls (.int y :: .int x :: st))) P := by
  obtain ⟨locs, X, -, -⟩ := X
  exact own_by (fun _ => XS.icmpYes X.here B.1 rfl (pc0 := pc) rfl (hb B.2.2.2.2.2.2.2 d) rfl hc ho hp) G
theorem own_icmpNo (B : own_B p s m meth c Z own nm bytes maxL ret) (X : own_S p l e R s m args below meth c n0 T h cells slots) {cd : ClassFile.Cond} {o : Int} {x y : Int32} (d : decode bytes pc = .ok (.if_icmp cd o, 3)) (hc : if_icmp.holds cd x y = false) (hp : pc + 3 = pc')
    (G : own_Go p e below (T.setTop (mkF m pc' Ls st)) P) : own_Go p e below (T.setTop (mkF m pc Ls (.int y :: .int x :: st))) P := by
  obtain ⟨locs, X, -, -⟩ := X
  subst hp
  exact own_by (fun _ => XS.icmpNo X.here B.1 rfl (hb B.2.2.2.2.2.2.2 d) rfl hc) G
theorem own_ifnullYes (B : own_B p s m meth c Z own nm bytes maxL ret) (X : own_S p l e R s m args below meth c n0 T h cells slots) {o : Int} (d : decode bytes pc = .ok (.ifnull o, 3)) (ho : 0 ≤ (pc : Int) + o) (hp : ((pc : Int) + o).toNat = pc')
    (G : own_Go p e below (T.setTop (mkF m pc' Ls st)) P) : own_Go p e below (T.setTop (mkF m pc Ls (.null :: st))) P := by
  obtain ⟨locs, X, -, -⟩ := X
  exact own_by (fun _ => XS.ifnullYes X.here B.1 rfl (pc0 := pc) rfl (hb B.2.2.2.2.2.2.2 d) rfl ho hp) G
theorem own_ifnonnullNo (B : own_B p s m meth c Z own nm bytes maxL ret) (X : own_S p l e R s m args below meth c n0 T h cells slots) {o : Int} (d : decode bytes pc = .ok (.ifnonnull o, 3)) (hp : pc + 3 = pc')
    (G : own_Go p e below (T.setTop (mkF m pc' Ls st)) P) : own_Go p e below (T.setTop (mkF m pc Ls (.null :: st))) P := by
  obtain ⟨locs, X, -, -⟩ := X
  subst hp
  exact own_by (fun _ => XS.ifnonnullNo X.here B.1 rfl (hb B.2.2.2.2.2.2.2 d) rfl) G
theorem own_acmp (B : own_B p s m meth c Z own nm bytes maxL ret) (X : own_S p l e R s m args below meth c n0 T h cells slots) {cd : ACond} {x y : Value} (h1 : x.isRef = true) (h2 : y.isRef = true) {o : Int} {same : Bool} (d : decode bytes pc = .ok (.if_acmp cd o, 3)) (hq : decide (x = y) = same) (ho : 0 ≤ (pc : Int) + o) (hp : pc' = if acV cd same = true then ((pc : Int) + o).toNat else pc + 3)
    (G : own_Go p e below (T.setTop (mkF m pc' Ls st)) P) : own_Go p e below (T.setTop (mkF m pc Ls (y :: x :: st))) P := by
  obtain ⟨locs, X, -, -⟩ := X
  exact own_by (fun _ => Jvm.RoadKit.acmp (g := mkF m pc Ls (y :: x :: st)) X B.1 rfl h1 h2 (pc0 := pc) rfl (hb B.2.2.2.2.2.2.2 d) rfl hq ho hp) G
theorem own_arraylength (B : own_B p s m meth c Z own nm bytes maxL ret) (X : own_S p l e R s m args below meth c n0 T h cells slots) {a : Addr} {k : ClassId} {z : Int32} {vs : List Value} {dv : Value} {ty : FieldType} (V : Arv Z h a k ty z vs dv) (d : decode bytes pc = .ok (.arraylength, 1)) (hp : pc + 1 = pc')
    (G : own_Go p e below (T.setTop (mkF m pc' Ls (.int z :: st))) P) : own_Go p e below (T.setTop (mkF m pc Ls (.ref a :: st))) P := by
  obtain ⟨locs, X, eT, -⟩ := X
  subst hp
  obtain ⟨cl, A, -, S, N, -, -⟩ := V
  refine own_by (fun t ht => ?_) G
  refine X.arraylength B.1 (by rw [eT]; exact A.1) (State.isArrayOf_alike B.2.1.alike A.2.1) (g := mkF m pc Ls (.ref a :: st)) rfl rfl (hb B.2.2.2.2.2.2.2 d) _ ?_
  rw [len_of S N]; exact ht
theorem own_iaload (B : own_B p s m meth c Z own nm bytes maxL ret) (X : own_S p l e R s m args below meth c n0 T h cells slots) {a : Addr} {k : ClassId} {z : Int32} {vs : List Value} {dv : Value} {j : Int32} {v : Value} (V : Arv Z h a k .int z vs dv) (hj : ¬ j < 0 ∧ j < z) (hv : vs.getD j.toNatClampNeg dv = v) (d : decode bytes pc = .ok (.iaload, 1)) (hp : pc + 1 = pc')
    (G : own_Go p e below (T.setTop (mkF m pc' Ls (v :: st))) P) : own_Go p e below (T.setTop (mkF m pc Ls (.int j :: .ref a :: st))) P := by
  obtain ⟨locs, X, eT, -⟩ := X
  subst hp
  obtain ⟨cl, A, -, S, N, H, -⟩ := V
  have hin := inb_of S hj
  exact own_by (fun t => X.iaload B.1 (j := j) (v := v) (by rw [eT]; exact A.1) (State.isArrayOf_alike B.2.1.alike A.2.1) A.2.2 hin (H.at hin hv) (g := mkF m pc Ls (.int j :: .ref a :: st)) rfl rfl (hb B.2.2.2.2.2.2.2 d) t) G
theorem own_iastore (B : own_B p s m meth c Z own nm bytes maxL ret) (X : own_S p l e R s m args below meth c n0 T h cells slots) {a : Addr} {k : ClassId} {z : Int32} {vs : List Value} {dv : Value} {j : Int32} {x x' : Int32} (V : Arv Z h a k .int z vs dv) (ge : n0 ≤ a) (hj : ¬ j < 0 ∧ j < z) (i : Nat) (hi : j.toNatClampNeg = i) (hl : i < vs.length) (hz : x = x') (d : decode bytes pc = .ok (.iastore, 1)) (hp : pc + 1 = pc')
    (G : ∀ T' h', own_S p l e R s m args below meth c n0 T' h' cells slots → Wr h h' a i (.int x') → Arv Z h' a k .int z (vs.set i (.int x')) dv → own_Go p e below (T'.setTop (mkF m pc' Ls st)) P) : own_Go p e below (T.setTop (mkF m pc Ls (.int x :: .int j :: .ref a :: st))) P := by
  obtain ⟨locs, X, eT, N0⟩ := X
  subst hp hi hz
  obtain ⟨cl, A, q, S, N, H, F⟩ := V
  have hin := inb_of S hj
  obtain ⟨T', h', X', e', W, st'⟩ := stI X B.1 B.2.1 eT A (j := j) hin (g := mkF m pc Ls (.int x :: .int j :: .ref a :: st)) rfl rfl (hb B.2.2.2.2.2.2.2 d)
  exact own_by st' (G T' h' ⟨_, X', e', Fr.snoc X' N0 ge⟩ W (Arv.set A q S N H F rfl W _ rfl hl))
theorem own_newarray (B : own_B p s m meth c Z own nm bytes maxL ret) (X : own_S p l e R s m args below meth c n0 T h cells slots) {aty : ArrayType} {t : FieldType} (w : (Cond.arrayClass t).before a0 Z = true) (d : decode bytes pc = .ok (.newarray aty, 2)) (hp : pc + 2 = pc') (hty : newarray.typeOf aty = t) {z : Int32} (hz : ¬ z < 0) (cap : Nat) (hcap : z.toNatClampNeg ≤ cap) (hbig : cap * 8 ≤ 536870912) {k' n' : Nat} (hk : cells + 1 = k') (hn : slots + cap = n') (hkR : k' ≤ R.cells) (hnR : n' ≤ R.slots) (ad : String) (had : "[" ++ (newarray.typeOf aty).toString = ad) (dv : Value) (hdv : defaultValue t = dv)
    (G : ∀ T' h' b k, own_S p l e R s m args below meth c n0 T' h' k' n' → b = h.size → Ext h h' → Arv Z h' b k t z [] dv → Exa Z h' b ad → own_Go p e below (T'.setTop (mkF m pc' Ls (.ref b :: st))) P) : own_Go p e below (T.setTop (mkF m pc Ls (.int z :: st))) P := by
  obtain ⟨locs, X, eT, N0⟩ := X
  subst hp hk hn hdv hty
  obtain ⟨T', h', kA, X', e', E, A, A', st'⟩ := newPE X B.1 B.2.1 w eT (g := mkF m pc Ls (.int z :: st)) rfl (hb B.2.2.2.2.2.2.2 d) rfl hz (cap := cap) hcap hbig hkR hnR had
  exact own_by st' (G T' h' _ kA ⟨_, X', e', N0⟩ rfl E (Arv.new A hz) A')
theorem own_ialoadH (B : own_B p s m meth c Z own nm bytes maxL ret) (X : own_S p l e R s m args below meth c n0 T h cells slots) {a : Addr} {k : ClassId} {z : Int32} {hs : List (Int32 × Value)} {vs : List Value} {dv : Value} {j : Int32} {v : Value} (V : Arh Z h a k .int z hs vs dv) (hj : ¬ j < 0 ∧ j < z) (hv : getH hs vs dv j.toNatClampNeg = v) (d : decode bytes pc = .ok (.iaload, 1)) (hp : pc + 1 = pc')
    (G : own_Go p e below (T.setTop (mkF m pc' Ls (v :: st))) P) : own_Go p e below (T.setTop (mkF m pc Ls (.int j :: .ref a :: st))) P := by
  obtain ⟨locs, X, eT, -⟩ := X
  subst hp
  obtain ⟨cl, A, -, S, N, H, -⟩ := V
  have hin := inb_of S hj
  exact own_by (fun t => X.iaload B.1 (j := j) (v := v) (by rw [eT]; exact A.1) (State.isArrayOf_alike B.2.1.alike A.2.1) A.2.2 hin (atH H hin hv) (g := mkF m pc Ls (.int j :: .ref a :: st)) rfl rfl (hb B.2.2.2.2.2.2.2 d) t) G
theorem own_iastoreH (B : own_B p s m meth c Z own nm bytes maxL ret) (X : own_S p l e R s m args below meth c n0 T h cells slots) {a : Addr} {k : ClassId} {z : Int32} {hs : List (Int32 × Value)} {vs : List Value} {dv : Value} {j x : Int32} (V : Arh Z h a k .int z hs vs dv) (ge : n0 ≤ a) (hj : ¬ j < 0 ∧ j < z) (d : decode bytes pc = .ok (.iastore, 1)) (hp : pc + 1 = pc')
    (G : ∀ T' h', own_S p l e R s m args below meth c n0 T' h' cells slots → Wr h h' a j.toNatClampNeg (.int x) → Arh Z h' a k .int z ((j, .int x) :: hs) vs dv → own_Go p e below (T'.setTop (mkF m pc' Ls st)) P) : own_Go p e below (T.setTop (mkF m pc Ls (.int x :: .int j :: .ref a :: st))) P := by
  obtain ⟨locs, X, eT, N0⟩ := X
  subst hp
  obtain ⟨cl, A, q, S, N, H, F⟩ := V
  have hin := inb_of S hj
  obtain ⟨T', h', X', e', W, st'⟩ := stI X B.1 B.2.1 eT A (j := j) hin (g := mkF m pc Ls (.int x :: .int j :: .ref a :: st)) rfl rfl (hb B.2.2.2.2.2.2.2 d)
  exact own_by st' (G T' h' ⟨_, X', e', Fr.snoc X' N0 ge⟩ W (Arh.push A q S N H F rfl W hin))
theorem own_arraylengthH (B : own_B p s m meth c Z own nm bytes maxL ret) (X : own_S p l e R s m args below meth c n0 T h cells slots) {a : Addr} {k : ClassId} {z : Int32} {hs : List (Int32 × Value)} {vs : List Value} {dv : Value} {ty : FieldType} (V : Arh Z h a k ty z hs vs dv) (d : decode bytes pc = .ok (.arraylength, 1)) (hp : pc + 1 = pc')
    (G : own_Go p e below (T.setTop (mkF m pc' Ls (.int z :: st))) P) : own_Go p e below (T.setTop (mkF m pc Ls (.ref a :: st))) P := by
  obtain ⟨locs, X, eT, -⟩ := X
  subst hp
  obtain ⟨cl, A, -, S, N, -, -⟩ := V
  refine own_by (fun t ht => ?_) G
  refine X.arraylength B.1 (by rw [eT]; exact A.1) (State.isArrayOf_alike B.2.1.alike A.2.1) (g := mkF m pc Ls (.ref a :: st)) rfl rfl (hb B.2.2.2.2.2.2.2 d) _ ?_
  rw [len_of S N]; exact ht
theorem own_new (B : own_B p s m meth c Z own nm bytes maxL ret) (X : own_S p l e R s m args below meth c n0 T h cells slots) {C : String} {i n : Nat} (w : (Cond.classLink own i C).before a0 Z = true) (wi : (Cond.instantiable C n).before a0 Z = true) (wz : (Cond.initialized C).before a0 Z = true) (d : decode bytes pc = .ok (.new i, 3)) (hp : pc + 3 = pc') {k' n' : Nat} (hk : cells + 1 = k') (hn : slots + n = n') (hkR : k' ≤ R.cells) (hnR : n' ≤ R.slots)
    (G : ∀ T' h' b, own_S p l e R s m args below meth c n0 T' h' k' n' → b = h.size → Ext h h' → Exa Z h' b C → (∀ {O f t : String} {ty : FieldType}, Laid Z a0 C O f t → parseFieldDescriptor t = some ty → Fld Z h' b O f t (defaultValue ty)) → own_Go p e below (T'.setTop (mkF m pc' Ls (.ref b :: st))) P) : own_Go p e below (T.setTop (mkF m pc Ls st)) P := by
  obtain ⟨locs, X, eT, N0⟩ := X
  subst hp hk hn
  obtain ⟨T', h', X', e', E, A, D, -, st'⟩ := newO X B.1 B.2.1 B.2.2.2.1 w wi wz eT (g := mkF m pc Ls st) rfl (hb B.2.2.2.2.2.2.2 d) hkR hnR
  exact own_by st' (G T' h' _ ⟨_, X', e', N0⟩ rfl E A D)
theorem own_objinit (B : own_B p s m meth c Z own nm bytes maxL ret) (X : own_S p l e R s m args below meth c n0 T h cells slots) {i : Nat} {a : Addr} (w1 : (Cond.methodLink own i Lib.objectInit).before a0 Z = true) (w2 : (Cond.instanceMethod Lib.objectInit).before a0 Z = true) (w3 : (Cond.code Lib.objectInit ⟨#[0xb1]⟩ 1 none).before a0 Z = true) (d : decode bytes pc = .ok (.invokespecial i, 3)) (hp : pc + 3 = pc') (hsz : Ls.size = maxL) (hf : 1 ≤ R.frames) (W : Nat) (hW : (st.map fun v => v.category).sum ≤ W) (hl : W + 12 ≤ R.locals)
    (G : ∀ T', own_S p l e R s m args below meth c n0 T' h cells slots → own_Go p e below (T'.setTop (mkF m pc' Ls st)) P) : own_Go p e below (T.setTop (mkF m pc Ls (.ref a :: st))) P := by
  obtain ⟨locs, X, eT, N0⟩ := X
  subst hp
  obtain ⟨T', X', e', st'⟩ := initO X B.1 B.2.1 B.2.2.2.1 w1 w2 w3 eT (g := mkF m pc Ls (.ref a :: st)) rfl (by rw [B.2.2.1]; exact hsz) rfl (hb B.2.2.2.2.2.2.2 d) hf (W := W) (by show 2 * 0 + _ ≤ _; omega) hl
  exact own_by st' (G T' ⟨_, X', e', N0⟩)
theorem own_getfield (B : own_B p s m meth c Z own nm bytes maxL ret) (X : own_S p l e R s m args below meth c n0 T h cells slots) {R0 O n t : String} {host : String} {i : Nat} {a : Addr} {v : Value} (w : (Cond.fieldLink own i R0 n t).before a0 Z = true ∨ (Cond.fieldLinkNest own i R0 n t host).before a0 Z = true) (via : Via Z R0 O n t) (F : Fld Z h a O n t v) (d : decode bytes pc = .ok (.getfield i, 3)) (hp : pc + 3 = pc')
    (G : ∀ T', own_S p l e R s m args below meth c n0 T' h cells slots → own_Go p e below (T'.setTop (mkF m pc' Ls (v :: st))) P) : own_Go p e below (T.setTop (mkF m pc Ls (.ref a :: st))) P := by
  obtain ⟨locs, X, eT, N0⟩ := X
  subst hp
  obtain ⟨T', X', e', st'⟩ := getF X B.1 B.2.1 B.2.2.2.1 w via eT F (g := mkF m pc Ls (.ref a :: st)) rfl rfl (hb B.2.2.2.2.2.2.2 d)
  exact own_by st' (G T' ⟨_, X', e', N0⟩)
theorem own_putfield (B : own_B p s m meth c Z own nm bytes maxL ret) (X : own_S p l e R s m args below meth c n0 T h cells slots) {R0 O n t C : String} {host : String} {i kk : Nat} {ty : FieldType} {a : Addr} {v old : Value} (w : (Cond.fieldLink own i R0 n t).before a0 Z = true ∨ (Cond.fieldLinkNest own i R0 n t host).before a0 Z = true) (via : Via Z R0 O n t) (F : Fld Z h a O n t old) (E : Exa Z h a C) (ge : n0 ≤ a) (L : (Cond.lays C O n t).before a0 Z = true ∨ ((Cond.laysFinal C O n t).before a0 Z = true ∧ own = O ∧ nm = "<init>")) (wi : (Cond.instantiable C kk).before a0 Z = true) (hty : parseFieldDescriptor t = some ty) (hn : narrow ty v = v) (hf : fits ty v = true) (d : decode bytes pc = .ok (.putfield i, 3)) (hp : pc + 3 = pc')
    (G : ∀ T' h', own_S p l e R s m args below meth c n0 T' h' cells slots → Wr h h' a (Jvm.RoadKit.slotOf Z O n t) v → Fld Z h' a O n t v → own_Go p e below (T'.setTop (mkF m pc' Ls st)) P) : own_Go p e below (T.setTop (mkF m pc Ls (v :: .ref a :: st))) P := by
  obtain ⟨locs, X, eT, N0⟩ := X
  subst hp
  obtain ⟨T', h', X', e', W, st'⟩ := putF X B.1 B.2.1 B.2.2.2.1 w via eT F E (L.imp id fun q => ⟨q.1, q.2.1, B.2.2.2.2.2.2.1.trans q.2.2⟩) wi hty hn hf (g := mkF m pc Ls (v :: .ref a :: st)) rfl rfl (hb B.2.2.2.2.2.2.2 d)
  exact own_by st' (G T' h' ⟨_, X', e', Fr.snoc X' N0 ge⟩ W (F.same W))
theorem own_arraycopy (B : own_B p s m meth c Z own nm bytes maxL ret) (X : own_S p l e R s m args below meth c n0 T h cells slots) {i : Nat} (w1 : (Cond.methodLink own i Jvm.Stand.acN).before a0 Z = true) (w2 : (Cond.native Jvm.Stand.acN).before a0 Z = true) (w3 : (Cond.static Jvm.Stand.acN).before a0 Z = true) (w4 : (Cond.initialized "java/lang/System").before a0 Z = true) {a b : Addr} {k k' : ClassId} {ty : FieldType} {z z' sp dp nn : Int32} {vs vd us rs : List Value} {dv dd : Value} (A : Arv Z h a k ty z vs dv) (A' : Arv Z h b k' ty z' vd dd) (hty : refKind ty = false) (ge : n0 ≤ b) (h1 : ¬ sp < 0) (h2 : ¬ dp < 0) (h3 : ¬ nn < 0) (h4 : sp.toNatClampNeg + nn.toNatClampNeg ≤ z.toNatClampNeg) (h5 : dp.toNatClampNeg + nn.toNatClampNeg ≤ z'.toNatClampNeg) (hus : us = (List.range nn.toNatClampNeg).map fun i => vs.getD (sp.toNatClampNeg + i) dv) (hl : dp.toNatClampNeg + nn.toNatClampNeg ≤ vd.length) (hrs : vd.take dp.toNatClampNeg ++ us ++ vd.drop (dp.toNatClampNeg + nn.toNatClampNeg) = rs) (d : decode bytes pc = .ok (.invokestatic i, 3)) (hp : pc + 3 = pc') (hsz : Ls.size = maxL) (hf : 1 ≤ R.frames) (W : Nat) (hW : (st.map fun v => v.category).sum ≤ W) (hlo : W + (nativeFrameWords "java/lang/System" "arraycopy" 5 + 11) ≤ R.locals)
    (G : ∀ T' h', own_S p l e R s m args below meth c n0 T' h' cells slots → Keep h h' [b] → Arv Z h' b k' ty z' rs dd → own_Go p e below (T'.setTop (mkF m pc' Ls st)) P) : own_Go p e below (T.setTop (mkF m pc Ls (.int nn :: .int dp :: .ref b :: .int sp :: .ref a :: st))) P := by
  obtain ⟨locs, X, eT, N0⟩ := X
  subst hp hrs
  obtain ⟨T', h', L, X', e', N', K, V, st'⟩ := cpA X B.1 B.2.1 B.2.2.2.1 w1 w2 w3 w4 eT A A' (Or.inl ⟨rfl, hty⟩) h1 h2 h3 h4 h5 hus hl N0 ge (g := mkF m pc Ls (.int nn :: .int dp :: .ref b :: .int sp :: .ref a :: st)) rfl (by rw [B.2.2.1]; exact hsz) rfl (hb B.2.2.2.2.2.2.2 d) hf (W := W) (by show 2 * 0 + _ ≤ _; omega) hlo
  exact own_by st' (G T' h' ⟨_, X', e', N'⟩ K V)
theorem own_checkcast (B : own_B p s m meth c Z own nm bytes maxL ret) (X : own_S p l e R s m args below meth c n0 T h cells slots) {i : Nat} {K : String} {a : Addr} (w : (Cond.classLink own i K).before a0 Z = true) (I : Ins Z h a K true) (d : decode bytes pc = .ok (.checkcast i, 3)) (hp : pc + 3 = pc')
    (G : ∀ T', own_S p l e R s m args below meth c n0 T' h cells slots → own_Go p e below (T'.setTop (mkF m pc' Ls (.ref a :: st))) P) : own_Go p e below (T.setTop (mkF m pc Ls (.ref a :: st))) P := by
  obtain ⟨locs, X, eT, N0⟩ := X
  subst hp
  obtain ⟨T', X', e', st'⟩ := castY X B.1 B.2.1 B.2.2.2.1 w eT I (g := mkF m pc Ls (.ref a :: st)) rfl rfl (hb B.2.2.2.2.2.2.2 d)
  exact own_by st' (G T' ⟨_, X', e', N0⟩)
theorem own_retI (B : own_B p s m meth c Z own nm bytes maxL (some .int)) (X : own_S p l e R s m args below meth c n0 T h cells slots) {Q : Option Value → Heap → Prop} {k n : Nat} {z : Int32} (d : decode bytes pc = .ok (.ireturn, 1)) (hk : cells ≤ k) (hn : slots ≤ n) (hq : Q (some (.int z)) h) : own_Go p e below (T.setTop (mkF m pc Ls (.int z :: st))) (own_P s below n0 Q k n) := by
  obtain ⟨locs, X, eT, N0⟩ := X
  obtain ⟨fs, hr, hrun, hended, hW, hsame⟩ := X.leave (v := (some (.int z))) (fun h => by rw [B.2.2.2.2.1] at h; cases h) B.2.2.2.2.2.1
  exact ⟨_, _, retOut X B.1 B.2.2.2.2.1 rfl (Or.inl ⟨rfl, Or.inl rfl, _, rfl⟩) (hb B.2.2.2.2.2.2.2 d) hr, hrun, hended, _, _, rfl, ⟨N0, by show Q _ T.heap; rw [eT]; exact hq⟩, ⟨_, rfl⟩, hW, hsame.mono hk hn⟩
theorem own_retN {t : FieldType} (B : own_B p s m meth c Z own nm bytes maxL (some t)) (X : own_S p l e R s m args below meth c n0 T h cells slots) {Q : Option Value → Heap → Prop} {k n : Nat} {z z' : Int32} (ht : t = .boolean ∨ t = .byte ∨ t = .char ∨ t = .short) (hz : nar t z = z') (d : decode bytes pc = .ok (.ireturn, 1)) (hk : cells ≤ k) (hn : slots ≤ n) (hq : Q (some (.int z')) h) : own_Go p e below (T.setTop (mkF m pc Ls (.int z :: st))) (own_P s below n0 Q k n) := by
  subst hz
  obtain ⟨locs, X, eT, N0⟩ := X
  obtain ⟨fs, hr, hrun, hended, hW, hsame⟩ := X.leave (v := (some (.int (nar t z)))) (fun h => by rw [B.2.2.2.2.1] at h; cases h) B.2.2.2.2.2.1
  exact ⟨_, _, retN X B.1 B.2.2.2.2.1 ht (hb B.2.2.2.2.2.2.2 d) hr, hrun, hended, _, _, rfl, ⟨N0, by show Q _ T.heap; rw [eT]; exact hq⟩, ⟨_, rfl⟩, hW, hsame.mono hk hn⟩
theorem own_retA {t : FieldType} (B : own_B p s m meth c Z own nm bytes maxL (some t)) (X : own_S p l e R s m args below meth c n0 T h cells slots) {Q : Option Value → Heap → Prop} {k n : Nat} {w : Value} (ht : t.isReference = true) (hw : w.isRef = true) (hnw : narrow t w = w) (d : decode bytes pc = .ok (.areturn, 1)) (hk : cells ≤ k) (hn : slots ≤ n) (hq : Q (some w) h) : own_Go p e below (T.setTop (mkF m pc Ls (w :: st))) (own_P s below n0 Q k n) := by
  obtain ⟨locs, X, eT, N0⟩ := X
  obtain ⟨fs, hr, hrun, hended, hW, hsame⟩ := X.leave (v := (some w)) (fun h => by rw [B.2.2.2.2.1] at h; cases h) B.2.2.2.2.2.1
  exact ⟨_, _, retOut X B.1 B.2.2.2.2.1 hnw (Or.inr (Or.inr (Or.inr (Or.inr ⟨rfl, ht, hw⟩)))) (hb B.2.2.2.2.2.2.2 d) hr, hrun, hended, _, _, rfl, ⟨N0, by show Q _ T.heap; rw [eT]; exact hq⟩, ⟨_, rfl⟩, hW, hsame.mono hk hn⟩
theorem own_ret (B : own_B p s m meth c Z own nm bytes maxL none) (X : own_S p l e R s m args below meth c n0 T h cells slots) {Q : Option Value → Heap → Prop} {k n : Nat} (d : decode bytes pc = .ok (.return_, 1)) (hk : cells ≤ k) (hn : slots ≤ n) (hq : Q none h) : own_Go p e below (T.setTop (mkF m pc Ls [])) (own_P s below n0 Q k n) := by
  obtain ⟨locs, X, eT, N0⟩ := X
  obtain ⟨fs, hr, hrun, hended, hW, hsame⟩ := X.leave (v := none) (fun _ => rfl) B.2.2.2.2.2.1
  exact ⟨_, _, X.returnOut B.1 B.2.2.2.2.1 (hb B.2.2.2.2.2.2.2 d) hr, hrun, hended, _, _, rfl, ⟨N0, by show Q _ T.heap; rw [eT]; exact hq⟩, ⟨_, rfl⟩, hW, hsame.mono hk hn⟩
theorem own_enter {y : MethodName} {rm : Room} {ws : List Jvm.Cond} {as' : Array Value} {Q : Option Value → Heap → Prop} {F : MethodId → JFrame} (hpl : plainFor y = true) (hF : ∀ m, entryFrame m as' maxL = F m)
    (body : ∀ p e s m below meth c s₁, own_B p s m meth c Z y.cls y.name bytes maxL ret → own_S p l e rm s m as' below meth c n0 s₁ h0 0 0 → own_Go p e below (s₁.setTop (F m)) (own_P s below n0 Q rm.cells rm.slots)) :
    MetFree l y (head1 (Jvm.Cond.code y bytes maxL ret :: ws) rm) (fun a U => a = as' ∧ Z.Warmed39 U.vm ∧ U.heap = h0) (fun _ _ _ _ _ => True) (fun _ U o U' => ∃ v L, o = .returned v ∧ (Fr n0 L ∧ Q v U'.heap) ∧ FrameEnd U o U' L rm.cells rm.slots) := by
  refine MetFree.of_bodySF hpl hisR ?_
  intro p e s m args below meth c s₁ Bd hml0 hP hK
  obtain ⟨rfl, hZ, hh⟩ := hP
  have e0 : s₁.heap = h0 := by rw [← hh, Bd.state]; rfl
  have nm := (name_of_methodNamed Bd.named Bd.method).1
  obtain ⟨a, o, h1, h2⟩ := body p e s m below meth c s₁ ⟨Bd.exec, hZ, hml0, findClass_of_methodNamed Bd.named, Bd.returns, Bd.notSynchronized, nm, Bd.bytes⟩ ⟨[], Stand.of_body Bd, e0, Fr.nil n0⟩
  exact ⟨a, o, castTop (hF m) h1, h2⟩
theorem own_callS (B : own_B p s m meth c Z own nm bytes maxL ret) (X : own_S p l e R s m args below meth c n0 T h cells slots) {i : Nat} {y : MethodName} {yb : ByteArray} {yl : Nat} {yr : Option FieldType} (w1 : (Cond.methodLink own i y).before a0 Z = true) (w2 : (Cond.static y).before a0 Z = true) (w3 : (Cond.initialized y.cls).before a0 Z = true) (w4 : (Cond.code y yb yl yr).before a0 Z = true) (hy : y.cls ≠ "java/lang/invoke/MethodHandle" ∧ y.cls ≠ "java/lang/invoke/VarHandle") {rm : Room} {Q : Option Value → Heap → Prop} (argsL rest : List Value)
    (hM : MetFree l y (head1 [Jvm.Cond.code y yb yl yr] rm) (fun b U => b = argsL.toArray ∧ Z.Warmed39 U.vm ∧ U.heap = h) (fun _ _ _ _ _ => True) (fun _ U o U' => ∃ v L, o = .returned v ∧ (Fr n0 L ∧ Q v U'.heap) ∧ FrameEnd U o U' L rm.cells rm.slots))
    (W : Nat) (hf : rm.frames + 1 ≤ R.frames) (hl : W + (yl + 11) + rm.locals ≤ R.locals) (hsz : Ls.size = maxL) {ps : List FieldType} {rt : Option FieldType} (hpd : parseMethodDescriptor y.desc = some ⟨ps, rt⟩) (hln : argsL.length = ps.length) (hst : st = argsL.reverse ++ rest) (hW : (rest.map fun v => v.category).sum ≤ W) (d : decode bytes pc = .ok (.invokestatic i, 3)) (hp : pc + 3 = pc') {k' n' : Nat} (hk : cells + rm.cells = k') (hn : slots + rm.slots = n') (hkR : k' ≤ R.cells) (hnR : n' ≤ R.slots)
    (G : ∀ T' v h', own_S p l e R s m args below meth c n0 T' h' k' n' → Q v h' → own_Go p e below (T'.setTop (mkF m pc' Ls (v.toList ++ rest))) P) : own_Go p e below (T.setTop (mkF m pc Ls st)) P := by
  obtain ⟨locs, X, eT, N0⟩ := X
  subst hp hk hn
  have bk := backOf (p := p) (e := e) (below := below) (args := args) (len := 3) (W := W) (Q := fun v h' L => Fr n0 L ∧ Q v h') hM B.2.1 w4 w3 hf hl
  obtain ⟨v, vm₁, ⟨T', L', k1, n1⟩, hW1, X', ⟨Lc, hQ, l1, y1, z1⟩, stp⟩ := Jvm.LawKit.callS X B.1 (y := y) B.2.2.2.1 (mvT B.2.1 w1) (mvT B.2.1 w2) (mvT B.2.1 w3) (mvT B.2.1 w4) hy bk (g := mkF m pc Ls st) rfl (by rw [B.2.2.1]; exact hsz) (argsL := argsL) (rest := rest) (lenOf hpd hln) hst (by show 2 * 0 + _ ≤ _; omega) (hb B.2.2.2.2.2.2.2 d) (fun _ _ => ⟨rfl, eT, hkR, hnR⟩)
  dsimp only [Pt.U, Pt.locs, Pt.cells, Pt.slots] at X' l1 y1 z1 stp hQ
  subst l1 y1 z1
  exact own_by stp (G T' v _ ⟨_, X', rfl, N0.app hQ.1⟩ hQ.2)
theorem own_callI (B : own_B p s m meth c Z own nm bytes maxL ret) (X : own_S p l e R s m args below meth c n0 T h cells slots) {i : Nat} {y : MethodName} {yb : ByteArray} {yl : Nat} {yr : Option FieldType} (hyn : y.name = "<init>") (hyr : yr = none) (w1 : (Cond.methodLink own i y).before a0 Z = true) (w2 : (Cond.instanceMethod y).before a0 Z = true) (w3 : (Cond.initialized y.cls).before a0 Z = true) (w4 : (Cond.code y yb yl yr).before a0 Z = true) (hy : y.cls ≠ "java/lang/invoke/MethodHandle" ∧ y.cls ≠ "java/lang/invoke/VarHandle") {rm : Room} {Q : Option Value → Heap → Prop} {a : Addr} (argsL rest : List Value)
    (hM : MetFree l y (head1 [Jvm.Cond.code y yb yl yr] rm) (fun b U => b = (Value.ref a :: argsL).toArray ∧ Z.Warmed39 U.vm ∧ U.heap = h) (fun _ _ _ _ _ => True) (fun _ U o U' => ∃ v L, o = .returned v ∧ (Fr n0 L ∧ Q v U'.heap) ∧ FrameEnd U o U' L rm.cells rm.slots))
    (W : Nat) (hf : rm.frames + 1 ≤ R.frames) (hl : W + (yl + 11) + rm.locals ≤ R.locals) (hsz : Ls.size = maxL) {ps : List FieldType} {rt : Option FieldType} (hpd : parseMethodDescriptor y.desc = some ⟨ps, rt⟩) (hln : argsL.length = ps.length) (hst : st = argsL.reverse ++ .ref a :: rest) (hW : (rest.map fun v => v.category).sum ≤ W) (d : decode bytes pc = .ok (.invokespecial i, 3)) (hp : pc + 3 = pc') {k' n' : Nat} (hk : cells + rm.cells = k') (hn : slots + rm.slots = n') (hkR : k' ≤ R.cells) (hnR : n' ≤ R.slots)
    (G : ∀ T' v h', own_S p l e R s m args below meth c n0 T' h' k' n' → Q v h' → own_Go p e below (T'.setTop (mkF m pc' Ls (v.toList ++ rest))) P) : own_Go p e below (T.setTop (mkF m pc Ls st)) P := by
  obtain ⟨locs, X, eT, N0⟩ := X
  subst hp hk hn
  have bk := backOf (p := p) (e := e) (below := below) (args := args) (len := 3) (W := W) (Q := fun v h' L => Fr n0 L ∧ Q v h') hM B.2.1 w4 w3 hf hl
  subst hyr
  obtain ⟨v, vm₁, ⟨T', L', k1, n1⟩, hW1, X', ⟨Lc, hQ, l1, y1, z1⟩, stp⟩ := X.specialBack B.1 (y := y) hyn B.2.2.2.1 (mvT B.2.1 w1) (mvT B.2.1 w2) (mvT B.2.1 w4) hy bk (g := mkF m pc Ls st) rfl (by rw [B.2.2.1]; exact hsz) (Steps.refl _) (a := a) (argsL := argsL) (rest := rest) (lenOf hpd hln) hst (by show 2 * 0 + _ ≤ _; omega) (hb B.2.2.2.2.2.2.2 d) (fun _ _ => ⟨rfl, eT, hkR, hnR⟩)
  dsimp only [Pt.U, Pt.locs, Pt.cells, Pt.slots] at X' l1 y1 z1 stp hQ
  subst l1 y1 z1
  exact own_by (fun _ k => stp.trans k) (G T' v _ ⟨_, X', rfl, N0.app hQ.1⟩ hQ.2)
theorem own_callV (B : own_B p s m meth c Z own nm bytes maxL ret) (X : own_S p l e R s m args below meth c n0 T h cells slots) {i : Nat} {a : Addr} {y : MethodName} {yb : ByteArray} {yl : Nat} {yr : Option FieldType} {C : String} (w1 : (Cond.methodLink own i y).before a0 Z = true) (w2 : (Cond.declares y).before a0 Z = true) (w5 : (Cond.selects C y y).before a0 Z = true) (w6 : (Cond.instanceMethod y).before a0 Z = true) (w3 : (Cond.initialized y.cls).before a0 Z = true) (w4 : (Cond.code y yb yl yr).before a0 Z = true) (E : Exa Z h a C) (hy : y.cls ≠ "java/lang/invoke/MethodHandle" ∧ y.cls ≠ "java/lang/invoke/VarHandle") {rm : Room} {Q : Option Value → Heap → Prop} (argsL rest : List Value)
    (hM : MetFree l y (head1 [Jvm.Cond.code y yb yl yr] rm) (fun b U => b = (Value.ref a :: argsL).toArray ∧ Z.Warmed39 U.vm ∧ U.heap = h) (fun _ _ _ _ _ => True) (fun _ U o U' => ∃ v L, o = .returned v ∧ (Fr n0 L ∧ Q v U'.heap) ∧ FrameEnd U o U' L rm.cells rm.slots))
    (W : Nat) (hf : rm.frames + 1 ≤ R.frames) (hl : W + (yl + 11) + rm.locals ≤ R.locals) (hsz : Ls.size = maxL) {ps : List FieldType} {rt : Option FieldType} (hpd : parseMethodDescriptor y.desc = some ⟨ps, rt⟩) (hln : argsL.length = ps.length) (hst : st = argsL.reverse ++ .ref a :: rest) (hW : (rest.map fun v => v.category).sum ≤ W) (d : decode bytes pc = .ok (.invokevirtual i, 3)) (hp : pc + 3 = pc') {k' n' : Nat} (hk : cells + rm.cells = k') (hn : slots + rm.slots = n') (hkR : k' ≤ R.cells) (hnR : n' ≤ R.slots)
    (G : ∀ T' v h', own_S p l e R s m args below meth c n0 T' h' k' n' → Q v h' → own_Go p e below (T'.setTop (mkF m pc' Ls (v.toList ++ rest))) P) : own_Go p e below (T.setTop (mkF m pc Ls st)) P := by
  obtain ⟨locs, X, eT, N0⟩ := X
  subst hp hk hn
  have bk := backOf (p := p) (e := e) (below := below) (args := args) (len := 3) (W := W) (Q := fun v h' L => Fr n0 L ∧ Q v h') hM B.2.1 w4 w3 hf hl
  obtain ⟨cq, kq, qa, qb, qc⟩ := isOf B.2.1 eT E
  obtain ⟨v, vm₁, ⟨T', L', k1, n1⟩, hW1, X', ⟨Lc, hQ, l1, y1, z1⟩, stp⟩ := X.virtualBack B.1 (y := y) (z := y) B.2.2.2.1 (mvT B.2.1 w1) (mvT B.2.1 w2) (notFace_of_selects (args := #[]) (mvT B.2.1 w5)) (mvT B.2.1 w5) (mvT B.2.1 w6) hy bk qa qc (g := mkF m pc Ls st) rfl (by rw [B.2.2.1]; exact hsz) (Steps.refl _) (argsL := argsL) (rest := rest) (lenOf hpd hln) hst (by show 2 * 0 + _ ≤ _; omega) (hb B.2.2.2.2.2.2.2 d) (fun _ _ => ⟨rfl, eT, hkR, hnR⟩)
  dsimp only [Pt.U, Pt.locs, Pt.cells, Pt.slots] at X' l1 y1 z1 stp hQ
  subst l1 y1 z1
  exact own_by (fun _ k => stp.trans k) (G T' v _ ⟨_, X', rfl, N0.app hQ.1⟩ hQ.2)
theorem own_callP (B : own_B p s m meth c Z own nm bytes maxL ret) (X : own_S p l e R s m args below meth c n0 T h cells slots) {i : Nat} {a : Addr} {y : MethodName} {yb : ByteArray} {yl : Nat} {yr : Option FieldType} {n : Nat} (w1 : (Cond.methodLink own i y).before a0 Z = true) (w2 : (Cond.instanceMethod y).before a0 Z = true) (w5 : (Cond.privateMethod y).before a0 Z = true) (w6 : (Cond.instantiable y.cls n).before a0 Z = true) (w3 : (Cond.initialized y.cls).before a0 Z = true) (w4 : (Cond.code y yb yl yr).before a0 Z = true) (E : Exa Z h a y.cls) (hy : y.cls ≠ "java/lang/invoke/MethodHandle" ∧ y.cls ≠ "java/lang/invoke/VarHandle") {rm : Room} {Q : Option Value → Heap → Prop} (argsL rest : List Value)
    (hM : MetFree l y (head1 [Jvm.Cond.code y yb yl yr] rm) (fun b U => b = (Value.ref a :: argsL).toArray ∧ Z.Warmed39 U.vm ∧ U.heap = h) (fun _ _ _ _ _ => True) (fun _ U o U' => ∃ v L, o = .returned v ∧ (Fr n0 L ∧ Q v U'.heap) ∧ FrameEnd U o U' L rm.cells rm.slots))
    (W : Nat) (hf : rm.frames + 1 ≤ R.frames) (hl : W + (yl + 11) + rm.locals ≤ R.locals) (hsz : Ls.size = maxL) {ps : List FieldType} {rt : Option FieldType} (hpd : parseMethodDescriptor y.desc = some ⟨ps, rt⟩) (hln : argsL.length = ps.length) (hst : st = argsL.reverse ++ .ref a :: rest) (hW : (rest.map fun v => v.category).sum ≤ W) (d : decode bytes pc = .ok (.invokevirtual i, 3)) (hp : pc + 3 = pc') {k' n' : Nat} (hk : cells + rm.cells = k') (hn : slots + rm.slots = n') (hkR : k' ≤ R.cells) (hnR : n' ≤ R.slots)
    (G : ∀ T' v h', own_S p l e R s m args below meth c n0 T' h' k' n' → Q v h' → own_Go p e below (T'.setTop (mkF m pc' Ls (v.toList ++ rest))) P) : own_Go p e below (T.setTop (mkF m pc Ls st)) P := by
  obtain ⟨locs, X, eT, N0⟩ := X
  subst hp hk hn
  have bk := backOf (p := p) (e := e) (below := below) (args := args) (len := 3) (W := W) (Q := fun v h' L => Fr n0 L ∧ Q v h') hM B.2.1 w4 w3 hf hl
  obtain ⟨cq, q1, q2⟩ := E.cell
  have hpr := Cond.privateMethod_at (mvP B.2.1 w5 (args := #[]))
  have wi : (Cond.instantiable y.cls n).before #[] s = true := mvT B.2.1 w6
  obtain ⟨ci, ki, i1, i2, i3, i4, -⟩ := Cond.instantiable_spec wi
  have hsel : (Cond.selects y.cls y y).before args s = true := selects_self_of_private i1 i2 (by cases hh : ki.isInterface <;> simp [hh] at i4 ⊢) hpr (mvT B.2.1 w2) hy
  obtain ⟨v, vm₁, ⟨T', L', k1, n1⟩, hW1, X', ⟨Lc, hQ, l1, y1, z1⟩, stp⟩ := X.privateBack B.1 (y := y) B.2.2.2.1 (mvT B.2.1 w1) (mvT B.2.1 w2) hsel hpr (mvT B.2.1 w4) hy bk (g := mkF m pc Ls st) rfl (by rw [B.2.2.1]; exact hsz) (Steps.refl _) (a := a) (by rw [eT]; exact q1) q2 (argsL := argsL) (rest := rest) (lenOf hpd hln) hst (by show 2 * 0 + _ ≤ _; omega) (hb B.2.2.2.2.2.2.2 d) (fun _ _ => ⟨rfl, eT, hkR, hnR⟩)
  dsimp only [Pt.U, Pt.locs, Pt.cells, Pt.slots] at X' l1 y1 z1 stp hQ
  subst l1 y1 z1
  exact own_by (fun _ k => stp.trans k) (G T' v _ ⟨_, X', rfl, N0.app hQ.1⟩ hQ.2)
theorem own_callF (B : own_B p s m meth c Z own nm bytes maxL ret) (X : own_S p l e R s m args below meth c n0 T h cells slots) {i : Nat} {a : Addr} {y : MethodName} {yb : ByteArray} {yl : Nat} {yr : Option FieldType} {xi : MethodName} {cnt : Nat} {C : String} (w1 : (Cond.methodLink own i xi).before a0 Z = true) (w2 : (Cond.declares xi).before a0 Z = true) (w7 : (Cond.interfaceMethod xi.cls xi.cls xi.name xi.desc).before a0 Z = true) (w5 : (Cond.selects C xi y).before a0 Z = true) (w6 : (Cond.instanceMethod y).before a0 Z = true) (w8 : (Cond.publicMethod y).before a0 Z = true) (w9 : (Cond.unhidden C xi.name xi.desc).before a0 Z = true) (w10 : (Cond.castable C xi.cls).before a0 Z = true) (w3 : (Cond.initialized y.cls).before a0 Z = true) (w4 : (Cond.code y yb yl yr).before a0 Z = true) (E : Exa Z h a C) (hy : xi.cls ≠ "java/lang/invoke/MethodHandle" ∧ xi.cls ≠ "java/lang/invoke/VarHandle") {rm : Room} {Q : Option Value → Heap → Prop} (argsL rest : List Value)
    (hM : MetFree l y (head1 [Jvm.Cond.code y yb yl yr] rm) (fun b U => b = (Value.ref a :: argsL).toArray ∧ Z.Warmed39 U.vm ∧ U.heap = h) (fun _ _ _ _ _ => True) (fun _ U o U' => ∃ v L, o = .returned v ∧ (Fr n0 L ∧ Q v U'.heap) ∧ FrameEnd U o U' L rm.cells rm.slots))
    (W : Nat) (hf : rm.frames + 1 ≤ R.frames) (hl : W + (yl + 11) + rm.locals ≤ R.locals) (hsz : Ls.size = maxL) {ps : List FieldType} {rt : Option FieldType} (hpd : parseMethodDescriptor xi.desc = some ⟨ps, rt⟩) (hln : argsL.length = ps.length) (hst : st = argsL.reverse ++ .ref a :: rest) (hW : (rest.map fun v => v.category).sum ≤ W) (d : decode bytes pc = .ok (.invokeinterface i cnt, 5)) (hp : pc + 5 = pc') {k' n' : Nat} (hk : cells + rm.cells = k') (hn : slots + rm.slots = n') (hkR : k' ≤ R.cells) (hnR : n' ≤ R.slots)
    (G : ∀ T' v h', own_S p l e R s m args below meth c n0 T' h' k' n' → Q v h' → own_Go p e below (T'.setTop (mkF m pc' Ls (v.toList ++ rest))) P) : own_Go p e below (T.setTop (mkF m pc Ls st)) P := by
  obtain ⟨locs, X, eT, N0⟩ := X
  subst hp hk hn
  have bk := backOf (p := p) (e := e) (below := below) (args := args) (len := 5) (W := W) (Q := fun v h' L => Fr n0 L ∧ Q v h') hM B.2.1 w4 w3 hf hl
  obtain ⟨cq, kq, qa, qb, qc⟩ := isOf B.2.1 eT E
  obtain ⟨v, vm₁, ⟨T', L', k1, n1⟩, hW1, X', ⟨Lc, hQ, l1, y1, z1⟩, stp⟩ := X.interfaceBack B.1 (xi := xi) (y := y) B.2.2.2.1 (mvT B.2.1 w1) (mvT B.2.1 w2) (mvT B.2.1 w7 (by simp [Cond.onTables, Cond.keepsFace, Cond.keeps, Cond.steady, Cond.faceAtom, hy.1, hy.2])) (mvT B.2.1 w5) (mvT B.2.1 w6) (mvT B.2.1 w8) (mvT B.2.1 w9) (mvT B.2.1 w10) hy bk qa qb qc (g := mkF m pc Ls st) rfl (by rw [B.2.2.1]; exact hsz) (Steps.refl _) (argsL := argsL) (rest := rest) (lenOf hpd hln) hst (by show 2 * 0 + _ ≤ _; omega) (hb B.2.2.2.2.2.2.2 d) (fun _ _ => ⟨rfl, eT, hkR, hnR⟩)
  dsimp only [Pt.U, Pt.locs, Pt.cells, Pt.slots] at X' l1 y1 z1 stp hQ
  subst l1 y1 z1
  exact own_by (fun _ k => stp.trans k) (G T' v _ ⟨_, X', rfl, N0.app hQ.1⟩ hQ.2)
theorem own_sz {h1 : Heap} {ws : List Addr} {b : Addr} (K : Keep h0 h1 ws) (g : b = h1.size) : h0.size ≤ b := g ▸ K.1
theorem own_more {k' n' : Nat} (X : own_S p l e R s m args below meth c n0 T h cells slots) (hk : cells ≤ k') (hn : slots ≤ n') : own_S p l e R s m args below meth c n0 T h k' n' := by
  obtain ⟨locs, X, eT, N⟩ := X
  exact ⟨locs, X.more hk hn, eT, N⟩
theorem own_ne {h1 : Heap} {x b : Addr} (q : x < h1.size) (g : b = h1.size) : x ≠ b := fun u => by rw [u, g] at q; exact Nat.lt_irrefl _ q
theorem own_ne' {h1 : Heap} {x b : Addr} (q : x < h1.size) (g : h1.size ≤ b) : x ≠ b := Nat.ne_of_lt (Nat.lt_of_lt_of_le q g)
end OwnKit
section OwnNum
theorem own_w {a0 : Array Value} {Z : State} (hw : ∀ d ∈ tables_1, d.before a0 Z = true) (i : Nat) {d : Jvm.Cond} (hd : tables_1[i]? = some d) : d.before a0 Z = true := hw _ (List.mem_of_getElem? hd)
theorem own_lt {x y : Int32} (h : x < y) : x.toInt < y.toInt := Int32.lt_iff_toInt_lt.mp h
theorem own_nlt {x y : Int32} (h : ¬ x < y) : ¬ x.toInt < y.toInt := fun q => h (Int32.lt_iff_toInt_lt.mpr q)
theorem own_ltI {x y : Int32} (h : x.toInt < y.toInt) : x < y := Int32.lt_iff_toInt_lt.mpr h
theorem own_nltI {x y : Int32} (h : ¬ x.toInt < y.toInt) : ¬ x < y := fun q => h (Int32.lt_iff_toInt_lt.mp q)
theorem own_o_iadd {x y z : Int32} (h : x + y = z) : (z.toInt - (x.toInt + y.toInt)) % 4294967296 = 0 := h ▸ c_iadd x y
theorem own_o_imulR {x y z : Int32} (h : x * y = z) (d : Int) (hy : y.toInt = d) : (z.toInt - (x.toInt * d)) % 4294967296 = 0 := hy ▸ h ▸ c_imul x y
theorem own_o_mask {x m z : Int32} (h : x &&& m = z) (k : Nat) (hk : k ≤ 31) (hm : m.toBitVec.toNat = 2 ^ k - 1) : z.toInt = x.toInt % (2 ^ k : Nat) := h ▸ c_mask x m k hk hm
end OwnNum
set_option maxRecDepth 65536
set_option maxHeartbeats 40000000
abbrev oC1 : String := "com/example/ordal/ordal/NumberTable"
abbrev oC2 : String := "com/example/ordal/ordal/Relation"
abbrev oC3 : String := "com/example/ordal/ordal/Relation$PositionTable"
abbrev oC4 : String := "java/util/HashMap"
abbrev own_M (l : Launch) (Z : State) (y : MethodName) (bytes : ByteArray) (maxL : Nat) (ret : Option FieldType) (ws : List Jvm.Cond) (rm : Room) (A : Array Value) (h0 : Heap) (n0 : Nat) (Q : Option Value → Heap → Prop) : Prop :=
  MetFree l y (head1 (Jvm.Cond.code y bytes maxL ret :: ws) rm) (fun a U => a = A ∧ Z.Warmed39 U.vm ∧ U.heap = h0) (fun _ _ _ _ _ => True) (fun _ U o U' => ∃ v L, o = .returned v ∧ (Fr n0 L ∧ Q v U'.heap) ∧ FrameEnd U o U' L rm.cells rm.slots)
theorem own_enter' {l : Launch} {Z : State} {bytes : ByteArray} {maxL : Nat} {ret : Option FieldType} {h0 : Heap} {n0 : Nat} {y : MethodName} {rm : Room} {ws : List Jvm.Cond} {as' : Array Value} {Q : Option Value → Heap → Prop} {F : MethodId → JFrame} (hpl : plainFor y = true)
    (body : ∀ p e s m below meth c s₁, own_B p s m meth c Z y.cls y.name bytes maxL ret → own_S p l e rm s m as' below meth c n0 s₁ h0 0 0 → own_Go p e below (s₁.setTop (F m)) (own_P s below n0 Q rm.cells rm.slots))
    (hF : ∀ m, entryFrame m as' maxL = F m := by (intro m; first | (simp [entryFrame, mkF, argsToLocals, Value.category]; done) | rfl)) :
    own_M l Z y bytes maxL ret ws rm as' h0 n0 Q := own_enter hpl hF body
def own_F_hash (a0 : Int32) (a1 : Int32) : Int32 := (((((2 : Int32) + a0) * (-1640531527 : Int32)) + a1) * (-1640531527 : Int32))
def own_F_slot (a0 : Int32) : Int32 := (((((a0 * (-1640531527 : Int32)) ^^^ (((a0 * (-1640531527 : Int32)).toUInt32 >>> ((16 : Int32) &&& 31).toUInt32).toInt32)) * (-2048144789 : Int32)) ^^^ (((((a0 * (-1640531527 : Int32)) ^^^ (((a0 * (-1640531527 : Int32)).toUInt32 >>> ((16 : Int32) &&& 31).toUInt32).toInt32)) * (-2048144789 : Int32)).toUInt32 >>> ((13 : Int32) &&& 31).toUInt32).toInt32)) &&& (15 : Int32))
def own_F_holds (a0 : Int32) (a1 : Int32) (a2 : Int32) (a3 : Int32) : Int32 := (if a0 = a2 then (if a1 = a3 then (1 : Int32) else (0 : Int32)) else (0 : Int32))
def own_F_next (a0 : Int32) : Int32 := ((a0 + (1 : Int32)) &&& (15 : Int32))
def own_F_find (a0 : Int32) (a1 : Int32) (a2 : Int32) (a3 : Int32) (a4 : Int32) (a5 : Int32) (a6 : Int32) (a7 : Int32) (a8 : Int32) : Int32 := (if ((a8 * (2 : Int32)) + a6) < (6 : Int32) then (if ((a8 * (2 : Int32)) + a6) = (0 : Int32) then (if a0 = a7 then (0 : Int32) else (if a2 = a7 then (1 : Int32) else (if a4 = a7 then (2 : Int32) else (-1 : Int32)))) else (if ((a8 * (2 : Int32)) + a6) = (1 : Int32) then (if a1 = a7 then (0 : Int32) else (if a3 = a7 then (1 : Int32) else (if a5 = a7 then (2 : Int32) else (-1 : Int32)))) else (if ((a8 * (2 : Int32)) + a6) = (2 : Int32) then (if a2 = a7 then (1 : Int32) else (if a4 = a7 then (2 : Int32) else (-1 : Int32))) else (if ((a8 * (2 : Int32)) + a6) = (3 : Int32) then (if a3 = a7 then (1 : Int32) else (if a5 = a7 then (2 : Int32) else (-1 : Int32))) else (if ((a8 * (2 : Int32)) + a6) = (4 : Int32) then (if a4 = a7 then (2 : Int32) else (-1 : Int32)) else (if a5 = a7 then (2 : Int32) else (-1 : Int32))))))) else (-1 : Int32))
def own_F_hit (a0 : Int32) (a1 : Int32) (a2 : Int32) (a3 : Int32) (a4 : Int32) : Int32 := (if (2 : Int32) < a4 then (0 : Int32) else (if a2 = (0 : Int32) then (if a0 = a3 then (1 : Int32) else (0 : Int32)) else (if a1 = a3 then (1 : Int32) else (0 : Int32))))
def own_F_hit_2 (a0 : Int32) (a1 : Int32) (a2 : Int32) (a3 : Int32) (a4 : Int32) : Int32 := (if (1 : Int32) < a4 then (0 : Int32) else (if a2 = (0 : Int32) then (if a0 = a3 then (1 : Int32) else (0 : Int32)) else (if a1 = a3 then (1 : Int32) else (0 : Int32))))
def own_F_hit_3 (a0 : Int32) (a1 : Int32) (a2 : Int32) (a3 : Int32) (a4 : Int32) : Int32 := (if (0 : Int32) < a4 then (0 : Int32) else (if a2 = (0 : Int32) then (if a0 = a3 then (1 : Int32) else (0 : Int32)) else (if a1 = a3 then (1 : Int32) else (0 : Int32))))
def own_F_find_2 (a0 : Int32) (a1 : Int32) (a2 : Int32) (a3 : Int32) (a4 : Int32) (a5 : Int32) (a6 : Int32) : Int32 := (if ((a6 * (2 : Int32)) + a4) < (4 : Int32) then (if ((a6 * (2 : Int32)) + a4) = (0 : Int32) then (if a0 = a5 then (0 : Int32) else (if a2 = a5 then (1 : Int32) else (-1 : Int32))) else (if ((a6 * (2 : Int32)) + a4) = (1 : Int32) then (if a1 = a5 then (0 : Int32) else (if a3 = a5 then (1 : Int32) else (-1 : Int32))) else (if ((a6 * (2 : Int32)) + a4) = (2 : Int32) then (if a2 = a5 then (1 : Int32) else (-1 : Int32)) else (if a3 = a5 then (1 : Int32) else (-1 : Int32))))) else (-1 : Int32))
def own_F_hit_4 (a0 : Int32) : Int32 := (if (2 : Int32) < a0 then (0 : Int32) else (0 : Int32))
def own_F_find_3 (a0 : Int32) (a1 : Int32) (a2 : Int32) (a3 : Int32) (a4 : Int32) : Int32 := (if ((a4 * (2 : Int32)) + a2) < (2 : Int32) then (if ((a4 * (2 : Int32)) + a2) = (0 : Int32) then (if a0 = a3 then (0 : Int32) else (-1 : Int32)) else (if a1 = a3 then (0 : Int32) else (-1 : Int32))) else (-1 : Int32))
def own_F_hit_5 (a0 : Int32) : Int32 := (if (1 : Int32) < a0 then (0 : Int32) else (0 : Int32))
def own_F_hit_6 (a0 : Int32) : Int32 := (if (0 : Int32) < a0 then (0 : Int32) else (0 : Int32))
def own_G_put2 (F N : Int32 → Int32) (s h : Int32) : Int32 := if F h = s then N (F h) else F h
def own_F_put2 (s h : Int32) : Int32 := own_G_put2 own_F_slot own_F_next s h
def own_F_look1 (a b x y : Int32) : Int32 := if a = x ∧ b = y then 0 else -1
def own_F_look2 (a b c d x y : Int32) : Int32 := if a = x ∧ b = y then 0 else if c = x ∧ d = y then 1 else -1
theorem own_slot_ge {a z : Int32} (h : own_F_slot a = z) : ¬ (z < (0 : Int32)) := by
  have q := own_o_mask (m := (15 : Int32)) h 4 (by decide) (by decide)
  have e : (0 : Int32).toInt = 0 := by decide
  refine own_nltI ?_
  omega
theorem own_slot_lt {a z : Int32} (h : own_F_slot a = z) : z < (16 : Int32) := by
  have q := own_o_mask (m := (15 : Int32)) h 4 (by decide) (by decide)
  have e : (16 : Int32).toInt = 16 := by decide
  refine own_ltI ?_
  omega
theorem own_next_ge {a z : Int32} (h : own_F_next a = z) : ¬ (z < (0 : Int32)) := by
  have q := own_o_mask (m := (15 : Int32)) h 4 (by decide) (by decide)
  have e : (0 : Int32).toInt = 0 := by decide
  refine own_nltI ?_
  omega
theorem own_next_lt {a z : Int32} (h : own_F_next a = z) : z < (16 : Int32) := by
  have q := own_o_mask (m := (15 : Int32)) h 4 (by decide) (by decide)
  have e : (16 : Int32).toInt = 16 := by decide
  refine own_ltI ?_
  omega
theorem own_next_ne (x : Int32) : ¬ own_F_next x = x := by
  intro h
  have q := own_o_mask (x := x + 1) (m := (15 : Int32)) h 4 (by decide) (by decide)
  have r := own_o_iadd (x := x) (y := 1) rfl
  have e : (1 : Int32).toInt = 1 := by decide
  omega
theorem own_next_ne2 (x : Int32) : ¬ own_F_next (own_F_next x) = x := by
  intro h
  obtain ⟨y, hy⟩ : ∃ y, own_F_next x = y := ⟨_, rfl⟩
  rw [hy] at h
  have q := own_o_mask (x := x + 1) (m := (15 : Int32)) hy 4 (by decide) (by decide)
  have r := own_o_iadd (x := x) (y := 1) rfl
  have q' := own_o_mask (x := y + 1) (m := (15 : Int32)) h 4 (by decide) (by decide)
  have r' := own_o_iadd (x := y) (y := 1) rfl
  have e : (1 : Int32).toInt = 1 := by decide
  omega
theorem own_nn2 {a b c : Int32} (h : own_F_next a = b) (h' : own_F_next b = c) : ¬ c = a := by subst h h'; exact own_next_ne2 a
theorem own_bit {q z : Int32} (h : q &&& (1 : Int32) = z) : z = 0 ∨ z = 1 := by
  have o := own_o_mask h 1 (by decide) (by decide)
  have e0 : (0 : Int32).toInt = 0 := by decide
  have e1 : (1 : Int32).toInt = 1 := by decide
  simp only [← Int32.toInt_inj, e0, e1]
  omega
theorem own_oct {q z : Int32} (h : q &&& (7 : Int32) = z) : z = 0 ∨ z = 1 ∨ z = 2 ∨ z = 3 ∨ z = 4 ∨ z = 5 ∨ z = 6 ∨ z = 7 := by
  have o := own_o_mask h 3 (by decide) (by decide)
  have e0 : (0 : Int32).toInt = 0 := by decide
  have e1 : (1 : Int32).toInt = 1 := by decide
  have e2 : (2 : Int32).toInt = 2 := by decide
  have e3 : (3 : Int32).toInt = 3 := by decide
  have e4 : (4 : Int32).toInt = 4 := by decide
  have e5 : (5 : Int32).toInt = 5 := by decide
  have e6 : (6 : Int32).toInt = 6 := by decide
  have e7 : (7 : Int32).toInt = 7 := by decide
  simp only [← Int32.toInt_inj, e0, e1, e2, e3, e4, e5, e6, e7]
  omega
theorem own_hit0_4 {a z : Int32} (h : own_F_hit_4 a = z) : z = (0 : Int32) := by subst h; unfold own_F_hit_4; split <;> rfl
theorem own_hit0_5 {a z : Int32} (h : own_F_hit_5 a = z) : z = (0 : Int32) := by subst h; unfold own_F_hit_5; split <;> rfl
theorem own_hit0_6 {a z : Int32} (h : own_F_hit_6 a = z) : z = (0 : Int32) := by subst h; unfold own_F_hit_6; split <;> rfl
theorem own_tail1 (x y c v f : Int32) (hc : c = 0 ∨ c = 1) (hf : f = 0 ∨ f = 1 ∨ f = 2 ∨ f = 3 ∨ f = 4 ∨ f = 5 ∨ f = 6 ∨ f = 7) : own_F_find_3 x y c v f = if own_F_hit_3 x y c v f = (0 : Int32) then (-1 : Int32) else (0 : Int32) := by
  by_cases h0 : x = v <;> by_cases h1 : y = v <;> rcases hc with rfl | rfl <;> rcases hf with rfl | rfl | rfl | rfl | rfl | rfl | rfl | rfl <;> simp +decide [own_F_find_3, own_F_hit_3, h0, h1]
theorem own_tail2 (x y x' y' c v f : Int32) (hc : c = 0 ∨ c = 1) (hf : f = 0 ∨ f = 1 ∨ f = 2 ∨ f = 3 ∨ f = 4 ∨ f = 5 ∨ f = 6 ∨ f = 7) : own_F_find_2 x y x' y' c v f = if own_F_hit_3 x y c v f = (0 : Int32) then (if own_F_hit_2 x' y' c v f = (0 : Int32) then (-1 : Int32) else (1 : Int32)) else (0 : Int32) := by
  rcases hc with rfl | rfl
  · by_cases h0 : x = v <;> by_cases h1 : x' = v <;> rcases hf with rfl | rfl | rfl | rfl | rfl | rfl | rfl | rfl <;> simp +decide [own_F_find_2, own_F_hit_3, own_F_hit_2, h0, h1]
  · by_cases h0 : y = v <;> by_cases h1 : y' = v <;> rcases hf with rfl | rfl | rfl | rfl | rfl | rfl | rfl | rfl <;> simp +decide [own_F_find_2, own_F_hit_3, own_F_hit_2, h0, h1]
theorem own_tail3 (x y x' y' x'' y'' c v f : Int32) (hc : c = 0 ∨ c = 1) (hf : f = 0 ∨ f = 1 ∨ f = 2 ∨ f = 3 ∨ f = 4 ∨ f = 5 ∨ f = 6 ∨ f = 7) : own_F_find x y x' y' x'' y'' c v f = if own_F_hit_3 x y c v f = (0 : Int32) then (if own_F_hit_2 x' y' c v f = (0 : Int32) then (if own_F_hit x'' y'' c v f = (0 : Int32) then (-1 : Int32) else (2 : Int32)) else (1 : Int32)) else (0 : Int32) := by
  rcases hc with rfl | rfl
  · by_cases h0 : x = v <;> by_cases h1 : x' = v <;> by_cases h2 : x'' = v <;> rcases hf with rfl | rfl | rfl | rfl | rfl | rfl | rfl | rfl <;> simp +decide [own_F_find, own_F_hit_3, own_F_hit_2, own_F_hit, h0, h1, h2]
  · by_cases h0 : y = v <;> by_cases h1 : y' = v <;> by_cases h2 : y'' = v <;> rcases hf with rfl | rfl | rfl | rfl | rfl | rfl | rfl | rfl <;> simp +decide [own_F_find, own_F_hit_3, own_F_hit_2, own_F_hit, h0, h1, h2]

theorem d1_0 : decode prog_12_method_1_code 0 = .ok (.aload_n 0, 1) := by decide +kernel
theorem d1_1 : decode prog_12_method_1_code 1 = .ok (.invokespecial 1, 3) := by decide +kernel
theorem d1_4 : decode prog_12_method_1_code 4 = .ok (.aload_n 0, 1) := by decide +kernel
theorem d1_5 : decode prog_12_method_1_code 5 = .ok (.new 7, 3) := by decide +kernel
theorem d1_8 : decode prog_12_method_1_code 8 = .ok (.dup, 1) := by decide +kernel
theorem d1_9 : decode prog_12_method_1_code 9 = .ok (.invokespecial 9, 3) := by decide +kernel
theorem d3_0 : decode jdk_69_method_7_code 0 = .ok (.aload_n 0, 1) := by decide +kernel
theorem d3_1 : decode jdk_69_method_7_code 1 = .ok (.invokespecial 43, 3) := by decide +kernel
theorem d4_0 : decode jdk_71_method_1_code 0 = .ok (.aload_n 0, 1) := by decide +kernel
theorem d4_1 : decode jdk_71_method_1_code 1 = .ok (.invokespecial 1, 3) := by decide +kernel
theorem d4_4 : decode jdk_71_method_1_code 4 = .ok (.return_, 1) := by decide +kernel
theorem pn_0 : plainName "java/util/AbstractMap" = true := by first | (simp [plainName, overriddenIn]; done) | decide +kernel
theorem pd_0 : parseMethodDescriptor "()V" = some ⟨[], none⟩ := by decide +kernel
theorem d3_4 : decode jdk_69_method_7_code 4 = .ok (.aload_n 0, 1) := by decide +kernel
theorem d3_5 : decode jdk_69_method_7_code 5 = .ok (.ldc 92, 2) := by decide +kernel
theorem d3_7 : decode jdk_69_method_7_code 7 = .ok (.putfield 81, 3) := by decide +kernel
theorem d3_10 : decode jdk_69_method_7_code 10 = .ok (.return_, 1) := by decide +kernel
theorem pn_1 : plainName "java/util/HashMap" = true := by first | (simp [plainName, overriddenIn]; done) | decide +kernel
theorem d1_12 : decode prog_12_method_1_code 12 = .ok (.putfield 10, 3) := by decide +kernel
theorem d1_15 : decode prog_12_method_1_code 15 = .ok (.aload_n 0, 1) := by decide +kernel
theorem d1_16 : decode prog_12_method_1_code 16 = .ok (.new 7, 3) := by decide +kernel
theorem d1_19 : decode prog_12_method_1_code 19 = .ok (.dup, 1) := by decide +kernel
theorem d1_20 : decode prog_12_method_1_code 20 = .ok (.invokespecial 9, 3) := by decide +kernel
theorem d1_23 : decode prog_12_method_1_code 23 = .ok (.putfield 16, 3) := by decide +kernel
theorem d1_26 : decode prog_12_method_1_code 26 = .ok (.aload_n 0, 1) := by decide +kernel
theorem d1_27 : decode prog_12_method_1_code 27 = .ok (.iload_n 1, 1) := by decide +kernel
theorem d1_28 : decode prog_12_method_1_code 28 = .ok (.putfield 19, 3) := by decide +kernel
theorem d1_31 : decode prog_12_method_1_code 31 = .ok (.aload_n 0, 1) := by decide +kernel
theorem d1_32 : decode prog_12_method_1_code 32 = .ok (.bipush 8, 2) := by decide +kernel
theorem d1_34 : decode prog_12_method_1_code 34 = .ok (.iload_n 1, 1) := by decide +kernel
theorem d1_35 : decode prog_12_method_1_code 35 = .ok (.imul, 1) := by decide +kernel
theorem d1_36 : decode prog_12_method_1_code 36 = .ok (.newarray .int, 2) := by decide +kernel
theorem d1_38 : decode prog_12_method_1_code 38 = .ok (.putfield 23, 3) := by decide +kernel
theorem d1_41 : decode prog_12_method_1_code 41 = .ok (.aload_n 0, 1) := by decide +kernel
theorem d1_42 : decode prog_12_method_1_code 42 = .ok (.new 27, 3) := by decide +kernel
theorem d1_45 : decode prog_12_method_1_code 45 = .ok (.dup, 1) := by decide +kernel
theorem d1_46 : decode prog_12_method_1_code 46 = .ok (.aload_n 0, 1) := by decide +kernel
theorem d1_47 : decode prog_12_method_1_code 47 = .ok (.iload_n 1, 1) := by decide +kernel
theorem d1_48 : decode prog_12_method_1_code 48 = .ok (.invokestatic 29, 3) := by decide +kernel
theorem d5_0 : decode prog_12_method_25_code 0 = .ok (.iload_n 0, 1) := by decide +kernel
theorem d5_1 : decode prog_12_method_25_code 1 = .ok (.newarray .int, 2) := by decide +kernel
theorem d5_3 : decode prog_12_method_25_code 3 = .ok (.astore_n 1, 1) := by decide +kernel
theorem d5_4 : decode prog_12_method_25_code 4 = .ok (.iconst 0, 1) := by decide +kernel
theorem d5_5 : decode prog_12_method_25_code 5 = .ok (.istore_n 2, 1) := by decide +kernel
theorem d5_6 : decode prog_12_method_25_code 6 = .ok (.iload_n 2, 1) := by decide +kernel
theorem d5_7 : decode prog_12_method_25_code 7 = .ok (.iload_n 0, 1) := by decide +kernel
theorem d5_8 : decode prog_12_method_25_code 8 = .ok (.if_icmp .ge 13, 3) := by decide +kernel
theorem d5_11 : decode prog_12_method_25_code 11 = .ok (.aload_n 1, 1) := by decide +kernel
theorem d5_12 : decode prog_12_method_25_code 12 = .ok (.iload_n 2, 1) := by decide +kernel
theorem d5_13 : decode prog_12_method_25_code 13 = .ok (.iload_n 2, 1) := by decide +kernel
theorem d5_14 : decode prog_12_method_25_code 14 = .ok (.iastore, 1) := by decide +kernel
theorem d5_15 : decode prog_12_method_25_code 15 = .ok (.iinc 2 1, 3) := by decide +kernel
theorem d5_18 : decode prog_12_method_25_code 18 = .ok (.goto (-12), 3) := by decide +kernel
theorem d5_21 : decode prog_12_method_25_code 21 = .ok (.aload_n 1, 1) := by decide +kernel
theorem d5_22 : decode prog_12_method_25_code 22 = .ok (.areturn, 1) := by decide +kernel
theorem pn_2 : plainName "com/example/ordal/ordal/Relation" = true := by first | (simp [plainName, overriddenIn]; done) | decide +kernel
theorem pd_1 : parseMethodDescriptor "(I)[I" = some ⟨[.int], some (.array .int)⟩ := by decide +kernel
theorem d1_51 : decode prog_12_method_1_code 51 = .ok (.invokespecial 33, 3) := by decide +kernel
theorem d6_0 : decode prog_15_method_1_code 0 = .ok (.aload_n 0, 1) := by decide +kernel
theorem d6_1 : decode prog_15_method_1_code 1 = .ok (.invokespecial 1, 3) := by decide +kernel
theorem d6_4 : decode prog_15_method_1_code 4 = .ok (.aload_n 0, 1) := by decide +kernel
theorem d6_5 : decode prog_15_method_1_code 5 = .ok (.new 7, 3) := by decide +kernel
theorem d6_8 : decode prog_15_method_1_code 8 = .ok (.dup, 1) := by decide +kernel
theorem d6_9 : decode prog_15_method_1_code 9 = .ok (.aload_n 0, 1) := by decide +kernel
theorem d6_10 : decode prog_15_method_1_code 10 = .ok (.invokespecial 9, 3) := by decide +kernel
theorem d7_0 : decode prog_9_method_1_code 0 = .ok (.aload_n 0, 1) := by decide +kernel
theorem d7_1 : decode prog_9_method_1_code 1 = .ok (.invokespecial 1, 3) := by decide +kernel
theorem d7_4 : decode prog_9_method_1_code 4 = .ok (.aload_n 0, 1) := by decide +kernel
theorem d7_5 : decode prog_9_method_1_code 5 = .ok (.bipush 16, 2) := by decide +kernel
theorem d7_7 : decode prog_9_method_1_code 7 = .ok (.newarray .int, 2) := by decide +kernel
theorem d7_9 : decode prog_9_method_1_code 9 = .ok (.putfield 9, 3) := by decide +kernel
theorem d7_12 : decode prog_9_method_1_code 12 = .ok (.aload_n 0, 1) := by decide +kernel
theorem d7_13 : decode prog_9_method_1_code 13 = .ok (.bipush 8, 2) := by decide +kernel
theorem d7_15 : decode prog_9_method_1_code 15 = .ok (.newarray .int, 2) := by decide +kernel
theorem d7_17 : decode prog_9_method_1_code 17 = .ok (.putfield 13, 3) := by decide +kernel
theorem d7_20 : decode prog_9_method_1_code 20 = .ok (.aload_n 0, 1) := by decide +kernel
theorem d7_21 : decode prog_9_method_1_code 21 = .ok (.aload_n 1, 1) := by decide +kernel
theorem d7_22 : decode prog_9_method_1_code 22 = .ok (.putfield 16, 3) := by decide +kernel
theorem d7_25 : decode prog_9_method_1_code 25 = .ok (.return_, 1) := by decide +kernel
theorem pn_3 : plainName "com/example/ordal/ordal/NumberTable" = true := by first | (simp [plainName, overriddenIn]; done) | decide +kernel
theorem pd_2 : parseMethodDescriptor "(Lcom/example/ordal/ordal/NumberTable$Keys;)V" = some ⟨[(.object "com/example/ordal/ordal/NumberTable$Keys")], none⟩ := by decide +kernel
theorem d6_13 : decode prog_15_method_1_code 13 = .ok (.putfield 12, 3) := by decide +kernel
theorem d6_16 : decode prog_15_method_1_code 16 = .ok (.aload_n 0, 1) := by decide +kernel
theorem d6_17 : decode prog_15_method_1_code 17 = .ok (.aload_n 1, 1) := by decide +kernel
theorem d6_18 : decode prog_15_method_1_code 18 = .ok (.putfield 18, 3) := by decide +kernel
theorem d6_21 : decode prog_15_method_1_code 21 = .ok (.aload_n 0, 1) := by decide +kernel
theorem d6_22 : decode prog_15_method_1_code 22 = .ok (.aload_n 2, 1) := by decide +kernel
theorem d6_23 : decode prog_15_method_1_code 23 = .ok (.putfield 22, 3) := by decide +kernel
theorem d6_26 : decode prog_15_method_1_code 26 = .ok (.aload_n 0, 1) := by decide +kernel
theorem d6_27 : decode prog_15_method_1_code 27 = .ok (.aload_n 2, 1) := by decide +kernel
theorem d6_28 : decode prog_15_method_1_code 28 = .ok (.arraylength, 1) := by decide +kernel
theorem d6_29 : decode prog_15_method_1_code 29 = .ok (.newarray .int, 2) := by decide +kernel
theorem d6_31 : decode prog_15_method_1_code 31 = .ok (.putfield 26, 3) := by decide +kernel
theorem d6_34 : decode prog_15_method_1_code 34 = .ok (.return_, 1) := by decide +kernel
theorem pn_4 : plainName "com/example/ordal/ordal/Relation$PositionTable" = true := by first | (simp [plainName, overriddenIn]; done) | decide +kernel
theorem pd_3 : parseMethodDescriptor "(Lcom/example/ordal/ordal/Relation;[I)V" = some ⟨[(.object "com/example/ordal/ordal/Relation"), (.array .int)], none⟩ := by decide +kernel
theorem d1_54 : decode prog_12_method_1_code 54 = .ok (.putfield 36, 3) := by decide +kernel
theorem d1_57 : decode prog_12_method_1_code 57 = .ok (.return_, 1) := by decide +kernel
theorem pd_4 : parseMethodDescriptor "(I)V" = some ⟨[.int], none⟩ := by decide +kernel
theorem d10_0 : decode prog_12_method_14_code 0 = .ok (.aload_n 0, 1) := by decide +kernel
theorem d10_1 : decode prog_12_method_14_code 1 = .ok (.aload_n 1, 1) := by decide +kernel
theorem d10_2 : decode prog_12_method_14_code 2 = .ok (.aload_n 1, 1) := by decide +kernel
theorem d10_3 : decode prog_12_method_14_code 3 = .ok (.invokevirtual 77, 3) := by decide +kernel
theorem d11_0 : decode prog_12_method_15_code 0 = .ok (.aload_n 1, 1) := by decide +kernel
theorem d11_1 : decode prog_12_method_15_code 1 = .ok (.arraylength, 1) := by decide +kernel
theorem d11_2 : decode prog_12_method_15_code 2 = .ok (.aload_n 0, 1) := by decide +kernel
theorem d11_3 : decode prog_12_method_15_code 3 = .ok (.getfield 19, 3) := by decide +kernel
theorem d11_6 : decode prog_12_method_15_code 6 = .ok (.if_icmp .ne 12, 3) := by decide +kernel
theorem d11_9 : decode prog_12_method_15_code 9 = .ok (.aload_n 2, 1) := by decide +kernel
theorem d11_10 : decode prog_12_method_15_code 10 = .ok (.arraylength, 1) := by decide +kernel
theorem d11_11 : decode prog_12_method_15_code 11 = .ok (.aload_n 0, 1) := by decide +kernel
theorem d11_12 : decode prog_12_method_15_code 12 = .ok (.getfield 19, 3) := by decide +kernel
theorem d11_15 : decode prog_12_method_15_code 15 = .ok (.if_icmp .eq 22, 3) := by decide +kernel
theorem d11_37 : decode prog_12_method_15_code 37 = .ok (.aload_n 0, 1) := by decide +kernel
theorem d11_38 : decode prog_12_method_15_code 38 = .ok (.aload_n 1, 1) := by decide +kernel
theorem d11_39 : decode prog_12_method_15_code 39 = .ok (.aload_n 2, 1) := by decide +kernel
theorem d11_40 : decode prog_12_method_15_code 40 = .ok (.invokevirtual 90, 3) := by decide +kernel
theorem d12_0 : decode prog_12_method_16_code 0 = .ok (.aload_n 0, 1) := by decide +kernel
theorem d12_1 : decode prog_12_method_16_code 1 = .ok (.getfield 36, 3) := by decide +kernel
theorem d12_4 : decode prog_12_method_16_code 4 = .ok (.aload_n 1, 1) := by decide +kernel
theorem d12_5 : decode prog_12_method_16_code 5 = .ok (.invokevirtual 69, 3) := by decide +kernel
theorem d13_0 : decode prog_15_method_9_code 0 = .ok (.aload_n 1, 1) := by decide +kernel
theorem d13_1 : decode prog_15_method_9_code 1 = .ok (.arraylength, 1) := by decide +kernel
theorem d13_2 : decode prog_15_method_9_code 2 = .ok (.istore_n 2, 1) := by decide +kernel
theorem d13_3 : decode prog_15_method_9_code 3 = .ok (.aload_n 1, 1) := by decide +kernel
theorem d13_4 : decode prog_15_method_9_code 4 = .ok (.astore_n 3, 1) := by decide +kernel
theorem d13_5 : decode prog_15_method_9_code 5 = .ok (.aload_n 3, 1) := by decide +kernel
theorem d13_6 : decode prog_15_method_9_code 6 = .ok (.arraylength, 1) := by decide +kernel
theorem d13_7 : decode prog_15_method_9_code 7 = .ok (.istore 4, 2) := by decide +kernel
theorem d13_9 : decode prog_15_method_9_code 9 = .ok (.iconst 0, 1) := by decide +kernel
theorem d13_10 : decode prog_15_method_9_code 10 = .ok (.istore 5, 2) := by decide +kernel
theorem d13_12 : decode prog_15_method_9_code 12 = .ok (.iload 5, 2) := by decide +kernel
theorem d13_14 : decode prog_15_method_9_code 14 = .ok (.iload 4, 2) := by decide +kernel
theorem d13_16 : decode prog_15_method_9_code 16 = .ok (.if_icmp .ge 22, 3) := by decide +kernel
theorem d13_19 : decode prog_15_method_9_code 19 = .ok (.aload_n 3, 1) := by decide +kernel
theorem d13_20 : decode prog_15_method_9_code 20 = .ok (.iload 5, 2) := by decide +kernel
theorem d13_22 : decode prog_15_method_9_code 22 = .ok (.iaload, 1) := by decide +kernel
theorem d13_23 : decode prog_15_method_9_code 23 = .ok (.istore 6, 2) := by decide +kernel
theorem d13_25 : decode prog_15_method_9_code 25 = .ok (.iload_n 2, 1) := by decide +kernel
theorem d13_26 : decode prog_15_method_9_code 26 = .ok (.iload 6, 2) := by decide +kernel
theorem d13_28 : decode prog_15_method_9_code 28 = .ok (.invokestatic 52, 3) := by decide +kernel
theorem d14_0 : decode prog_15_method_11_code 0 = .ok (.iload_n 0, 1) := by decide +kernel
theorem d14_1 : decode prog_15_method_11_code 1 = .ok (.iload_n 1, 1) := by decide +kernel
theorem d14_2 : decode prog_15_method_11_code 2 = .ok (.iadd, 1) := by decide +kernel
theorem d14_3 : decode prog_15_method_11_code 3 = .ok (.ldc 55, 2) := by decide +kernel
theorem d14_5 : decode prog_15_method_11_code 5 = .ok (.imul, 1) := by decide +kernel
theorem d14_6 : decode prog_15_method_11_code 6 = .ok (.ireturn, 1) := by decide +kernel
theorem pd_5 : parseMethodDescriptor "(II)I" = some ⟨[.int, .int], some .int⟩ := by decide +kernel
theorem d13_31 : decode prog_15_method_9_code 31 = .ok (.istore_n 2, 1) := by decide +kernel
theorem d13_32 : decode prog_15_method_9_code 32 = .ok (.iinc 5 1, 3) := by decide +kernel
theorem d13_35 : decode prog_15_method_9_code 35 = .ok (.goto (-23), 3) := by decide +kernel
theorem d13_38 : decode prog_15_method_9_code 38 = .ok (.iload_n 2, 1) := by decide +kernel
theorem d13_39 : decode prog_15_method_9_code 39 = .ok (.ireturn, 1) := by decide +kernel
theorem pd_6 : parseMethodDescriptor "([I)I" = some ⟨[(.array .int)], some .int⟩ := by decide +kernel
theorem d12_8 : decode prog_12_method_16_code 8 = .ok (.istore_n 3, 1) := by decide +kernel
theorem d12_9 : decode prog_12_method_16_code 9 = .ok (.aload_n 0, 1) := by decide +kernel
theorem d12_10 : decode prog_12_method_16_code 10 = .ok (.getfield 36, 3) := by decide +kernel
theorem d12_13 : decode prog_12_method_16_code 13 = .ok (.aload_n 1, 1) := by decide +kernel
theorem d12_14 : decode prog_12_method_16_code 14 = .ok (.iload_n 3, 1) := by decide +kernel
theorem d12_15 : decode prog_12_method_16_code 15 = .ok (.invokevirtual 73, 3) := by decide +kernel
theorem d15_0 : decode prog_15_method_2_code 0 = .ok (.aload_n 0, 1) := by decide +kernel
theorem d15_1 : decode prog_15_method_2_code 1 = .ok (.getfield 12, 3) := by decide +kernel
theorem d15_4 : decode prog_15_method_2_code 4 = .ok (.iload_n 2, 1) := by decide +kernel
theorem d15_5 : decode prog_15_method_2_code 5 = .ok (.aload_n 1, 1) := by decide +kernel
theorem d15_6 : decode prog_15_method_2_code 6 = .ok (.invokevirtual 29, 3) := by decide +kernel
theorem d16_0 : decode prog_9_method_2_code 0 = .ok (.aload_n 0, 1) := by decide +kernel
theorem d16_1 : decode prog_9_method_2_code 1 = .ok (.iload_n 1, 1) := by decide +kernel
theorem d16_2 : decode prog_9_method_2_code 2 = .ok (.invokevirtual 20, 3) := by decide +kernel
theorem d17_0 : decode prog_9_method_8_code 0 = .ok (.iload_n 1, 1) := by decide +kernel
theorem d17_1 : decode prog_9_method_8_code 1 = .ok (.invokestatic 113, 3) := by decide +kernel
theorem d18_0 : decode prog_9_method_10_code 0 = .ok (.iload_n 0, 1) := by decide +kernel
theorem d18_1 : decode prog_9_method_10_code 1 = .ok (.ldc 116, 2) := by decide +kernel
theorem d18_3 : decode prog_9_method_10_code 3 = .ok (.imul, 1) := by decide +kernel
theorem d18_4 : decode prog_9_method_10_code 4 = .ok (.istore_n 1, 1) := by decide +kernel
theorem d18_5 : decode prog_9_method_10_code 5 = .ok (.iload_n 1, 1) := by decide +kernel
theorem d18_6 : decode prog_9_method_10_code 6 = .ok (.iload_n 1, 1) := by decide +kernel
theorem d18_7 : decode prog_9_method_10_code 7 = .ok (.bipush 16, 2) := by decide +kernel
theorem d18_9 : decode prog_9_method_10_code 9 = .ok (.iushr, 1) := by decide +kernel
theorem d18_10 : decode prog_9_method_10_code 10 = .ok (.ixor, 1) := by decide +kernel
theorem d18_11 : decode prog_9_method_10_code 11 = .ok (.istore_n 1, 1) := by decide +kernel
theorem d18_12 : decode prog_9_method_10_code 12 = .ok (.iload_n 1, 1) := by decide +kernel
theorem d18_13 : decode prog_9_method_10_code 13 = .ok (.ldc 117, 2) := by decide +kernel
theorem d18_15 : decode prog_9_method_10_code 15 = .ok (.imul, 1) := by decide +kernel
theorem d18_16 : decode prog_9_method_10_code 16 = .ok (.istore_n 1, 1) := by decide +kernel
theorem d18_17 : decode prog_9_method_10_code 17 = .ok (.iload_n 1, 1) := by decide +kernel
theorem d18_18 : decode prog_9_method_10_code 18 = .ok (.iload_n 1, 1) := by decide +kernel
theorem d18_19 : decode prog_9_method_10_code 19 = .ok (.bipush 13, 2) := by decide +kernel
theorem d18_21 : decode prog_9_method_10_code 21 = .ok (.iushr, 1) := by decide +kernel
theorem d18_22 : decode prog_9_method_10_code 22 = .ok (.ixor, 1) := by decide +kernel
theorem d18_23 : decode prog_9_method_10_code 23 = .ok (.ireturn, 1) := by decide +kernel
theorem pd_7 : parseMethodDescriptor "(I)I" = some ⟨[.int], some .int⟩ := by decide +kernel
theorem d17_4 : decode prog_9_method_8_code 4 = .ok (.aload_n 0, 1) := by decide +kernel
theorem d17_5 : decode prog_9_method_8_code 5 = .ok (.getfield 9, 3) := by decide +kernel
theorem d17_8 : decode prog_9_method_8_code 8 = .ok (.arraylength, 1) := by decide +kernel
theorem d17_9 : decode prog_9_method_8_code 9 = .ok (.iconst 1, 1) := by decide +kernel
theorem d17_10 : decode prog_9_method_8_code 10 = .ok (.isub, 1) := by decide +kernel
theorem d17_11 : decode prog_9_method_8_code 11 = .ok (.iand, 1) := by decide +kernel
theorem d17_12 : decode prog_9_method_8_code 12 = .ok (.ireturn, 1) := by decide +kernel
theorem d16_5 : decode prog_9_method_2_code 5 = .ok (.istore_n 3, 1) := by decide +kernel
theorem d16_6 : decode prog_9_method_2_code 6 = .ok (.iconst 0, 1) := by decide +kernel
theorem d16_7 : decode prog_9_method_2_code 7 = .ok (.istore 4, 2) := by decide +kernel
theorem d16_9 : decode prog_9_method_2_code 9 = .ok (.iconst 0, 1) := by decide +kernel
theorem d16_10 : decode prog_9_method_2_code 10 = .ok (.istore 5, 2) := by decide +kernel
theorem d16_12 : decode prog_9_method_2_code 12 = .ok (.iload 5, 2) := by decide +kernel
theorem d16_14 : decode prog_9_method_2_code 14 = .ok (.bipush 32, 2) := by decide +kernel
theorem d16_16 : decode prog_9_method_2_code 16 = .ok (.if_icmp .ge 70, 3) := by decide +kernel
theorem d16_19 : decode prog_9_method_2_code 19 = .ok (.iload 4, 2) := by decide +kernel
theorem d16_21 : decode prog_9_method_2_code 21 = .ok (.iconst 4, 1) := by decide +kernel
theorem d16_22 : decode prog_9_method_2_code 22 = .ok (.if_icmp .ge 64, 3) := by decide +kernel
theorem d16_25 : decode prog_9_method_2_code 25 = .ok (.aload_n 0, 1) := by decide +kernel
theorem d16_26 : decode prog_9_method_2_code 26 = .ok (.getfield 9, 3) := by decide +kernel
theorem d16_29 : decode prog_9_method_2_code 29 = .ok (.iload_n 3, 1) := by decide +kernel
theorem d16_30 : decode prog_9_method_2_code 30 = .ok (.iaload, 1) := by decide +kernel
theorem d16_31 : decode prog_9_method_2_code 31 = .ok (.iconst 1, 1) := by decide +kernel
theorem d16_32 : decode prog_9_method_2_code 32 = .ok (.isub, 1) := by decide +kernel
theorem d16_33 : decode prog_9_method_2_code 33 = .ok (.istore 6, 2) := by decide +kernel
theorem d16_35 : decode prog_9_method_2_code 35 = .ok (.iload 6, 2) := by decide +kernel
theorem d16_37 : decode prog_9_method_2_code 37 = .ok (.ifCond .ge 5, 3) := by decide +kernel
theorem d16_40 : decode prog_9_method_2_code 40 = .ok (.iconst (-1), 1) := by decide +kernel
theorem d16_41 : decode prog_9_method_2_code 41 = .ok (.ireturn, 1) := by decide +kernel
theorem pd_8 : parseMethodDescriptor "(ILjava/lang/Object;)I" = some ⟨[.int, (.object "java/lang/Object")], some .int⟩ := by decide +kernel
theorem d15_9 : decode prog_15_method_2_code 9 = .ok (.ireturn, 1) := by decide +kernel
theorem pd_9 : parseMethodDescriptor "([II)I" = some ⟨[(.array .int), .int], some .int⟩ := by decide +kernel
theorem d12_18 : decode prog_12_method_16_code 18 = .ok (.iconst (-1), 1) := by decide +kernel
theorem d12_19 : decode prog_12_method_16_code 19 = .ok (.if_icmp .eq 5, 3) := by decide +kernel
theorem d12_24 : decode prog_12_method_16_code 24 = .ok (.aload_n 0, 1) := by decide +kernel
theorem d12_25 : decode prog_12_method_16_code 25 = .ok (.getfield 40, 3) := by decide +kernel
theorem d12_28 : decode prog_12_method_16_code 28 = .ok (.iconst 1, 1) := by decide +kernel
theorem d12_29 : decode prog_12_method_16_code 29 = .ok (.iadd, 1) := by decide +kernel
theorem d12_30 : decode prog_12_method_16_code 30 = .ok (.aload_n 0, 1) := by decide +kernel
theorem d12_31 : decode prog_12_method_16_code 31 = .ok (.getfield 19, 3) := by decide +kernel
theorem d12_34 : decode prog_12_method_16_code 34 = .ok (.imul, 1) := by decide +kernel
theorem d12_35 : decode prog_12_method_16_code 35 = .ok (.aload_n 0, 1) := by decide +kernel
theorem d12_36 : decode prog_12_method_16_code 36 = .ok (.getfield 23, 3) := by decide +kernel
theorem d12_39 : decode prog_12_method_16_code 39 = .ok (.arraylength, 1) := by decide +kernel
theorem d12_40 : decode prog_12_method_16_code 40 = .ok (.if_icmp .le 58, 3) := by decide +kernel
theorem d12_98 : decode prog_12_method_16_code 98 = .ok (.aload_n 0, 1) := by decide +kernel
theorem d12_99 : decode prog_12_method_16_code 99 = .ok (.getfield 40, 3) := by decide +kernel
theorem d12_102 : decode prog_12_method_16_code 102 = .ok (.aload_n 0, 1) := by decide +kernel
theorem d12_103 : decode prog_12_method_16_code 103 = .ok (.getfield 19, 3) := by decide +kernel
theorem d12_106 : decode prog_12_method_16_code 106 = .ok (.imul, 1) := by decide +kernel
theorem d12_107 : decode prog_12_method_16_code 107 = .ok (.istore 4, 2) := by decide +kernel
theorem d12_109 : decode prog_12_method_16_code 109 = .ok (.aload_n 1, 1) := by decide +kernel
theorem d12_110 : decode prog_12_method_16_code 110 = .ok (.iconst 0, 1) := by decide +kernel
theorem d12_111 : decode prog_12_method_16_code 111 = .ok (.aload_n 0, 1) := by decide +kernel
theorem d12_112 : decode prog_12_method_16_code 112 = .ok (.getfield 23, 3) := by decide +kernel
theorem d12_115 : decode prog_12_method_16_code 115 = .ok (.iload 4, 2) := by decide +kernel
theorem d12_117 : decode prog_12_method_16_code 117 = .ok (.aload_n 0, 1) := by decide +kernel
theorem d12_118 : decode prog_12_method_16_code 118 = .ok (.getfield 19, 3) := by decide +kernel
theorem d12_121 : decode prog_12_method_16_code 121 = .ok (.invokestatic 103, 3) := by decide +kernel
theorem d12_124 : decode prog_12_method_16_code 124 = .ok (.aload_n 0, 1) := by decide +kernel
theorem d12_125 : decode prog_12_method_16_code 125 = .ok (.getfield 60, 3) := by decide +kernel
theorem d12_128 : decode prog_12_method_16_code 128 = .ok (.ifnonnull 30, 3) := by decide +kernel
theorem d12_131 : decode prog_12_method_16_code 131 = .ok (.aload_n 2, 1) := by decide +kernel
theorem d12_132 : decode prog_12_method_16_code 132 = .ok (.aload_n 1, 1) := by decide +kernel
theorem d12_133 : decode prog_12_method_16_code 133 = .ok (.if_acmp .eq 25, 3) := by decide +kernel
theorem d12_158 : decode prog_12_method_16_code 158 = .ok (.aload_n 0, 1) := by decide +kernel
theorem d12_159 : decode prog_12_method_16_code 159 = .ok (.getfield 60, 3) := by decide +kernel
theorem d12_162 : decode prog_12_method_16_code 162 = .ok (.ifnull 18, 3) := by decide +kernel
theorem d12_180 : decode prog_12_method_16_code 180 = .ok (.aload_n 0, 1) := by decide +kernel
theorem d12_181 : decode prog_12_method_16_code 181 = .ok (.dup, 1) := by decide +kernel
theorem d12_182 : decode prog_12_method_16_code 182 = .ok (.getfield 40, 3) := by decide +kernel
theorem d12_185 : decode prog_12_method_16_code 185 = .ok (.dup_x1, 1) := by decide +kernel
theorem d12_186 : decode prog_12_method_16_code 186 = .ok (.iconst 1, 1) := by decide +kernel
theorem d12_187 : decode prog_12_method_16_code 187 = .ok (.iadd, 1) := by decide +kernel
theorem d12_188 : decode prog_12_method_16_code 188 = .ok (.putfield 40, 3) := by decide +kernel
theorem d12_191 : decode prog_12_method_16_code 191 = .ok (.istore 5, 2) := by decide +kernel
theorem d12_193 : decode prog_12_method_16_code 193 = .ok (.aload_n 0, 1) := by decide +kernel
theorem d12_194 : decode prog_12_method_16_code 194 = .ok (.getfield 36, 3) := by decide +kernel
theorem d12_197 : decode prog_12_method_16_code 197 = .ok (.iload 5, 2) := by decide +kernel
theorem d12_199 : decode prog_12_method_16_code 199 = .ok (.iload_n 3, 1) := by decide +kernel
theorem d12_200 : decode prog_12_method_16_code 200 = .ok (.invokevirtual 117, 3) := by decide +kernel
theorem d19_0 : decode prog_15_method_4_code 0 = .ok (.aload_n 0, 1) := by decide +kernel
theorem d19_1 : decode prog_15_method_4_code 1 = .ok (.getfield 12, 3) := by decide +kernel
theorem d19_4 : decode prog_15_method_4_code 4 = .ok (.iload_n 1, 1) := by decide +kernel
theorem d19_5 : decode prog_15_method_4_code 5 = .ok (.iload_n 2, 1) := by decide +kernel
theorem d19_6 : decode prog_15_method_4_code 6 = .ok (.invokevirtual 39, 3) := by decide +kernel
theorem d20_0 : decode prog_9_method_3_code 0 = .ok (.iload_n 1, 1) := by decide +kernel
theorem d20_1 : decode prog_9_method_3_code 1 = .ok (.aload_n 0, 1) := by decide +kernel
theorem d20_2 : decode prog_9_method_3_code 2 = .ok (.getfield 13, 3) := by decide +kernel
theorem d20_5 : decode prog_9_method_3_code 5 = .ok (.arraylength, 1) := by decide +kernel
theorem d20_6 : decode prog_9_method_3_code 6 = .ok (.if_icmp .lt 27, 3) := by decide +kernel
theorem d20_33 : decode prog_9_method_3_code 33 = .ok (.aload_n 0, 1) := by decide +kernel
theorem d20_34 : decode prog_9_method_3_code 34 = .ok (.getfield 13, 3) := by decide +kernel
theorem d20_37 : decode prog_9_method_3_code 37 = .ok (.iload_n 1, 1) := by decide +kernel
theorem d20_38 : decode prog_9_method_3_code 38 = .ok (.iload_n 2, 1) := by decide +kernel
theorem d20_39 : decode prog_9_method_3_code 39 = .ok (.iastore, 1) := by decide +kernel
theorem d20_40 : decode prog_9_method_3_code 40 = .ok (.iconst 2, 1) := by decide +kernel
theorem d20_41 : decode prog_9_method_3_code 41 = .ok (.aload_n 0, 1) := by decide +kernel
theorem d20_42 : decode prog_9_method_3_code 42 = .ok (.getfield 61, 3) := by decide +kernel
theorem d20_45 : decode prog_9_method_3_code 45 = .ok (.iconst 1, 1) := by decide +kernel
theorem d20_46 : decode prog_9_method_3_code 46 = .ok (.iadd, 1) := by decide +kernel
theorem d20_47 : decode prog_9_method_3_code 47 = .ok (.imul, 1) := by decide +kernel
theorem d20_48 : decode prog_9_method_3_code 48 = .ok (.aload_n 0, 1) := by decide +kernel
theorem d20_49 : decode prog_9_method_3_code 49 = .ok (.getfield 9, 3) := by decide +kernel
theorem d20_52 : decode prog_9_method_3_code 52 = .ok (.arraylength, 1) := by decide +kernel
theorem d20_53 : decode prog_9_method_3_code 53 = .ok (.if_icmp .le 7, 3) := by decide +kernel
theorem d20_60 : decode prog_9_method_3_code 60 = .ok (.aload_n 0, 1) := by decide +kernel
theorem d20_61 : decode prog_9_method_3_code 61 = .ok (.iload_n 1, 1) := by decide +kernel
theorem d20_62 : decode prog_9_method_3_code 62 = .ok (.invokevirtual 68, 3) := by decide +kernel
theorem d21_0 : decode prog_9_method_6_code 0 = .ok (.aload_n 0, 1) := by decide +kernel
theorem d21_1 : decode prog_9_method_6_code 1 = .ok (.iload_n 1, 1) := by decide +kernel
theorem d21_2 : decode prog_9_method_6_code 2 = .ok (.invokevirtual 91, 3) := by decide +kernel
theorem d22_0 : decode prog_9_method_7_code 0 = .ok (.aload_n 0, 1) := by decide +kernel
theorem d22_1 : decode prog_9_method_7_code 1 = .ok (.getfield 13, 3) := by decide +kernel
theorem d22_4 : decode prog_9_method_7_code 4 = .ok (.iload_n 1, 1) := by decide +kernel
theorem d22_5 : decode prog_9_method_7_code 5 = .ok (.iaload, 1) := by decide +kernel
theorem d22_6 : decode prog_9_method_7_code 6 = .ok (.istore_n 2, 1) := by decide +kernel
theorem d22_7 : decode prog_9_method_7_code 7 = .ok (.aload_n 0, 1) := by decide +kernel
theorem d22_8 : decode prog_9_method_7_code 8 = .ok (.iload_n 2, 1) := by decide +kernel
theorem d22_9 : decode prog_9_method_7_code 9 = .ok (.invokevirtual 20, 3) := by decide +kernel
theorem d22_12 : decode prog_9_method_7_code 12 = .ok (.istore_n 3, 1) := by decide +kernel
theorem d22_13 : decode prog_9_method_7_code 13 = .ok (.iconst 0, 1) := by decide +kernel
theorem d22_14 : decode prog_9_method_7_code 14 = .ok (.istore 4, 2) := by decide +kernel
theorem d22_16 : decode prog_9_method_7_code 16 = .ok (.iconst 0, 1) := by decide +kernel
theorem d22_17 : decode prog_9_method_7_code 17 = .ok (.istore 5, 2) := by decide +kernel
theorem d22_19 : decode prog_9_method_7_code 19 = .ok (.iload 5, 2) := by decide +kernel
theorem d22_21 : decode prog_9_method_7_code 21 = .ok (.bipush 32, 2) := by decide +kernel
theorem d22_23 : decode prog_9_method_7_code 23 = .ok (.if_icmp .ge 61, 3) := by decide +kernel
theorem d22_26 : decode prog_9_method_7_code 26 = .ok (.iload 4, 2) := by decide +kernel
theorem d22_28 : decode prog_9_method_7_code 28 = .ok (.iconst 4, 1) := by decide +kernel
theorem d22_29 : decode prog_9_method_7_code 29 = .ok (.if_icmp .ge 55, 3) := by decide +kernel
theorem d22_32 : decode prog_9_method_7_code 32 = .ok (.aload_n 0, 1) := by decide +kernel
theorem d22_33 : decode prog_9_method_7_code 33 = .ok (.getfield 9, 3) := by decide +kernel
theorem d22_36 : decode prog_9_method_7_code 36 = .ok (.iload_n 3, 1) := by decide +kernel
theorem d22_37 : decode prog_9_method_7_code 37 = .ok (.iaload, 1) := by decide +kernel
theorem d22_38 : decode prog_9_method_7_code 38 = .ok (.iconst 1, 1) := by decide +kernel
theorem d22_39 : decode prog_9_method_7_code 39 = .ok (.isub, 1) := by decide +kernel
theorem d22_40 : decode prog_9_method_7_code 40 = .ok (.istore 6, 2) := by decide +kernel
theorem d22_42 : decode prog_9_method_7_code 42 = .ok (.iload 6, 2) := by decide +kernel
theorem d22_44 : decode prog_9_method_7_code 44 = .ok (.ifCond .ge 14, 3) := by decide +kernel
theorem d22_47 : decode prog_9_method_7_code 47 = .ok (.aload_n 0, 1) := by decide +kernel
theorem d22_48 : decode prog_9_method_7_code 48 = .ok (.getfield 9, 3) := by decide +kernel
theorem d22_51 : decode prog_9_method_7_code 51 = .ok (.iload_n 3, 1) := by decide +kernel
theorem d22_52 : decode prog_9_method_7_code 52 = .ok (.iload_n 1, 1) := by decide +kernel
theorem d22_53 : decode prog_9_method_7_code 53 = .ok (.iconst 1, 1) := by decide +kernel
theorem d22_54 : decode prog_9_method_7_code 54 = .ok (.iadd, 1) := by decide +kernel
theorem d22_55 : decode prog_9_method_7_code 55 = .ok (.iastore, 1) := by decide +kernel
theorem d22_56 : decode prog_9_method_7_code 56 = .ok (.iconst 1, 1) := by decide +kernel
theorem d22_57 : decode prog_9_method_7_code 57 = .ok (.ireturn, 1) := by decide +kernel
theorem pd_10 : parseMethodDescriptor "(I)Z" = some ⟨[.int], some .boolean⟩ := by decide +kernel
theorem d21_5 : decode prog_9_method_6_code 5 = .ok (.ifCond .ne 47, 3) := by decide +kernel
theorem d21_52 : decode prog_9_method_6_code 52 = .ok (.return_, 1) := by decide +kernel
theorem d20_65 : decode prog_9_method_3_code 65 = .ok (.aload_n 0, 1) := by decide +kernel
theorem d20_66 : decode prog_9_method_3_code 66 = .ok (.dup, 1) := by decide +kernel
theorem d20_67 : decode prog_9_method_3_code 67 = .ok (.getfield 61, 3) := by decide +kernel
theorem d20_70 : decode prog_9_method_3_code 70 = .ok (.iconst 1, 1) := by decide +kernel
theorem d20_71 : decode prog_9_method_3_code 71 = .ok (.iadd, 1) := by decide +kernel
theorem d20_72 : decode prog_9_method_3_code 72 = .ok (.putfield 61, 3) := by decide +kernel
theorem d20_75 : decode prog_9_method_3_code 75 = .ok (.return_, 1) := by decide +kernel
theorem pd_11 : parseMethodDescriptor "(II)V" = some ⟨[.int, .int], none⟩ := by decide +kernel
theorem d19_9 : decode prog_15_method_4_code 9 = .ok (.return_, 1) := by decide +kernel
theorem d12_203 : decode prog_12_method_16_code 203 = .ok (.aload_n 0, 1) := by decide +kernel
theorem d12_204 : decode prog_12_method_16_code 204 = .ok (.getfield 10, 3) := by decide +kernel
theorem d12_207 : decode prog_12_method_16_code 207 = .ok (.invokeinterface 120 1, 5) := by decide +kernel
theorem d23_0 : decode jdk_69_method_11_code 0 = .ok (.aload_n 0, 1) := by decide +kernel
theorem d23_1 : decode jdk_69_method_11_code 1 = .ok (.getfield 156, 3) := by decide +kernel
theorem d23_4 : decode jdk_69_method_11_code 4 = .ok (.ifCond .ne 7, 3) := by decide +kernel
theorem d23_7 : decode jdk_69_method_11_code 7 = .ok (.iconst 1, 1) := by decide +kernel
theorem d23_8 : decode jdk_69_method_11_code 8 = .ok (.goto 4, 3) := by decide +kernel
theorem d23_12 : decode jdk_69_method_11_code 12 = .ok (.ireturn, 1) := by decide +kernel
theorem pd_12 : parseMethodDescriptor "()Z" = some ⟨[], some .boolean⟩ := by decide +kernel
theorem d12_212 : decode prog_12_method_16_code 212 = .ok (.ifCond .ne 51, 3) := by decide +kernel
theorem d12_263 : decode prog_12_method_16_code 263 = .ok (.iconst 1, 1) := by decide +kernel
theorem d12_264 : decode prog_12_method_16_code 264 = .ok (.ireturn, 1) := by decide +kernel
theorem pd_13 : parseMethodDescriptor "([I[I)Z" = some ⟨[(.array .int), (.array .int)], some .boolean⟩ := by decide +kernel
theorem d11_43 : decode prog_12_method_15_code 43 = .ok (.istore_n 3, 1) := by decide +kernel
theorem d11_44 : decode prog_12_method_15_code 44 = .ok (.iload_n 3, 1) := by decide +kernel
theorem d11_45 : decode prog_12_method_15_code 45 = .ok (.ifCond .eq 13, 3) := by decide +kernel
theorem d11_48 : decode prog_12_method_15_code 48 = .ok (.aload_n 0, 1) := by decide +kernel
theorem d11_49 : decode prog_12_method_15_code 49 = .ok (.dup, 1) := by decide +kernel
theorem d11_50 : decode prog_12_method_15_code 50 = .ok (.getfield 43, 3) := by decide +kernel
theorem d11_53 : decode prog_12_method_15_code 53 = .ok (.iconst 1, 1) := by decide +kernel
theorem d11_54 : decode prog_12_method_15_code 54 = .ok (.iadd, 1) := by decide +kernel
theorem d11_55 : decode prog_12_method_15_code 55 = .ok (.putfield 43, 3) := by decide +kernel
theorem d11_58 : decode prog_12_method_15_code 58 = .ok (.iload_n 3, 1) := by decide +kernel
theorem d11_59 : decode prog_12_method_15_code 59 = .ok (.ireturn, 1) := by decide +kernel
theorem d10_6 : decode prog_12_method_14_code 6 = .ok (.ireturn, 1) := by decide +kernel
theorem pd_14 : parseMethodDescriptor "([I)Z" = some ⟨[(.array .int)], some .boolean⟩ := by decide +kernel
theorem d16_42 : decode prog_9_method_2_code 42 = .ok (.aload_n 0, 1) := by decide +kernel
theorem d16_43 : decode prog_9_method_2_code 43 = .ok (.getfield 13, 3) := by decide +kernel
theorem d16_46 : decode prog_9_method_2_code 46 = .ok (.iload 6, 2) := by decide +kernel
theorem d16_48 : decode prog_9_method_2_code 48 = .ok (.iaload, 1) := by decide +kernel
theorem d16_49 : decode prog_9_method_2_code 49 = .ok (.iload_n 1, 1) := by decide +kernel
theorem d16_50 : decode prog_9_method_2_code 50 = .ok (.if_icmp .ne 24, 3) := by decide +kernel
theorem d16_53 : decode prog_9_method_2_code 53 = .ok (.aload_n 0, 1) := by decide +kernel
theorem d16_54 : decode prog_9_method_2_code 54 = .ok (.getfield 16, 3) := by decide +kernel
theorem d16_57 : decode prog_9_method_2_code 57 = .ok (.iload 6, 2) := by decide +kernel
theorem d16_59 : decode prog_9_method_2_code 59 = .ok (.aload_n 2, 1) := by decide +kernel
theorem d16_60 : decode prog_9_method_2_code 60 = .ok (.invokeinterface 24 3, 5) := by decide +kernel
theorem d25_0 : decode prog_15_method_13_code 0 = .ok (.aload_n 0, 1) := by decide +kernel
theorem d25_1 : decode prog_15_method_13_code 1 = .ok (.iload_n 1, 1) := by decide +kernel
theorem d25_2 : decode prog_15_method_13_code 2 = .ok (.aload_n 2, 1) := by decide +kernel
theorem d25_3 : decode prog_15_method_13_code 3 = .ok (.checkcast 60, 3) := by decide +kernel
theorem d25_6 : decode prog_15_method_13_code 6 = .ok (.invokevirtual 61, 3) := by decide +kernel
theorem d26_0 : decode prog_15_method_6_code 0 = .ok (.iconst 0, 1) := by decide +kernel
theorem d26_1 : decode prog_15_method_6_code 1 = .ok (.istore_n 3, 1) := by decide +kernel
theorem d26_2 : decode prog_15_method_6_code 2 = .ok (.iload_n 3, 1) := by decide +kernel
theorem d26_3 : decode prog_15_method_6_code 3 = .ok (.aload_n 0, 1) := by decide +kernel
theorem d26_4 : decode prog_15_method_6_code 4 = .ok (.getfield 22, 3) := by decide +kernel
theorem d26_7 : decode prog_15_method_6_code 7 = .ok (.arraylength, 1) := by decide +kernel
theorem d26_8 : decode prog_15_method_6_code 8 = .ok (.if_icmp .ge 31, 3) := by decide +kernel
theorem d26_11 : decode prog_15_method_6_code 11 = .ok (.aload_n 0, 1) := by decide +kernel
theorem d26_12 : decode prog_15_method_6_code 12 = .ok (.getfield 18, 3) := by decide +kernel
theorem d26_15 : decode prog_15_method_6_code 15 = .ok (.iload_n 1, 1) := by decide +kernel
theorem d26_16 : decode prog_15_method_6_code 16 = .ok (.aload_n 0, 1) := by decide +kernel
theorem d26_17 : decode prog_15_method_6_code 17 = .ok (.getfield 22, 3) := by decide +kernel
theorem d26_20 : decode prog_15_method_6_code 20 = .ok (.iload_n 3, 1) := by decide +kernel
theorem d26_21 : decode prog_15_method_6_code 21 = .ok (.iaload, 1) := by decide +kernel
theorem d26_22 : decode prog_15_method_6_code 22 = .ok (.invokevirtual 33, 3) := by decide +kernel
theorem d27_0 : decode prog_12_method_5_code 0 = .ok (.aload_n 0, 1) := by decide +kernel
theorem d27_1 : decode prog_12_method_5_code 1 = .ok (.getfield 23, 3) := by decide +kernel
theorem d27_4 : decode prog_12_method_5_code 4 = .ok (.iload_n 1, 1) := by decide +kernel
theorem d27_5 : decode prog_12_method_5_code 5 = .ok (.aload_n 0, 1) := by decide +kernel
theorem d27_6 : decode prog_12_method_5_code 6 = .ok (.getfield 19, 3) := by decide +kernel
theorem d27_9 : decode prog_12_method_5_code 9 = .ok (.imul, 1) := by decide +kernel
theorem d27_10 : decode prog_12_method_5_code 10 = .ok (.iload_n 2, 1) := by decide +kernel
theorem d27_11 : decode prog_12_method_5_code 11 = .ok (.iadd, 1) := by decide +kernel
theorem d27_12 : decode prog_12_method_5_code 12 = .ok (.iaload, 1) := by decide +kernel
theorem d27_13 : decode prog_12_method_5_code 13 = .ok (.ireturn, 1) := by decide +kernel
theorem d26_25 : decode prog_15_method_6_code 25 = .ok (.aload_n 2, 1) := by decide +kernel
theorem d26_26 : decode prog_15_method_6_code 26 = .ok (.iload_n 3, 1) := by decide +kernel
theorem d26_27 : decode prog_15_method_6_code 27 = .ok (.iaload, 1) := by decide +kernel
theorem d26_28 : decode prog_15_method_6_code 28 = .ok (.if_icmp .eq 5, 3) := by decide +kernel
theorem d26_33 : decode prog_15_method_6_code 33 = .ok (.iinc 3 1, 3) := by decide +kernel
theorem d26_36 : decode prog_15_method_6_code 36 = .ok (.goto (-34), 3) := by decide +kernel
theorem d26_39 : decode prog_15_method_6_code 39 = .ok (.iconst 1, 1) := by decide +kernel
theorem d26_40 : decode prog_15_method_6_code 40 = .ok (.ireturn, 1) := by decide +kernel
theorem d26_31 : decode prog_15_method_6_code 31 = .ok (.iconst 0, 1) := by decide +kernel
theorem d26_32 : decode prog_15_method_6_code 32 = .ok (.ireturn, 1) := by decide +kernel
theorem pd_15 : parseMethodDescriptor "(I[I)Z" = some ⟨[.int, (.array .int)], some .boolean⟩ := by decide +kernel
theorem d25_9 : decode prog_15_method_13_code 9 = .ok (.ireturn, 1) := by decide +kernel
theorem pd_16 : parseMethodDescriptor "(ILjava/lang/Object;)Z" = some ⟨[.int, (.object "java/lang/Object")], some .boolean⟩ := by decide +kernel
theorem d16_65 : decode prog_9_method_2_code 65 = .ok (.ifCond .eq 6, 3) := by decide +kernel
theorem d16_71 : decode prog_9_method_2_code 71 = .ok (.iinc 4 1, 3) := by decide +kernel
theorem d16_74 : decode prog_9_method_2_code 74 = .ok (.aload_n 0, 1) := by decide +kernel
theorem d16_75 : decode prog_9_method_2_code 75 = .ok (.iload_n 3, 1) := by decide +kernel
theorem d16_76 : decode prog_9_method_2_code 76 = .ok (.invokevirtual 30, 3) := by decide +kernel
theorem d28_0 : decode prog_9_method_9_code 0 = .ok (.iload_n 1, 1) := by decide +kernel
theorem d28_1 : decode prog_9_method_9_code 1 = .ok (.iconst 1, 1) := by decide +kernel
theorem d28_2 : decode prog_9_method_9_code 2 = .ok (.iadd, 1) := by decide +kernel
theorem d28_3 : decode prog_9_method_9_code 3 = .ok (.aload_n 0, 1) := by decide +kernel
theorem d28_4 : decode prog_9_method_9_code 4 = .ok (.getfield 9, 3) := by decide +kernel
theorem d28_7 : decode prog_9_method_9_code 7 = .ok (.arraylength, 1) := by decide +kernel
theorem d28_8 : decode prog_9_method_9_code 8 = .ok (.iconst 1, 1) := by decide +kernel
theorem d28_9 : decode prog_9_method_9_code 9 = .ok (.isub, 1) := by decide +kernel
theorem d28_10 : decode prog_9_method_9_code 10 = .ok (.iand, 1) := by decide +kernel
theorem d28_11 : decode prog_9_method_9_code 11 = .ok (.ireturn, 1) := by decide +kernel
theorem d16_79 : decode prog_9_method_2_code 79 = .ok (.istore_n 3, 1) := by decide +kernel
theorem d16_80 : decode prog_9_method_2_code 80 = .ok (.iinc 5 1, 3) := by decide +kernel
theorem d16_83 : decode prog_9_method_2_code 83 = .ok (.goto (-71), 3) := by decide +kernel
theorem d16_68 : decode prog_9_method_2_code 68 = .ok (.iload 6, 2) := by decide +kernel
theorem d16_70 : decode prog_9_method_2_code 70 = .ok (.ireturn, 1) := by decide +kernel
theorem d22_58 : decode prog_9_method_7_code 58 = .ok (.aload_n 0, 1) := by decide +kernel
theorem d22_59 : decode prog_9_method_7_code 59 = .ok (.getfield 13, 3) := by decide +kernel
theorem d22_62 : decode prog_9_method_7_code 62 = .ok (.iload 6, 2) := by decide +kernel
theorem d22_64 : decode prog_9_method_7_code 64 = .ok (.iaload, 1) := by decide +kernel
theorem d22_65 : decode prog_9_method_7_code 65 = .ok (.iload_n 2, 1) := by decide +kernel
theorem d22_66 : decode prog_9_method_7_code 66 = .ok (.if_icmp .ne 6, 3) := by decide +kernel
theorem d22_69 : decode prog_9_method_7_code 69 = .ok (.iinc 4 1, 3) := by decide +kernel
theorem d22_72 : decode prog_9_method_7_code 72 = .ok (.aload_n 0, 1) := by decide +kernel
theorem d22_73 : decode prog_9_method_7_code 73 = .ok (.iload_n 3, 1) := by decide +kernel
theorem d22_74 : decode prog_9_method_7_code 74 = .ok (.invokevirtual 30, 3) := by decide +kernel
theorem d22_77 : decode prog_9_method_7_code 77 = .ok (.istore_n 3, 1) := by decide +kernel
theorem d22_78 : decode prog_9_method_7_code 78 = .ok (.iinc 5 1, 3) := by decide +kernel
theorem d22_81 : decode prog_9_method_7_code 81 = .ok (.goto (-62), 3) := by decide +kernel
theorem d12_22 : decode prog_12_method_16_code 22 = .ok (.iconst 0, 1) := by decide +kernel
theorem d12_23 : decode prog_12_method_16_code 23 = .ok (.ireturn, 1) := by decide +kernel
theorem d24_0 : decode method_3_code 0 = .ok (.iload_n 3, 1) := by decide +kernel
theorem d24_1 : decode method_3_code 1 = .ok (.iload_n 2, 1) := by decide +kernel
theorem d24_2 : decode method_3_code 2 = .ok (.if_icmp .ge 23, 3) := by decide +kernel
theorem d24_5 : decode method_3_code 5 = .ok (.aload_n 0, 1) := by decide +kernel
theorem d24_6 : decode method_3_code 6 = .ok (.iload_n 3, 1) := by decide +kernel
theorem d24_7 : decode method_3_code 7 = .ok (.iaload, 1) := by decide +kernel
theorem d24_8 : decode method_3_code 8 = .ok (.iload 4, 2) := by decide +kernel
theorem d24_10 : decode method_3_code 10 = .ok (.if_icmp .ne 15, 3) := by decide +kernel
theorem d24_13 : decode method_3_code 13 = .ok (.aload_n 1, 1) := by decide +kernel
theorem d24_14 : decode method_3_code 14 = .ok (.iload_n 3, 1) := by decide +kernel
theorem d24_15 : decode method_3_code 15 = .ok (.iaload, 1) := by decide +kernel
theorem d24_16 : decode method_3_code 16 = .ok (.iload 5, 2) := by decide +kernel
theorem d24_18 : decode method_3_code 18 = .ok (.if_icmp .ne 7, 3) := by decide +kernel
theorem d24_21 : decode method_3_code 21 = .ok (.iconst 1, 1) := by decide +kernel
theorem d24_22 : decode method_3_code 22 = .ok (.goto 4, 3) := by decide +kernel
theorem d24_26 : decode method_3_code 26 = .ok (.ireturn, 1) := by decide +kernel
theorem d24_25 : decode method_3_code 25 = .ok (.iconst 0, 1) := by decide +kernel
theorem pn_5 : plainName "com/example/ordal/ordal/RelationFindPinLaw" = true := by first | (simp [plainName, overriddenIn]; done) | decide +kernel
theorem pd_17 : parseMethodDescriptor "([I[IIIII)Z" = some ⟨[(.array .int), (.array .int), .int, .int, .int, .int], some .boolean⟩ := by decide +kernel
theorem d8_0 : decode prog_12_method_12_code 0 = .ok (.aload_n 0, 1) := by decide +kernel
theorem d8_1 : decode prog_12_method_12_code 1 = .ok (.getfield 23, 3) := by decide +kernel
theorem d8_4 : decode prog_12_method_12_code 4 = .ok (.astore 4, 2) := by decide +kernel
theorem d8_6 : decode prog_12_method_12_code 6 = .ok (.aload_n 0, 1) := by decide +kernel
theorem d8_7 : decode prog_12_method_12_code 7 = .ok (.getfield 19, 3) := by decide +kernel
theorem d8_10 : decode prog_12_method_12_code 10 = .ok (.istore 5, 2) := by decide +kernel
theorem d8_12 : decode prog_12_method_12_code 12 = .ok (.aload_n 0, 1) := by decide +kernel
theorem d8_13 : decode prog_12_method_12_code 13 = .ok (.getfield 40, 3) := by decide +kernel
theorem d8_16 : decode prog_12_method_12_code 16 = .ok (.iload 5, 2) := by decide +kernel
theorem d8_18 : decode prog_12_method_12_code 18 = .ok (.imul, 1) := by decide +kernel
theorem d8_19 : decode prog_12_method_12_code 19 = .ok (.istore 6, 2) := by decide +kernel
theorem d8_21 : decode prog_12_method_12_code 21 = .ok (.iload_n 3, 1) := by decide +kernel
theorem d8_22 : decode prog_12_method_12_code 22 = .ok (.iload 5, 2) := by decide +kernel
theorem d8_24 : decode prog_12_method_12_code 24 = .ok (.imul, 1) := by decide +kernel
theorem d8_25 : decode prog_12_method_12_code 25 = .ok (.iload_n 1, 1) := by decide +kernel
theorem d8_26 : decode prog_12_method_12_code 26 = .ok (.iadd, 1) := by decide +kernel
theorem d8_27 : decode prog_12_method_12_code 27 = .ok (.istore 7, 2) := by decide +kernel
theorem d8_29 : decode prog_12_method_12_code 29 = .ok (.iload 7, 2) := by decide +kernel
theorem d8_31 : decode prog_12_method_12_code 31 = .ok (.iload 6, 2) := by decide +kernel
theorem d8_33 : decode prog_12_method_12_code 33 = .ok (.if_icmp .ge 28, 3) := by decide +kernel
theorem d8_36 : decode prog_12_method_12_code 36 = .ok (.aload 4, 2) := by decide +kernel
theorem d8_38 : decode prog_12_method_12_code 38 = .ok (.iload 7, 2) := by decide +kernel
theorem d8_40 : decode prog_12_method_12_code 40 = .ok (.iaload, 1) := by decide +kernel
theorem d8_41 : decode prog_12_method_12_code 41 = .ok (.iload_n 2, 1) := by decide +kernel
theorem d8_42 : decode prog_12_method_12_code 42 = .ok (.if_icmp .ne 9, 3) := by decide +kernel
theorem d8_45 : decode prog_12_method_12_code 45 = .ok (.iload 7, 2) := by decide +kernel
theorem d8_47 : decode prog_12_method_12_code 47 = .ok (.iload 5, 2) := by decide +kernel
theorem d8_49 : decode prog_12_method_12_code 49 = .ok (.idiv, 1) := by decide +kernel
theorem d8_50 : decode prog_12_method_12_code 50 = .ok (.ireturn, 1) := by decide +kernel
theorem d8_51 : decode prog_12_method_12_code 51 = .ok (.iload 7, 2) := by decide +kernel
theorem d8_53 : decode prog_12_method_12_code 53 = .ok (.iload 5, 2) := by decide +kernel
theorem d8_55 : decode prog_12_method_12_code 55 = .ok (.iadd, 1) := by decide +kernel
theorem d8_56 : decode prog_12_method_12_code 56 = .ok (.istore 7, 2) := by decide +kernel
theorem d8_58 : decode prog_12_method_12_code 58 = .ok (.goto (-29), 3) := by decide +kernel
theorem d8_61 : decode prog_12_method_12_code 61 = .ok (.iconst (-1), 1) := by decide +kernel
theorem d8_62 : decode prog_12_method_12_code 62 = .ok (.ireturn, 1) := by decide +kernel
theorem pd_18 : parseMethodDescriptor "(III)I" = some ⟨[.int, .int, .int], some .int⟩ := by decide +kernel
theorem d9_0 : decode method_4_code 0 = .ok (.iload_n 3, 1) := by decide +kernel
theorem d9_1 : decode method_4_code 1 = .ok (.iload 6, 2) := by decide +kernel
theorem d9_3 : decode method_4_code 3 = .ok (.if_icmp .lt 8, 3) := by decide +kernel
theorem d9_11 : decode method_4_code 11 = .ok (.iconst 0, 1) := by decide +kernel
theorem d9_12 : decode method_4_code 12 = .ok (.ireturn, 1) := by decide +kernel
theorem d9_6 : decode method_4_code 6 = .ok (.iload_n 3, 1) := by decide +kernel
theorem d9_7 : decode method_4_code 7 = .ok (.iload_n 2, 1) := by decide +kernel
theorem d9_8 : decode method_4_code 8 = .ok (.if_icmp .lt 5, 3) := by decide +kernel
theorem d9_13 : decode method_4_code 13 = .ok (.iload 4, 2) := by decide +kernel
theorem d9_15 : decode method_4_code 15 = .ok (.ifCond .ne 9, 3) := by decide +kernel
theorem d9_18 : decode method_4_code 18 = .ok (.aload_n 0, 1) := by decide +kernel
theorem d9_19 : decode method_4_code 19 = .ok (.iload_n 3, 1) := by decide +kernel
theorem d9_20 : decode method_4_code 20 = .ok (.iaload, 1) := by decide +kernel
theorem d9_21 : decode method_4_code 21 = .ok (.goto 6, 3) := by decide +kernel
theorem d9_27 : decode method_4_code 27 = .ok (.istore 7, 2) := by decide +kernel
theorem d9_29 : decode method_4_code 29 = .ok (.iload 7, 2) := by decide +kernel
theorem d9_31 : decode method_4_code 31 = .ok (.iload 5, 2) := by decide +kernel
theorem d9_33 : decode method_4_code 33 = .ok (.if_icmp .ne 7, 3) := by decide +kernel
theorem d9_36 : decode method_4_code 36 = .ok (.iconst 1, 1) := by decide +kernel
theorem d9_37 : decode method_4_code 37 = .ok (.goto 4, 3) := by decide +kernel
theorem d9_41 : decode method_4_code 41 = .ok (.ireturn, 1) := by decide +kernel
theorem d9_40 : decode method_4_code 40 = .ok (.iconst 0, 1) := by decide +kernel
theorem d9_24 : decode method_4_code 24 = .ok (.aload_n 1, 1) := by decide +kernel
theorem d9_25 : decode method_4_code 25 = .ok (.iload_n 3, 1) := by decide +kernel
theorem d9_26 : decode method_4_code 26 = .ok (.iaload, 1) := by decide +kernel
theorem pd_19 : parseMethodDescriptor "([I[IIIIII)Z" = some ⟨[(.array .int), (.array .int), .int, .int, .int, .int, .int], some .boolean⟩ := by decide +kernel
def Q_3 (Z : State) (w0 : Addr) (h0 : Heap) (n0 : Nat) (v : Option Value) (h : Heap) : Prop :=
  (v = none ∧ h0 = h)
theorem rm_3 (l : Launch) (Z : State) (a0 : Array Value) (hw : ∀ d ∈ tables_1, d.before a0 Z = true) (ws : List Jvm.Cond) (w0 : Addr) (h0 : Heap) (n0 : Nat) (Z0 : n0 ≤ h0.size) (E_w0 : Exa Z h0 w0 oC4) (F_w0_loadFactor : Fld Z h0 w0 oC4 "loadFactor" "F" (.float (0 : UInt32))) (F_w0_size : Fld Z h0 w0 oC4 "size" "I" (.int 0)) (g_w0 : n0 ≤ w0) :
    own_M l Z (⟨"java/util/AbstractMap", "<init>", "()V"⟩ : MethodName) jdk_71_method_1_code 1 none ws ({ frames := 1, cells := 0, slots := 0, locals := 12 } : Room) #[(.ref w0)] h0 n0 (Q_3 Z w0 h0 n0) := by
  refine own_enter' (Q := Q_3 Z w0 h0 n0) (F := fun m => mkF m 0 #[.val (.ref w0)] []) (plainFor_of_name pn_0) ?_
  intro p e s m below meth c s₁ B X0
  have K : Keep h0 h0 [] := Keep.refl h0 _
  have lt_w0 := E_w0.lt
  refine own_aloadN (pc' := 1) B X0 d4_0 rfl rfl rfl ?_
  refine own_objinit (pc' := 4) B X0 (own_w hw 21 rfl) (own_w hw 7 rfl) (own_w hw 8 rfl) d4_1 rfl rfl (by decide) 0 (Nat.le_of_eq rfl) (by decide) ?_
  intro T1 X1
  exact own_ret B X1 d4_4 (by decide) (by decide) (⟨rfl, rfl⟩)
def Q_2 (Z : State) (w0 : Addr) (h0 : Heap) (n0 : Nat) (v : Option Value) (h : Heap) : Prop :=
  (v = none ∧ Keep h0 h [w0] ∧ Exa Z h w0 oC4 ∧ Fld Z h w0 oC4 "loadFactor" "F" (.float (1061158912 : UInt32)) ∧ Fld Z h w0 oC4 "size" "I" (.int 0))
theorem rm_2 (l : Launch) (Z : State) (a0 : Array Value) (hw : ∀ d ∈ tables_1, d.before a0 Z = true) (ws : List Jvm.Cond) (w0 : Addr) (h0 : Heap) (n0 : Nat) (Z0 : n0 ≤ h0.size) (E_w0 : Exa Z h0 w0 oC4) (F_w0_loadFactor : Fld Z h0 w0 oC4 "loadFactor" "F" (.float (0 : UInt32))) (F_w0_size : Fld Z h0 w0 oC4 "size" "I" (.int 0)) (g_w0 : n0 ≤ w0) :
    own_M l Z (⟨"java/util/HashMap", "<init>", "()V"⟩ : MethodName) jdk_69_method_7_code 1 none ws ({ frames := 2, cells := 0, slots := 0, locals := 24 } : Room) #[(.ref w0)] h0 n0 (Q_2 Z w0 h0 n0) := by
  refine own_enter' (Q := Q_2 Z w0 h0 n0) (F := fun m => mkF m 0 #[.val (.ref w0)] []) (plainFor_of_name pn_1) ?_
  intro p e s m below meth c s₁ B X0
  have K : Keep h0 h0 [w0] := Keep.refl h0 _
  have lt_w0 := E_w0.lt
  refine own_aloadN (pc' := 1) B X0 d3_0 rfl rfl rfl ?_
  refine own_callI (pc' := 4) B X0 rfl rfl (own_w hw 15 rfl) (own_w hw 16 rfl) (own_w hw 19 rfl) (own_w hw 20 rfl) (by decide) [] [] (rm_3 l Z a0 hw [] w0 h0 n0 (Nat.le_trans Z0 K.1) E_w0 F_w0_loadFactor F_w0_size g_w0) 0 (by decide) (by decide) rfl pd_0 rfl rfl (Nat.le_of_eq rfl) d3_1 rfl (k' := 0) (n' := 0) rfl rfl (by decide) (by decide) ?_
  intro T1 v1 h1 X1 q1
  obtain ⟨rfl, rfl⟩ := q1
  show own_Go p e below (T1.setTop (mkF m 4 #[.val (.ref w0)] [])) _
  refine own_aloadN (pc' := 5) B X1 d3_4 rfl rfl rfl ?_
  refine own_ldcF (pc' := 7) B X1 (own_w hw 22 rfl) d3_5 rfl ?_
  refine own_putfield (pc' := 10) B X1 (host := "") (Or.inl (own_w hw 23 rfl)) Via.refl F_w0_loadFactor E_w0 g_w0 (Or.inr ⟨(own_w hw 24 rfl), rfl, rfl⟩) (own_w hw 10 rfl) (ty := .float) (by decide) rfl rfl d3_7 rfl ?_
  intro T2 h2 X2 W2 F_w0_loadFactor
  replace K := K.wr W2 (Or.inl (List.mem_of_getElem? (i := 0) rfl))
  exact own_ret B X2 d3_10 (by decide) (by decide) (⟨rfl, K, (E_w0.wr W2), F_w0_loadFactor, (F_w0_size.other W2 (Or.inr (slot_ne (Or.inl (own_w hw 156 rfl)) (Or.inr (own_w hw 24 rfl)) (by decide) (t := .int) (t' := .float) (by decide) (by decide))))⟩)
def Q_4 (Z : State)  (h0 : Heap) (n0 : Nat) (v : Option Value) (h : Heap) : Prop :=
  (∃ (b1 : Addr) (kb1 : ClassId), v = some (.ref b1) ∧ Keep h0 h [] ∧ h0.size ≤ b1 ∧ Arv Z h b1 kb1 .int (2 : Int32) [(.int 0), (.int 1)] (.int 0))
theorem rm_4 (l : Launch) (Z : State) (a0 : Array Value) (hw : ∀ d ∈ tables_1, d.before a0 Z = true) (ws : List Jvm.Cond)  (h0 : Heap) (n0 : Nat) (Z0 : n0 ≤ h0.size)  :
    own_M l Z (⟨"com/example/ordal/ordal/Relation", "identityColumns", "(I)[I"⟩ : MethodName) prog_12_method_25_code 3 (some (.array .int)) ws ({ frames := 0, cells := 1, slots := 2, locals := 0 } : Room) #[(.int 2)] h0 n0 (Q_4 Z  h0 n0) := by
  refine own_enter' (Q := Q_4 Z  h0 n0) (F := fun m => mkF m 0 #[.val (.int 2), .unset, .unset] []) (plainFor_of_name pn_2) ?_
  intro p e s m below meth c s₁ B X0
  have K : Keep h0 h0 [] := Keep.refl h0 _
  refine own_iloadN (pc' := 1) B X0 d5_0 rfl rfl ?_
  refine own_newarray (pc' := 3) B X0 (own_w hw 31 rfl) d5_1 rfl rfl (by decide) 2 (by decide) (by decide) (k' := 1) (n' := 2) rfl rfl (by decide) (by decide) "[I" (by decide) (.int 0) rfl ?_
  intro T1 h1 b1 kb1 X1 g1 E1 V_b1 E_b1
  have sz_b1 : h0.size ≤ b1 := own_sz K g1
  have g_b1 : n0 ≤ b1 := Nat.le_trans Z0 sz_b1
  replace K := K.ext E1
  refine own_astoreN (pc' := 4) B X1 (Ls' := #[.val (.int 2), .val (.ref b1), .unset]) d5_3 rfl rfl rfl ?_
  refine own_iconst (pc' := 5) B X1 (z := (0 : Int32)) d5_4 rfl rfl ?_
  refine own_istoreN (pc' := 6) B X1 (Ls' := #[.val (.int 2), .val (.ref b1), .val (.int 0)]) d5_5 rfl rfl ?_
  refine own_iloadN (pc' := 7) B X1 d5_6 rfl rfl ?_
  refine own_iloadN (pc' := 8) B X1 d5_7 rfl rfl ?_
  refine own_icmpNo (pc' := 11) B X1 d5_8 (tlt (by decide : (0 : Int32) < (2 : Int32))).2.1 rfl ?_
  refine own_aloadN (pc' := 12) B X1 d5_11 rfl rfl rfl ?_
  refine own_iloadN (pc' := 13) B X1 d5_12 rfl rfl ?_
  refine own_iloadN (pc' := 14) B X1 d5_13 rfl rfl ?_
  replace V_b1 : Arv Z h1 b1 kb1 .int (2 : Int32) [(.int 0)] (.int 0) := V_b1.pad (pad_rep [] (.int 0) 1)
  refine own_iastore (pc' := 15) B X1 (x' := (0 : Int32)) V_b1 g_b1 ⟨by decide, by decide⟩ 0 (by decide) (Nat.le_of_ble_eq_true rfl) rfl d5_14 rfl ?_
  intro T2 h2 X2 W2 V_b1
  replace V_b1 : Arv Z h2 b1 kb1 .int (2 : Int32) [(.int 0)] (.int 0) := V_b1
  replace K := K.wr W2 (Or.inr sz_b1)
  refine own_iinc (pc' := 18) B X2 (Ls' := #[.val (.int 2), .val (.ref b1), .val (.int 1)]) d5_15 rfl rfl (z := (1 : Int32)) (by decide) rfl ?_
  refine own_goto (pc' := 6) B X2 d5_18 (by decide) rfl ?_
  refine own_iloadN (pc' := 7) B X2 d5_6 rfl rfl ?_
  refine own_iloadN (pc' := 8) B X2 d5_7 rfl rfl ?_
  refine own_icmpNo (pc' := 11) B X2 d5_8 (tlt (by decide : (1 : Int32) < (2 : Int32))).2.1 rfl ?_
  refine own_aloadN (pc' := 12) B X2 d5_11 rfl rfl rfl ?_
  refine own_iloadN (pc' := 13) B X2 d5_12 rfl rfl ?_
  refine own_iloadN (pc' := 14) B X2 d5_13 rfl rfl ?_
  replace V_b1 : Arv Z h2 b1 kb1 .int (2 : Int32) [(.int 0), (.int 0)] (.int 0) := V_b1.pad (pad_rep [(.int 0)] (.int 0) 1)
  refine own_iastore (pc' := 15) B X2 (x' := (1 : Int32)) V_b1 g_b1 ⟨by decide, by decide⟩ 1 (by decide) (Nat.le_of_ble_eq_true rfl) rfl d5_14 rfl ?_
  intro T3 h3 X3 W3 V_b1
  replace V_b1 : Arv Z h3 b1 kb1 .int (2 : Int32) [(.int 0), (.int 1)] (.int 0) := V_b1
  replace K := K.wr W3 (Or.inr sz_b1)
  refine own_iinc (pc' := 18) B X3 (Ls' := #[.val (.int 2), .val (.ref b1), .val (.int 2)]) d5_15 rfl rfl (z := (2 : Int32)) (by decide) rfl ?_
  refine own_goto (pc' := 6) B X3 d5_18 (by decide) rfl ?_
  refine own_iloadN (pc' := 7) B X3 d5_6 rfl rfl ?_
  refine own_iloadN (pc' := 8) B X3 d5_7 rfl rfl ?_
  refine own_icmpYes (pc' := 21) B X3 d5_8 (flt (by decide : ¬ ((2 : Int32) < (2 : Int32)))).2.1 (by decide) rfl ?_
  refine own_aloadN (pc' := 22) B X3 d5_21 rfl rfl rfl ?_
  exact own_retA B X3 (t := (.array .int)) rfl rfl rfl d5_22 (by decide) (by decide) (⟨b1, kb1, rfl, K, sz_b1, V_b1⟩)
def Q_6 (Z : State) (w0 w1 : Addr) (h0 : Heap) (n0 : Nat) (v : Option Value) (h : Heap) : Prop :=
  (∃ (b2 : Addr) (kb2 : ClassId) (b4 : Addr) (kb4 : ClassId), v = none ∧ Keep h0 h [w0] ∧ h0.size ≤ b2 ∧ h0.size ≤ b4 ∧ b2 ≠ b4 ∧ Exa Z h w0 oC1 ∧ Fld Z h w0 oC1 "slots" "[I" (.ref b2) ∧ Fld Z h w0 oC1 "hashes" "[I" (.ref b4) ∧ Fld Z h w0 oC1 "keys" "Lcom/example/ordal/ordal/NumberTable$Keys;" (.ref w1) ∧ Fld Z h w0 oC1 "count" "I" (.int 0) ∧ Fld Z h w0 oC1 "crowded" "Ljava/util/TreeMap;" .null ∧ Arv Z h b2 kb2 .int (16 : Int32) [] (.int 0) ∧ Arv Z h b4 kb4 .int (8 : Int32) [] (.int 0))
theorem rm_6 (l : Launch) (Z : State) (a0 : Array Value) (hw : ∀ d ∈ tables_1, d.before a0 Z = true) (ws : List Jvm.Cond) (w0 w1 : Addr) (h0 : Heap) (n0 : Nat) (Z0 : n0 ≤ h0.size) (E_w0 : Exa Z h0 w0 oC1) (F_w0_slots : Fld Z h0 w0 oC1 "slots" "[I" .null) (F_w0_hashes : Fld Z h0 w0 oC1 "hashes" "[I" .null) (F_w0_keys : Fld Z h0 w0 oC1 "keys" "Lcom/example/ordal/ordal/NumberTable$Keys;" .null) (F_w0_count : Fld Z h0 w0 oC1 "count" "I" (.int 0)) (F_w0_crowded : Fld Z h0 w0 oC1 "crowded" "Ljava/util/TreeMap;" .null) (g_w0 : n0 ≤ w0) (E_w1 : Exa Z h0 w1 oC3) (F_w1_table : Fld Z h0 w1 oC3 "table" "Lcom/example/ordal/ordal/NumberTable;" .null) (F_w1_relation : Fld Z h0 w1 oC3 "relation" "Lcom/example/ordal/ordal/Relation;" .null) (F_w1_columns : Fld Z h0 w1 oC3 "columns" "[I" .null) (F_w1_row : Fld Z h0 w1 oC3 "row" "[I" .null) (g_w1 : n0 ≤ w1) (ne_w0_w1 : w0 ≠ w1) :
    own_M l Z (⟨"com/example/ordal/ordal/NumberTable", "<init>", "(Lcom/example/ordal/ordal/NumberTable$Keys;)V"⟩ : MethodName) prog_9_method_1_code 2 none ws ({ frames := 1, cells := 2, slots := 24, locals := 12 } : Room) #[(.ref w0), (.ref w1)] h0 n0 (Q_6 Z w0 w1 h0 n0) := by
  refine own_enter' (Q := Q_6 Z w0 w1 h0 n0) (F := fun m => mkF m 0 #[.val (.ref w0), .val (.ref w1)] []) (plainFor_of_name pn_3) ?_
  intro p e s m below meth c s₁ B X0
  have K : Keep h0 h0 [w0] := Keep.refl h0 _
  have lt_w0 := E_w0.lt
  have lt_w1 := E_w1.lt
  refine own_aloadN (pc' := 1) B X0 d7_0 rfl rfl rfl ?_
  refine own_objinit (pc' := 4) B X0 (own_w hw 50 rfl) (own_w hw 7 rfl) (own_w hw 8 rfl) d7_1 rfl rfl (by decide) 0 (Nat.le_of_eq rfl) (by decide) ?_
  intro T1 X1
  refine own_aloadN (pc' := 5) B X1 d7_4 rfl rfl rfl ?_
  refine own_bipush (pc' := 7) B X1 (z := (16 : Int32)) d7_5 rfl (by decide) ?_
  refine own_newarray (pc' := 9) B X1 (own_w hw 31 rfl) d7_7 rfl rfl (by decide) 16 (by decide) (by decide) (k' := 1) (n' := 16) rfl rfl (by decide) (by decide) "[I" (by decide) (.int 0) rfl ?_
  intro T2 h2 b2 kb2 X2 g2 E2 V_b2 E_b2
  have sz_b2 : h0.size ≤ b2 := own_sz K g2
  have g_b2 : n0 ≤ b2 := Nat.le_trans Z0 sz_b2
  replace K := K.ext E2
  replace F_w0_slots := (F_w0_slots.ext E2)
  replace E_w0 := (E_w0.ext E2)
  refine own_putfield (pc' := 12) B X2 (host := "") (Or.inl (own_w hw 51 rfl)) Via.refl F_w0_slots E_w0 g_w0 (Or.inl (own_w hw 52 rfl)) (own_w hw 45 rfl) (ty := (.array .int)) (by decide) rfl rfl d7_9 rfl ?_
  intro T3 h3 X3 W3 F_w0_slots
  replace K := K.wr W3 (Or.inl (List.mem_of_getElem? (i := 0) rfl))
  refine own_aloadN (pc' := 13) B X3 d7_12 rfl rfl rfl ?_
  refine own_bipush (pc' := 15) B X3 (z := (8 : Int32)) d7_13 rfl (by decide) ?_
  refine own_newarray (pc' := 17) B X3 (own_w hw 31 rfl) d7_15 rfl rfl (by decide) 8 (by decide) (by decide) (k' := 2) (n' := 24) rfl rfl (by decide) (by decide) "[I" (by decide) (.int 0) rfl ?_
  intro T4 h4 b4 kb4 X4 g4 E4 V_b4 E_b4
  replace V_b2 := (V_b2.other W3 (Ne.symm (own_ne' lt_w0 sz_b2)))
  have ne_b2_b4 : b2 ≠ b4 := own_ne V_b2.lt g4
  have sz_b4 : h0.size ≤ b4 := own_sz K g4
  have g_b4 : n0 ≤ b4 := Nat.le_trans Z0 sz_b4
  replace K := K.ext E4
  replace F_w0_hashes := (((F_w0_hashes.ext E2).other W3 (Or.inr (slot_ne (Or.inl (own_w hw 54 rfl)) (Or.inl (own_w hw 52 rfl)) (by decide) (t := (.array .int)) (t' := (.array .int)) (by decide) (by decide)))).ext E4)
  replace E_w0 := ((E_w0.wr W3).ext E4)
  refine own_putfield (pc' := 20) B X4 (host := "") (Or.inl (own_w hw 53 rfl)) Via.refl F_w0_hashes E_w0 g_w0 (Or.inl (own_w hw 54 rfl)) (own_w hw 45 rfl) (ty := (.array .int)) (by decide) rfl rfl d7_17 rfl ?_
  intro T5 h5 X5 W5 F_w0_hashes
  replace K := K.wr W5 (Or.inl (List.mem_of_getElem? (i := 0) rfl))
  refine own_aloadN (pc' := 21) B X5 d7_20 rfl rfl rfl ?_
  refine own_aloadN (pc' := 22) B X5 d7_21 rfl rfl rfl ?_
  replace F_w0_keys := ((((F_w0_keys.ext E2).other W3 (Or.inr (slot_ne (Or.inr (own_w hw 56 rfl)) (Or.inl (own_w hw 52 rfl)) (by decide) (t := (.object "com/example/ordal/ordal/NumberTable$Keys")) (t' := (.array .int)) (by decide) (by decide)))).ext E4).other W5 (Or.inr (slot_ne (Or.inr (own_w hw 56 rfl)) (Or.inl (own_w hw 54 rfl)) (by decide) (t := (.object "com/example/ordal/ordal/NumberTable$Keys")) (t' := (.array .int)) (by decide) (by decide))))
  replace E_w0 := (E_w0.wr W5)
  refine own_putfield (pc' := 25) B X5 (host := "") (Or.inl (own_w hw 55 rfl)) Via.refl F_w0_keys E_w0 g_w0 (Or.inr ⟨(own_w hw 56 rfl), rfl, rfl⟩) (own_w hw 45 rfl) (ty := (.object "com/example/ordal/ordal/NumberTable$Keys")) (by decide) rfl rfl d7_22 rfl ?_
  intro T6 h6 X6 W6 F_w0_keys
  replace K := K.wr W6 (Or.inl (List.mem_of_getElem? (i := 0) rfl))
  exact own_ret B X6 d7_25 (by decide) (by decide) (⟨b2, kb2, b4, kb4, rfl, K, sz_b2, sz_b4, ne_b2_b4, (E_w0.wr W6), (((F_w0_slots.ext E4).other W5 (Or.inr (slot_ne (Or.inl (own_w hw 52 rfl)) (Or.inl (own_w hw 54 rfl)) (by decide) (t := (.array .int)) (t' := (.array .int)) (by decide) (by decide)))).other W6 (Or.inr (slot_ne (Or.inl (own_w hw 52 rfl)) (Or.inr (own_w hw 56 rfl)) (by decide) (t := (.array .int)) (t' := (.object "com/example/ordal/ordal/NumberTable$Keys")) (by decide) (by decide)))), (F_w0_hashes.other W6 (Or.inr (slot_ne (Or.inl (own_w hw 54 rfl)) (Or.inr (own_w hw 56 rfl)) (by decide) (t := (.array .int)) (t' := (.object "com/example/ordal/ordal/NumberTable$Keys")) (by decide) (by decide)))), F_w0_keys, (((((F_w0_count.ext E2).other W3 (Or.inr (slot_ne (Or.inl (own_w hw 137 rfl)) (Or.inl (own_w hw 52 rfl)) (by decide) (t := .int) (t' := (.array .int)) (by decide) (by decide)))).ext E4).other W5 (Or.inr (slot_ne (Or.inl (own_w hw 137 rfl)) (Or.inl (own_w hw 54 rfl)) (by decide) (t := .int) (t' := (.array .int)) (by decide) (by decide)))).other W6 (Or.inr (slot_ne (Or.inl (own_w hw 137 rfl)) (Or.inr (own_w hw 56 rfl)) (by decide) (t := .int) (t' := (.object "com/example/ordal/ordal/NumberTable$Keys")) (by decide) (by decide)))), (((((F_w0_crowded.ext E2).other W3 (Or.inr (slot_ne (Or.inl (own_w hw 188 rfl)) (Or.inl (own_w hw 52 rfl)) (by decide) (t := (.object "java/util/TreeMap")) (t' := (.array .int)) (by decide) (by decide)))).ext E4).other W5 (Or.inr (slot_ne (Or.inl (own_w hw 188 rfl)) (Or.inl (own_w hw 54 rfl)) (by decide) (t := (.object "java/util/TreeMap")) (t' := (.array .int)) (by decide) (by decide)))).other W6 (Or.inr (slot_ne (Or.inl (own_w hw 188 rfl)) (Or.inr (own_w hw 56 rfl)) (by decide) (t := (.object "java/util/TreeMap")) (t' := (.object "com/example/ordal/ordal/NumberTable$Keys")) (by decide) (by decide)))), (((V_b2.ext E4).other W5 (Ne.symm (own_ne' lt_w0 sz_b2))).other W6 (Ne.symm (own_ne' lt_w0 sz_b2))), ((V_b4.other W5 (Ne.symm (own_ne' lt_w0 sz_b4))).other W6 (Ne.symm (own_ne' lt_w0 sz_b4)))⟩)
def Q_5 (Z : State) (w0 w1 w2 w3 w4 : Addr) (kw4 : ClassId) (w6 : Addr) (kw6 : ClassId) (h0 : Heap) (n0 : Nat) (v : Option Value) (h : Heap) : Prop :=
  (∃ (b2 : Addr) (b4 : Addr) (k5 : ClassId) (b6 : Addr) (k7 : ClassId) (b11 : Addr) (kb11 : ClassId), v = none ∧ Keep h0 h [w0] ∧ h0.size ≤ b2 ∧ h0.size ≤ b4 ∧ h0.size ≤ b6 ∧ h0.size ≤ b11 ∧ b2 ≠ b4 ∧ b2 ≠ b6 ∧ b2 ≠ b11 ∧ b4 ≠ b6 ∧ b4 ≠ b11 ∧ b6 ≠ b11 ∧ Exa Z h w0 oC3 ∧ Fld Z h w0 oC3 "table" "Lcom/example/ordal/ordal/NumberTable;" (.ref b2) ∧ Fld Z h w0 oC3 "relation" "Lcom/example/ordal/ordal/Relation;" (.ref w1) ∧ Fld Z h w0 oC3 "columns" "[I" (.ref w6) ∧ Fld Z h w0 oC3 "row" "[I" (.ref b11) ∧ Exa Z h b2 oC1 ∧ Fld Z h b2 oC1 "slots" "[I" (.ref b4) ∧ Fld Z h b2 oC1 "hashes" "[I" (.ref b6) ∧ Fld Z h b2 oC1 "keys" "Lcom/example/ordal/ordal/NumberTable$Keys;" (.ref w0) ∧ Fld Z h b2 oC1 "count" "I" (.int 0) ∧ Fld Z h b2 oC1 "crowded" "Ljava/util/TreeMap;" .null ∧ Arv Z h b4 k5 .int (16 : Int32) [] (.int 0) ∧ Arv Z h b6 k7 .int (8 : Int32) [] (.int 0) ∧ Arv Z h b11 kb11 .int (2 : Int32) [] (.int 0))
theorem rm_5 (l : Launch) (Z : State) (a0 : Array Value) (hw : ∀ d ∈ tables_1, d.before a0 Z = true) (ws : List Jvm.Cond) (w0 w1 w2 w3 w4 : Addr) (kw4 : ClassId) (w6 : Addr) (kw6 : ClassId) (h0 : Heap) (n0 : Nat) (Z0 : n0 ≤ h0.size) (E_w0 : Exa Z h0 w0 oC3) (F_w0_table : Fld Z h0 w0 oC3 "table" "Lcom/example/ordal/ordal/NumberTable;" .null) (F_w0_relation : Fld Z h0 w0 oC3 "relation" "Lcom/example/ordal/ordal/Relation;" .null) (F_w0_columns : Fld Z h0 w0 oC3 "columns" "[I" .null) (F_w0_row : Fld Z h0 w0 oC3 "row" "[I" .null) (g_w0 : n0 ≤ w0) (E_w1 : Exa Z h0 w1 oC2) (F_w1_indexes : Fld Z h0 w1 oC2 "indexes" "Ljava/util/Map;" (.ref w2)) (F_w1_walks : Fld Z h0 w1 oC2 "walks" "Ljava/util/Map;" (.ref w3)) (F_w1_arity : Fld Z h0 w1 oC2 "arity" "I" (.int 2)) (F_w1_rows : Fld Z h0 w1 oC2 "rows" "[I" (.ref w4)) (F_w1_members : Fld Z h0 w1 oC2 "members" "Lcom/example/ordal/ordal/Relation$PositionTable;" .null) (F_w1_size : Fld Z h0 w1 oC2 "size" "I" (.int 0)) (F_w1_spellings : Fld Z h0 w1 oC2 "spellings" "[I" .null) (F_w1_arrived : Fld Z h0 w1 oC2 "arrived" "I" (.int 0)) (g_w1 : n0 ≤ w1) (E_w2 : Exa Z h0 w2 oC4) (F_w2_loadFactor : Fld Z h0 w2 oC4 "loadFactor" "F" (.float (1061158912 : UInt32))) (F_w2_size : Fld Z h0 w2 oC4 "size" "I" (.int 0)) (g_w2 : n0 ≤ w2) (E_w3 : Exa Z h0 w3 oC4) (F_w3_loadFactor : Fld Z h0 w3 oC4 "loadFactor" "F" (.float (1061158912 : UInt32))) (F_w3_size : Fld Z h0 w3 oC4 "size" "I" (.int 0)) (g_w3 : n0 ≤ w3) (V_w4 : Arv Z h0 w4 kw4 .int (16 : Int32) [] (.int 0)) (g_w4 : n0 ≤ w4) (V_w6 : Arv Z h0 w6 kw6 .int (2 : Int32) [(.int 0), (.int 1)] (.int 0)) (g_w6 : n0 ≤ w6) (ne_w0_w1 : w0 ≠ w1) (ne_w0_w2 : w0 ≠ w2) (ne_w0_w3 : w0 ≠ w3) (ne_w0_w4 : w0 ≠ w4) (ne_w0_w6 : w0 ≠ w6) (ne_w1_w2 : w1 ≠ w2) (ne_w1_w3 : w1 ≠ w3) (ne_w1_w4 : w1 ≠ w4) (ne_w1_w6 : w1 ≠ w6) (ne_w2_w3 : w2 ≠ w3) (ne_w2_w4 : w2 ≠ w4) (ne_w2_w6 : w2 ≠ w6) (ne_w3_w4 : w3 ≠ w4) (ne_w3_w6 : w3 ≠ w6) (ne_w4_w6 : w4 ≠ w6) :
    own_M l Z (⟨"com/example/ordal/ordal/Relation$PositionTable", "<init>", "(Lcom/example/ordal/ordal/Relation;[I)V"⟩ : MethodName) prog_15_method_1_code 3 none ws ({ frames := 2, cells := 4, slots := 31, locals := 27 } : Room) #[(.ref w0), (.ref w1), (.ref w6)] h0 n0 (Q_5 Z w0 w1 w2 w3 w4 kw4 w6 kw6 h0 n0) := by
  refine own_enter' (Q := Q_5 Z w0 w1 w2 w3 w4 kw4 w6 kw6 h0 n0) (F := fun m => mkF m 0 #[.val (.ref w0), .val (.ref w1), .val (.ref w6)] []) (plainFor_of_name pn_4) ?_
  intro p e s m below meth c s₁ B X0
  have K : Keep h0 h0 [w0] := Keep.refl h0 _
  have lt_w0 := E_w0.lt
  have lt_w1 := E_w1.lt
  have lt_w2 := E_w2.lt
  have lt_w3 := E_w3.lt
  have lt_w4 := V_w4.lt
  have lt_w6 := V_w6.lt
  refine own_aloadN (pc' := 1) B X0 d6_0 rfl rfl rfl ?_
  refine own_objinit (pc' := 4) B X0 (own_w hw 43 rfl) (own_w hw 7 rfl) (own_w hw 8 rfl) d6_1 rfl rfl (by decide) 0 (Nat.le_of_eq rfl) (by decide) ?_
  intro T1 X1
  refine own_aloadN (pc' := 5) B X1 d6_4 rfl rfl rfl ?_
  refine own_new (pc' := 8) B X1 (own_w hw 44 rfl) (own_w hw 45 rfl) (own_w hw 46 rfl) d6_5 rfl (k' := 1) (n' := 5) rfl rfl (by decide) (by decide) ?_
  intro T2 h2 b2 X2 g2 E2 E_b2 D2
  have sz_b2 : h0.size ≤ b2 := own_sz K g2
  have g_b2 : n0 ≤ b2 := Nat.le_trans Z0 sz_b2
  replace K := K.ext E2
  have F_b2_slots : Fld Z h2 b2 oC1 "slots" "[I" .null := D2 (Or.inl (own_w hw 52 rfl)) (ty := (.array .int)) (by decide)
  have F_b2_hashes : Fld Z h2 b2 oC1 "hashes" "[I" .null := D2 (Or.inl (own_w hw 54 rfl)) (ty := (.array .int)) (by decide)
  have F_b2_keys : Fld Z h2 b2 oC1 "keys" "Lcom/example/ordal/ordal/NumberTable$Keys;" .null := D2 (Or.inr (own_w hw 56 rfl)) (ty := (.object "com/example/ordal/ordal/NumberTable$Keys")) (by decide)
  have F_b2_count : Fld Z h2 b2 oC1 "count" "I" (.int 0) := D2 (Or.inl (own_w hw 137 rfl)) (ty := .int) (by decide)
  have F_b2_crowded : Fld Z h2 b2 oC1 "crowded" "Ljava/util/TreeMap;" .null := D2 (Or.inl (own_w hw 188 rfl)) (ty := (.object "java/util/TreeMap")) (by decide)
  clear D2
  refine own_dup (pc' := 9) B X2 d6_8 rfl rfl ?_
  refine own_aloadN (pc' := 10) B X2 d6_9 rfl rfl rfl ?_
  refine own_callI (pc' := 13) B X2 rfl rfl (own_w hw 47 rfl) (own_w hw 48 rfl) (own_w hw 46 rfl) (own_w hw 49 rfl) (by decide) [(.ref w0)] [(.ref b2), (.ref w0)] (rm_6 l Z a0 hw [] b2 w0 h2 n0 (Nat.le_trans Z0 K.1) E_b2 F_b2_slots F_b2_hashes F_b2_keys F_b2_count F_b2_crowded g_b2 (E_w0.ext E2) (F_w0_table.ext E2) (F_w0_relation.ext E2) (F_w0_columns.ext E2) (F_w0_row.ext E2) g_w0 (Ne.symm (own_ne' lt_w0 sz_b2))) 2 (by decide) (by decide) rfl pd_2 rfl rfl (Nat.le_of_eq rfl) d6_10 rfl (k' := 3) (n' := 29) rfl rfl (by decide) (by decide) ?_
  intro T3 v3 h3 X3 q3
  have lt_b2 := E_b2.lt
  obtain ⟨b4, k5, b6, k7, rfl, K3, z_b4, z_b6, ne_b4_b6, E_b2, F_b2_slots, F_b2_hashes, F_b2_keys, F_b2_count, F_b2_crowded, V_b4, V_b6⟩ := q3
  have ne_b2_b4 : b2 ≠ b4 := own_ne' lt_b2 z_b4
  have sz_b4 : h0.size ≤ b4 := Nat.le_trans K.1 z_b4
  have g_b4 : n0 ≤ b4 := Nat.le_trans Z0 sz_b4
  have ne_b2_b6 : b2 ≠ b6 := own_ne' lt_b2 z_b6
  have sz_b6 : h0.size ≤ b6 := Nat.le_trans K.1 z_b6
  have g_b6 : n0 ≤ b6 := Nat.le_trans Z0 sz_b6
  replace K := K.trans K3 (allS (Or.inr sz_b2) all0)
  show own_Go p e below (T3.setTop (mkF m 13 #[.val (.ref w0), .val (.ref w1), .val (.ref w6)] [(.ref b2), (.ref w0)])) _
  replace F_w0_table := ((F_w0_table.ext E2).keep K3 (ninS (own_ne' lt_w0 sz_b2) nin0))
  replace E_w0 := ((E_w0.ext E2).keep K3)
  refine own_putfield (pc' := 16) B X3 (host := "") (Or.inl (own_w hw 57 rfl)) Via.refl F_w0_table E_w0 g_w0 (Or.inr ⟨(own_w hw 58 rfl), rfl, rfl⟩) (own_w hw 35 rfl) (ty := (.object "com/example/ordal/ordal/NumberTable")) (by decide) rfl rfl d6_13 rfl ?_
  intro T8 h8 X8 W8 F_w0_table
  replace K := K.wr W8 (Or.inl (List.mem_of_getElem? (i := 0) rfl))
  refine own_aloadN (pc' := 17) B X8 d6_16 rfl rfl rfl ?_
  refine own_aloadN (pc' := 18) B X8 d6_17 rfl rfl rfl ?_
  replace F_w0_relation := (((F_w0_relation.ext E2).keep K3 (ninS (own_ne' lt_w0 sz_b2) nin0)).other W8 (Or.inr (slot_ne (Or.inr (own_w hw 60 rfl)) (Or.inr (own_w hw 58 rfl)) (by decide) (t := (.object "com/example/ordal/ordal/Relation")) (t' := (.object "com/example/ordal/ordal/NumberTable")) (by decide) (by decide))))
  replace E_w0 := (E_w0.wr W8)
  refine own_putfield (pc' := 21) B X8 (host := "") (Or.inl (own_w hw 59 rfl)) Via.refl F_w0_relation E_w0 g_w0 (Or.inr ⟨(own_w hw 60 rfl), rfl, rfl⟩) (own_w hw 35 rfl) (ty := (.object "com/example/ordal/ordal/Relation")) (by decide) rfl rfl d6_18 rfl ?_
  intro T9 h9 X9 W9 F_w0_relation
  replace K := K.wr W9 (Or.inl (List.mem_of_getElem? (i := 0) rfl))
  refine own_aloadN (pc' := 22) B X9 d6_21 rfl rfl rfl ?_
  refine own_aloadN (pc' := 23) B X9 d6_22 rfl rfl rfl ?_
  replace F_w0_columns := ((((F_w0_columns.ext E2).keep K3 (ninS (own_ne' lt_w0 sz_b2) nin0)).other W8 (Or.inr (slot_ne (Or.inr (own_w hw 62 rfl)) (Or.inr (own_w hw 58 rfl)) (by decide) (t := (.array .int)) (t' := (.object "com/example/ordal/ordal/NumberTable")) (by decide) (by decide)))).other W9 (Or.inr (slot_ne (Or.inr (own_w hw 62 rfl)) (Or.inr (own_w hw 60 rfl)) (by decide) (t := (.array .int)) (t' := (.object "com/example/ordal/ordal/Relation")) (by decide) (by decide))))
  replace E_w0 := (E_w0.wr W9)
  refine own_putfield (pc' := 26) B X9 (host := "") (Or.inl (own_w hw 61 rfl)) Via.refl F_w0_columns E_w0 g_w0 (Or.inr ⟨(own_w hw 62 rfl), rfl, rfl⟩) (own_w hw 35 rfl) (ty := (.array .int)) (by decide) rfl rfl d6_23 rfl ?_
  intro T10 h10 X10 W10 F_w0_columns
  replace K := K.wr W10 (Or.inl (List.mem_of_getElem? (i := 0) rfl))
  refine own_aloadN (pc' := 27) B X10 d6_26 rfl rfl rfl ?_
  refine own_aloadN (pc' := 28) B X10 d6_27 rfl rfl rfl ?_
  replace V_w6 := (((((V_w6.ext E2).keep K3 (ninS (own_ne' lt_w6 sz_b2) nin0)).other W8 (Ne.symm ne_w0_w6)).other W9 (Ne.symm ne_w0_w6)).other W10 (Ne.symm ne_w0_w6))
  refine own_arraylength (pc' := 29) B X10 V_w6 d6_28 rfl ?_
  refine own_newarray (pc' := 31) B X10 (own_w hw 31 rfl) d6_29 rfl rfl (by decide) 2 (by decide) (by decide) (k' := 4) (n' := 31) rfl rfl (by decide) (by decide) "[I" (by decide) (.int 0) rfl ?_
  intro T11 h11 b11 kb11 X11 g11 E11 V_b11 E_b11
  replace E_b2 := (((E_b2.wr W8).wr W9).wr W10)
  have ne_b2_b11 : b2 ≠ b11 := own_ne E_b2.lt g11
  replace V_b4 := (((V_b4.other W8 (Ne.symm (own_ne' lt_w0 sz_b4))).other W9 (Ne.symm (own_ne' lt_w0 sz_b4))).other W10 (Ne.symm (own_ne' lt_w0 sz_b4)))
  have ne_b4_b11 : b4 ≠ b11 := own_ne V_b4.lt g11
  replace V_b6 := (((V_b6.other W8 (Ne.symm (own_ne' lt_w0 sz_b6))).other W9 (Ne.symm (own_ne' lt_w0 sz_b6))).other W10 (Ne.symm (own_ne' lt_w0 sz_b6)))
  have ne_b6_b11 : b6 ≠ b11 := own_ne V_b6.lt g11
  have sz_b11 : h0.size ≤ b11 := own_sz K g11
  have g_b11 : n0 ≤ b11 := Nat.le_trans Z0 sz_b11
  replace K := K.ext E11
  replace F_w0_row := ((((((F_w0_row.ext E2).keep K3 (ninS (own_ne' lt_w0 sz_b2) nin0)).other W8 (Or.inr (slot_ne (Or.inr (own_w hw 64 rfl)) (Or.inr (own_w hw 58 rfl)) (by decide) (t := (.array .int)) (t' := (.object "com/example/ordal/ordal/NumberTable")) (by decide) (by decide)))).other W9 (Or.inr (slot_ne (Or.inr (own_w hw 64 rfl)) (Or.inr (own_w hw 60 rfl)) (by decide) (t := (.array .int)) (t' := (.object "com/example/ordal/ordal/Relation")) (by decide) (by decide)))).other W10 (Or.inr (slot_ne (Or.inr (own_w hw 64 rfl)) (Or.inr (own_w hw 62 rfl)) (by decide) (t := (.array .int)) (t' := (.array .int)) (by decide) (by decide)))).ext E11)
  replace E_w0 := ((E_w0.wr W10).ext E11)
  refine own_putfield (pc' := 34) B X11 (host := "") (Or.inl (own_w hw 63 rfl)) Via.refl F_w0_row E_w0 g_w0 (Or.inr ⟨(own_w hw 64 rfl), rfl, rfl⟩) (own_w hw 35 rfl) (ty := (.array .int)) (by decide) rfl rfl d6_31 rfl ?_
  intro T12 h12 X12 W12 F_w0_row
  replace K := K.wr W12 (Or.inl (List.mem_of_getElem? (i := 0) rfl))
  exact own_ret B X12 d6_34 (by decide) (by decide) (⟨b2, b4, k5, b6, k7, b11, kb11, rfl, K, sz_b2, sz_b4, sz_b6, sz_b11, ne_b2_b4, ne_b2_b6, ne_b2_b11, ne_b4_b6, ne_b4_b11, ne_b6_b11, (E_w0.wr W12), ((((F_w0_table.other W9 (Or.inr (slot_ne (Or.inr (own_w hw 58 rfl)) (Or.inr (own_w hw 60 rfl)) (by decide) (t := (.object "com/example/ordal/ordal/NumberTable")) (t' := (.object "com/example/ordal/ordal/Relation")) (by decide) (by decide)))).other W10 (Or.inr (slot_ne (Or.inr (own_w hw 58 rfl)) (Or.inr (own_w hw 62 rfl)) (by decide) (t := (.object "com/example/ordal/ordal/NumberTable")) (t' := (.array .int)) (by decide) (by decide)))).ext E11).other W12 (Or.inr (slot_ne (Or.inr (own_w hw 58 rfl)) (Or.inr (own_w hw 64 rfl)) (by decide) (t := (.object "com/example/ordal/ordal/NumberTable")) (t' := (.array .int)) (by decide) (by decide)))), (((F_w0_relation.other W10 (Or.inr (slot_ne (Or.inr (own_w hw 60 rfl)) (Or.inr (own_w hw 62 rfl)) (by decide) (t := (.object "com/example/ordal/ordal/Relation")) (t' := (.array .int)) (by decide) (by decide)))).ext E11).other W12 (Or.inr (slot_ne (Or.inr (own_w hw 60 rfl)) (Or.inr (own_w hw 64 rfl)) (by decide) (t := (.object "com/example/ordal/ordal/Relation")) (t' := (.array .int)) (by decide) (by decide)))), ((F_w0_columns.ext E11).other W12 (Or.inr (slot_ne (Or.inr (own_w hw 62 rfl)) (Or.inr (own_w hw 64 rfl)) (by decide) (t := (.array .int)) (t' := (.array .int)) (by decide) (by decide)))), F_w0_row, ((E_b2.ext E11).wr W12), (((((F_b2_slots.other W8 (Or.inl (Ne.symm (own_ne' lt_w0 sz_b2)))).other W9 (Or.inl (Ne.symm (own_ne' lt_w0 sz_b2)))).other W10 (Or.inl (Ne.symm (own_ne' lt_w0 sz_b2)))).ext E11).other W12 (Or.inl (Ne.symm (own_ne' lt_w0 sz_b2)))), (((((F_b2_hashes.other W8 (Or.inl (Ne.symm (own_ne' lt_w0 sz_b2)))).other W9 (Or.inl (Ne.symm (own_ne' lt_w0 sz_b2)))).other W10 (Or.inl (Ne.symm (own_ne' lt_w0 sz_b2)))).ext E11).other W12 (Or.inl (Ne.symm (own_ne' lt_w0 sz_b2)))), (((((F_b2_keys.other W8 (Or.inl (Ne.symm (own_ne' lt_w0 sz_b2)))).other W9 (Or.inl (Ne.symm (own_ne' lt_w0 sz_b2)))).other W10 (Or.inl (Ne.symm (own_ne' lt_w0 sz_b2)))).ext E11).other W12 (Or.inl (Ne.symm (own_ne' lt_w0 sz_b2)))), (((((F_b2_count.other W8 (Or.inl (Ne.symm (own_ne' lt_w0 sz_b2)))).other W9 (Or.inl (Ne.symm (own_ne' lt_w0 sz_b2)))).other W10 (Or.inl (Ne.symm (own_ne' lt_w0 sz_b2)))).ext E11).other W12 (Or.inl (Ne.symm (own_ne' lt_w0 sz_b2)))), (((((F_b2_crowded.other W8 (Or.inl (Ne.symm (own_ne' lt_w0 sz_b2)))).other W9 (Or.inl (Ne.symm (own_ne' lt_w0 sz_b2)))).other W10 (Or.inl (Ne.symm (own_ne' lt_w0 sz_b2)))).ext E11).other W12 (Or.inl (Ne.symm (own_ne' lt_w0 sz_b2)))), ((V_b4.ext E11).other W12 (Ne.symm (own_ne' lt_w0 sz_b4))), ((V_b6.ext E11).other W12 (Ne.symm (own_ne' lt_w0 sz_b6))), (V_b11.other W12 (Ne.symm (own_ne' lt_w0 sz_b11)))⟩)
def Q_1 (Z : State) (w0 : Addr) (h0 : Heap) (n0 : Nat) (v : Option Value) (h : Heap) : Prop :=
  (∃ (b2 : Addr) (b5 : Addr) (b9 : Addr) (kb9 : ClassId) (b11 : Addr) (b13 : Addr) (k14 : ClassId) (b16 : Addr) (b17 : Addr) (k18 : ClassId) (b19 : Addr) (k20 : ClassId) (b21 : Addr) (k22 : ClassId), v = none ∧ Keep h0 h [w0] ∧ h0.size ≤ b2 ∧ h0.size ≤ b5 ∧ h0.size ≤ b9 ∧ h0.size ≤ b11 ∧ h0.size ≤ b13 ∧ h0.size ≤ b16 ∧ h0.size ≤ b17 ∧ h0.size ≤ b19 ∧ h0.size ≤ b21 ∧ b2 ≠ b5 ∧ b2 ≠ b9 ∧ b2 ≠ b11 ∧ b2 ≠ b13 ∧ b2 ≠ b16 ∧ b2 ≠ b17 ∧ b2 ≠ b19 ∧ b2 ≠ b21 ∧ b5 ≠ b9 ∧ b5 ≠ b11 ∧ b5 ≠ b13 ∧ b5 ≠ b16 ∧ b5 ≠ b17 ∧ b5 ≠ b19 ∧ b5 ≠ b21 ∧ b9 ≠ b11 ∧ b9 ≠ b13 ∧ b9 ≠ b16 ∧ b9 ≠ b17 ∧ b9 ≠ b19 ∧ b9 ≠ b21 ∧ b11 ≠ b13 ∧ b11 ≠ b16 ∧ b11 ≠ b17 ∧ b11 ≠ b19 ∧ b11 ≠ b21 ∧ b13 ≠ b16 ∧ b13 ≠ b17 ∧ b13 ≠ b19 ∧ b13 ≠ b21 ∧ b16 ≠ b17 ∧ b16 ≠ b19 ∧ b16 ≠ b21 ∧ b17 ≠ b19 ∧ b17 ≠ b21 ∧ b19 ≠ b21 ∧ Exa Z h w0 oC2 ∧ Fld Z h w0 oC2 "indexes" "Ljava/util/Map;" (.ref b2) ∧ Fld Z h w0 oC2 "walks" "Ljava/util/Map;" (.ref b5) ∧ Fld Z h w0 oC2 "arity" "I" (.int 2) ∧ Fld Z h w0 oC2 "rows" "[I" (.ref b9) ∧ Fld Z h w0 oC2 "members" "Lcom/example/ordal/ordal/Relation$PositionTable;" (.ref b11) ∧ Fld Z h w0 oC2 "size" "I" (.int 0) ∧ Fld Z h w0 oC2 "spellings" "[I" .null ∧ Fld Z h w0 oC2 "arrived" "I" (.int 0) ∧ Exa Z h b2 oC4 ∧ Fld Z h b2 oC4 "loadFactor" "F" (.float (1061158912 : UInt32)) ∧ Fld Z h b2 oC4 "size" "I" (.int 0) ∧ Exa Z h b5 oC4 ∧ Fld Z h b5 oC4 "loadFactor" "F" (.float (1061158912 : UInt32)) ∧ Fld Z h b5 oC4 "size" "I" (.int 0) ∧ Arv Z h b9 kb9 .int (16 : Int32) [] (.int 0) ∧ Exa Z h b11 oC3 ∧ Fld Z h b11 oC3 "table" "Lcom/example/ordal/ordal/NumberTable;" (.ref b16) ∧ Fld Z h b11 oC3 "relation" "Lcom/example/ordal/ordal/Relation;" (.ref w0) ∧ Fld Z h b11 oC3 "columns" "[I" (.ref b13) ∧ Fld Z h b11 oC3 "row" "[I" (.ref b21) ∧ Arv Z h b13 k14 .int (2 : Int32) [(.int 0), (.int 1)] (.int 0) ∧ Exa Z h b16 oC1 ∧ Fld Z h b16 oC1 "slots" "[I" (.ref b17) ∧ Fld Z h b16 oC1 "hashes" "[I" (.ref b19) ∧ Fld Z h b16 oC1 "keys" "Lcom/example/ordal/ordal/NumberTable$Keys;" (.ref b11) ∧ Fld Z h b16 oC1 "count" "I" (.int 0) ∧ Fld Z h b16 oC1 "crowded" "Ljava/util/TreeMap;" .null ∧ Arv Z h b17 k18 .int (16 : Int32) [] (.int 0) ∧ Arv Z h b19 k20 .int (8 : Int32) [] (.int 0) ∧ Arv Z h b21 k22 .int (2 : Int32) [] (.int 0))
theorem rm_1 (l : Launch) (Z : State) (a0 : Array Value) (hw : ∀ d ∈ tables_1, d.before a0 Z = true) (ws : List Jvm.Cond) (w0 : Addr) (h0 : Heap) (n0 : Nat) (Z0 : n0 ≤ h0.size) (E_w0 : Exa Z h0 w0 oC2) (F_w0_indexes : Fld Z h0 w0 oC2 "indexes" "Ljava/util/Map;" .null) (F_w0_walks : Fld Z h0 w0 oC2 "walks" "Ljava/util/Map;" .null) (F_w0_arity : Fld Z h0 w0 oC2 "arity" "I" (.int 0)) (F_w0_rows : Fld Z h0 w0 oC2 "rows" "[I" .null) (F_w0_members : Fld Z h0 w0 oC2 "members" "Lcom/example/ordal/ordal/Relation$PositionTable;" .null) (F_w0_size : Fld Z h0 w0 oC2 "size" "I" (.int 0)) (F_w0_spellings : Fld Z h0 w0 oC2 "spellings" "[I" .null) (F_w0_arrived : Fld Z h0 w0 oC2 "arrived" "I" (.int 0)) (g_w0 : n0 ≤ w0) :
    own_M l Z (⟨"com/example/ordal/ordal/Relation", "<init>", "(I)V"⟩ : MethodName) prog_12_method_1_code 2 none ws ({ frames := 3, cells := 9, slots := 69, locals := 43 } : Room) #[(.ref w0), (.int 2)] h0 n0 (Q_1 Z w0 h0 n0) := by
  refine own_enter' (Q := Q_1 Z w0 h0 n0) (F := fun m => mkF m 0 #[.val (.ref w0), .val (.int 2)] []) (plainFor_of_name pn_2) ?_
  intro p e s m below meth c s₁ B X0
  have K : Keep h0 h0 [w0] := Keep.refl h0 _
  have lt_w0 := E_w0.lt
  refine own_aloadN (pc' := 1) B X0 d1_0 rfl rfl rfl ?_
  refine own_objinit (pc' := 4) B X0 (own_w hw 6 rfl) (own_w hw 7 rfl) (own_w hw 8 rfl) d1_1 rfl rfl (by decide) 0 (Nat.le_of_eq rfl) (by decide) ?_
  intro T1 X1
  refine own_aloadN (pc' := 5) B X1 d1_4 rfl rfl rfl ?_
  refine own_new (pc' := 8) B X1 (own_w hw 9 rfl) (own_w hw 10 rfl) (own_w hw 11 rfl) d1_5 rfl (k' := 1) (n' := 8) rfl rfl (by decide) (by decide) ?_
  intro T2 h2 b2 X2 g2 E2 E_b2 D2
  have sz_b2 : h0.size ≤ b2 := own_sz K g2
  have g_b2 : n0 ≤ b2 := Nat.le_trans Z0 sz_b2
  replace K := K.ext E2
  have F_b2_loadFactor : Fld Z h2 b2 oC4 "loadFactor" "F" (.float (0 : UInt32)) := D2 (Or.inr (own_w hw 24 rfl)) (ty := .float) (by decide)
  have F_b2_size : Fld Z h2 b2 oC4 "size" "I" (.int 0) := D2 (Or.inl (own_w hw 156 rfl)) (ty := .int) (by decide)
  clear D2
  refine own_dup (pc' := 9) B X2 d1_8 rfl rfl ?_
  refine own_callI (pc' := 12) B X2 rfl rfl (own_w hw 12 rfl) (own_w hw 13 rfl) (own_w hw 11 rfl) (own_w hw 14 rfl) (by decide) [] [(.ref b2), (.ref w0)] (rm_2 l Z a0 hw [] b2 h2 n0 (Nat.le_trans Z0 K.1) E_b2 F_b2_loadFactor F_b2_size g_b2) 2 (by decide) (by decide) rfl pd_0 rfl rfl (Nat.le_of_eq rfl) d1_9 rfl (k' := 1) (n' := 8) rfl rfl (by decide) (by decide) ?_
  intro T3 v3 h3 X3 q3
  obtain ⟨rfl, K3, E_b2, F_b2_loadFactor, F_b2_size⟩ := q3
  replace K := K.trans K3 (allS (Or.inr sz_b2) all0)
  show own_Go p e below (T3.setTop (mkF m 12 #[.val (.ref w0), .val (.int 2)] [(.ref b2), (.ref w0)])) _
  replace F_w0_indexes := ((F_w0_indexes.ext E2).keep K3 (ninS (own_ne' lt_w0 sz_b2) nin0))
  replace E_w0 := ((E_w0.ext E2).keep K3)
  refine own_putfield (pc' := 15) B X3 (host := "") (Or.inl (own_w hw 25 rfl)) Via.refl F_w0_indexes E_w0 g_w0 (Or.inr ⟨(own_w hw 26 rfl), rfl, rfl⟩) (own_w hw 1 rfl) (ty := (.object "java/util/Map")) (by decide) rfl rfl d1_12 rfl ?_
  intro T4 h4 X4 W4 F_w0_indexes
  replace K := K.wr W4 (Or.inl (List.mem_of_getElem? (i := 0) rfl))
  refine own_aloadN (pc' := 16) B X4 d1_15 rfl rfl rfl ?_
  refine own_new (pc' := 19) B X4 (own_w hw 9 rfl) (own_w hw 10 rfl) (own_w hw 11 rfl) d1_16 rfl (k' := 2) (n' := 16) rfl rfl (by decide) (by decide) ?_
  intro T5 h5 b5 X5 g5 E5 E_b5 D5
  replace E_b2 := (E_b2.wr W4)
  have ne_b2_b5 : b2 ≠ b5 := own_ne E_b2.lt g5
  have sz_b5 : h0.size ≤ b5 := own_sz K g5
  have g_b5 : n0 ≤ b5 := Nat.le_trans Z0 sz_b5
  replace K := K.ext E5
  have F_b5_loadFactor : Fld Z h5 b5 oC4 "loadFactor" "F" (.float (0 : UInt32)) := D5 (Or.inr (own_w hw 24 rfl)) (ty := .float) (by decide)
  have F_b5_size : Fld Z h5 b5 oC4 "size" "I" (.int 0) := D5 (Or.inl (own_w hw 156 rfl)) (ty := .int) (by decide)
  clear D5
  refine own_dup (pc' := 20) B X5 d1_19 rfl rfl ?_
  refine own_callI (pc' := 23) B X5 rfl rfl (own_w hw 12 rfl) (own_w hw 13 rfl) (own_w hw 11 rfl) (own_w hw 14 rfl) (by decide) [] [(.ref b5), (.ref w0)] (rm_2 l Z a0 hw [] b5 h5 n0 (Nat.le_trans Z0 K.1) E_b5 F_b5_loadFactor F_b5_size g_b5) 2 (by decide) (by decide) rfl pd_0 rfl rfl (Nat.le_of_eq rfl) d1_20 rfl (k' := 2) (n' := 16) rfl rfl (by decide) (by decide) ?_
  intro T6 v6 h6 X6 q6
  obtain ⟨rfl, K6, E_b5, F_b5_loadFactor, F_b5_size⟩ := q6
  replace K := K.trans K6 (allS (Or.inr sz_b5) all0)
  show own_Go p e below (T6.setTop (mkF m 23 #[.val (.ref w0), .val (.int 2)] [(.ref b5), (.ref w0)])) _
  replace F_w0_walks := (((((F_w0_walks.ext E2).keep K3 (ninS (own_ne' lt_w0 sz_b2) nin0)).other W4 (Or.inr (slot_ne (Or.inr (own_w hw 28 rfl)) (Or.inr (own_w hw 26 rfl)) (by decide) (t := (.object "java/util/Map")) (t' := (.object "java/util/Map")) (by decide) (by decide)))).ext E5).keep K6 (ninS (own_ne' lt_w0 sz_b5) nin0))
  replace E_w0 := (((E_w0.wr W4).ext E5).keep K6)
  refine own_putfield (pc' := 26) B X6 (host := "") (Or.inl (own_w hw 27 rfl)) Via.refl F_w0_walks E_w0 g_w0 (Or.inr ⟨(own_w hw 28 rfl), rfl, rfl⟩) (own_w hw 1 rfl) (ty := (.object "java/util/Map")) (by decide) rfl rfl d1_23 rfl ?_
  intro T7 h7 X7 W7 F_w0_walks
  replace K := K.wr W7 (Or.inl (List.mem_of_getElem? (i := 0) rfl))
  refine own_aloadN (pc' := 27) B X7 d1_26 rfl rfl rfl ?_
  refine own_iloadN (pc' := 28) B X7 d1_27 rfl rfl ?_
  replace F_w0_arity := ((((((F_w0_arity.ext E2).keep K3 (ninS (own_ne' lt_w0 sz_b2) nin0)).other W4 (Or.inr (slot_ne (Or.inr (own_w hw 30 rfl)) (Or.inr (own_w hw 26 rfl)) (by decide) (t := .int) (t' := (.object "java/util/Map")) (by decide) (by decide)))).ext E5).keep K6 (ninS (own_ne' lt_w0 sz_b5) nin0)).other W7 (Or.inr (slot_ne (Or.inr (own_w hw 30 rfl)) (Or.inr (own_w hw 28 rfl)) (by decide) (t := .int) (t' := (.object "java/util/Map")) (by decide) (by decide))))
  replace E_w0 := (E_w0.wr W7)
  refine own_putfield (pc' := 31) B X7 (host := "") (Or.inl (own_w hw 29 rfl)) Via.refl F_w0_arity E_w0 g_w0 (Or.inr ⟨(own_w hw 30 rfl), rfl, rfl⟩) (own_w hw 1 rfl) (ty := .int) (by decide) rfl rfl d1_28 rfl ?_
  intro T8 h8 X8 W8 F_w0_arity
  replace K := K.wr W8 (Or.inl (List.mem_of_getElem? (i := 0) rfl))
  refine own_aloadN (pc' := 32) B X8 d1_31 rfl rfl rfl ?_
  refine own_bipush (pc' := 34) B X8 (z := (8 : Int32)) d1_32 rfl (by decide) ?_
  refine own_iloadN (pc' := 35) B X8 d1_34 rfl rfl ?_
  refine own_imul (pc' := 36) B X8 (z := (16 : Int32)) d1_35 rfl (by decide) ?_
  refine own_newarray (pc' := 38) B X8 (own_w hw 31 rfl) d1_36 rfl rfl (by decide) 16 (by decide) (by decide) (k' := 3) (n' := 32) rfl rfl (by decide) (by decide) "[I" (by decide) (.int 0) rfl ?_
  intro T9 h9 b9 kb9 X9 g9 E9 V_b9 E_b9
  replace E_b2 := ((((E_b2.ext E5).keep K6).wr W7).wr W8)
  have ne_b2_b9 : b2 ≠ b9 := own_ne E_b2.lt g9
  replace E_b5 := ((E_b5.wr W7).wr W8)
  have ne_b5_b9 : b5 ≠ b9 := own_ne E_b5.lt g9
  have sz_b9 : h0.size ≤ b9 := own_sz K g9
  have g_b9 : n0 ≤ b9 := Nat.le_trans Z0 sz_b9
  replace K := K.ext E9
  replace F_w0_rows := ((((((((F_w0_rows.ext E2).keep K3 (ninS (own_ne' lt_w0 sz_b2) nin0)).other W4 (Or.inr (slot_ne (Or.inl (own_w hw 33 rfl)) (Or.inr (own_w hw 26 rfl)) (by decide) (t := (.array .int)) (t' := (.object "java/util/Map")) (by decide) (by decide)))).ext E5).keep K6 (ninS (own_ne' lt_w0 sz_b5) nin0)).other W7 (Or.inr (slot_ne (Or.inl (own_w hw 33 rfl)) (Or.inr (own_w hw 28 rfl)) (by decide) (t := (.array .int)) (t' := (.object "java/util/Map")) (by decide) (by decide)))).other W8 (Or.inr (slot_ne (Or.inl (own_w hw 33 rfl)) (Or.inr (own_w hw 30 rfl)) (by decide) (t := (.array .int)) (t' := .int) (by decide) (by decide)))).ext E9)
  replace E_w0 := ((E_w0.wr W8).ext E9)
  refine own_putfield (pc' := 41) B X9 (host := "") (Or.inl (own_w hw 32 rfl)) Via.refl F_w0_rows E_w0 g_w0 (Or.inl (own_w hw 33 rfl)) (own_w hw 1 rfl) (ty := (.array .int)) (by decide) rfl rfl d1_38 rfl ?_
  intro T10 h10 X10 W10 F_w0_rows
  replace K := K.wr W10 (Or.inl (List.mem_of_getElem? (i := 0) rfl))
  refine own_aloadN (pc' := 42) B X10 d1_41 rfl rfl rfl ?_
  refine own_new (pc' := 45) B X10 (own_w hw 34 rfl) (own_w hw 35 rfl) (own_w hw 36 rfl) d1_42 rfl (k' := 4) (n' := 36) rfl rfl (by decide) (by decide) ?_
  intro T11 h11 b11 X11 g11 E11 E_b11 D11
  replace E_b2 := ((E_b2.ext E9).wr W10)
  have ne_b2_b11 : b2 ≠ b11 := own_ne E_b2.lt g11
  replace E_b5 := ((E_b5.ext E9).wr W10)
  have ne_b5_b11 : b5 ≠ b11 := own_ne E_b5.lt g11
  replace V_b9 := (V_b9.other W10 (Ne.symm (own_ne' lt_w0 sz_b9)))
  have ne_b9_b11 : b9 ≠ b11 := own_ne V_b9.lt g11
  have sz_b11 : h0.size ≤ b11 := own_sz K g11
  have g_b11 : n0 ≤ b11 := Nat.le_trans Z0 sz_b11
  replace K := K.ext E11
  have F_b11_table : Fld Z h11 b11 oC3 "table" "Lcom/example/ordal/ordal/NumberTable;" .null := D11 (Or.inr (own_w hw 58 rfl)) (ty := (.object "com/example/ordal/ordal/NumberTable")) (by decide)
  have F_b11_relation : Fld Z h11 b11 oC3 "relation" "Lcom/example/ordal/ordal/Relation;" .null := D11 (Or.inr (own_w hw 60 rfl)) (ty := (.object "com/example/ordal/ordal/Relation")) (by decide)
  have F_b11_columns : Fld Z h11 b11 oC3 "columns" "[I" .null := D11 (Or.inr (own_w hw 62 rfl)) (ty := (.array .int)) (by decide)
  have F_b11_row : Fld Z h11 b11 oC3 "row" "[I" .null := D11 (Or.inr (own_w hw 64 rfl)) (ty := (.array .int)) (by decide)
  clear D11
  refine own_dup (pc' := 46) B X11 d1_45 rfl rfl ?_
  refine own_aloadN (pc' := 47) B X11 d1_46 rfl rfl rfl ?_
  refine own_iloadN (pc' := 48) B X11 d1_47 rfl rfl ?_
  refine own_callS (pc' := 51) B X11 (own_w hw 37 rfl) (own_w hw 38 rfl) (own_w hw 2 rfl) (own_w hw 39 rfl) (by decide) [(.int 2)] [(.ref w0), (.ref b11), (.ref b11), (.ref w0)] (rm_4 l Z a0 hw []  h11 n0 (Nat.le_trans Z0 K.1) ) 4 (by decide) (by decide) rfl pd_1 rfl rfl (Nat.le_of_eq rfl) d1_48 rfl (k' := 5) (n' := 38) rfl rfl (by decide) (by decide) ?_
  intro T12 v12 h12 X12 q12
  replace E_b2 := (E_b2.ext E11)
  have lt_b2 := E_b2.lt
  replace E_b5 := (E_b5.ext E11)
  have lt_b5 := E_b5.lt
  replace V_b9 := (V_b9.ext E11)
  have lt_b9 := V_b9.lt
  have lt_b11 := E_b11.lt
  obtain ⟨b13, k14, rfl, K12, z_b13, V_b13⟩ := q12
  have ne_b2_b13 : b2 ≠ b13 := own_ne' lt_b2 z_b13
  have ne_b5_b13 : b5 ≠ b13 := own_ne' lt_b5 z_b13
  have ne_b9_b13 : b9 ≠ b13 := own_ne' lt_b9 z_b13
  have ne_b11_b13 : b11 ≠ b13 := own_ne' lt_b11 z_b13
  have sz_b13 : h0.size ≤ b13 := Nat.le_trans K.1 z_b13
  have g_b13 : n0 ≤ b13 := Nat.le_trans Z0 sz_b13
  replace K := K.trans K12 all0
  show own_Go p e below (T12.setTop (mkF m 51 #[.val (.ref w0), .val (.int 2)] [(.ref b13), (.ref w0), (.ref b11), (.ref b11), (.ref w0)])) _
  replace E_w0 := (((E_w0.wr W10).ext E11).keep K12)
  replace F_w0_indexes := ((((((((F_w0_indexes.ext E5).keep K6 (ninS (own_ne' lt_w0 sz_b5) nin0)).other W7 (Or.inr (slot_ne (Or.inr (own_w hw 26 rfl)) (Or.inr (own_w hw 28 rfl)) (by decide) (t := (.object "java/util/Map")) (t' := (.object "java/util/Map")) (by decide) (by decide)))).other W8 (Or.inr (slot_ne (Or.inr (own_w hw 26 rfl)) (Or.inr (own_w hw 30 rfl)) (by decide) (t := (.object "java/util/Map")) (t' := .int) (by decide) (by decide)))).ext E9).other W10 (Or.inr (slot_ne (Or.inr (own_w hw 26 rfl)) (Or.inl (own_w hw 33 rfl)) (by decide) (t := (.object "java/util/Map")) (t' := (.array .int)) (by decide) (by decide)))).ext E11).keep K12 nin0)
  replace F_w0_walks := (((((F_w0_walks.other W8 (Or.inr (slot_ne (Or.inr (own_w hw 28 rfl)) (Or.inr (own_w hw 30 rfl)) (by decide) (t := (.object "java/util/Map")) (t' := .int) (by decide) (by decide)))).ext E9).other W10 (Or.inr (slot_ne (Or.inr (own_w hw 28 rfl)) (Or.inl (own_w hw 33 rfl)) (by decide) (t := (.object "java/util/Map")) (t' := (.array .int)) (by decide) (by decide)))).ext E11).keep K12 nin0)
  replace F_w0_arity := ((((F_w0_arity.ext E9).other W10 (Or.inr (slot_ne (Or.inr (own_w hw 30 rfl)) (Or.inl (own_w hw 33 rfl)) (by decide) (t := .int) (t' := (.array .int)) (by decide) (by decide)))).ext E11).keep K12 nin0)
  replace F_w0_rows := ((F_w0_rows.ext E11).keep K12 nin0)
  replace F_w0_members := (((((((((((F_w0_members.ext E2).keep K3 (ninS (own_ne' lt_w0 sz_b2) nin0)).other W4 (Or.inr (slot_ne (Or.inr (own_w hw 66 rfl)) (Or.inr (own_w hw 26 rfl)) (by decide) (t := (.object "com/example/ordal/ordal/Relation$PositionTable")) (t' := (.object "java/util/Map")) (by decide) (by decide)))).ext E5).keep K6 (ninS (own_ne' lt_w0 sz_b5) nin0)).other W7 (Or.inr (slot_ne (Or.inr (own_w hw 66 rfl)) (Or.inr (own_w hw 28 rfl)) (by decide) (t := (.object "com/example/ordal/ordal/Relation$PositionTable")) (t' := (.object "java/util/Map")) (by decide) (by decide)))).other W8 (Or.inr (slot_ne (Or.inr (own_w hw 66 rfl)) (Or.inr (own_w hw 30 rfl)) (by decide) (t := (.object "com/example/ordal/ordal/Relation$PositionTable")) (t' := .int) (by decide) (by decide)))).ext E9).other W10 (Or.inr (slot_ne (Or.inr (own_w hw 66 rfl)) (Or.inl (own_w hw 33 rfl)) (by decide) (t := (.object "com/example/ordal/ordal/Relation$PositionTable")) (t' := (.array .int)) (by decide) (by decide)))).ext E11).keep K12 nin0)
  replace F_w0_size := (((((((((((F_w0_size.ext E2).keep K3 (ninS (own_ne' lt_w0 sz_b2) nin0)).other W4 (Or.inr (slot_ne (Or.inl (own_w hw 73 rfl)) (Or.inr (own_w hw 26 rfl)) (by decide) (t := .int) (t' := (.object "java/util/Map")) (by decide) (by decide)))).ext E5).keep K6 (ninS (own_ne' lt_w0 sz_b5) nin0)).other W7 (Or.inr (slot_ne (Or.inl (own_w hw 73 rfl)) (Or.inr (own_w hw 28 rfl)) (by decide) (t := .int) (t' := (.object "java/util/Map")) (by decide) (by decide)))).other W8 (Or.inr (slot_ne (Or.inl (own_w hw 73 rfl)) (Or.inr (own_w hw 30 rfl)) (by decide) (t := .int) (t' := .int) (by decide) (by decide)))).ext E9).other W10 (Or.inr (slot_ne (Or.inl (own_w hw 73 rfl)) (Or.inl (own_w hw 33 rfl)) (by decide) (t := .int) (t' := (.array .int)) (by decide) (by decide)))).ext E11).keep K12 nin0)
  replace F_w0_spellings := (((((((((((F_w0_spellings.ext E2).keep K3 (ninS (own_ne' lt_w0 sz_b2) nin0)).other W4 (Or.inr (slot_ne (Or.inl (own_w hw 125 rfl)) (Or.inr (own_w hw 26 rfl)) (by decide) (t := (.array .int)) (t' := (.object "java/util/Map")) (by decide) (by decide)))).ext E5).keep K6 (ninS (own_ne' lt_w0 sz_b5) nin0)).other W7 (Or.inr (slot_ne (Or.inl (own_w hw 125 rfl)) (Or.inr (own_w hw 28 rfl)) (by decide) (t := (.array .int)) (t' := (.object "java/util/Map")) (by decide) (by decide)))).other W8 (Or.inr (slot_ne (Or.inl (own_w hw 125 rfl)) (Or.inr (own_w hw 30 rfl)) (by decide) (t := (.array .int)) (t' := .int) (by decide) (by decide)))).ext E9).other W10 (Or.inr (slot_ne (Or.inl (own_w hw 125 rfl)) (Or.inl (own_w hw 33 rfl)) (by decide) (t := (.array .int)) (t' := (.array .int)) (by decide) (by decide)))).ext E11).keep K12 nin0)
  replace F_w0_arrived := (((((((((((F_w0_arrived.ext E2).keep K3 (ninS (own_ne' lt_w0 sz_b2) nin0)).other W4 (Or.inr (slot_ne (Or.inl (own_w hw 158 rfl)) (Or.inr (own_w hw 26 rfl)) (by decide) (t := .int) (t' := (.object "java/util/Map")) (by decide) (by decide)))).ext E5).keep K6 (ninS (own_ne' lt_w0 sz_b5) nin0)).other W7 (Or.inr (slot_ne (Or.inl (own_w hw 158 rfl)) (Or.inr (own_w hw 28 rfl)) (by decide) (t := .int) (t' := (.object "java/util/Map")) (by decide) (by decide)))).other W8 (Or.inr (slot_ne (Or.inl (own_w hw 158 rfl)) (Or.inr (own_w hw 30 rfl)) (by decide) (t := .int) (t' := .int) (by decide) (by decide)))).ext E9).other W10 (Or.inr (slot_ne (Or.inl (own_w hw 158 rfl)) (Or.inl (own_w hw 33 rfl)) (by decide) (t := .int) (t' := (.array .int)) (by decide) (by decide)))).ext E11).keep K12 nin0)
  replace F_b2_loadFactor := (((((((((F_b2_loadFactor.other W4 (Or.inl (Ne.symm (own_ne' lt_w0 sz_b2)))).ext E5).keep K6 (ninS ne_b2_b5 nin0)).other W7 (Or.inl (Ne.symm (own_ne' lt_w0 sz_b2)))).other W8 (Or.inl (Ne.symm (own_ne' lt_w0 sz_b2)))).ext E9).other W10 (Or.inl (Ne.symm (own_ne' lt_w0 sz_b2)))).ext E11).keep K12 nin0)
  replace F_b2_size := (((((((((F_b2_size.other W4 (Or.inl (Ne.symm (own_ne' lt_w0 sz_b2)))).ext E5).keep K6 (ninS ne_b2_b5 nin0)).other W7 (Or.inl (Ne.symm (own_ne' lt_w0 sz_b2)))).other W8 (Or.inl (Ne.symm (own_ne' lt_w0 sz_b2)))).ext E9).other W10 (Or.inl (Ne.symm (own_ne' lt_w0 sz_b2)))).ext E11).keep K12 nin0)
  replace F_b5_loadFactor := ((((((F_b5_loadFactor.other W7 (Or.inl (Ne.symm (own_ne' lt_w0 sz_b5)))).other W8 (Or.inl (Ne.symm (own_ne' lt_w0 sz_b5)))).ext E9).other W10 (Or.inl (Ne.symm (own_ne' lt_w0 sz_b5)))).ext E11).keep K12 nin0)
  replace F_b5_size := ((((((F_b5_size.other W7 (Or.inl (Ne.symm (own_ne' lt_w0 sz_b5)))).other W8 (Or.inl (Ne.symm (own_ne' lt_w0 sz_b5)))).ext E9).other W10 (Or.inl (Ne.symm (own_ne' lt_w0 sz_b5)))).ext E11).keep K12 nin0)
  refine own_callI (pc' := 54) B X12 rfl rfl (own_w hw 40 rfl) (own_w hw 41 rfl) (own_w hw 36 rfl) (own_w hw 42 rfl) (by decide) [(.ref w0), (.ref b13)] [(.ref b11), (.ref w0)] (rm_5 l Z a0 hw [] b11 w0 b2 b5 b9 kb9 b13 k14 h12 n0 (Nat.le_trans Z0 K.1) (E_b11.keep K12) (F_b11_table.keep K12 nin0) (F_b11_relation.keep K12 nin0) (F_b11_columns.keep K12 nin0) (F_b11_row.keep K12 nin0) g_b11 E_w0 F_w0_indexes F_w0_walks F_w0_arity F_w0_rows F_w0_members F_w0_size F_w0_spellings F_w0_arrived g_w0 (E_b2.keep K12) F_b2_loadFactor F_b2_size g_b2 (E_b5.keep K12) F_b5_loadFactor F_b5_size g_b5 (V_b9.keep K12 nin0) g_b9 V_b13 g_b13 (Ne.symm (own_ne' lt_w0 sz_b11)) (Ne.symm ne_b2_b11) (Ne.symm ne_b5_b11) (Ne.symm ne_b9_b11) ne_b11_b13 (own_ne' lt_w0 sz_b2) (own_ne' lt_w0 sz_b5) (own_ne' lt_w0 sz_b9) (own_ne' lt_w0 sz_b13) ne_b2_b5 ne_b2_b9 ne_b2_b13 ne_b5_b9 ne_b5_b13 ne_b9_b13) 2 (by decide) (by decide) rfl pd_3 rfl rfl (Nat.le_of_eq rfl) d1_51 rfl (k' := 9) (n' := 69) rfl rfl (by decide) (by decide) ?_
  intro T15 v15 h15 X15 q15
  replace E_b2 := (E_b2.keep K12)
  have lt_b2 := E_b2.lt
  replace E_b5 := (E_b5.keep K12)
  have lt_b5 := E_b5.lt
  replace V_b9 := (V_b9.keep K12 nin0)
  have lt_b9 := V_b9.lt
  replace E_b11 := (E_b11.keep K12)
  have lt_b11 := E_b11.lt
  have lt_b13 := V_b13.lt
  obtain ⟨b16, b17, k18, b19, k20, b21, k22, rfl, K15, z_b16, z_b17, z_b19, z_b21, ne_b16_b17, ne_b16_b19, ne_b16_b21, ne_b17_b19, ne_b17_b21, ne_b19_b21, E_b11, F_b11_table, F_b11_relation, F_b11_columns, F_b11_row, E_b16, F_b16_slots, F_b16_hashes, F_b16_keys, F_b16_count, F_b16_crowded, V_b17, V_b19, V_b21⟩ := q15
  have ne_b2_b16 : b2 ≠ b16 := own_ne' lt_b2 z_b16
  have ne_b5_b16 : b5 ≠ b16 := own_ne' lt_b5 z_b16
  have ne_b9_b16 : b9 ≠ b16 := own_ne' lt_b9 z_b16
  have ne_b11_b16 : b11 ≠ b16 := own_ne' lt_b11 z_b16
  have ne_b13_b16 : b13 ≠ b16 := own_ne' lt_b13 z_b16
  have sz_b16 : h0.size ≤ b16 := Nat.le_trans K.1 z_b16
  have g_b16 : n0 ≤ b16 := Nat.le_trans Z0 sz_b16
  have ne_b2_b17 : b2 ≠ b17 := own_ne' lt_b2 z_b17
  have ne_b5_b17 : b5 ≠ b17 := own_ne' lt_b5 z_b17
  have ne_b9_b17 : b9 ≠ b17 := own_ne' lt_b9 z_b17
  have ne_b11_b17 : b11 ≠ b17 := own_ne' lt_b11 z_b17
  have ne_b13_b17 : b13 ≠ b17 := own_ne' lt_b13 z_b17
  have sz_b17 : h0.size ≤ b17 := Nat.le_trans K.1 z_b17
  have g_b17 : n0 ≤ b17 := Nat.le_trans Z0 sz_b17
  have ne_b2_b19 : b2 ≠ b19 := own_ne' lt_b2 z_b19
  have ne_b5_b19 : b5 ≠ b19 := own_ne' lt_b5 z_b19
  have ne_b9_b19 : b9 ≠ b19 := own_ne' lt_b9 z_b19
  have ne_b11_b19 : b11 ≠ b19 := own_ne' lt_b11 z_b19
  have ne_b13_b19 : b13 ≠ b19 := own_ne' lt_b13 z_b19
  have sz_b19 : h0.size ≤ b19 := Nat.le_trans K.1 z_b19
  have g_b19 : n0 ≤ b19 := Nat.le_trans Z0 sz_b19
  have ne_b2_b21 : b2 ≠ b21 := own_ne' lt_b2 z_b21
  have ne_b5_b21 : b5 ≠ b21 := own_ne' lt_b5 z_b21
  have ne_b9_b21 : b9 ≠ b21 := own_ne' lt_b9 z_b21
  have ne_b11_b21 : b11 ≠ b21 := own_ne' lt_b11 z_b21
  have ne_b13_b21 : b13 ≠ b21 := own_ne' lt_b13 z_b21
  have sz_b21 : h0.size ≤ b21 := Nat.le_trans K.1 z_b21
  have g_b21 : n0 ≤ b21 := Nat.le_trans Z0 sz_b21
  replace K := K.trans K15 (allS (Or.inr sz_b11) all0)
  show own_Go p e below (T15.setTop (mkF m 54 #[.val (.ref w0), .val (.int 2)] [(.ref b11), (.ref w0)])) _
  replace F_w0_members := (F_w0_members.keep K15 (ninS (own_ne' lt_w0 sz_b11) nin0))
  replace E_w0 := (E_w0.keep K15)
  refine own_putfield (pc' := 57) B X15 (host := "") (Or.inl (own_w hw 65 rfl)) Via.refl F_w0_members E_w0 g_w0 (Or.inr ⟨(own_w hw 66 rfl), rfl, rfl⟩) (own_w hw 1 rfl) (ty := (.object "com/example/ordal/ordal/Relation$PositionTable")) (by decide) rfl rfl d1_54 rfl ?_
  intro T23 h23 X23 W23 F_w0_members
  replace K := K.wr W23 (Or.inl (List.mem_of_getElem? (i := 0) rfl))
  exact own_ret B X23 d1_57 (by decide) (by decide) (⟨b2, b5, b9, kb9, b11, b13, k14, b16, b17, k18, b19, k20, b21, k22, rfl, K, sz_b2, sz_b5, sz_b9, sz_b11, sz_b13, sz_b16, sz_b17, sz_b19, sz_b21, ne_b2_b5, ne_b2_b9, ne_b2_b11, ne_b2_b13, ne_b2_b16, ne_b2_b17, ne_b2_b19, ne_b2_b21, ne_b5_b9, ne_b5_b11, ne_b5_b13, ne_b5_b16, ne_b5_b17, ne_b5_b19, ne_b5_b21, ne_b9_b11, ne_b9_b13, ne_b9_b16, ne_b9_b17, ne_b9_b19, ne_b9_b21, ne_b11_b13, ne_b11_b16, ne_b11_b17, ne_b11_b19, ne_b11_b21, ne_b13_b16, ne_b13_b17, ne_b13_b19, ne_b13_b21, ne_b16_b17, ne_b16_b19, ne_b16_b21, ne_b17_b19, ne_b17_b21, ne_b19_b21, (E_w0.wr W23), ((F_w0_indexes.keep K15 (ninS (own_ne' lt_w0 sz_b11) nin0)).other W23 (Or.inr (slot_ne (Or.inr (own_w hw 26 rfl)) (Or.inr (own_w hw 66 rfl)) (by decide) (t := (.object "java/util/Map")) (t' := (.object "com/example/ordal/ordal/Relation$PositionTable")) (by decide) (by decide)))), ((F_w0_walks.keep K15 (ninS (own_ne' lt_w0 sz_b11) nin0)).other W23 (Or.inr (slot_ne (Or.inr (own_w hw 28 rfl)) (Or.inr (own_w hw 66 rfl)) (by decide) (t := (.object "java/util/Map")) (t' := (.object "com/example/ordal/ordal/Relation$PositionTable")) (by decide) (by decide)))), ((F_w0_arity.keep K15 (ninS (own_ne' lt_w0 sz_b11) nin0)).other W23 (Or.inr (slot_ne (Or.inr (own_w hw 30 rfl)) (Or.inr (own_w hw 66 rfl)) (by decide) (t := .int) (t' := (.object "com/example/ordal/ordal/Relation$PositionTable")) (by decide) (by decide)))), ((F_w0_rows.keep K15 (ninS (own_ne' lt_w0 sz_b11) nin0)).other W23 (Or.inr (slot_ne (Or.inl (own_w hw 33 rfl)) (Or.inr (own_w hw 66 rfl)) (by decide) (t := (.array .int)) (t' := (.object "com/example/ordal/ordal/Relation$PositionTable")) (by decide) (by decide)))), F_w0_members, ((F_w0_size.keep K15 (ninS (own_ne' lt_w0 sz_b11) nin0)).other W23 (Or.inr (slot_ne (Or.inl (own_w hw 73 rfl)) (Or.inr (own_w hw 66 rfl)) (by decide) (t := .int) (t' := (.object "com/example/ordal/ordal/Relation$PositionTable")) (by decide) (by decide)))), ((F_w0_spellings.keep K15 (ninS (own_ne' lt_w0 sz_b11) nin0)).other W23 (Or.inr (slot_ne (Or.inl (own_w hw 125 rfl)) (Or.inr (own_w hw 66 rfl)) (by decide) (t := (.array .int)) (t' := (.object "com/example/ordal/ordal/Relation$PositionTable")) (by decide) (by decide)))), ((F_w0_arrived.keep K15 (ninS (own_ne' lt_w0 sz_b11) nin0)).other W23 (Or.inr (slot_ne (Or.inl (own_w hw 158 rfl)) (Or.inr (own_w hw 66 rfl)) (by decide) (t := .int) (t' := (.object "com/example/ordal/ordal/Relation$PositionTable")) (by decide) (by decide)))), ((E_b2.keep K15).wr W23), ((F_b2_loadFactor.keep K15 (ninS ne_b2_b11 nin0)).other W23 (Or.inl (Ne.symm (own_ne' lt_w0 sz_b2)))), ((F_b2_size.keep K15 (ninS ne_b2_b11 nin0)).other W23 (Or.inl (Ne.symm (own_ne' lt_w0 sz_b2)))), ((E_b5.keep K15).wr W23), ((F_b5_loadFactor.keep K15 (ninS ne_b5_b11 nin0)).other W23 (Or.inl (Ne.symm (own_ne' lt_w0 sz_b5)))), ((F_b5_size.keep K15 (ninS ne_b5_b11 nin0)).other W23 (Or.inl (Ne.symm (own_ne' lt_w0 sz_b5)))), ((V_b9.keep K15 (ninS ne_b9_b11 nin0)).other W23 (Ne.symm (own_ne' lt_w0 sz_b9))), (E_b11.wr W23), (F_b11_table.other W23 (Or.inl (Ne.symm (own_ne' lt_w0 sz_b11)))), (F_b11_relation.other W23 (Or.inl (Ne.symm (own_ne' lt_w0 sz_b11)))), (F_b11_columns.other W23 (Or.inl (Ne.symm (own_ne' lt_w0 sz_b11)))), (F_b11_row.other W23 (Or.inl (Ne.symm (own_ne' lt_w0 sz_b11)))), ((V_b13.keep K15 (ninS (Ne.symm ne_b11_b13) nin0)).other W23 (Ne.symm (own_ne' lt_w0 sz_b13))), (E_b16.wr W23), (F_b16_slots.other W23 (Or.inl (Ne.symm (own_ne' lt_w0 sz_b16)))), (F_b16_hashes.other W23 (Or.inl (Ne.symm (own_ne' lt_w0 sz_b16)))), (F_b16_keys.other W23 (Or.inl (Ne.symm (own_ne' lt_w0 sz_b16)))), (F_b16_count.other W23 (Or.inl (Ne.symm (own_ne' lt_w0 sz_b16)))), (F_b16_crowded.other W23 (Or.inl (Ne.symm (own_ne' lt_w0 sz_b16)))), (V_b17.other W23 (Ne.symm (own_ne' lt_w0 sz_b17))), (V_b19.other W23 (Ne.symm (own_ne' lt_w0 sz_b19))), (V_b21.other W23 (Ne.symm (own_ne' lt_w0 sz_b21)))⟩)
def Q_11 (Z : State) (p0 : Int32) (h0 : Heap) (n0 : Nat) (v : Option Value) (h : Heap) : Prop :=
  (∃ (y1 : Int32) (y2 : Int32), (2 : Int32) + p0 = y1 ∧ y1 * (-1640531527 : Int32) = y2 ∧ v = some (.int y2) ∧ h0 = h)
theorem rm_11 (l : Launch) (Z : State) (a0 : Array Value) (hw : ∀ d ∈ tables_1, d.before a0 Z = true) (ws : List Jvm.Cond) (p0 : Int32) (h0 : Heap) (n0 : Nat) (Z0 : n0 ≤ h0.size)  :
    own_M l Z (⟨"com/example/ordal/ordal/Relation$PositionTable", "mix", "(II)I"⟩ : MethodName) prog_15_method_11_code 2 (some .int) ws ({ frames := 0, cells := 0, slots := 0, locals := 0 } : Room) #[(.int 2), (.int p0)] h0 n0 (Q_11 Z p0 h0 n0) := by
  refine own_enter' (Q := Q_11 Z p0 h0 n0) (F := fun m => mkF m 0 #[.val (.int 2), .val (.int p0)] []) (plainFor_of_name pn_4) ?_
  intro p e s m below meth c s₁ B X0
  have K : Keep h0 h0 [] := Keep.refl h0 _
  refine own_iloadN (pc' := 1) B X0 d14_0 rfl rfl ?_
  refine own_iloadN (pc' := 2) B X0 d14_1 rfl rfl ?_
  obtain ⟨y1, hy1⟩ : ∃ z : Int32, (2 : Int32) + p0 = z := ⟨_, rfl⟩
  refine own_iadd (pc' := 3) B X0 d14_2 rfl hy1 ?_
  refine own_ldcI (pc' := 5) B X0 (own_w hw 100 rfl) d14_3 rfl ?_
  obtain ⟨y2, hy2⟩ : ∃ z : Int32, y1 * (-1640531527 : Int32) = z := ⟨_, rfl⟩
  refine own_imul (pc' := 6) B X0 d14_5 rfl hy2 ?_
  exact own_retI B X0 d14_6 (by decide) (by decide) (⟨y1, y2, hy1, hy2, rfl, rfl⟩)
def Q_12 (Z : State) (p0 p1 : Int32) (h0 : Heap) (n0 : Nat) (v : Option Value) (h : Heap) : Prop :=
  (∃ (y1 : Int32) (y2 : Int32), p0 + p1 = y1 ∧ y1 * (-1640531527 : Int32) = y2 ∧ v = some (.int y2) ∧ h0 = h)
theorem rm_12 (l : Launch) (Z : State) (a0 : Array Value) (hw : ∀ d ∈ tables_1, d.before a0 Z = true) (ws : List Jvm.Cond) (p0 p1 : Int32) (h0 : Heap) (n0 : Nat) (Z0 : n0 ≤ h0.size)  :
    own_M l Z (⟨"com/example/ordal/ordal/Relation$PositionTable", "mix", "(II)I"⟩ : MethodName) prog_15_method_11_code 2 (some .int) ws ({ frames := 0, cells := 0, slots := 0, locals := 0 } : Room) #[(.int p0), (.int p1)] h0 n0 (Q_12 Z p0 p1 h0 n0) := by
  refine own_enter' (Q := Q_12 Z p0 p1 h0 n0) (F := fun m => mkF m 0 #[.val (.int p0), .val (.int p1)] []) (plainFor_of_name pn_4) ?_
  intro p e s m below meth c s₁ B X0
  have K : Keep h0 h0 [] := Keep.refl h0 _
  refine own_iloadN (pc' := 1) B X0 d14_0 rfl rfl ?_
  refine own_iloadN (pc' := 2) B X0 d14_1 rfl rfl ?_
  obtain ⟨y1, hy1⟩ : ∃ z : Int32, p0 + p1 = z := ⟨_, rfl⟩
  refine own_iadd (pc' := 3) B X0 d14_2 rfl hy1 ?_
  refine own_ldcI (pc' := 5) B X0 (own_w hw 100 rfl) d14_3 rfl ?_
  obtain ⟨y2, hy2⟩ : ∃ z : Int32, y1 * (-1640531527 : Int32) = z := ⟨_, rfl⟩
  refine own_imul (pc' := 6) B X0 d14_5 rfl hy2 ?_
  exact own_retI B X0 d14_6 (by decide) (by decide) (⟨y1, y2, hy1, hy2, rfl, rfl⟩)
def Q_10 (Z : State) (w0 w1 : Addr) (kw1 : ClassId) (p3 p4 : Int32) (h0 : Heap) (n0 : Nat) (v : Option Value) (h : Heap) : Prop :=
  (∃ (yF : Int32), own_F_hash p3 p4 = yF ∧ v = some (.int yF) ∧ h0 = h)
theorem rm_10 (l : Launch) (Z : State) (a0 : Array Value) (hw : ∀ d ∈ tables_1, d.before a0 Z = true) (ws : List Jvm.Cond) (w0 w1 : Addr) (kw1 : ClassId) (p3 p4 : Int32) (h0 : Heap) (n0 : Nat) (Z0 : n0 ≤ h0.size) (E_w0 : Exa Z h0 w0 oC3) (g_w0 : n0 ≤ w0) (E_w1 : Exa Z h0 w1 "[I") (V_w1 : Arv Z h0 w1 kw1 .int (2 : Int32) [(.int p3), (.int p4)] (.int 0)) (g_w1 : n0 ≤ w1) (ne_w0_w1 : w0 ≠ w1) :
    own_M l Z (⟨"com/example/ordal/ordal/Relation$PositionTable", "hash", "([I)I"⟩ : MethodName) prog_15_method_9_code 7 (some .int) ws ({ frames := 1, cells := 0, slots := 0, locals := 13 } : Room) #[(.ref w0), (.ref w1)] h0 n0 (Q_10 Z w0 w1 kw1 p3 p4 h0 n0) := by
  refine own_enter' (Q := Q_10 Z w0 w1 kw1 p3 p4 h0 n0) (F := fun m => mkF m 0 #[.val (.ref w0), .val (.ref w1), .unset, .unset, .unset, .unset, .unset] []) (plainFor_of_name pn_4) ?_
  intro p e s m below meth c s₁ B X0
  have K : Keep h0 h0 [] := Keep.refl h0 _
  have lt_w0 := E_w0.lt
  have lt_w1 := E_w1.lt
  refine own_aloadN (pc' := 1) B X0 d13_0 rfl rfl rfl ?_
  refine own_arraylength (pc' := 2) B X0 V_w1 d13_1 rfl ?_
  refine own_istoreN (pc' := 3) B X0 (Ls' := #[.val (.ref w0), .val (.ref w1), .val (.int 2), .unset, .unset, .unset, .unset]) d13_2 rfl rfl ?_
  refine own_aloadN (pc' := 4) B X0 d13_3 rfl rfl rfl ?_
  refine own_astoreN (pc' := 5) B X0 (Ls' := #[.val (.ref w0), .val (.ref w1), .val (.int 2), .val (.ref w1), .unset, .unset, .unset]) d13_4 rfl rfl rfl ?_
  refine own_aloadN (pc' := 6) B X0 d13_5 rfl rfl rfl ?_
  refine own_arraylength (pc' := 7) B X0 V_w1 d13_6 rfl ?_
  refine own_istore (pc' := 9) B X0 (Ls' := #[.val (.ref w0), .val (.ref w1), .val (.int 2), .val (.ref w1), .val (.int 2), .unset, .unset]) d13_7 rfl rfl ?_
  refine own_iconst (pc' := 10) B X0 (z := (0 : Int32)) d13_9 rfl rfl ?_
  refine own_istore (pc' := 12) B X0 (Ls' := #[.val (.ref w0), .val (.ref w1), .val (.int 2), .val (.ref w1), .val (.int 2), .val (.int 0), .unset]) d13_10 rfl rfl ?_
  refine own_iload (pc' := 14) B X0 d13_12 rfl rfl ?_
  refine own_iload (pc' := 16) B X0 d13_14 rfl rfl ?_
  refine own_icmpNo (pc' := 19) B X0 d13_16 (tlt (by decide : (0 : Int32) < (2 : Int32))).2.1 rfl ?_
  refine own_aloadN (pc' := 20) B X0 d13_19 rfl rfl rfl ?_
  refine own_iload (pc' := 22) B X0 d13_20 rfl rfl ?_
  refine own_iaload (pc' := 23) B X0 V_w1 (v := (.int p3)) ⟨by decide, by decide⟩ rfl d13_22 rfl ?_
  refine own_istore (pc' := 25) B X0 (Ls' := #[.val (.ref w0), .val (.ref w1), .val (.int 2), .val (.ref w1), .val (.int 2), .val (.int 0), .val (.int p3)]) d13_23 rfl rfl ?_
  refine own_iloadN (pc' := 26) B X0 d13_25 rfl rfl ?_
  refine own_iload (pc' := 28) B X0 d13_26 rfl rfl ?_
  refine own_callS (pc' := 31) B X0 (own_w hw 97 rfl) (own_w hw 98 rfl) (own_w hw 36 rfl) (own_w hw 99 rfl) (by decide) [(.int 2), (.int p3)] [] (rm_11 l Z a0 hw [] (p3) h0 n0 (Nat.le_trans Z0 K.1) ) 0 (by decide) (by decide) rfl pd_5 rfl rfl (Nat.le_of_eq rfl) d13_28 rfl (k' := 0) (n' := 0) rfl rfl (by decide) (by decide) ?_
  intro T1 v1 h1 X1 q1
  obtain ⟨y2, y3, hy4, hy5, rfl, rfl⟩ := q1
  show own_Go p e below (T1.setTop (mkF m 31 #[.val (.ref w0), .val (.ref w1), .val (.int 2), .val (.ref w1), .val (.int 2), .val (.int 0), .val (.int p3)] [(.int y3)])) _
  refine own_istoreN (pc' := 32) B X1 (Ls' := #[.val (.ref w0), .val (.ref w1), .val (.int y3), .val (.ref w1), .val (.int 2), .val (.int 0), .val (.int p3)]) d13_31 rfl rfl ?_
  refine own_iinc (pc' := 35) B X1 (Ls' := #[.val (.ref w0), .val (.ref w1), .val (.int y3), .val (.ref w1), .val (.int 2), .val (.int 1), .val (.int p3)]) d13_32 rfl rfl (z := (1 : Int32)) (by decide) rfl ?_
  refine own_goto (pc' := 12) B X1 d13_35 (by decide) rfl ?_
  refine own_iload (pc' := 14) B X1 d13_12 rfl rfl ?_
  refine own_iload (pc' := 16) B X1 d13_14 rfl rfl ?_
  refine own_icmpNo (pc' := 19) B X1 d13_16 (tlt (by decide : (1 : Int32) < (2 : Int32))).2.1 rfl ?_
  refine own_aloadN (pc' := 20) B X1 d13_19 rfl rfl rfl ?_
  refine own_iload (pc' := 22) B X1 d13_20 rfl rfl ?_
  refine own_iaload (pc' := 23) B X1 V_w1 (v := (.int p4)) ⟨by decide, by decide⟩ rfl d13_22 rfl ?_
  refine own_istore (pc' := 25) B X1 (Ls' := #[.val (.ref w0), .val (.ref w1), .val (.int y3), .val (.ref w1), .val (.int 2), .val (.int 1), .val (.int p4)]) d13_23 rfl rfl ?_
  refine own_iloadN (pc' := 26) B X1 d13_25 rfl rfl ?_
  refine own_iload (pc' := 28) B X1 d13_26 rfl rfl ?_
  refine own_callS (pc' := 31) B X1 (own_w hw 97 rfl) (own_w hw 98 rfl) (own_w hw 36 rfl) (own_w hw 99 rfl) (by decide) [(.int y3), (.int p4)] [] (rm_12 l Z a0 hw [] (y3) (p4) h0 n0 (Nat.le_trans Z0 K.1) ) 0 (by decide) (by decide) rfl pd_5 rfl rfl (Nat.le_of_eq rfl) d13_28 rfl (k' := 0) (n' := 0) rfl rfl (by decide) (by decide) ?_
  intro T6 v6 h6 X6 q6
  obtain ⟨y7, y8, hy9, hy10, rfl, rfl⟩ := q6
  show own_Go p e below (T6.setTop (mkF m 31 #[.val (.ref w0), .val (.ref w1), .val (.int y3), .val (.ref w1), .val (.int 2), .val (.int 1), .val (.int p4)] [(.int y8)])) _
  refine own_istoreN (pc' := 32) B X6 (Ls' := #[.val (.ref w0), .val (.ref w1), .val (.int y8), .val (.ref w1), .val (.int 2), .val (.int 1), .val (.int p4)]) d13_31 rfl rfl ?_
  refine own_iinc (pc' := 35) B X6 (Ls' := #[.val (.ref w0), .val (.ref w1), .val (.int y8), .val (.ref w1), .val (.int 2), .val (.int 2), .val (.int p4)]) d13_32 rfl rfl (z := (2 : Int32)) (by decide) rfl ?_
  refine own_goto (pc' := 12) B X6 d13_35 (by decide) rfl ?_
  refine own_iload (pc' := 14) B X6 d13_12 rfl rfl ?_
  refine own_iload (pc' := 16) B X6 d13_14 rfl rfl ?_
  refine own_icmpYes (pc' := 38) B X6 d13_16 (flt (by decide : ¬ ((2 : Int32) < (2 : Int32)))).2.1 (by decide) rfl ?_
  refine own_iloadN (pc' := 39) B X6 d13_38 rfl rfl ?_
  exact own_retI B X6 d13_39 (by decide) (by decide) ⟨y8, (by subst hy4; subst hy5; subst hy9; subst hy10; rw [own_F_hash]), rfl, rfl⟩
def Q_16 (Z : State) (p0 : Int32) (h0 : Heap) (n0 : Nat) (v : Option Value) (h : Heap) : Prop :=
  (∃ (y1 : Int32) (y2 : Int32) (y3 : Int32) (y4 : Int32) (y5 : Int32) (y6 : Int32), p0 * (-1640531527 : Int32) = y1 ∧ (y1.toUInt32 >>> ((16 : Int32) &&& 31).toUInt32).toInt32 = y2 ∧ y1 ^^^ y2 = y3 ∧ y3 * (-2048144789 : Int32) = y4 ∧ (y4.toUInt32 >>> ((13 : Int32) &&& 31).toUInt32).toInt32 = y5 ∧ y4 ^^^ y5 = y6 ∧ v = some (.int y6) ∧ h0 = h)
theorem rm_16 (l : Launch) (Z : State) (a0 : Array Value) (hw : ∀ d ∈ tables_1, d.before a0 Z = true) (ws : List Jvm.Cond) (p0 : Int32) (h0 : Heap) (n0 : Nat) (Z0 : n0 ≤ h0.size)  :
    own_M l Z (⟨"com/example/ordal/ordal/NumberTable", "spread", "(I)I"⟩ : MethodName) prog_9_method_10_code 2 (some .int) ws ({ frames := 0, cells := 0, slots := 0, locals := 0 } : Room) #[(.int p0)] h0 n0 (Q_16 Z p0 h0 n0) := by
  refine own_enter' (Q := Q_16 Z p0 h0 n0) (F := fun m => mkF m 0 #[.val (.int p0), .unset] []) (plainFor_of_name pn_3) ?_
  intro p e s m below meth c s₁ B X0
  have K : Keep h0 h0 [] := Keep.refl h0 _
  refine own_iloadN (pc' := 1) B X0 d18_0 rfl rfl ?_
  refine own_ldcI (pc' := 3) B X0 (own_w hw 118 rfl) d18_1 rfl ?_
  obtain ⟨y1, hy1⟩ : ∃ z : Int32, p0 * (-1640531527 : Int32) = z := ⟨_, rfl⟩
  refine own_imul (pc' := 4) B X0 d18_3 rfl hy1 ?_
  refine own_istoreN (pc' := 5) B X0 (Ls' := #[.val (.int p0), .val (.int y1)]) d18_4 rfl rfl ?_
  refine own_iloadN (pc' := 6) B X0 d18_5 rfl rfl ?_
  refine own_iloadN (pc' := 7) B X0 d18_6 rfl rfl ?_
  refine own_bipush (pc' := 9) B X0 (z := (16 : Int32)) d18_7 rfl (by decide) ?_
  obtain ⟨y2, hy2⟩ : ∃ z : Int32, (y1.toUInt32 >>> ((16 : Int32) &&& 31).toUInt32).toInt32 = z := ⟨_, rfl⟩
  refine own_iushr (pc' := 10) B X0 d18_9 rfl hy2 ?_
  obtain ⟨y3, hy3⟩ : ∃ z : Int32, y1 ^^^ y2 = z := ⟨_, rfl⟩
  refine own_ixor (pc' := 11) B X0 d18_10 rfl hy3 ?_
  refine own_istoreN (pc' := 12) B X0 (Ls' := #[.val (.int p0), .val (.int y3)]) d18_11 rfl rfl ?_
  refine own_iloadN (pc' := 13) B X0 d18_12 rfl rfl ?_
  refine own_ldcI (pc' := 15) B X0 (own_w hw 119 rfl) d18_13 rfl ?_
  obtain ⟨y4, hy4⟩ : ∃ z : Int32, y3 * (-2048144789 : Int32) = z := ⟨_, rfl⟩
  refine own_imul (pc' := 16) B X0 d18_15 rfl hy4 ?_
  refine own_istoreN (pc' := 17) B X0 (Ls' := #[.val (.int p0), .val (.int y4)]) d18_16 rfl rfl ?_
  refine own_iloadN (pc' := 18) B X0 d18_17 rfl rfl ?_
  refine own_iloadN (pc' := 19) B X0 d18_18 rfl rfl ?_
  refine own_bipush (pc' := 21) B X0 (z := (13 : Int32)) d18_19 rfl (by decide) ?_
  obtain ⟨y5, hy5⟩ : ∃ z : Int32, (y4.toUInt32 >>> ((13 : Int32) &&& 31).toUInt32).toInt32 = z := ⟨_, rfl⟩
  refine own_iushr (pc' := 22) B X0 d18_21 rfl hy5 ?_
  obtain ⟨y6, hy6⟩ : ∃ z : Int32, y4 ^^^ y5 = z := ⟨_, rfl⟩
  refine own_ixor (pc' := 23) B X0 d18_22 rfl hy6 ?_
  exact own_retI B X0 d18_23 (by decide) (by decide) (⟨y1, y2, y3, y4, y5, y6, hy1, hy2, hy3, hy4, hy5, hy6, rfl, rfl⟩)
def Q_15 (Z : State) (w0 w1 : Addr) (kw1 : ClassId) (p3 : Int32) (h0 : Heap) (n0 : Nat) (v : Option Value) (h : Heap) : Prop :=
  (∃ (yF : Int32), own_F_slot p3 = yF ∧ v = some (.int yF) ∧ h0 = h)
theorem rm_15 (l : Launch) (Z : State) (a0 : Array Value) (hw : ∀ d ∈ tables_1, d.before a0 Z = true) (ws : List Jvm.Cond) (w0 w1 : Addr) (kw1 : ClassId) (p3 : Int32) (h0 : Heap) (n0 : Nat) (Z0 : n0 ≤ h0.size) (E_w0 : Exa Z h0 w0 oC1) (F_w0_slots : Fld Z h0 w0 oC1 "slots" "[I" (.ref w1)) (g_w0 : n0 ≤ w0) (V_w1 : Arv Z h0 w1 kw1 .int (16 : Int32) [] (.int 0)) (g_w1 : n0 ≤ w1) (ne_w0_w1 : w0 ≠ w1) :
    own_M l Z (⟨"com/example/ordal/ordal/NumberTable", "slot", "(I)I"⟩ : MethodName) prog_9_method_8_code 2 (some .int) ws ({ frames := 1, cells := 0, slots := 0, locals := 13 } : Room) #[(.ref w0), (.int p3)] h0 n0 (Q_15 Z w0 w1 kw1 p3 h0 n0) := by
  refine own_enter' (Q := Q_15 Z w0 w1 kw1 p3 h0 n0) (F := fun m => mkF m 0 #[.val (.ref w0), .val (.int p3)] []) (plainFor_of_name pn_3) ?_
  intro p e s m below meth c s₁ B X0
  have K : Keep h0 h0 [] := Keep.refl h0 _
  have lt_w0 := E_w0.lt
  have lt_w1 := V_w1.lt
  refine own_iloadN (pc' := 1) B X0 d17_0 rfl rfl ?_
  refine own_callS (pc' := 4) B X0 (own_w hw 115 rfl) (own_w hw 116 rfl) (own_w hw 46 rfl) (own_w hw 117 rfl) (by decide) [(.int p3)] [] (rm_16 l Z a0 hw [] (p3) h0 n0 (Nat.le_trans Z0 K.1) ) 0 (by decide) (by decide) rfl pd_7 rfl rfl (Nat.le_of_eq rfl) d17_1 rfl (k' := 0) (n' := 0) rfl rfl (by decide) (by decide) ?_
  intro T1 v1 h1 X1 q1
  obtain ⟨y2, y3, y4, y5, y6, y7, hy8, hy9, hy10, hy11, hy12, hy13, rfl, rfl⟩ := q1
  show own_Go p e below (T1.setTop (mkF m 4 #[.val (.ref w0), .val (.int p3)] [(.int y7)])) _
  refine own_aloadN (pc' := 5) B X1 d17_4 rfl rfl rfl ?_
  refine own_getfield (pc' := 8) B X1 (host := "") (Or.inl (own_w hw 51 rfl)) Via.refl F_w0_slots d17_5 rfl ?_
  intro T14 X14
  refine own_arraylength (pc' := 9) B X14 V_w1 d17_8 rfl ?_
  refine own_iconst (pc' := 10) B X14 (z := (1 : Int32)) d17_9 rfl rfl ?_
  refine own_isub (pc' := 11) B X14 (z := (15 : Int32)) d17_10 rfl (by decide) ?_
  obtain ⟨y15, hy15⟩ : ∃ z : Int32, y7 &&& (15 : Int32) = z := ⟨_, rfl⟩
  refine own_iand (pc' := 12) B X14 d17_11 rfl hy15 ?_
  exact own_retI B X14 d17_12 (by decide) (by decide) ⟨y15, (by subst hy8; subst hy9; subst hy10; subst hy11; subst hy12; subst hy13; subst hy15; rw [own_F_slot]), rfl, rfl⟩
def Q_14 (Z : State) (w0 w1 : Addr) (kw1 : ClassId) (w3 : Addr) (kw3 : ClassId) (w5 w6 w7 : Addr) (kw7 : ClassId) (w9 : Addr) (kw9 : ClassId) (p11 : Int32) (w12 : Addr) (kw12 : ClassId) (p14 p15 : Int32) (h0 : Heap) (n0 : Nat) (v : Option Value) (h : Heap) : Prop :=
  (v = some (.int (-1)) ∧ h0 = h)
theorem rm_14 (l : Launch) (Z : State) (a0 : Array Value) (hw : ∀ d ∈ tables_1, d.before a0 Z = true) (ws : List Jvm.Cond) (w0 w1 : Addr) (kw1 : ClassId) (w3 : Addr) (kw3 : ClassId) (w5 w6 w7 : Addr) (kw7 : ClassId) (w9 : Addr) (kw9 : ClassId) (p11 : Int32) (w12 : Addr) (kw12 : ClassId) (p14 p15 : Int32) (h0 : Heap) (n0 : Nat) (Z0 : n0 ≤ h0.size) (E_w0 : Exa Z h0 w0 oC1) (F_w0_slots : Fld Z h0 w0 oC1 "slots" "[I" (.ref w1)) (F_w0_hashes : Fld Z h0 w0 oC1 "hashes" "[I" (.ref w3)) (F_w0_keys : Fld Z h0 w0 oC1 "keys" "Lcom/example/ordal/ordal/NumberTable$Keys;" (.ref w5)) (F_w0_crowded : Fld Z h0 w0 oC1 "crowded" "Ljava/util/TreeMap;" .null) (g_w0 : n0 ≤ w0) (V_w1 : Arv Z h0 w1 kw1 .int (16 : Int32) [] (.int 0)) (g_w1 : n0 ≤ w1) (V_w3 : Arv Z h0 w3 kw3 .int (8 : Int32) [] (.int 0)) (g_w3 : n0 ≤ w3) (E_w5 : Exa Z h0 w5 oC3) (F_w5_table : Fld Z h0 w5 oC3 "table" "Lcom/example/ordal/ordal/NumberTable;" (.ref w0)) (F_w5_relation : Fld Z h0 w5 oC3 "relation" "Lcom/example/ordal/ordal/Relation;" (.ref w6)) (F_w5_columns : Fld Z h0 w5 oC3 "columns" "[I" (.ref w9)) (g_w5 : n0 ≤ w5) (E_w6 : Exa Z h0 w6 oC2) (F_w6_arity : Fld Z h0 w6 oC2 "arity" "I" (.int 2)) (F_w6_rows : Fld Z h0 w6 oC2 "rows" "[I" (.ref w7)) (g_w6 : n0 ≤ w6) (V_w7 : Arv Z h0 w7 kw7 .int (16 : Int32) [] (.int 0)) (g_w7 : n0 ≤ w7) (V_w9 : Arv Z h0 w9 kw9 .int (2 : Int32) [(.int 0), (.int 1)] (.int 0)) (g_w9 : n0 ≤ w9) (E_w12 : Exa Z h0 w12 "[I") (V_w12 : Arv Z h0 w12 kw12 .int (2 : Int32) [(.int p14), (.int p15)] (.int 0)) (g_w12 : n0 ≤ w12) (ne_w0_w1 : w0 ≠ w1) (ne_w0_w3 : w0 ≠ w3) (ne_w0_w5 : w0 ≠ w5) (ne_w0_w6 : w0 ≠ w6) (ne_w0_w7 : w0 ≠ w7) (ne_w0_w9 : w0 ≠ w9) (ne_w0_w12 : w0 ≠ w12) (ne_w1_w3 : w1 ≠ w3) (ne_w1_w5 : w1 ≠ w5) (ne_w1_w6 : w1 ≠ w6) (ne_w1_w7 : w1 ≠ w7) (ne_w1_w9 : w1 ≠ w9) (ne_w1_w12 : w1 ≠ w12) (ne_w3_w5 : w3 ≠ w5) (ne_w3_w6 : w3 ≠ w6) (ne_w3_w7 : w3 ≠ w7) (ne_w3_w9 : w3 ≠ w9) (ne_w3_w12 : w3 ≠ w12) (ne_w5_w6 : w5 ≠ w6) (ne_w5_w7 : w5 ≠ w7) (ne_w5_w9 : w5 ≠ w9) (ne_w5_w12 : w5 ≠ w12) (ne_w6_w7 : w6 ≠ w7) (ne_w6_w9 : w6 ≠ w9) (ne_w6_w12 : w6 ≠ w12) (ne_w7_w9 : w7 ≠ w9) (ne_w7_w12 : w7 ≠ w12) (ne_w9_w12 : w9 ≠ w12) (hp0 : own_F_hash p14 p15 = p11) :
    own_M l Z (⟨"com/example/ordal/ordal/NumberTable", "find", "(ILjava/lang/Object;)I"⟩ : MethodName) prog_9_method_2_code 7 (some .int) ws ({ frames := 2, cells := 0, slots := 0, locals := 26 } : Room) #[(.ref w0), (.int p11), (.ref w12)] h0 n0 (Q_14 Z w0 w1 kw1 w3 kw3 w5 w6 w7 kw7 w9 kw9 p11 w12 kw12 p14 p15 h0 n0) := by
  refine own_enter' (Q := Q_14 Z w0 w1 kw1 w3 kw3 w5 w6 w7 kw7 w9 kw9 p11 w12 kw12 p14 p15 h0 n0) (F := fun m => mkF m 0 #[.val (.ref w0), .val (.int p11), .val (.ref w12), .unset, .unset, .unset, .unset] []) (plainFor_of_name pn_3) ?_
  intro p e s m below meth c s₁ B X0
  have K : Keep h0 h0 [] := Keep.refl h0 _
  have lt_w0 := E_w0.lt
  have lt_w1 := V_w1.lt
  have lt_w3 := V_w3.lt
  have lt_w5 := E_w5.lt
  have lt_w6 := E_w6.lt
  have lt_w7 := V_w7.lt
  have lt_w9 := V_w9.lt
  have lt_w12 := E_w12.lt
  refine own_aloadN (pc' := 1) B X0 d16_0 rfl rfl rfl ?_
  refine own_iloadN (pc' := 2) B X0 d16_1 rfl rfl ?_
  refine own_callP (pc' := 5) B X0 (own_w hw 111 rfl) (own_w hw 112 rfl) (own_w hw 113 rfl) (own_w hw 45 rfl) (own_w hw 46 rfl) (own_w hw 114 rfl) E_w0 (by decide) [(.int p11)] [] (rm_15 l Z a0 hw [] w0 w1 kw1 (p11) h0 n0 (Nat.le_trans Z0 K.1) E_w0 F_w0_slots g_w0 V_w1 g_w1 ne_w0_w1) 0 (by decide) (by decide) rfl pd_7 rfl rfl (Nat.le_of_eq rfl) d16_2 rfl (k' := 0) (n' := 0) rfl rfl (by decide) (by decide) ?_
  intro T1 v1 h1 X1 q1
  obtain ⟨y2, hy3, rfl, rfl⟩ := q1
  show own_Go p e below (T1.setTop (mkF m 5 #[.val (.ref w0), .val (.int p11), .val (.ref w12), .unset, .unset, .unset, .unset] [(.int y2)])) _
  refine own_istoreN (pc' := 6) B X1 (Ls' := #[.val (.ref w0), .val (.int p11), .val (.ref w12), .val (.int y2), .unset, .unset, .unset]) d16_5 rfl rfl ?_
  refine own_iconst (pc' := 7) B X1 (z := (0 : Int32)) d16_6 rfl rfl ?_
  refine own_istore (pc' := 9) B X1 (Ls' := #[.val (.ref w0), .val (.int p11), .val (.ref w12), .val (.int y2), .val (.int 0), .unset, .unset]) d16_7 rfl rfl ?_
  refine own_iconst (pc' := 10) B X1 (z := (0 : Int32)) d16_9 rfl rfl ?_
  refine own_istore (pc' := 12) B X1 (Ls' := #[.val (.ref w0), .val (.int p11), .val (.ref w12), .val (.int y2), .val (.int 0), .val (.int 0), .unset]) d16_10 rfl rfl ?_
  refine own_iload (pc' := 14) B X1 d16_12 rfl rfl ?_
  refine own_bipush (pc' := 16) B X1 (z := (32 : Int32)) d16_14 rfl (by decide) ?_
  refine own_icmpNo (pc' := 19) B X1 d16_16 (tlt (by decide : (0 : Int32) < (32 : Int32))).2.1 rfl ?_
  refine own_iload (pc' := 21) B X1 d16_19 rfl rfl ?_
  refine own_iconst (pc' := 22) B X1 (z := (4 : Int32)) d16_21 rfl rfl ?_
  refine own_icmpNo (pc' := 25) B X1 d16_22 (tlt (by decide : (0 : Int32) < (4 : Int32))).2.1 rfl ?_
  refine own_aloadN (pc' := 26) B X1 d16_25 rfl rfl rfl ?_
  refine own_getfield (pc' := 29) B X1 (host := "") (Or.inl (own_w hw 51 rfl)) Via.refl F_w0_slots d16_26 rfl ?_
  intro T4 X4
  refine own_iloadN (pc' := 30) B X4 d16_29 rfl rfl ?_
  replace V_w1 := V_w1.arh
  refine own_ialoadH (pc' := 31) B X4 V_w1 (v := (.int 0)) ⟨(own_slot_ge hy3), (own_slot_lt hy3)⟩ (getH_all rfl _) d16_30 rfl ?_
  refine own_iconst (pc' := 32) B X4 (z := (1 : Int32)) d16_31 rfl rfl ?_
  refine own_isub (pc' := 33) B X4 (z := (-1 : Int32)) d16_32 rfl (by decide) ?_
  refine own_istore (pc' := 35) B X4 (Ls' := #[.val (.ref w0), .val (.int p11), .val (.ref w12), .val (.int y2), .val (.int 0), .val (.int 0), .val (.int (-1))]) d16_33 rfl rfl ?_
  refine own_iload (pc' := 37) B X4 d16_35 rfl rfl ?_
  refine own_ifNo (pc' := 40) B X4 d16_37 ((if0 _ _).trans (tlt (by decide : (-1 : Int32) < (0 : Int32))).2.1) rfl ?_
  refine own_iconst (pc' := 41) B X4 (z := (-1 : Int32)) d16_40 rfl rfl ?_
  exact own_retI B X4 d16_41 (by decide) (by decide) (⟨rfl, rfl⟩)
def Q_13 (Z : State) (w0 w1 w2 : Addr) (kw2 : ClassId) (w4 : Addr) (kw4 : ClassId) (w6 w7 : Addr) (kw7 : ClassId) (w9 : Addr) (kw9 : ClassId) (w11 : Addr) (kw11 : ClassId) (p13 p14 p15 : Int32) (h0 : Heap) (n0 : Nat) (v : Option Value) (h : Heap) : Prop :=
  (v = some (.int (-1)) ∧ h0 = h)
theorem rm_13 (l : Launch) (Z : State) (a0 : Array Value) (hw : ∀ d ∈ tables_1, d.before a0 Z = true) (ws : List Jvm.Cond) (w0 w1 w2 : Addr) (kw2 : ClassId) (w4 : Addr) (kw4 : ClassId) (w6 w7 : Addr) (kw7 : ClassId) (w9 : Addr) (kw9 : ClassId) (w11 : Addr) (kw11 : ClassId) (p13 p14 p15 : Int32) (h0 : Heap) (n0 : Nat) (Z0 : n0 ≤ h0.size) (E_w0 : Exa Z h0 w0 oC3) (F_w0_table : Fld Z h0 w0 oC3 "table" "Lcom/example/ordal/ordal/NumberTable;" (.ref w1)) (F_w0_relation : Fld Z h0 w0 oC3 "relation" "Lcom/example/ordal/ordal/Relation;" (.ref w6)) (F_w0_columns : Fld Z h0 w0 oC3 "columns" "[I" (.ref w9)) (g_w0 : n0 ≤ w0) (E_w1 : Exa Z h0 w1 oC1) (F_w1_slots : Fld Z h0 w1 oC1 "slots" "[I" (.ref w2)) (F_w1_hashes : Fld Z h0 w1 oC1 "hashes" "[I" (.ref w4)) (F_w1_keys : Fld Z h0 w1 oC1 "keys" "Lcom/example/ordal/ordal/NumberTable$Keys;" (.ref w0)) (F_w1_crowded : Fld Z h0 w1 oC1 "crowded" "Ljava/util/TreeMap;" .null) (g_w1 : n0 ≤ w1) (V_w2 : Arv Z h0 w2 kw2 .int (16 : Int32) [] (.int 0)) (g_w2 : n0 ≤ w2) (V_w4 : Arv Z h0 w4 kw4 .int (8 : Int32) [] (.int 0)) (g_w4 : n0 ≤ w4) (E_w6 : Exa Z h0 w6 oC2) (F_w6_arity : Fld Z h0 w6 oC2 "arity" "I" (.int 2)) (F_w6_rows : Fld Z h0 w6 oC2 "rows" "[I" (.ref w7)) (g_w6 : n0 ≤ w6) (V_w7 : Arv Z h0 w7 kw7 .int (16 : Int32) [] (.int 0)) (g_w7 : n0 ≤ w7) (V_w9 : Arv Z h0 w9 kw9 .int (2 : Int32) [(.int 0), (.int 1)] (.int 0)) (g_w9 : n0 ≤ w9) (E_w11 : Exa Z h0 w11 "[I") (V_w11 : Arv Z h0 w11 kw11 .int (2 : Int32) [(.int p13), (.int p14)] (.int 0)) (g_w11 : n0 ≤ w11) (ne_w0_w1 : w0 ≠ w1) (ne_w0_w2 : w0 ≠ w2) (ne_w0_w4 : w0 ≠ w4) (ne_w0_w6 : w0 ≠ w6) (ne_w0_w7 : w0 ≠ w7) (ne_w0_w9 : w0 ≠ w9) (ne_w0_w11 : w0 ≠ w11) (ne_w1_w2 : w1 ≠ w2) (ne_w1_w4 : w1 ≠ w4) (ne_w1_w6 : w1 ≠ w6) (ne_w1_w7 : w1 ≠ w7) (ne_w1_w9 : w1 ≠ w9) (ne_w1_w11 : w1 ≠ w11) (ne_w2_w4 : w2 ≠ w4) (ne_w2_w6 : w2 ≠ w6) (ne_w2_w7 : w2 ≠ w7) (ne_w2_w9 : w2 ≠ w9) (ne_w2_w11 : w2 ≠ w11) (ne_w4_w6 : w4 ≠ w6) (ne_w4_w7 : w4 ≠ w7) (ne_w4_w9 : w4 ≠ w9) (ne_w4_w11 : w4 ≠ w11) (ne_w6_w7 : w6 ≠ w7) (ne_w6_w9 : w6 ≠ w9) (ne_w6_w11 : w6 ≠ w11) (ne_w7_w9 : w7 ≠ w9) (ne_w7_w11 : w7 ≠ w11) (ne_w9_w11 : w9 ≠ w11) (hp0 : own_F_hash p13 p14 = p15) :
    own_M l Z (⟨"com/example/ordal/ordal/Relation$PositionTable", "find", "([II)I"⟩ : MethodName) prog_15_method_2_code 3 (some .int) ws ({ frames := 3, cells := 0, slots := 0, locals := 44 } : Room) #[(.ref w0), (.ref w11), (.int p15)] h0 n0 (Q_13 Z w0 w1 w2 kw2 w4 kw4 w6 w7 kw7 w9 kw9 w11 kw11 p13 p14 p15 h0 n0) := by
  refine own_enter' (Q := Q_13 Z w0 w1 w2 kw2 w4 kw4 w6 w7 kw7 w9 kw9 w11 kw11 p13 p14 p15 h0 n0) (F := fun m => mkF m 0 #[.val (.ref w0), .val (.ref w11), .val (.int p15)] []) (plainFor_of_name pn_4) ?_
  intro p e s m below meth c s₁ B X0
  have K : Keep h0 h0 [] := Keep.refl h0 _
  have lt_w0 := E_w0.lt
  have lt_w1 := E_w1.lt
  have lt_w2 := V_w2.lt
  have lt_w4 := V_w4.lt
  have lt_w6 := E_w6.lt
  have lt_w7 := V_w7.lt
  have lt_w9 := V_w9.lt
  have lt_w11 := E_w11.lt
  refine own_aloadN (pc' := 1) B X0 d15_0 rfl rfl rfl ?_
  refine own_getfield (pc' := 4) B X0 (host := "") (Or.inl (own_w hw 57 rfl)) Via.refl F_w0_table d15_1 rfl ?_
  intro T1 X1
  refine own_iloadN (pc' := 5) B X1 d15_4 rfl rfl ?_
  refine own_aloadN (pc' := 6) B X1 d15_5 rfl rfl rfl ?_
  refine own_callV (pc' := 9) B X1 (own_w hw 106 rfl) (own_w hw 107 rfl) (own_w hw 109 rfl) (own_w hw 108 rfl) (own_w hw 46 rfl) (own_w hw 110 rfl) E_w1 (by decide) [(.int p15), (.ref w11)] [] (rm_14 l Z a0 hw [] w1 w2 kw2 w4 kw4 w0 w6 w7 kw7 w9 kw9 (p15) w11 kw11 (p13) (p14) h0 n0 (Nat.le_trans Z0 K.1) E_w1 F_w1_slots F_w1_hashes F_w1_keys F_w1_crowded g_w1 V_w2 g_w2 V_w4 g_w4 E_w0 F_w0_table F_w0_relation F_w0_columns g_w0 E_w6 F_w6_arity F_w6_rows g_w6 V_w7 g_w7 V_w9 g_w9 E_w11 V_w11 g_w11 ne_w1_w2 ne_w1_w4 (Ne.symm ne_w0_w1) ne_w1_w6 ne_w1_w7 ne_w1_w9 ne_w1_w11 ne_w2_w4 (Ne.symm ne_w0_w2) ne_w2_w6 ne_w2_w7 ne_w2_w9 ne_w2_w11 (Ne.symm ne_w0_w4) ne_w4_w6 ne_w4_w7 ne_w4_w9 ne_w4_w11 ne_w0_w6 ne_w0_w7 ne_w0_w9 ne_w0_w11 ne_w6_w7 ne_w6_w9 ne_w6_w11 ne_w7_w9 ne_w7_w11 ne_w9_w11 hp0) 0 (by decide) (by decide) rfl pd_8 rfl rfl (Nat.le_of_eq rfl) d15_6 rfl (k' := 0) (n' := 0) rfl rfl (by decide) (by decide) ?_
  intro T2 v2 h2 X2 q2
  obtain ⟨rfl, rfl⟩ := q2
  show own_Go p e below (T2.setTop (mkF m 9 #[.val (.ref w0), .val (.ref w11), .val (.int p15)] [(.int (-1))])) _
  exact own_retI B X2 d15_9 (by decide) (by decide) (⟨rfl, rfl⟩)
def Q_20 (Z : State) (w0 w1 : Addr) (kw1 : ClassId) (w3 : Addr) (kw3 : ClassId) (p5 : Int32) (w6 : Addr) (h0 : Heap) (n0 : Nat) (v : Option Value) (h : Heap) : Prop :=
  (∃ (ys : Int32), own_F_slot p5 = ys ∧ v = some (.int 1) ∧ Keep h0 h [w1] ∧ Arh Z h w1 kw1 .int (16 : Int32) [(ys, (.int 1))] [] (.int 0))
theorem rm_20 (l : Launch) (Z : State) (a0 : Array Value) (hw : ∀ d ∈ tables_1, d.before a0 Z = true) (ws : List Jvm.Cond) (w0 w1 : Addr) (kw1 : ClassId) (w3 : Addr) (kw3 : ClassId) (p5 : Int32) (w6 : Addr) (h0 : Heap) (n0 : Nat) (Z0 : n0 ≤ h0.size) (E_w0 : Exa Z h0 w0 oC1) (F_w0_slots : Fld Z h0 w0 oC1 "slots" "[I" (.ref w1)) (F_w0_hashes : Fld Z h0 w0 oC1 "hashes" "[I" (.ref w3)) (F_w0_keys : Fld Z h0 w0 oC1 "keys" "Lcom/example/ordal/ordal/NumberTable$Keys;" (.ref w6)) (F_w0_count : Fld Z h0 w0 oC1 "count" "I" (.int 0)) (F_w0_crowded : Fld Z h0 w0 oC1 "crowded" "Ljava/util/TreeMap;" .null) (g_w0 : n0 ≤ w0) (V_w1 : Arv Z h0 w1 kw1 .int (16 : Int32) [] (.int 0)) (g_w1 : n0 ≤ w1) (V_w3 : Arv Z h0 w3 kw3 .int (8 : Int32) [(.int p5)] (.int 0)) (g_w3 : n0 ≤ w3) (ne_w0_w1 : w0 ≠ w1) (ne_w0_w3 : w0 ≠ w3) (ne_w1_w3 : w1 ≠ w3) :
    own_M l Z (⟨"com/example/ordal/ordal/NumberTable", "place", "(I)Z"⟩ : MethodName) prog_9_method_7_code 7 (some .boolean) ws ({ frames := 2, cells := 0, slots := 0, locals := 26 } : Room) #[(.ref w0), (.int 0)] h0 n0 (Q_20 Z w0 w1 kw1 w3 kw3 p5 w6 h0 n0) := by
  refine own_enter' (Q := Q_20 Z w0 w1 kw1 w3 kw3 p5 w6 h0 n0) (F := fun m => mkF m 0 #[.val (.ref w0), .val (.int 0), .unset, .unset, .unset, .unset, .unset] []) (plainFor_of_name pn_3) ?_
  intro p e s m below meth c s₁ B X0
  have K : Keep h0 h0 [w1] := Keep.refl h0 _
  have lt_w0 := E_w0.lt
  have lt_w1 := V_w1.lt
  have lt_w3 := V_w3.lt
  refine own_aloadN (pc' := 1) B X0 d22_0 rfl rfl rfl ?_
  refine own_getfield (pc' := 4) B X0 (host := "") (Or.inl (own_w hw 53 rfl)) Via.refl F_w0_hashes d22_1 rfl ?_
  intro T1 X1
  refine own_iloadN (pc' := 5) B X1 d22_4 rfl rfl ?_
  refine own_iaload (pc' := 6) B X1 V_w3 (v := (.int p5)) ⟨by decide, by decide⟩ rfl d22_5 rfl ?_
  refine own_istoreN (pc' := 7) B X1 (Ls' := #[.val (.ref w0), .val (.int 0), .val (.int p5), .unset, .unset, .unset, .unset]) d22_6 rfl rfl ?_
  refine own_aloadN (pc' := 8) B X1 d22_7 rfl rfl rfl ?_
  refine own_iloadN (pc' := 9) B X1 d22_8 rfl rfl ?_
  refine own_callP (pc' := 12) B X1 (own_w hw 111 rfl) (own_w hw 112 rfl) (own_w hw 113 rfl) (own_w hw 45 rfl) (own_w hw 46 rfl) (own_w hw 114 rfl) E_w0 (by decide) [(.int p5)] [] (rm_15 l Z a0 hw [] w0 w1 kw1 (p5) h0 n0 (Nat.le_trans Z0 K.1) E_w0 F_w0_slots g_w0 V_w1 g_w1 ne_w0_w1) 0 (by decide) (by decide) rfl pd_7 rfl rfl (Nat.le_of_eq rfl) d22_9 rfl (k' := 0) (n' := 0) rfl rfl (by decide) (by decide) ?_
  intro T2 v2 h2 X2 q2
  obtain ⟨y3, hy4, rfl, rfl⟩ := q2
  show own_Go p e below (T2.setTop (mkF m 12 #[.val (.ref w0), .val (.int 0), .val (.int p5), .unset, .unset, .unset, .unset] [(.int y3)])) _
  refine own_istoreN (pc' := 13) B X2 (Ls' := #[.val (.ref w0), .val (.int 0), .val (.int p5), .val (.int y3), .unset, .unset, .unset]) d22_12 rfl rfl ?_
  refine own_iconst (pc' := 14) B X2 (z := (0 : Int32)) d22_13 rfl rfl ?_
  refine own_istore (pc' := 16) B X2 (Ls' := #[.val (.ref w0), .val (.int 0), .val (.int p5), .val (.int y3), .val (.int 0), .unset, .unset]) d22_14 rfl rfl ?_
  refine own_iconst (pc' := 17) B X2 (z := (0 : Int32)) d22_16 rfl rfl ?_
  refine own_istore (pc' := 19) B X2 (Ls' := #[.val (.ref w0), .val (.int 0), .val (.int p5), .val (.int y3), .val (.int 0), .val (.int 0), .unset]) d22_17 rfl rfl ?_
  refine own_iload (pc' := 21) B X2 d22_19 rfl rfl ?_
  refine own_bipush (pc' := 23) B X2 (z := (32 : Int32)) d22_21 rfl (by decide) ?_
  refine own_icmpNo (pc' := 26) B X2 d22_23 (tlt (by decide : (0 : Int32) < (32 : Int32))).2.1 rfl ?_
  refine own_iload (pc' := 28) B X2 d22_26 rfl rfl ?_
  refine own_iconst (pc' := 29) B X2 (z := (4 : Int32)) d22_28 rfl rfl ?_
  refine own_icmpNo (pc' := 32) B X2 d22_29 (tlt (by decide : (0 : Int32) < (4 : Int32))).2.1 rfl ?_
  refine own_aloadN (pc' := 33) B X2 d22_32 rfl rfl rfl ?_
  refine own_getfield (pc' := 36) B X2 (host := "") (Or.inl (own_w hw 51 rfl)) Via.refl F_w0_slots d22_33 rfl ?_
  intro T5 X5
  refine own_iloadN (pc' := 37) B X5 d22_36 rfl rfl ?_
  replace V_w1 := V_w1.arh
  refine own_ialoadH (pc' := 38) B X5 V_w1 (v := (.int 0)) ⟨(own_slot_ge hy4), (own_slot_lt hy4)⟩ (getH_all rfl _) d22_37 rfl ?_
  refine own_iconst (pc' := 39) B X5 (z := (1 : Int32)) d22_38 rfl rfl ?_
  refine own_isub (pc' := 40) B X5 (z := (-1 : Int32)) d22_39 rfl (by decide) ?_
  refine own_istore (pc' := 42) B X5 (Ls' := #[.val (.ref w0), .val (.int 0), .val (.int p5), .val (.int y3), .val (.int 0), .val (.int 0), .val (.int (-1))]) d22_40 rfl rfl ?_
  refine own_iload (pc' := 44) B X5 d22_42 rfl rfl ?_
  refine own_ifNo (pc' := 47) B X5 d22_44 ((if0 _ _).trans (tlt (by decide : (-1 : Int32) < (0 : Int32))).2.1) rfl ?_
  refine own_aloadN (pc' := 48) B X5 d22_47 rfl rfl rfl ?_
  refine own_getfield (pc' := 51) B X5 (host := "") (Or.inl (own_w hw 51 rfl)) Via.refl F_w0_slots d22_48 rfl ?_
  intro T8 X8
  refine own_iloadN (pc' := 52) B X8 d22_51 rfl rfl ?_
  refine own_iloadN (pc' := 53) B X8 d22_52 rfl rfl ?_
  refine own_iconst (pc' := 54) B X8 (z := (1 : Int32)) d22_53 rfl rfl ?_
  refine own_iadd (pc' := 55) B X8 (z := (1 : Int32)) d22_54 rfl (by decide) ?_
  refine own_iastoreH (pc' := 56) B X8 V_w1 g_w1 ⟨(own_slot_ge hy4), (own_slot_lt hy4)⟩ d22_55 rfl ?_
  intro T11 h11 X11 W11 V_w1
  replace K := K.wr W11 (Or.inl (List.mem_of_getElem? (i := 0) rfl))
  refine own_iconst (pc' := 57) B X11 (z := (1 : Int32)) d22_56 rfl rfl ?_
  exact own_retN B X11 (t := .boolean) (z' := (1 : Int32)) (by simp) (by decide) d22_57 (by decide) (by decide) (⟨y3, hy4, rfl, K, V_w1⟩)
def Q_19 (Z : State) (w0 w1 : Addr) (kw1 : ClassId) (w3 : Addr) (kw3 : ClassId) (p5 : Int32) (w6 : Addr) (h0 : Heap) (n0 : Nat) (v : Option Value) (h : Heap) : Prop :=
  (∃ (y2 : Int32), own_F_slot p5 = y2 ∧ v = none ∧ Keep h0 h [w1] ∧ Arh Z h w1 kw1 .int (16 : Int32) [(y2, (.int 1))] [] (.int 0))
theorem rm_19 (l : Launch) (Z : State) (a0 : Array Value) (hw : ∀ d ∈ tables_1, d.before a0 Z = true) (ws : List Jvm.Cond) (w0 w1 : Addr) (kw1 : ClassId) (w3 : Addr) (kw3 : ClassId) (p5 : Int32) (w6 : Addr) (h0 : Heap) (n0 : Nat) (Z0 : n0 ≤ h0.size) (E_w0 : Exa Z h0 w0 oC1) (F_w0_slots : Fld Z h0 w0 oC1 "slots" "[I" (.ref w1)) (F_w0_hashes : Fld Z h0 w0 oC1 "hashes" "[I" (.ref w3)) (F_w0_keys : Fld Z h0 w0 oC1 "keys" "Lcom/example/ordal/ordal/NumberTable$Keys;" (.ref w6)) (F_w0_count : Fld Z h0 w0 oC1 "count" "I" (.int 0)) (F_w0_crowded : Fld Z h0 w0 oC1 "crowded" "Ljava/util/TreeMap;" .null) (g_w0 : n0 ≤ w0) (V_w1 : Arv Z h0 w1 kw1 .int (16 : Int32) [] (.int 0)) (g_w1 : n0 ≤ w1) (V_w3 : Arv Z h0 w3 kw3 .int (8 : Int32) [(.int p5)] (.int 0)) (g_w3 : n0 ≤ w3) (ne_w0_w1 : w0 ≠ w1) (ne_w0_w3 : w0 ≠ w3) (ne_w1_w3 : w1 ≠ w3) :
    own_M l Z (⟨"com/example/ordal/ordal/NumberTable", "insert", "(I)V"⟩ : MethodName) prog_9_method_6_code 2 none ws ({ frames := 3, cells := 0, slots := 0, locals := 44 } : Room) #[(.ref w0), (.int 0)] h0 n0 (Q_19 Z w0 w1 kw1 w3 kw3 p5 w6 h0 n0) := by
  refine own_enter' (Q := Q_19 Z w0 w1 kw1 w3 kw3 p5 w6 h0 n0) (F := fun m => mkF m 0 #[.val (.ref w0), .val (.int 0)] []) (plainFor_of_name pn_3) ?_
  intro p e s m below meth c s₁ B X0
  have K : Keep h0 h0 [w1] := Keep.refl h0 _
  have lt_w0 := E_w0.lt
  have lt_w1 := V_w1.lt
  have lt_w3 := V_w3.lt
  refine own_aloadN (pc' := 1) B X0 d21_0 rfl rfl rfl ?_
  refine own_iloadN (pc' := 2) B X0 d21_1 rfl rfl ?_
  refine own_callP (pc' := 5) B X0 (own_w hw 142 rfl) (own_w hw 143 rfl) (own_w hw 144 rfl) (own_w hw 45 rfl) (own_w hw 46 rfl) (own_w hw 145 rfl) E_w0 (by decide) [(.int 0)] [] (rm_20 l Z a0 hw [] w0 w1 kw1 w3 kw3 (p5) w6 h0 n0 (Nat.le_trans Z0 K.1) E_w0 F_w0_slots F_w0_hashes F_w0_keys F_w0_count F_w0_crowded g_w0 V_w1 g_w1 V_w3 g_w3 ne_w0_w1 ne_w0_w3 ne_w1_w3) 0 (by decide) (by decide) rfl pd_10 rfl rfl (Nat.le_of_eq rfl) d21_2 rfl (k' := 0) (n' := 0) rfl rfl (by decide) (by decide) ?_
  intro T1 v1 h1 X1 q1
  obtain ⟨y2, hy3, rfl, K1, V_w1⟩ := q1
  replace K := K.trans K1 (allS (Or.inl (List.mem_of_getElem? (i := 0) rfl)) all0)
  show own_Go p e below (T1.setTop (mkF m 5 #[.val (.ref w0), .val (.int 0)] [(.int 1)])) _
  refine own_ifYes (pc' := 52) B X1 d21_5 ((if0 _ _).trans (feq (by decide : ¬ ((1 : Int32) = (0 : Int32)))).2) (by decide) rfl ?_
  exact own_ret B X1 d21_52 (by decide) (by decide) (⟨y2, hy3, rfl, K, V_w1⟩)
def Q_18 (Z : State) (w0 w1 : Addr) (kw1 : ClassId) (w3 : Addr) (kw3 : ClassId) (w5 : Addr) (p6 : Int32) (h0 : Heap) (n0 : Nat) (v : Option Value) (h : Heap) : Prop :=
  (∃ (y7 : Int32), own_F_slot p6 = y7 ∧ v = none ∧ Keep h0 h [w3, w1, w0] ∧ Exa Z h w0 oC1 ∧ Fld Z h w0 oC1 "slots" "[I" (.ref w1) ∧ Fld Z h w0 oC1 "hashes" "[I" (.ref w3) ∧ Fld Z h w0 oC1 "keys" "Lcom/example/ordal/ordal/NumberTable$Keys;" (.ref w5) ∧ Fld Z h w0 oC1 "count" "I" (.int 1) ∧ Fld Z h w0 oC1 "crowded" "Ljava/util/TreeMap;" .null ∧ Arh Z h w1 kw1 .int (16 : Int32) [(y7, (.int 1))] [] (.int 0) ∧ Arv Z h w3 kw3 .int (8 : Int32) [(.int p6)] (.int 0))
theorem rm_18 (l : Launch) (Z : State) (a0 : Array Value) (hw : ∀ d ∈ tables_1, d.before a0 Z = true) (ws : List Jvm.Cond) (w0 w1 : Addr) (kw1 : ClassId) (w3 : Addr) (kw3 : ClassId) (w5 : Addr) (p6 : Int32) (h0 : Heap) (n0 : Nat) (Z0 : n0 ≤ h0.size) (E_w0 : Exa Z h0 w0 oC1) (F_w0_slots : Fld Z h0 w0 oC1 "slots" "[I" (.ref w1)) (F_w0_hashes : Fld Z h0 w0 oC1 "hashes" "[I" (.ref w3)) (F_w0_keys : Fld Z h0 w0 oC1 "keys" "Lcom/example/ordal/ordal/NumberTable$Keys;" (.ref w5)) (F_w0_count : Fld Z h0 w0 oC1 "count" "I" (.int 0)) (F_w0_crowded : Fld Z h0 w0 oC1 "crowded" "Ljava/util/TreeMap;" .null) (g_w0 : n0 ≤ w0) (V_w1 : Arv Z h0 w1 kw1 .int (16 : Int32) [] (.int 0)) (g_w1 : n0 ≤ w1) (V_w3 : Arv Z h0 w3 kw3 .int (8 : Int32) [] (.int 0)) (g_w3 : n0 ≤ w3) (ne_w0_w1 : w0 ≠ w1) (ne_w0_w3 : w0 ≠ w3) (ne_w1_w3 : w1 ≠ w3) :
    own_M l Z (⟨"com/example/ordal/ordal/NumberTable", "put", "(II)V"⟩ : MethodName) prog_9_method_3_code 3 none ws ({ frames := 4, cells := 0, slots := 0, locals := 57 } : Room) #[(.ref w0), (.int 0), (.int p6)] h0 n0 (Q_18 Z w0 w1 kw1 w3 kw3 w5 p6 h0 n0) := by
  refine own_enter' (Q := Q_18 Z w0 w1 kw1 w3 kw3 w5 p6 h0 n0) (F := fun m => mkF m 0 #[.val (.ref w0), .val (.int 0), .val (.int p6)] []) (plainFor_of_name pn_3) ?_
  intro p e s m below meth c s₁ B X0
  have K : Keep h0 h0 [w3, w1, w0] := Keep.refl h0 _
  have lt_w0 := E_w0.lt
  have lt_w1 := V_w1.lt
  have lt_w3 := V_w3.lt
  refine own_iloadN (pc' := 1) B X0 d20_0 rfl rfl ?_
  refine own_aloadN (pc' := 2) B X0 d20_1 rfl rfl rfl ?_
  refine own_getfield (pc' := 5) B X0 (host := "") (Or.inl (own_w hw 53 rfl)) Via.refl F_w0_hashes d20_2 rfl ?_
  intro T1 X1
  refine own_arraylength (pc' := 6) B X1 V_w3 d20_5 rfl ?_
  refine own_icmpYes (pc' := 33) B X1 d20_6 (tlt (by decide : (0 : Int32) < (8 : Int32))).1 (by decide) rfl ?_
  refine own_aloadN (pc' := 34) B X1 d20_33 rfl rfl rfl ?_
  refine own_getfield (pc' := 37) B X1 (host := "") (Or.inl (own_w hw 53 rfl)) Via.refl F_w0_hashes d20_34 rfl ?_
  intro T2 X2
  refine own_iloadN (pc' := 38) B X2 d20_37 rfl rfl ?_
  refine own_iloadN (pc' := 39) B X2 d20_38 rfl rfl ?_
  replace V_w3 : Arv Z h0 w3 kw3 .int (8 : Int32) [(.int 0)] (.int 0) := V_w3.pad (pad_rep [] (.int 0) 1)
  refine own_iastore (pc' := 40) B X2 (x' := p6) V_w3 g_w3 ⟨by decide, by decide⟩ 0 (by decide) (Nat.le_of_ble_eq_true rfl) rfl d20_39 rfl ?_
  intro T3 h3 X3 W3 V_w3
  replace V_w3 : Arv Z h3 w3 kw3 .int (8 : Int32) [(.int p6)] (.int 0) := V_w3
  replace K := K.wr W3 (Or.inl (List.mem_of_getElem? (i := 0) rfl))
  refine own_iconst (pc' := 41) B X3 (z := (2 : Int32)) d20_40 rfl rfl ?_
  refine own_aloadN (pc' := 42) B X3 d20_41 rfl rfl rfl ?_
  replace F_w0_count := (F_w0_count.other W3 (Or.inl ne_w0_w3))
  refine own_getfield (pc' := 45) B X3 (host := "") (Or.inl (own_w hw 136 rfl)) Via.refl F_w0_count d20_42 rfl ?_
  intro T4 X4
  refine own_iconst (pc' := 46) B X4 (z := (1 : Int32)) d20_45 rfl rfl ?_
  refine own_iadd (pc' := 47) B X4 (z := (1 : Int32)) d20_46 rfl (by decide) ?_
  refine own_imul (pc' := 48) B X4 (z := (2 : Int32)) d20_47 rfl (by decide) ?_
  refine own_aloadN (pc' := 49) B X4 d20_48 rfl rfl rfl ?_
  replace F_w0_slots := (F_w0_slots.other W3 (Or.inl ne_w0_w3))
  refine own_getfield (pc' := 52) B X4 (host := "") (Or.inl (own_w hw 51 rfl)) Via.refl F_w0_slots d20_49 rfl ?_
  intro T5 X5
  replace V_w1 := (V_w1.other W3 ne_w1_w3)
  refine own_arraylength (pc' := 53) B X5 V_w1 d20_52 rfl ?_
  refine own_icmpYes (pc' := 60) B X5 d20_53 (flt (by decide : ¬ ((16 : Int32) < (2 : Int32)))).2.2.2 (by decide) rfl ?_
  refine own_aloadN (pc' := 61) B X5 d20_60 rfl rfl rfl ?_
  refine own_iloadN (pc' := 62) B X5 d20_61 rfl rfl ?_
  replace E_w0 := (E_w0.wr W3)
  refine own_callP (pc' := 65) B X5 (own_w hw 138 rfl) (own_w hw 139 rfl) (own_w hw 140 rfl) (own_w hw 45 rfl) (own_w hw 46 rfl) (own_w hw 141 rfl) E_w0 (by decide) [(.int 0)] [] (rm_19 l Z a0 hw [] w0 w1 kw1 w3 kw3 (p6) w5 h3 n0 (Nat.le_trans Z0 K.1) E_w0 F_w0_slots (F_w0_hashes.other W3 (Or.inl ne_w0_w3)) (F_w0_keys.other W3 (Or.inl ne_w0_w3)) F_w0_count (F_w0_crowded.other W3 (Or.inl ne_w0_w3)) g_w0 V_w1 g_w1 V_w3 g_w3 ne_w0_w1 ne_w0_w3 ne_w1_w3) 0 (by decide) (by decide) rfl pd_4 rfl rfl (Nat.le_of_eq rfl) d20_62 rfl (k' := 0) (n' := 0) rfl rfl (by decide) (by decide) ?_
  intro T6 v6 h6 X6 q6
  obtain ⟨y7, hy8, rfl, K6, V_w1⟩ := q6
  replace K := K.trans K6 (allS (Or.inl (List.mem_of_getElem? (i := 1) rfl)) all0)
  show own_Go p e below (T6.setTop (mkF m 65 #[.val (.ref w0), .val (.int 0), .val (.int p6)] [])) _
  refine own_aloadN (pc' := 66) B X6 d20_65 rfl rfl rfl ?_
  refine own_dup (pc' := 67) B X6 d20_66 rfl rfl ?_
  replace F_w0_count := (F_w0_count.keep K6 (ninS ne_w0_w1 nin0))
  refine own_getfield (pc' := 70) B X6 (host := "") (Or.inl (own_w hw 136 rfl)) Via.refl F_w0_count d20_67 rfl ?_
  intro T9 X9
  refine own_iconst (pc' := 71) B X9 (z := (1 : Int32)) d20_70 rfl rfl ?_
  refine own_iadd (pc' := 72) B X9 (z := (1 : Int32)) d20_71 rfl (by decide) ?_
  replace E_w0 := (E_w0.keep K6)
  refine own_putfield (pc' := 75) B X9 (host := "") (Or.inl (own_w hw 136 rfl)) Via.refl F_w0_count E_w0 g_w0 (Or.inl (own_w hw 137 rfl)) (own_w hw 45 rfl) (ty := .int) (by decide) rfl rfl d20_72 rfl ?_
  intro T10 h10 X10 W10 F_w0_count
  replace K := K.wr W10 (Or.inl (List.mem_of_getElem? (i := 2) rfl))
  exact own_ret B X10 d20_75 (by decide) (by decide) (⟨y7, hy8, rfl, K, (E_w0.wr W10), ((F_w0_slots.keep K6 (ninS ne_w0_w1 nin0)).other W10 (Or.inr (slot_ne (Or.inl (own_w hw 52 rfl)) (Or.inl (own_w hw 137 rfl)) (by decide) (t := (.array .int)) (t' := .int) (by decide) (by decide)))), (((F_w0_hashes.other W3 (Or.inl ne_w0_w3)).keep K6 (ninS ne_w0_w1 nin0)).other W10 (Or.inr (slot_ne (Or.inl (own_w hw 54 rfl)) (Or.inl (own_w hw 137 rfl)) (by decide) (t := (.array .int)) (t' := .int) (by decide) (by decide)))), (((F_w0_keys.other W3 (Or.inl ne_w0_w3)).keep K6 (ninS ne_w0_w1 nin0)).other W10 (Or.inr (slot_ne (Or.inr (own_w hw 56 rfl)) (Or.inl (own_w hw 137 rfl)) (by decide) (t := (.object "com/example/ordal/ordal/NumberTable$Keys")) (t' := .int) (by decide) (by decide)))), F_w0_count, (((F_w0_crowded.other W3 (Or.inl ne_w0_w3)).keep K6 (ninS ne_w0_w1 nin0)).other W10 (Or.inr (slot_ne (Or.inl (own_w hw 188 rfl)) (Or.inl (own_w hw 137 rfl)) (by decide) (t := (.object "java/util/TreeMap")) (t' := .int) (by decide) (by decide)))), (V_w1.other W10 (Ne.symm ne_w0_w1)), ((V_w3.keep K6 (ninS (Ne.symm ne_w1_w3) nin0)).other W10 (Ne.symm ne_w0_w3))⟩)
def Q_17 (Z : State) (w0 w1 w2 : Addr) (kw2 : ClassId) (w4 : Addr) (kw4 : ClassId) (p6 : Int32) (h0 : Heap) (n0 : Nat) (v : Option Value) (h : Heap) : Prop :=
  (∃ (y3 : Int32), own_F_slot p6 = y3 ∧ v = none ∧ Keep h0 h [w4, w2, w1] ∧ Exa Z h w1 oC1 ∧ Fld Z h w1 oC1 "slots" "[I" (.ref w2) ∧ Fld Z h w1 oC1 "hashes" "[I" (.ref w4) ∧ Fld Z h w1 oC1 "keys" "Lcom/example/ordal/ordal/NumberTable$Keys;" (.ref w0) ∧ Fld Z h w1 oC1 "count" "I" (.int 1) ∧ Fld Z h w1 oC1 "crowded" "Ljava/util/TreeMap;" .null ∧ Arh Z h w2 kw2 .int (16 : Int32) [(y3, (.int 1))] [] (.int 0) ∧ Arv Z h w4 kw4 .int (8 : Int32) [(.int p6)] (.int 0))
theorem rm_17 (l : Launch) (Z : State) (a0 : Array Value) (hw : ∀ d ∈ tables_1, d.before a0 Z = true) (ws : List Jvm.Cond) (w0 w1 w2 : Addr) (kw2 : ClassId) (w4 : Addr) (kw4 : ClassId) (p6 : Int32) (h0 : Heap) (n0 : Nat) (Z0 : n0 ≤ h0.size) (E_w0 : Exa Z h0 w0 oC3) (F_w0_table : Fld Z h0 w0 oC3 "table" "Lcom/example/ordal/ordal/NumberTable;" (.ref w1)) (g_w0 : n0 ≤ w0) (E_w1 : Exa Z h0 w1 oC1) (F_w1_slots : Fld Z h0 w1 oC1 "slots" "[I" (.ref w2)) (F_w1_hashes : Fld Z h0 w1 oC1 "hashes" "[I" (.ref w4)) (F_w1_keys : Fld Z h0 w1 oC1 "keys" "Lcom/example/ordal/ordal/NumberTable$Keys;" (.ref w0)) (F_w1_count : Fld Z h0 w1 oC1 "count" "I" (.int 0)) (F_w1_crowded : Fld Z h0 w1 oC1 "crowded" "Ljava/util/TreeMap;" .null) (g_w1 : n0 ≤ w1) (V_w2 : Arv Z h0 w2 kw2 .int (16 : Int32) [] (.int 0)) (g_w2 : n0 ≤ w2) (V_w4 : Arv Z h0 w4 kw4 .int (8 : Int32) [] (.int 0)) (g_w4 : n0 ≤ w4) (ne_w0_w1 : w0 ≠ w1) (ne_w0_w2 : w0 ≠ w2) (ne_w0_w4 : w0 ≠ w4) (ne_w1_w2 : w1 ≠ w2) (ne_w1_w4 : w1 ≠ w4) (ne_w2_w4 : w2 ≠ w4) :
    own_M l Z (⟨"com/example/ordal/ordal/Relation$PositionTable", "put", "(II)V"⟩ : MethodName) prog_15_method_4_code 3 none ws ({ frames := 5, cells := 0, slots := 0, locals := 71 } : Room) #[(.ref w0), (.int 0), (.int p6)] h0 n0 (Q_17 Z w0 w1 w2 kw2 w4 kw4 p6 h0 n0) := by
  refine own_enter' (Q := Q_17 Z w0 w1 w2 kw2 w4 kw4 p6 h0 n0) (F := fun m => mkF m 0 #[.val (.ref w0), .val (.int 0), .val (.int p6)] []) (plainFor_of_name pn_4) ?_
  intro p e s m below meth c s₁ B X0
  have K : Keep h0 h0 [w4, w2, w1] := Keep.refl h0 _
  have lt_w0 := E_w0.lt
  have lt_w1 := E_w1.lt
  have lt_w2 := V_w2.lt
  have lt_w4 := V_w4.lt
  refine own_aloadN (pc' := 1) B X0 d19_0 rfl rfl rfl ?_
  refine own_getfield (pc' := 4) B X0 (host := "") (Or.inl (own_w hw 57 rfl)) Via.refl F_w0_table d19_1 rfl ?_
  intro T1 X1
  refine own_iloadN (pc' := 5) B X1 d19_4 rfl rfl ?_
  refine own_iloadN (pc' := 6) B X1 d19_5 rfl rfl ?_
  refine own_callV (pc' := 9) B X1 (own_w hw 131 rfl) (own_w hw 132 rfl) (own_w hw 134 rfl) (own_w hw 133 rfl) (own_w hw 46 rfl) (own_w hw 135 rfl) E_w1 (by decide) [(.int 0), (.int p6)] [] (rm_18 l Z a0 hw [] w1 w2 kw2 w4 kw4 w0 (p6) h0 n0 (Nat.le_trans Z0 K.1) E_w1 F_w1_slots F_w1_hashes F_w1_keys F_w1_count F_w1_crowded g_w1 V_w2 g_w2 V_w4 g_w4 ne_w1_w2 ne_w1_w4 ne_w2_w4) 0 (by decide) (by decide) rfl pd_11 rfl rfl (Nat.le_of_eq rfl) d19_6 rfl (k' := 0) (n' := 0) rfl rfl (by decide) (by decide) ?_
  intro T2 v2 h2 X2 q2
  obtain ⟨y3, hy4, rfl, K2, E_w1, F_w1_slots, F_w1_hashes, F_w1_keys, F_w1_count, F_w1_crowded, V_w2, V_w4⟩ := q2
  replace K := K.trans K2 (allS (Or.inl (List.mem_of_getElem? (i := 0) rfl)) (allS (Or.inl (List.mem_of_getElem? (i := 1) rfl)) (allS (Or.inl (List.mem_of_getElem? (i := 2) rfl)) all0)))
  show own_Go p e below (T2.setTop (mkF m 9 #[.val (.ref w0), .val (.int 0), .val (.int p6)] [])) _
  exact own_ret B X2 d19_9 (by decide) (by decide) (⟨y3, hy4, rfl, K, E_w1, F_w1_slots, F_w1_hashes, F_w1_keys, F_w1_count, F_w1_crowded, V_w2, V_w4⟩)
def Q_21 (Z : State) (w0 : Addr) (h0 : Heap) (n0 : Nat) (v : Option Value) (h : Heap) : Prop :=
  (v = some (.int 1) ∧ h0 = h)
theorem rm_21 (l : Launch) (Z : State) (a0 : Array Value) (hw : ∀ d ∈ tables_1, d.before a0 Z = true) (ws : List Jvm.Cond) (w0 : Addr) (h0 : Heap) (n0 : Nat) (Z0 : n0 ≤ h0.size) (E_w0 : Exa Z h0 w0 oC4) (F_w0_size : Fld Z h0 w0 oC4 "size" "I" (.int 0)) (g_w0 : n0 ≤ w0) :
    own_M l Z (⟨"java/util/HashMap", "isEmpty", "()Z"⟩ : MethodName) jdk_69_method_11_code 1 (some .boolean) ws ({ frames := 0, cells := 0, slots := 0, locals := 0 } : Room) #[(.ref w0)] h0 n0 (Q_21 Z w0 h0 n0) := by
  refine own_enter' (Q := Q_21 Z w0 h0 n0) (F := fun m => mkF m 0 #[.val (.ref w0)] []) (plainFor_of_name pn_1) ?_
  intro p e s m below meth c s₁ B X0
  have K : Keep h0 h0 [] := Keep.refl h0 _
  have lt_w0 := E_w0.lt
  refine own_aloadN (pc' := 1) B X0 d23_0 rfl rfl rfl ?_
  refine own_getfield (pc' := 4) B X0 (host := "") (Or.inl (own_w hw 155 rfl)) Via.refl F_w0_size d23_1 rfl ?_
  intro T1 X1
  refine own_ifNo (pc' := 7) B X1 d23_4 ((if0 _ _).trans (teq (by decide : (0 : Int32) = (0 : Int32))).2) rfl ?_
  refine own_iconst (pc' := 8) B X1 (z := (1 : Int32)) d23_7 rfl rfl ?_
  refine own_goto (pc' := 12) B X1 d23_8 (by decide) rfl ?_
  exact own_retN B X1 (t := .boolean) (z' := (1 : Int32)) (by simp) (by decide) d23_12 (by decide) (by decide) (⟨rfl, rfl⟩)
def Q_9 (Z : State) (w0 w1 w2 : Addr) (kw2 : ClassId) (w4 w5 w6 : Addr) (kw6 : ClassId) (w8 : Addr) (kw8 : ClassId) (w10 : Addr) (kw10 : ClassId) (w12 : Addr) (kw12 : ClassId) (p14 p15 : Int32) (h0 : Heap) (n0 : Nat) (v : Option Value) (h : Heap) : Prop :=
  (∃ (y3 : Int32) (y21 : Int32), own_F_hash p14 p15 = y3 ∧ own_F_slot y3 = y21 ∧ v = some (.int 1) ∧ Keep h0 h [w2, w0, w8, w6, w5] ∧ Exa Z h w0 oC2 ∧ Fld Z h w0 oC2 "indexes" "Ljava/util/Map;" (.ref w1) ∧ Fld Z h w0 oC2 "arity" "I" (.int 2) ∧ Fld Z h w0 oC2 "rows" "[I" (.ref w2) ∧ Fld Z h w0 oC2 "members" "Lcom/example/ordal/ordal/Relation$PositionTable;" (.ref w4) ∧ Fld Z h w0 oC2 "size" "I" (.int 1) ∧ Fld Z h w0 oC2 "spellings" "[I" .null ∧ Fld Z h w0 oC2 "arrived" "I" (.int 0) ∧ Arv Z h w2 kw2 .int (16 : Int32) [(.int p14), (.int p15)] (.int 0) ∧ Exa Z h w5 oC1 ∧ Fld Z h w5 oC1 "slots" "[I" (.ref w6) ∧ Fld Z h w5 oC1 "hashes" "[I" (.ref w8) ∧ Fld Z h w5 oC1 "keys" "Lcom/example/ordal/ordal/NumberTable$Keys;" (.ref w4) ∧ Fld Z h w5 oC1 "count" "I" (.int 1) ∧ Fld Z h w5 oC1 "crowded" "Ljava/util/TreeMap;" .null ∧ Arh Z h w6 kw6 .int (16 : Int32) [(y21, (.int 1))] [] (.int 0) ∧ Arv Z h w8 kw8 .int (8 : Int32) [(.int y3)] (.int 0))
theorem rm_9 (l : Launch) (Z : State) (a0 : Array Value) (hw : ∀ d ∈ tables_1, d.before a0 Z = true) (ws : List Jvm.Cond) (w0 w1 w2 : Addr) (kw2 : ClassId) (w4 w5 w6 : Addr) (kw6 : ClassId) (w8 : Addr) (kw8 : ClassId) (w10 : Addr) (kw10 : ClassId) (w12 : Addr) (kw12 : ClassId) (p14 p15 : Int32) (h0 : Heap) (n0 : Nat) (Z0 : n0 ≤ h0.size) (E_w0 : Exa Z h0 w0 oC2) (F_w0_indexes : Fld Z h0 w0 oC2 "indexes" "Ljava/util/Map;" (.ref w1)) (F_w0_arity : Fld Z h0 w0 oC2 "arity" "I" (.int 2)) (F_w0_rows : Fld Z h0 w0 oC2 "rows" "[I" (.ref w2)) (F_w0_members : Fld Z h0 w0 oC2 "members" "Lcom/example/ordal/ordal/Relation$PositionTable;" (.ref w4)) (F_w0_size : Fld Z h0 w0 oC2 "size" "I" (.int 0)) (F_w0_spellings : Fld Z h0 w0 oC2 "spellings" "[I" .null) (F_w0_arrived : Fld Z h0 w0 oC2 "arrived" "I" (.int 0)) (g_w0 : n0 ≤ w0) (E_w1 : Exa Z h0 w1 oC4) (F_w1_size : Fld Z h0 w1 oC4 "size" "I" (.int 0)) (g_w1 : n0 ≤ w1) (V_w2 : Arv Z h0 w2 kw2 .int (16 : Int32) [] (.int 0)) (g_w2 : n0 ≤ w2) (E_w4 : Exa Z h0 w4 oC3) (F_w4_table : Fld Z h0 w4 oC3 "table" "Lcom/example/ordal/ordal/NumberTable;" (.ref w5)) (F_w4_relation : Fld Z h0 w4 oC3 "relation" "Lcom/example/ordal/ordal/Relation;" (.ref w0)) (F_w4_columns : Fld Z h0 w4 oC3 "columns" "[I" (.ref w10)) (g_w4 : n0 ≤ w4) (E_w5 : Exa Z h0 w5 oC1) (F_w5_slots : Fld Z h0 w5 oC1 "slots" "[I" (.ref w6)) (F_w5_hashes : Fld Z h0 w5 oC1 "hashes" "[I" (.ref w8)) (F_w5_keys : Fld Z h0 w5 oC1 "keys" "Lcom/example/ordal/ordal/NumberTable$Keys;" (.ref w4)) (F_w5_count : Fld Z h0 w5 oC1 "count" "I" (.int 0)) (F_w5_crowded : Fld Z h0 w5 oC1 "crowded" "Ljava/util/TreeMap;" .null) (g_w5 : n0 ≤ w5) (V_w6 : Arv Z h0 w6 kw6 .int (16 : Int32) [] (.int 0)) (g_w6 : n0 ≤ w6) (V_w8 : Arv Z h0 w8 kw8 .int (8 : Int32) [] (.int 0)) (g_w8 : n0 ≤ w8) (V_w10 : Arv Z h0 w10 kw10 .int (2 : Int32) [(.int 0), (.int 1)] (.int 0)) (g_w10 : n0 ≤ w10) (E_w12 : Exa Z h0 w12 "[I") (V_w12 : Arv Z h0 w12 kw12 .int (2 : Int32) [(.int p14), (.int p15)] (.int 0)) (g_w12 : n0 ≤ w12) (ne_w0_w1 : w0 ≠ w1) (ne_w0_w2 : w0 ≠ w2) (ne_w0_w4 : w0 ≠ w4) (ne_w0_w5 : w0 ≠ w5) (ne_w0_w6 : w0 ≠ w6) (ne_w0_w8 : w0 ≠ w8) (ne_w0_w10 : w0 ≠ w10) (ne_w0_w12 : w0 ≠ w12) (ne_w1_w2 : w1 ≠ w2) (ne_w1_w4 : w1 ≠ w4) (ne_w1_w5 : w1 ≠ w5) (ne_w1_w6 : w1 ≠ w6) (ne_w1_w8 : w1 ≠ w8) (ne_w1_w10 : w1 ≠ w10) (ne_w1_w12 : w1 ≠ w12) (ne_w2_w4 : w2 ≠ w4) (ne_w2_w5 : w2 ≠ w5) (ne_w2_w6 : w2 ≠ w6) (ne_w2_w8 : w2 ≠ w8) (ne_w2_w10 : w2 ≠ w10) (ne_w2_w12 : w2 ≠ w12) (ne_w4_w5 : w4 ≠ w5) (ne_w4_w6 : w4 ≠ w6) (ne_w4_w8 : w4 ≠ w8) (ne_w4_w10 : w4 ≠ w10) (ne_w4_w12 : w4 ≠ w12) (ne_w5_w6 : w5 ≠ w6) (ne_w5_w8 : w5 ≠ w8) (ne_w5_w10 : w5 ≠ w10) (ne_w5_w12 : w5 ≠ w12) (ne_w6_w8 : w6 ≠ w8) (ne_w6_w10 : w6 ≠ w10) (ne_w6_w12 : w6 ≠ w12) (ne_w8_w10 : w8 ≠ w10) (ne_w8_w12 : w8 ≠ w12) (ne_w10_w12 : w10 ≠ w12) :
    own_M l Z (⟨"com/example/ordal/ordal/Relation", "put", "([I[I)Z"⟩ : MethodName) prog_12_method_16_code 8 (some .boolean) ws ({ frames := 6, cells := 0, slots := 0, locals := 85 } : Room) #[(.ref w0), (.ref w12), (.ref w12)] h0 n0 (Q_9 Z w0 w1 w2 kw2 w4 w5 w6 kw6 w8 kw8 w10 kw10 w12 kw12 p14 p15 h0 n0) := by
  refine own_enter' (Q := Q_9 Z w0 w1 w2 kw2 w4 w5 w6 kw6 w8 kw8 w10 kw10 w12 kw12 p14 p15 h0 n0) (F := fun m => mkF m 0 #[.val (.ref w0), .val (.ref w12), .val (.ref w12), .unset, .unset, .unset, .unset, .unset] []) (plainFor_of_name pn_2) ?_
  intro p e s m below meth c s₁ B X0
  have K : Keep h0 h0 [w2, w0, w8, w6, w5] := Keep.refl h0 _
  have lt_w0 := E_w0.lt
  have lt_w1 := E_w1.lt
  have lt_w2 := V_w2.lt
  have lt_w4 := E_w4.lt
  have lt_w5 := E_w5.lt
  have lt_w6 := V_w6.lt
  have lt_w8 := V_w8.lt
  have lt_w10 := V_w10.lt
  have lt_w12 := E_w12.lt
  refine own_aloadN (pc' := 1) B X0 d12_0 rfl rfl rfl ?_
  refine own_getfield (pc' := 4) B X0 (host := "") (Or.inl (own_w hw 65 rfl)) Via.refl F_w0_members d12_1 rfl ?_
  intro T1 X1
  refine own_aloadN (pc' := 5) B X1 d12_4 rfl rfl rfl ?_
  refine own_callV (pc' := 8) B X1 (own_w hw 92 rfl) (own_w hw 93 rfl) (own_w hw 95 rfl) (own_w hw 94 rfl) (own_w hw 36 rfl) (own_w hw 96 rfl) E_w4 (by decide) [(.ref w12)] [] (rm_10 l Z a0 hw [] w4 w12 kw12 (p14) (p15) h0 n0 (Nat.le_trans Z0 K.1) E_w4 g_w4 E_w12 V_w12 g_w12 ne_w4_w12) 0 (by decide) (by decide) rfl pd_6 rfl rfl (Nat.le_of_eq rfl) d12_5 rfl (k' := 0) (n' := 0) rfl rfl (by decide) (by decide) ?_
  intro T2 v2 h2 X2 q2
  obtain ⟨y3, hy4, rfl, rfl⟩ := q2
  show own_Go p e below (T2.setTop (mkF m 8 #[.val (.ref w0), .val (.ref w12), .val (.ref w12), .unset, .unset, .unset, .unset, .unset] [(.int y3)])) _
  refine own_istoreN (pc' := 9) B X2 (Ls' := #[.val (.ref w0), .val (.ref w12), .val (.ref w12), .val (.int y3), .unset, .unset, .unset, .unset]) d12_8 rfl rfl ?_
  refine own_aloadN (pc' := 10) B X2 d12_9 rfl rfl rfl ?_
  refine own_getfield (pc' := 13) B X2 (host := "") (Or.inl (own_w hw 65 rfl)) Via.refl F_w0_members d12_10 rfl ?_
  intro T5 X5
  refine own_aloadN (pc' := 14) B X5 d12_13 rfl rfl rfl ?_
  refine own_iloadN (pc' := 15) B X5 d12_14 rfl rfl ?_
  refine own_callV (pc' := 18) B X5 (own_w hw 101 rfl) (own_w hw 102 rfl) (own_w hw 104 rfl) (own_w hw 103 rfl) (own_w hw 36 rfl) (own_w hw 105 rfl) E_w4 (by decide) [(.ref w12), (.int y3)] [] (rm_13 l Z a0 hw [] w4 w5 w6 kw6 w8 kw8 w0 w2 kw2 w10 kw10 w12 kw12 (p14) (p15) (y3) h0 n0 (Nat.le_trans Z0 K.1) E_w4 F_w4_table F_w4_relation F_w4_columns g_w4 E_w5 F_w5_slots F_w5_hashes F_w5_keys F_w5_crowded g_w5 V_w6 g_w6 V_w8 g_w8 E_w0 F_w0_arity F_w0_rows g_w0 V_w2 g_w2 V_w10 g_w10 E_w12 V_w12 g_w12 ne_w4_w5 ne_w4_w6 ne_w4_w8 (Ne.symm ne_w0_w4) (Ne.symm ne_w2_w4) ne_w4_w10 ne_w4_w12 ne_w5_w6 ne_w5_w8 (Ne.symm ne_w0_w5) (Ne.symm ne_w2_w5) ne_w5_w10 ne_w5_w12 ne_w6_w8 (Ne.symm ne_w0_w6) (Ne.symm ne_w2_w6) ne_w6_w10 ne_w6_w12 (Ne.symm ne_w0_w8) (Ne.symm ne_w2_w8) ne_w8_w10 ne_w8_w12 ne_w0_w2 ne_w0_w10 ne_w0_w12 ne_w2_w10 ne_w2_w12 ne_w10_w12 hy4) 0 (by decide) (by decide) rfl pd_9 rfl rfl (Nat.le_of_eq rfl) d12_15 rfl (k' := 0) (n' := 0) rfl rfl (by decide) (by decide) ?_
  intro T6 v6 h6 X6 q6
  obtain ⟨rfl, rfl⟩ := q6
  show own_Go p e below (T6.setTop (mkF m 18 #[.val (.ref w0), .val (.ref w12), .val (.ref w12), .val (.int y3), .unset, .unset, .unset, .unset] [(.int (-1))])) _
  refine own_iconst (pc' := 19) B X6 (z := (-1 : Int32)) d12_18 rfl rfl ?_
  refine own_icmpYes (pc' := 24) B X6 d12_19 (teq (by decide : (-1 : Int32) = (-1 : Int32))).1 (by decide) rfl ?_
  refine own_aloadN (pc' := 25) B X6 d12_24 rfl rfl rfl ?_
  refine own_getfield (pc' := 28) B X6 (host := "") (Or.inl (own_w hw 72 rfl)) Via.refl F_w0_size d12_25 rfl ?_
  intro T7 X7
  refine own_iconst (pc' := 29) B X7 (z := (1 : Int32)) d12_28 rfl rfl ?_
  refine own_iadd (pc' := 30) B X7 (z := (1 : Int32)) d12_29 rfl (by decide) ?_
  refine own_aloadN (pc' := 31) B X7 d12_30 rfl rfl rfl ?_
  refine own_getfield (pc' := 34) B X7 (host := "") (Or.inl (own_w hw 29 rfl)) Via.refl F_w0_arity d12_31 rfl ?_
  intro T8 X8
  refine own_imul (pc' := 35) B X8 (z := (2 : Int32)) d12_34 rfl (by decide) ?_
  refine own_aloadN (pc' := 36) B X8 d12_35 rfl rfl rfl ?_
  refine own_getfield (pc' := 39) B X8 (host := "") (Or.inl (own_w hw 32 rfl)) Via.refl F_w0_rows d12_36 rfl ?_
  intro T9 X9
  refine own_arraylength (pc' := 40) B X9 V_w2 d12_39 rfl ?_
  refine own_icmpYes (pc' := 98) B X9 d12_40 (flt (by decide : ¬ ((16 : Int32) < (2 : Int32)))).2.2.2 (by decide) rfl ?_
  refine own_aloadN (pc' := 99) B X9 d12_98 rfl rfl rfl ?_
  refine own_getfield (pc' := 102) B X9 (host := "") (Or.inl (own_w hw 72 rfl)) Via.refl F_w0_size d12_99 rfl ?_
  intro T10 X10
  refine own_aloadN (pc' := 103) B X10 d12_102 rfl rfl rfl ?_
  refine own_getfield (pc' := 106) B X10 (host := "") (Or.inl (own_w hw 29 rfl)) Via.refl F_w0_arity d12_103 rfl ?_
  intro T11 X11
  refine own_imul (pc' := 107) B X11 (z := (0 : Int32)) d12_106 rfl (by decide) ?_
  refine own_istore (pc' := 109) B X11 (Ls' := #[.val (.ref w0), .val (.ref w12), .val (.ref w12), .val (.int y3), .val (.int 0), .unset, .unset, .unset]) d12_107 rfl rfl ?_
  refine own_aloadN (pc' := 110) B X11 d12_109 rfl rfl rfl ?_
  refine own_iconst (pc' := 111) B X11 (z := (0 : Int32)) d12_110 rfl rfl ?_
  refine own_aloadN (pc' := 112) B X11 d12_111 rfl rfl rfl ?_
  refine own_getfield (pc' := 115) B X11 (host := "") (Or.inl (own_w hw 32 rfl)) Via.refl F_w0_rows d12_112 rfl ?_
  intro T12 X12
  refine own_iload (pc' := 117) B X12 d12_115 rfl rfl ?_
  refine own_aloadN (pc' := 118) B X12 d12_117 rfl rfl rfl ?_
  refine own_getfield (pc' := 121) B X12 (host := "") (Or.inl (own_w hw 29 rfl)) Via.refl F_w0_arity d12_118 rfl ?_
  intro T13 X13
  replace V_w2 : Arv Z h0 w2 kw2 .int (16 : Int32) [(.int 0), (.int 0)] (.int 0) := V_w2.pad (pad_rep [] (.int 0) 2)
  refine own_arraycopy (pc' := 124) B X13 (own_w hw 120 rfl) (own_w hw 123 rfl) (own_w hw 121 rfl) (own_w hw 122 rfl) V_w12 V_w2 rfl g_w2 (by decide) (by decide) (by decide) (by decide) (by decide) (us := [(.int p14), (.int p15)]) rfl (Nat.le_of_ble_eq_true rfl) (rs := [(.int p14), (.int p15)]) rfl d12_121 rfl rfl (by decide) 0 (Nat.le_of_eq rfl) (by decide) ?_
  intro T14 h14 X14 K14 V_w2
  replace K := K.trans K14 (allS (Or.inl (List.mem_of_getElem? (i := 0) rfl)) all0)
  refine own_aloadN (pc' := 125) B X14 d12_124 rfl rfl rfl ?_
  replace F_w0_spellings := (F_w0_spellings.keep K14 (ninS ne_w0_w2 nin0))
  refine own_getfield (pc' := 128) B X14 (host := "") (Or.inl (own_w hw 124 rfl)) Via.refl F_w0_spellings d12_125 rfl ?_
  intro T15 X15
  refine own_ifnonnullNo (pc' := 131) B X15 d12_128 rfl ?_
  refine own_aloadN (pc' := 132) B X15 d12_131 rfl rfl rfl ?_
  refine own_aloadN (pc' := 133) B X15 d12_132 rfl rfl rfl ?_
  refine own_acmp B X15 rfl rfl (same := true) d12_133 (decide_eq_true rfl) (by decide) (pc' := 158) (by decide) ?_
  refine own_aloadN (pc' := 159) B X15 d12_158 rfl rfl rfl ?_
  refine own_getfield (pc' := 162) B X15 (host := "") (Or.inl (own_w hw 124 rfl)) Via.refl F_w0_spellings d12_159 rfl ?_
  intro T16 X16
  refine own_ifnullYes (pc' := 180) B X16 d12_162 (by decide) rfl ?_
  refine own_aloadN (pc' := 181) B X16 d12_180 rfl rfl rfl ?_
  refine own_dup (pc' := 182) B X16 d12_181 rfl rfl ?_
  replace F_w0_size := (F_w0_size.keep K14 (ninS ne_w0_w2 nin0))
  refine own_getfield (pc' := 185) B X16 (host := "") (Or.inl (own_w hw 72 rfl)) Via.refl F_w0_size d12_182 rfl ?_
  intro T17 X17
  refine own_dup_x1 (pc' := 186) B X17 d12_185 rfl rfl rfl ?_
  refine own_iconst (pc' := 187) B X17 (z := (1 : Int32)) d12_186 rfl rfl ?_
  refine own_iadd (pc' := 188) B X17 (z := (1 : Int32)) d12_187 rfl (by decide) ?_
  replace E_w0 := (E_w0.keep K14)
  refine own_putfield (pc' := 191) B X17 (host := "") (Or.inl (own_w hw 72 rfl)) Via.refl F_w0_size E_w0 g_w0 (Or.inl (own_w hw 73 rfl)) (own_w hw 1 rfl) (ty := .int) (by decide) rfl rfl d12_188 rfl ?_
  intro T18 h18 X18 W18 F_w0_size
  replace K := K.wr W18 (Or.inl (List.mem_of_getElem? (i := 1) rfl))
  refine own_istore (pc' := 193) B X18 (Ls' := #[.val (.ref w0), .val (.ref w12), .val (.ref w12), .val (.int y3), .val (.int 0), .val (.int 0), .unset, .unset]) d12_191 rfl rfl ?_
  refine own_aloadN (pc' := 194) B X18 d12_193 rfl rfl rfl ?_
  replace F_w0_members := ((F_w0_members.keep K14 (ninS ne_w0_w2 nin0)).other W18 (Or.inr (slot_ne (Or.inr (own_w hw 66 rfl)) (Or.inl (own_w hw 73 rfl)) (by decide) (t := (.object "com/example/ordal/ordal/Relation$PositionTable")) (t' := .int) (by decide) (by decide))))
  refine own_getfield (pc' := 197) B X18 (host := "") (Or.inl (own_w hw 65 rfl)) Via.refl F_w0_members d12_194 rfl ?_
  intro T19 X19
  refine own_iload (pc' := 199) B X19 d12_197 rfl rfl ?_
  refine own_iloadN (pc' := 200) B X19 d12_199 rfl rfl ?_
  replace E_w4 := ((E_w4.keep K14).wr W18)
  replace F_w4_table := ((F_w4_table.keep K14 (ninS (Ne.symm ne_w2_w4) nin0)).other W18 (Or.inl (Ne.symm ne_w0_w4)))
  replace E_w5 := ((E_w5.keep K14).wr W18)
  replace F_w5_slots := ((F_w5_slots.keep K14 (ninS (Ne.symm ne_w2_w5) nin0)).other W18 (Or.inl (Ne.symm ne_w0_w5)))
  replace F_w5_hashes := ((F_w5_hashes.keep K14 (ninS (Ne.symm ne_w2_w5) nin0)).other W18 (Or.inl (Ne.symm ne_w0_w5)))
  replace F_w5_keys := ((F_w5_keys.keep K14 (ninS (Ne.symm ne_w2_w5) nin0)).other W18 (Or.inl (Ne.symm ne_w0_w5)))
  replace F_w5_count := ((F_w5_count.keep K14 (ninS (Ne.symm ne_w2_w5) nin0)).other W18 (Or.inl (Ne.symm ne_w0_w5)))
  replace F_w5_crowded := ((F_w5_crowded.keep K14 (ninS (Ne.symm ne_w2_w5) nin0)).other W18 (Or.inl (Ne.symm ne_w0_w5)))
  replace V_w6 := ((V_w6.keep K14 (ninS (Ne.symm ne_w2_w6) nin0)).other W18 (Ne.symm ne_w0_w6))
  replace V_w8 := ((V_w8.keep K14 (ninS (Ne.symm ne_w2_w8) nin0)).other W18 (Ne.symm ne_w0_w8))
  refine own_callV (pc' := 203) B X19 (own_w hw 126 rfl) (own_w hw 127 rfl) (own_w hw 129 rfl) (own_w hw 128 rfl) (own_w hw 36 rfl) (own_w hw 130 rfl) E_w4 (by decide) [(.int 0), (.int y3)] [] (rm_17 l Z a0 hw [] w4 w5 w6 kw6 w8 kw8 (y3) h18 n0 (Nat.le_trans Z0 K.1) E_w4 F_w4_table g_w4 E_w5 F_w5_slots F_w5_hashes F_w5_keys F_w5_count F_w5_crowded g_w5 V_w6 g_w6 V_w8 g_w8 ne_w4_w5 ne_w4_w6 ne_w4_w8 ne_w5_w6 ne_w5_w8 ne_w6_w8) 0 (by decide) (by decide) rfl pd_11 rfl rfl (Nat.le_of_eq rfl) d12_200 rfl (k' := 0) (n' := 0) rfl rfl (by decide) (by decide) ?_
  intro T20 v20 h20 X20 q20
  obtain ⟨y21, hy22, rfl, K20, E_w5, F_w5_slots, F_w5_hashes, F_w5_keys, F_w5_count, F_w5_crowded, V_w6, V_w8⟩ := q20
  replace K := K.trans K20 (allS (Or.inl (List.mem_of_getElem? (i := 2) rfl)) (allS (Or.inl (List.mem_of_getElem? (i := 3) rfl)) (allS (Or.inl (List.mem_of_getElem? (i := 4) rfl)) all0)))
  show own_Go p e below (T20.setTop (mkF m 203 #[.val (.ref w0), .val (.ref w12), .val (.ref w12), .val (.int y3), .val (.int 0), .val (.int 0), .unset, .unset] [])) _
  refine own_aloadN (pc' := 204) B X20 d12_203 rfl rfl rfl ?_
  replace F_w0_indexes := (((F_w0_indexes.keep K14 (ninS ne_w0_w2 nin0)).other W18 (Or.inr (slot_ne (Or.inr (own_w hw 26 rfl)) (Or.inl (own_w hw 73 rfl)) (by decide) (t := (.object "java/util/Map")) (t' := .int) (by decide) (by decide)))).keep K20 (ninS ne_w0_w8 (ninS ne_w0_w6 (ninS ne_w0_w5 nin0))))
  refine own_getfield (pc' := 207) B X20 (host := "") (Or.inl (own_w hw 25 rfl)) Via.refl F_w0_indexes d12_204 rfl ?_
  intro T23 X23
  replace E_w1 := (((E_w1.keep K14).wr W18).keep K20)
  replace F_w1_size := (((F_w1_size.keep K14 (ninS ne_w1_w2 nin0)).other W18 (Or.inl (Ne.symm ne_w0_w1))).keep K20 (ninS ne_w1_w8 (ninS ne_w1_w6 (ninS ne_w1_w5 nin0))))
  refine own_callF (pc' := 212) B X23 (xi := (⟨"java/util/Map", "isEmpty", "()Z"⟩ : MethodName)) (own_w hw 146 rfl) (own_w hw 147 rfl) (own_w hw 148 rfl) (own_w hw 149 rfl) (own_w hw 150 rfl) (own_w hw 151 rfl) (own_w hw 152 rfl) (own_w hw 153 rfl) (own_w hw 11 rfl) (own_w hw 154 rfl) E_w1 (by decide) [] [] (rm_21 l Z a0 hw [] w1 h20 n0 (Nat.le_trans Z0 K.1) E_w1 F_w1_size g_w1) 0 (by decide) (by decide) rfl pd_12 rfl rfl (Nat.le_of_eq rfl) d12_207 rfl (k' := 0) (n' := 0) rfl rfl (by decide) (by decide) ?_
  intro T24 v24 h24 X24 q24
  obtain ⟨rfl, rfl⟩ := q24
  show own_Go p e below (T24.setTop (mkF m 212 #[.val (.ref w0), .val (.ref w12), .val (.ref w12), .val (.int y3), .val (.int 0), .val (.int 0), .unset, .unset] [(.int 1)])) _
  refine own_ifYes (pc' := 263) B X24 d12_212 ((if0 _ _).trans (feq (by decide : ¬ ((1 : Int32) = (0 : Int32)))).2) (by decide) rfl ?_
  refine own_iconst (pc' := 264) B X24 (z := (1 : Int32)) d12_263 rfl rfl ?_
  exact own_retN B X24 (t := .boolean) (z' := (1 : Int32)) (by simp) (by decide) d12_264 (by decide) (by decide) (⟨y3, y21, hy4, hy22, rfl, K, ((E_w0.wr W18).keep K20), F_w0_indexes, (((F_w0_arity.keep K14 (ninS ne_w0_w2 nin0)).other W18 (Or.inr (slot_ne (Or.inr (own_w hw 30 rfl)) (Or.inl (own_w hw 73 rfl)) (by decide) (t := .int) (t' := .int) (by decide) (by decide)))).keep K20 (ninS ne_w0_w8 (ninS ne_w0_w6 (ninS ne_w0_w5 nin0)))), (((F_w0_rows.keep K14 (ninS ne_w0_w2 nin0)).other W18 (Or.inr (slot_ne (Or.inl (own_w hw 33 rfl)) (Or.inl (own_w hw 73 rfl)) (by decide) (t := (.array .int)) (t' := .int) (by decide) (by decide)))).keep K20 (ninS ne_w0_w8 (ninS ne_w0_w6 (ninS ne_w0_w5 nin0)))), (F_w0_members.keep K20 (ninS ne_w0_w8 (ninS ne_w0_w6 (ninS ne_w0_w5 nin0)))), (F_w0_size.keep K20 (ninS ne_w0_w8 (ninS ne_w0_w6 (ninS ne_w0_w5 nin0)))), ((F_w0_spellings.other W18 (Or.inr (slot_ne (Or.inl (own_w hw 125 rfl)) (Or.inl (own_w hw 73 rfl)) (by decide) (t := (.array .int)) (t' := .int) (by decide) (by decide)))).keep K20 (ninS ne_w0_w8 (ninS ne_w0_w6 (ninS ne_w0_w5 nin0)))), (((F_w0_arrived.keep K14 (ninS ne_w0_w2 nin0)).other W18 (Or.inr (slot_ne (Or.inl (own_w hw 158 rfl)) (Or.inl (own_w hw 73 rfl)) (by decide) (t := .int) (t' := .int) (by decide) (by decide)))).keep K20 (ninS ne_w0_w8 (ninS ne_w0_w6 (ninS ne_w0_w5 nin0)))), ((V_w2.other W18 (Ne.symm ne_w0_w2)).keep K20 (ninS ne_w2_w8 (ninS ne_w2_w6 (ninS ne_w2_w5 nin0)))), E_w5, F_w5_slots, F_w5_hashes, F_w5_keys, F_w5_count, F_w5_crowded, V_w6, V_w8⟩)
def Q_8 (Z : State) (w0 w1 w2 : Addr) (kw2 : ClassId) (w4 w5 w6 : Addr) (kw6 : ClassId) (w8 : Addr) (kw8 : ClassId) (w10 : Addr) (kw10 : ClassId) (w12 : Addr) (kw12 : ClassId) (p14 p15 : Int32) (h0 : Heap) (n0 : Nat) (v : Option Value) (h : Heap) : Prop :=
  (∃ (y4 : Int32) (y5 : Int32), own_F_hash p14 p15 = y4 ∧ own_F_slot y4 = y5 ∧ v = some (.int 1) ∧ Keep h0 h [w2, w0, w8, w6, w5] ∧ Exa Z h w0 oC2 ∧ Fld Z h w0 oC2 "indexes" "Ljava/util/Map;" (.ref w1) ∧ Fld Z h w0 oC2 "arity" "I" (.int 2) ∧ Fld Z h w0 oC2 "rows" "[I" (.ref w2) ∧ Fld Z h w0 oC2 "members" "Lcom/example/ordal/ordal/Relation$PositionTable;" (.ref w4) ∧ Fld Z h w0 oC2 "size" "I" (.int 1) ∧ Fld Z h w0 oC2 "spellings" "[I" .null ∧ Fld Z h w0 oC2 "arrived" "I" (.int 1) ∧ Arv Z h w2 kw2 .int (16 : Int32) [(.int p14), (.int p15)] (.int 0) ∧ Exa Z h w5 oC1 ∧ Fld Z h w5 oC1 "slots" "[I" (.ref w6) ∧ Fld Z h w5 oC1 "hashes" "[I" (.ref w8) ∧ Fld Z h w5 oC1 "keys" "Lcom/example/ordal/ordal/NumberTable$Keys;" (.ref w4) ∧ Fld Z h w5 oC1 "count" "I" (.int 1) ∧ Fld Z h w5 oC1 "crowded" "Ljava/util/TreeMap;" .null ∧ Arh Z h w6 kw6 .int (16 : Int32) [(y5, (.int 1))] [] (.int 0) ∧ Arv Z h w8 kw8 .int (8 : Int32) [(.int y4)] (.int 0))
theorem rm_8 (l : Launch) (Z : State) (a0 : Array Value) (hw : ∀ d ∈ tables_1, d.before a0 Z = true) (ws : List Jvm.Cond) (w0 w1 w2 : Addr) (kw2 : ClassId) (w4 w5 w6 : Addr) (kw6 : ClassId) (w8 : Addr) (kw8 : ClassId) (w10 : Addr) (kw10 : ClassId) (w12 : Addr) (kw12 : ClassId) (p14 p15 : Int32) (h0 : Heap) (n0 : Nat) (Z0 : n0 ≤ h0.size) (E_w0 : Exa Z h0 w0 oC2) (F_w0_indexes : Fld Z h0 w0 oC2 "indexes" "Ljava/util/Map;" (.ref w1)) (F_w0_arity : Fld Z h0 w0 oC2 "arity" "I" (.int 2)) (F_w0_rows : Fld Z h0 w0 oC2 "rows" "[I" (.ref w2)) (F_w0_members : Fld Z h0 w0 oC2 "members" "Lcom/example/ordal/ordal/Relation$PositionTable;" (.ref w4)) (F_w0_size : Fld Z h0 w0 oC2 "size" "I" (.int 0)) (F_w0_spellings : Fld Z h0 w0 oC2 "spellings" "[I" .null) (F_w0_arrived : Fld Z h0 w0 oC2 "arrived" "I" (.int 0)) (g_w0 : n0 ≤ w0) (E_w1 : Exa Z h0 w1 oC4) (F_w1_size : Fld Z h0 w1 oC4 "size" "I" (.int 0)) (g_w1 : n0 ≤ w1) (V_w2 : Arv Z h0 w2 kw2 .int (16 : Int32) [] (.int 0)) (g_w2 : n0 ≤ w2) (E_w4 : Exa Z h0 w4 oC3) (F_w4_table : Fld Z h0 w4 oC3 "table" "Lcom/example/ordal/ordal/NumberTable;" (.ref w5)) (F_w4_relation : Fld Z h0 w4 oC3 "relation" "Lcom/example/ordal/ordal/Relation;" (.ref w0)) (F_w4_columns : Fld Z h0 w4 oC3 "columns" "[I" (.ref w10)) (g_w4 : n0 ≤ w4) (E_w5 : Exa Z h0 w5 oC1) (F_w5_slots : Fld Z h0 w5 oC1 "slots" "[I" (.ref w6)) (F_w5_hashes : Fld Z h0 w5 oC1 "hashes" "[I" (.ref w8)) (F_w5_keys : Fld Z h0 w5 oC1 "keys" "Lcom/example/ordal/ordal/NumberTable$Keys;" (.ref w4)) (F_w5_count : Fld Z h0 w5 oC1 "count" "I" (.int 0)) (F_w5_crowded : Fld Z h0 w5 oC1 "crowded" "Ljava/util/TreeMap;" .null) (g_w5 : n0 ≤ w5) (V_w6 : Arv Z h0 w6 kw6 .int (16 : Int32) [] (.int 0)) (g_w6 : n0 ≤ w6) (V_w8 : Arv Z h0 w8 kw8 .int (8 : Int32) [] (.int 0)) (g_w8 : n0 ≤ w8) (V_w10 : Arv Z h0 w10 kw10 .int (2 : Int32) [(.int 0), (.int 1)] (.int 0)) (g_w10 : n0 ≤ w10) (E_w12 : Exa Z h0 w12 "[I") (V_w12 : Arv Z h0 w12 kw12 .int (2 : Int32) [(.int p14), (.int p15)] (.int 0)) (g_w12 : n0 ≤ w12) (ne_w0_w1 : w0 ≠ w1) (ne_w0_w2 : w0 ≠ w2) (ne_w0_w4 : w0 ≠ w4) (ne_w0_w5 : w0 ≠ w5) (ne_w0_w6 : w0 ≠ w6) (ne_w0_w8 : w0 ≠ w8) (ne_w0_w10 : w0 ≠ w10) (ne_w0_w12 : w0 ≠ w12) (ne_w1_w2 : w1 ≠ w2) (ne_w1_w4 : w1 ≠ w4) (ne_w1_w5 : w1 ≠ w5) (ne_w1_w6 : w1 ≠ w6) (ne_w1_w8 : w1 ≠ w8) (ne_w1_w10 : w1 ≠ w10) (ne_w1_w12 : w1 ≠ w12) (ne_w2_w4 : w2 ≠ w4) (ne_w2_w5 : w2 ≠ w5) (ne_w2_w6 : w2 ≠ w6) (ne_w2_w8 : w2 ≠ w8) (ne_w2_w10 : w2 ≠ w10) (ne_w2_w12 : w2 ≠ w12) (ne_w4_w5 : w4 ≠ w5) (ne_w4_w6 : w4 ≠ w6) (ne_w4_w8 : w4 ≠ w8) (ne_w4_w10 : w4 ≠ w10) (ne_w4_w12 : w4 ≠ w12) (ne_w5_w6 : w5 ≠ w6) (ne_w5_w8 : w5 ≠ w8) (ne_w5_w10 : w5 ≠ w10) (ne_w5_w12 : w5 ≠ w12) (ne_w6_w8 : w6 ≠ w8) (ne_w6_w10 : w6 ≠ w10) (ne_w6_w12 : w6 ≠ w12) (ne_w8_w10 : w8 ≠ w10) (ne_w8_w12 : w8 ≠ w12) (ne_w10_w12 : w10 ≠ w12) :
    own_M l Z (⟨"com/example/ordal/ordal/Relation", "add", "([I[I)Z"⟩ : MethodName) prog_12_method_15_code 4 (some .boolean) ws ({ frames := 7, cells := 0, slots := 0, locals := 104 } : Room) #[(.ref w0), (.ref w12), (.ref w12)] h0 n0 (Q_8 Z w0 w1 w2 kw2 w4 w5 w6 kw6 w8 kw8 w10 kw10 w12 kw12 p14 p15 h0 n0) := by
  refine own_enter' (Q := Q_8 Z w0 w1 w2 kw2 w4 w5 w6 kw6 w8 kw8 w10 kw10 w12 kw12 p14 p15 h0 n0) (F := fun m => mkF m 0 #[.val (.ref w0), .val (.ref w12), .val (.ref w12), .unset] []) (plainFor_of_name pn_2) ?_
  intro p e s m below meth c s₁ B X0
  have K : Keep h0 h0 [w2, w0, w8, w6, w5] := Keep.refl h0 _
  have lt_w0 := E_w0.lt
  have lt_w1 := E_w1.lt
  have lt_w2 := V_w2.lt
  have lt_w4 := E_w4.lt
  have lt_w5 := E_w5.lt
  have lt_w6 := V_w6.lt
  have lt_w8 := V_w8.lt
  have lt_w10 := V_w10.lt
  have lt_w12 := E_w12.lt
  refine own_aloadN (pc' := 1) B X0 d11_0 rfl rfl rfl ?_
  refine own_arraylength (pc' := 2) B X0 V_w12 d11_1 rfl ?_
  refine own_aloadN (pc' := 3) B X0 d11_2 rfl rfl rfl ?_
  refine own_getfield (pc' := 6) B X0 (host := "") (Or.inl (own_w hw 29 rfl)) Via.refl F_w0_arity d11_3 rfl ?_
  intro T1 X1
  refine own_icmpNo (pc' := 9) B X1 d11_6 (teq (by decide : (2 : Int32) = (2 : Int32))).2 rfl ?_
  refine own_aloadN (pc' := 10) B X1 d11_9 rfl rfl rfl ?_
  refine own_arraylength (pc' := 11) B X1 V_w12 d11_10 rfl ?_
  refine own_aloadN (pc' := 12) B X1 d11_11 rfl rfl rfl ?_
  refine own_getfield (pc' := 15) B X1 (host := "") (Or.inl (own_w hw 29 rfl)) Via.refl F_w0_arity d11_12 rfl ?_
  intro T2 X2
  refine own_icmpYes (pc' := 37) B X2 d11_15 (teq (by decide : (2 : Int32) = (2 : Int32))).1 (by decide) rfl ?_
  refine own_aloadN (pc' := 38) B X2 d11_37 rfl rfl rfl ?_
  refine own_aloadN (pc' := 39) B X2 d11_38 rfl rfl rfl ?_
  refine own_aloadN (pc' := 40) B X2 d11_39 rfl rfl rfl ?_
  refine own_callP (pc' := 43) B X2 (own_w hw 88 rfl) (own_w hw 89 rfl) (own_w hw 90 rfl) (own_w hw 1 rfl) (own_w hw 2 rfl) (own_w hw 91 rfl) E_w0 (by decide) [(.ref w12), (.ref w12)] [] (rm_9 l Z a0 hw [] w0 w1 w2 kw2 w4 w5 w6 kw6 w8 kw8 w10 kw10 w12 kw12 (p14) (p15) h0 n0 (Nat.le_trans Z0 K.1) E_w0 F_w0_indexes F_w0_arity F_w0_rows F_w0_members F_w0_size F_w0_spellings F_w0_arrived g_w0 E_w1 F_w1_size g_w1 V_w2 g_w2 E_w4 F_w4_table F_w4_relation F_w4_columns g_w4 E_w5 F_w5_slots F_w5_hashes F_w5_keys F_w5_count F_w5_crowded g_w5 V_w6 g_w6 V_w8 g_w8 V_w10 g_w10 E_w12 V_w12 g_w12 ne_w0_w1 ne_w0_w2 ne_w0_w4 ne_w0_w5 ne_w0_w6 ne_w0_w8 ne_w0_w10 ne_w0_w12 ne_w1_w2 ne_w1_w4 ne_w1_w5 ne_w1_w6 ne_w1_w8 ne_w1_w10 ne_w1_w12 ne_w2_w4 ne_w2_w5 ne_w2_w6 ne_w2_w8 ne_w2_w10 ne_w2_w12 ne_w4_w5 ne_w4_w6 ne_w4_w8 ne_w4_w10 ne_w4_w12 ne_w5_w6 ne_w5_w8 ne_w5_w10 ne_w5_w12 ne_w6_w8 ne_w6_w10 ne_w6_w12 ne_w8_w10 ne_w8_w12 ne_w10_w12) 0 (by decide) (by decide) rfl pd_13 rfl rfl (Nat.le_of_eq rfl) d11_40 rfl (k' := 0) (n' := 0) rfl rfl (by decide) (by decide) ?_
  intro T3 v3 h3 X3 q3
  obtain ⟨y4, y5, hy6, hy7, rfl, K3, E_w0, F_w0_indexes, F_w0_arity, F_w0_rows, F_w0_members, F_w0_size, F_w0_spellings, F_w0_arrived, V_w2, E_w5, F_w5_slots, F_w5_hashes, F_w5_keys, F_w5_count, F_w5_crowded, V_w6, V_w8⟩ := q3
  replace K := K.trans K3 (allS (Or.inl (List.mem_of_getElem? (i := 0) rfl)) (allS (Or.inl (List.mem_of_getElem? (i := 1) rfl)) (allS (Or.inl (List.mem_of_getElem? (i := 2) rfl)) (allS (Or.inl (List.mem_of_getElem? (i := 3) rfl)) (allS (Or.inl (List.mem_of_getElem? (i := 4) rfl)) all0)))))
  show own_Go p e below (T3.setTop (mkF m 43 #[.val (.ref w0), .val (.ref w12), .val (.ref w12), .unset] [(.int 1)])) _
  refine own_istoreN (pc' := 44) B X3 (Ls' := #[.val (.ref w0), .val (.ref w12), .val (.ref w12), .val (.int 1)]) d11_43 rfl rfl ?_
  refine own_iloadN (pc' := 45) B X3 d11_44 rfl rfl ?_
  refine own_ifNo (pc' := 48) B X3 d11_45 ((if0 _ _).trans (feq (by decide : ¬ ((1 : Int32) = (0 : Int32)))).1) rfl ?_
  refine own_aloadN (pc' := 49) B X3 d11_48 rfl rfl rfl ?_
  refine own_dup (pc' := 50) B X3 d11_49 rfl rfl ?_
  refine own_getfield (pc' := 53) B X3 (host := "") (Or.inl (own_w hw 157 rfl)) Via.refl F_w0_arrived d11_50 rfl ?_
  intro T8 X8
  refine own_iconst (pc' := 54) B X8 (z := (1 : Int32)) d11_53 rfl rfl ?_
  refine own_iadd (pc' := 55) B X8 (z := (1 : Int32)) d11_54 rfl (by decide) ?_
  refine own_putfield (pc' := 58) B X8 (host := "") (Or.inl (own_w hw 157 rfl)) Via.refl F_w0_arrived E_w0 g_w0 (Or.inl (own_w hw 158 rfl)) (own_w hw 1 rfl) (ty := .int) (by decide) rfl rfl d11_55 rfl ?_
  intro T9 h9 X9 W9 F_w0_arrived
  replace K := K.wr W9 (Or.inl (List.mem_of_getElem? (i := 1) rfl))
  refine own_iloadN (pc' := 59) B X9 d11_58 rfl rfl ?_
  exact own_retN B X9 (t := .boolean) (z' := (1 : Int32)) (by simp) (by decide) d11_59 (by decide) (by decide) (⟨y4, y5, hy6, hy7, rfl, K, (E_w0.wr W9), (F_w0_indexes.other W9 (Or.inr (slot_ne (Or.inr (own_w hw 26 rfl)) (Or.inl (own_w hw 158 rfl)) (by decide) (t := (.object "java/util/Map")) (t' := .int) (by decide) (by decide)))), (F_w0_arity.other W9 (Or.inr (slot_ne (Or.inr (own_w hw 30 rfl)) (Or.inl (own_w hw 158 rfl)) (by decide) (t := .int) (t' := .int) (by decide) (by decide)))), (F_w0_rows.other W9 (Or.inr (slot_ne (Or.inl (own_w hw 33 rfl)) (Or.inl (own_w hw 158 rfl)) (by decide) (t := (.array .int)) (t' := .int) (by decide) (by decide)))), (F_w0_members.other W9 (Or.inr (slot_ne (Or.inr (own_w hw 66 rfl)) (Or.inl (own_w hw 158 rfl)) (by decide) (t := (.object "com/example/ordal/ordal/Relation$PositionTable")) (t' := .int) (by decide) (by decide)))), (F_w0_size.other W9 (Or.inr (slot_ne (Or.inl (own_w hw 73 rfl)) (Or.inl (own_w hw 158 rfl)) (by decide) (t := .int) (t' := .int) (by decide) (by decide)))), (F_w0_spellings.other W9 (Or.inr (slot_ne (Or.inl (own_w hw 125 rfl)) (Or.inl (own_w hw 158 rfl)) (by decide) (t := (.array .int)) (t' := .int) (by decide) (by decide)))), F_w0_arrived, (V_w2.other W9 (Ne.symm ne_w0_w2)), (E_w5.wr W9), (F_w5_slots.other W9 (Or.inl (Ne.symm ne_w0_w5))), (F_w5_hashes.other W9 (Or.inl (Ne.symm ne_w0_w5))), (F_w5_keys.other W9 (Or.inl (Ne.symm ne_w0_w5))), (F_w5_count.other W9 (Or.inl (Ne.symm ne_w0_w5))), (F_w5_crowded.other W9 (Or.inl (Ne.symm ne_w0_w5))), (V_w6.other W9 (Ne.symm ne_w0_w6)), (V_w8.other W9 (Ne.symm ne_w0_w8))⟩)
def Q_7 (Z : State) (w0 w1 w2 : Addr) (kw2 : ClassId) (w4 w5 w6 : Addr) (kw6 : ClassId) (w8 : Addr) (kw8 : ClassId) (w10 : Addr) (kw10 : ClassId) (w12 : Addr) (kw12 : ClassId) (p14 p15 : Int32) (h0 : Heap) (n0 : Nat) (v : Option Value) (h : Heap) : Prop :=
  (∃ (y2 : Int32) (y3 : Int32), own_F_hash p14 p15 = y2 ∧ own_F_slot y2 = y3 ∧ v = some (.int 1) ∧ Keep h0 h [w2, w0, w8, w6, w5] ∧ Exa Z h w0 oC2 ∧ Fld Z h w0 oC2 "indexes" "Ljava/util/Map;" (.ref w1) ∧ Fld Z h w0 oC2 "arity" "I" (.int 2) ∧ Fld Z h w0 oC2 "rows" "[I" (.ref w2) ∧ Fld Z h w0 oC2 "members" "Lcom/example/ordal/ordal/Relation$PositionTable;" (.ref w4) ∧ Fld Z h w0 oC2 "size" "I" (.int 1) ∧ Fld Z h w0 oC2 "spellings" "[I" .null ∧ Fld Z h w0 oC2 "arrived" "I" (.int 1) ∧ Arv Z h w2 kw2 .int (16 : Int32) [(.int p14), (.int p15)] (.int 0) ∧ Exa Z h w5 oC1 ∧ Fld Z h w5 oC1 "slots" "[I" (.ref w6) ∧ Fld Z h w5 oC1 "hashes" "[I" (.ref w8) ∧ Fld Z h w5 oC1 "keys" "Lcom/example/ordal/ordal/NumberTable$Keys;" (.ref w4) ∧ Fld Z h w5 oC1 "count" "I" (.int 1) ∧ Fld Z h w5 oC1 "crowded" "Ljava/util/TreeMap;" .null ∧ Arh Z h w6 kw6 .int (16 : Int32) [(y3, (.int 1))] [] (.int 0) ∧ Arv Z h w8 kw8 .int (8 : Int32) [(.int y2)] (.int 0))
theorem rm_7 (l : Launch) (Z : State) (a0 : Array Value) (hw : ∀ d ∈ tables_1, d.before a0 Z = true) (ws : List Jvm.Cond) (w0 w1 w2 : Addr) (kw2 : ClassId) (w4 w5 w6 : Addr) (kw6 : ClassId) (w8 : Addr) (kw8 : ClassId) (w10 : Addr) (kw10 : ClassId) (w12 : Addr) (kw12 : ClassId) (p14 p15 : Int32) (h0 : Heap) (n0 : Nat) (Z0 : n0 ≤ h0.size) (E_w0 : Exa Z h0 w0 oC2) (F_w0_indexes : Fld Z h0 w0 oC2 "indexes" "Ljava/util/Map;" (.ref w1)) (F_w0_arity : Fld Z h0 w0 oC2 "arity" "I" (.int 2)) (F_w0_rows : Fld Z h0 w0 oC2 "rows" "[I" (.ref w2)) (F_w0_members : Fld Z h0 w0 oC2 "members" "Lcom/example/ordal/ordal/Relation$PositionTable;" (.ref w4)) (F_w0_size : Fld Z h0 w0 oC2 "size" "I" (.int 0)) (F_w0_spellings : Fld Z h0 w0 oC2 "spellings" "[I" .null) (F_w0_arrived : Fld Z h0 w0 oC2 "arrived" "I" (.int 0)) (g_w0 : n0 ≤ w0) (E_w1 : Exa Z h0 w1 oC4) (F_w1_size : Fld Z h0 w1 oC4 "size" "I" (.int 0)) (g_w1 : n0 ≤ w1) (V_w2 : Arv Z h0 w2 kw2 .int (16 : Int32) [] (.int 0)) (g_w2 : n0 ≤ w2) (E_w4 : Exa Z h0 w4 oC3) (F_w4_table : Fld Z h0 w4 oC3 "table" "Lcom/example/ordal/ordal/NumberTable;" (.ref w5)) (F_w4_relation : Fld Z h0 w4 oC3 "relation" "Lcom/example/ordal/ordal/Relation;" (.ref w0)) (F_w4_columns : Fld Z h0 w4 oC3 "columns" "[I" (.ref w10)) (g_w4 : n0 ≤ w4) (E_w5 : Exa Z h0 w5 oC1) (F_w5_slots : Fld Z h0 w5 oC1 "slots" "[I" (.ref w6)) (F_w5_hashes : Fld Z h0 w5 oC1 "hashes" "[I" (.ref w8)) (F_w5_keys : Fld Z h0 w5 oC1 "keys" "Lcom/example/ordal/ordal/NumberTable$Keys;" (.ref w4)) (F_w5_count : Fld Z h0 w5 oC1 "count" "I" (.int 0)) (F_w5_crowded : Fld Z h0 w5 oC1 "crowded" "Ljava/util/TreeMap;" .null) (g_w5 : n0 ≤ w5) (V_w6 : Arv Z h0 w6 kw6 .int (16 : Int32) [] (.int 0)) (g_w6 : n0 ≤ w6) (V_w8 : Arv Z h0 w8 kw8 .int (8 : Int32) [] (.int 0)) (g_w8 : n0 ≤ w8) (V_w10 : Arv Z h0 w10 kw10 .int (2 : Int32) [(.int 0), (.int 1)] (.int 0)) (g_w10 : n0 ≤ w10) (E_w12 : Exa Z h0 w12 "[I") (V_w12 : Arv Z h0 w12 kw12 .int (2 : Int32) [(.int p14), (.int p15)] (.int 0)) (g_w12 : n0 ≤ w12) (ne_w0_w1 : w0 ≠ w1) (ne_w0_w2 : w0 ≠ w2) (ne_w0_w4 : w0 ≠ w4) (ne_w0_w5 : w0 ≠ w5) (ne_w0_w6 : w0 ≠ w6) (ne_w0_w8 : w0 ≠ w8) (ne_w0_w10 : w0 ≠ w10) (ne_w0_w12 : w0 ≠ w12) (ne_w1_w2 : w1 ≠ w2) (ne_w1_w4 : w1 ≠ w4) (ne_w1_w5 : w1 ≠ w5) (ne_w1_w6 : w1 ≠ w6) (ne_w1_w8 : w1 ≠ w8) (ne_w1_w10 : w1 ≠ w10) (ne_w1_w12 : w1 ≠ w12) (ne_w2_w4 : w2 ≠ w4) (ne_w2_w5 : w2 ≠ w5) (ne_w2_w6 : w2 ≠ w6) (ne_w2_w8 : w2 ≠ w8) (ne_w2_w10 : w2 ≠ w10) (ne_w2_w12 : w2 ≠ w12) (ne_w4_w5 : w4 ≠ w5) (ne_w4_w6 : w4 ≠ w6) (ne_w4_w8 : w4 ≠ w8) (ne_w4_w10 : w4 ≠ w10) (ne_w4_w12 : w4 ≠ w12) (ne_w5_w6 : w5 ≠ w6) (ne_w5_w8 : w5 ≠ w8) (ne_w5_w10 : w5 ≠ w10) (ne_w5_w12 : w5 ≠ w12) (ne_w6_w8 : w6 ≠ w8) (ne_w6_w10 : w6 ≠ w10) (ne_w6_w12 : w6 ≠ w12) (ne_w8_w10 : w8 ≠ w10) (ne_w8_w12 : w8 ≠ w12) (ne_w10_w12 : w10 ≠ w12) :
    own_M l Z (⟨"com/example/ordal/ordal/Relation", "add", "([I)Z"⟩ : MethodName) prog_12_method_14_code 2 (some .boolean) ws ({ frames := 8, cells := 0, slots := 0, locals := 119 } : Room) #[(.ref w0), (.ref w12)] h0 n0 (Q_7 Z w0 w1 w2 kw2 w4 w5 w6 kw6 w8 kw8 w10 kw10 w12 kw12 p14 p15 h0 n0) := by
  refine own_enter' (Q := Q_7 Z w0 w1 w2 kw2 w4 w5 w6 kw6 w8 kw8 w10 kw10 w12 kw12 p14 p15 h0 n0) (F := fun m => mkF m 0 #[.val (.ref w0), .val (.ref w12)] []) (plainFor_of_name pn_2) ?_
  intro p e s m below meth c s₁ B X0
  have K : Keep h0 h0 [w2, w0, w8, w6, w5] := Keep.refl h0 _
  have lt_w0 := E_w0.lt
  have lt_w1 := E_w1.lt
  have lt_w2 := V_w2.lt
  have lt_w4 := E_w4.lt
  have lt_w5 := E_w5.lt
  have lt_w6 := V_w6.lt
  have lt_w8 := V_w8.lt
  have lt_w10 := V_w10.lt
  have lt_w12 := E_w12.lt
  refine own_aloadN (pc' := 1) B X0 d10_0 rfl rfl rfl ?_
  refine own_aloadN (pc' := 2) B X0 d10_1 rfl rfl rfl ?_
  refine own_aloadN (pc' := 3) B X0 d10_2 rfl rfl rfl ?_
  refine own_callV (pc' := 6) B X0 (own_w hw 83 rfl) (own_w hw 84 rfl) (own_w hw 86 rfl) (own_w hw 85 rfl) (own_w hw 2 rfl) (own_w hw 87 rfl) E_w0 (by decide) [(.ref w12), (.ref w12)] [] (rm_8 l Z a0 hw [] w0 w1 w2 kw2 w4 w5 w6 kw6 w8 kw8 w10 kw10 w12 kw12 (p14) (p15) h0 n0 (Nat.le_trans Z0 K.1) E_w0 F_w0_indexes F_w0_arity F_w0_rows F_w0_members F_w0_size F_w0_spellings F_w0_arrived g_w0 E_w1 F_w1_size g_w1 V_w2 g_w2 E_w4 F_w4_table F_w4_relation F_w4_columns g_w4 E_w5 F_w5_slots F_w5_hashes F_w5_keys F_w5_count F_w5_crowded g_w5 V_w6 g_w6 V_w8 g_w8 V_w10 g_w10 E_w12 V_w12 g_w12 ne_w0_w1 ne_w0_w2 ne_w0_w4 ne_w0_w5 ne_w0_w6 ne_w0_w8 ne_w0_w10 ne_w0_w12 ne_w1_w2 ne_w1_w4 ne_w1_w5 ne_w1_w6 ne_w1_w8 ne_w1_w10 ne_w1_w12 ne_w2_w4 ne_w2_w5 ne_w2_w6 ne_w2_w8 ne_w2_w10 ne_w2_w12 ne_w4_w5 ne_w4_w6 ne_w4_w8 ne_w4_w10 ne_w4_w12 ne_w5_w6 ne_w5_w8 ne_w5_w10 ne_w5_w12 ne_w6_w8 ne_w6_w10 ne_w6_w12 ne_w8_w10 ne_w8_w12 ne_w10_w12) 0 (by decide) (by decide) rfl pd_13 rfl rfl (Nat.le_of_eq rfl) d10_3 rfl (k' := 0) (n' := 0) rfl rfl (by decide) (by decide) ?_
  intro T1 v1 h1 X1 q1
  obtain ⟨y2, y3, hy4, hy5, rfl, K1, E_w0, F_w0_indexes, F_w0_arity, F_w0_rows, F_w0_members, F_w0_size, F_w0_spellings, F_w0_arrived, V_w2, E_w5, F_w5_slots, F_w5_hashes, F_w5_keys, F_w5_count, F_w5_crowded, V_w6, V_w8⟩ := q1
  replace K := K.trans K1 (allS (Or.inl (List.mem_of_getElem? (i := 0) rfl)) (allS (Or.inl (List.mem_of_getElem? (i := 1) rfl)) (allS (Or.inl (List.mem_of_getElem? (i := 2) rfl)) (allS (Or.inl (List.mem_of_getElem? (i := 3) rfl)) (allS (Or.inl (List.mem_of_getElem? (i := 4) rfl)) all0)))))
  show own_Go p e below (T1.setTop (mkF m 6 #[.val (.ref w0), .val (.ref w12)] [(.int 1)])) _
  exact own_retN B X1 (t := .boolean) (z' := (1 : Int32)) (by simp) (by decide) d10_6 (by decide) (by decide) (⟨y2, y3, hy4, hy5, rfl, K, E_w0, F_w0_indexes, F_w0_arity, F_w0_rows, F_w0_members, F_w0_size, F_w0_spellings, F_w0_arrived, V_w2, E_w5, F_w5_slots, F_w5_hashes, F_w5_keys, F_w5_count, F_w5_crowded, V_w6, V_w8⟩)
def Q_27 (Z : State) (w0 w1 : Addr) (kw1 : ClassId) (p3 p4 : Int32) (h0 : Heap) (n0 : Nat) (v : Option Value) (h : Heap) : Prop :=
  (∃ (yF : Int32), own_F_slot p4 = yF ∧ v = some (.int yF) ∧ h0 = h)
theorem rm_27 (l : Launch) (Z : State) (a0 : Array Value) (hw : ∀ d ∈ tables_1, d.before a0 Z = true) (ws : List Jvm.Cond) (w0 w1 : Addr) (kw1 : ClassId) (p3 p4 : Int32) (h0 : Heap) (n0 : Nat) (Z0 : n0 ≤ h0.size) (E_w0 : Exa Z h0 w0 oC1) (F_w0_slots : Fld Z h0 w0 oC1 "slots" "[I" (.ref w1)) (g_w0 : n0 ≤ w0) (V_w1 : Arh Z h0 w1 kw1 .int (16 : Int32) [(p3, (.int 1))] [] (.int 0)) (g_w1 : n0 ≤ w1) (ne_w0_w1 : w0 ≠ w1) :
    own_M l Z (⟨"com/example/ordal/ordal/NumberTable", "slot", "(I)I"⟩ : MethodName) prog_9_method_8_code 2 (some .int) ws ({ frames := 1, cells := 0, slots := 0, locals := 13 } : Room) #[(.ref w0), (.int p4)] h0 n0 (Q_27 Z w0 w1 kw1 p3 p4 h0 n0) := by
  refine own_enter' (Q := Q_27 Z w0 w1 kw1 p3 p4 h0 n0) (F := fun m => mkF m 0 #[.val (.ref w0), .val (.int p4)] []) (plainFor_of_name pn_3) ?_
  intro p e s m below meth c s₁ B X0
  have K : Keep h0 h0 [] := Keep.refl h0 _
  have lt_w0 := E_w0.lt
  have lt_w1 := V_w1.lt
  refine own_iloadN (pc' := 1) B X0 d17_0 rfl rfl ?_
  refine own_callS (pc' := 4) B X0 (own_w hw 115 rfl) (own_w hw 116 rfl) (own_w hw 46 rfl) (own_w hw 117 rfl) (by decide) [(.int p4)] [] (rm_16 l Z a0 hw [] (p4) h0 n0 (Nat.le_trans Z0 K.1) ) 0 (by decide) (by decide) rfl pd_7 rfl rfl (Nat.le_of_eq rfl) d17_1 rfl (k' := 0) (n' := 0) rfl rfl (by decide) (by decide) ?_
  intro T1 v1 h1 X1 q1
  obtain ⟨y2, y3, y4, y5, y6, y7, hy8, hy9, hy10, hy11, hy12, hy13, rfl, rfl⟩ := q1
  show own_Go p e below (T1.setTop (mkF m 4 #[.val (.ref w0), .val (.int p4)] [(.int y7)])) _
  refine own_aloadN (pc' := 5) B X1 d17_4 rfl rfl rfl ?_
  refine own_getfield (pc' := 8) B X1 (host := "") (Or.inl (own_w hw 51 rfl)) Via.refl F_w0_slots d17_5 rfl ?_
  intro T14 X14
  refine own_arraylengthH (pc' := 9) B X14 V_w1 d17_8 rfl ?_
  refine own_iconst (pc' := 10) B X14 (z := (1 : Int32)) d17_9 rfl rfl ?_
  refine own_isub (pc' := 11) B X14 (z := (15 : Int32)) d17_10 rfl (by decide) ?_
  obtain ⟨y15, hy15⟩ : ∃ z : Int32, y7 &&& (15 : Int32) = z := ⟨_, rfl⟩
  refine own_iand (pc' := 12) B X14 d17_11 rfl hy15 ?_
  exact own_retI B X14 d17_12 (by decide) (by decide) ⟨y15, (by subst hy8; subst hy9; subst hy10; subst hy11; subst hy12; subst hy13; subst hy15; rw [own_F_slot]), rfl, rfl⟩
def Q_30 (Z : State) (w0 w1 : Addr) (kw1 : ClassId) (p3 p4 : Int32) (h0 : Heap) (n0 : Nat) (v : Option Value) (h : Heap) : Prop :=
  (v = some (.int p3) ∧ h0 = h)
theorem rm_30 (l : Launch) (Z : State) (a0 : Array Value) (hw : ∀ d ∈ tables_1, d.before a0 Z = true) (ws : List Jvm.Cond) (w0 w1 : Addr) (kw1 : ClassId) (p3 p4 : Int32) (h0 : Heap) (n0 : Nat) (Z0 : n0 ≤ h0.size) (E_w0 : Exa Z h0 w0 oC2) (F_w0_arity : Fld Z h0 w0 oC2 "arity" "I" (.int 2)) (F_w0_rows : Fld Z h0 w0 oC2 "rows" "[I" (.ref w1)) (g_w0 : n0 ≤ w0) (V_w1 : Arv Z h0 w1 kw1 .int (16 : Int32) [(.int p3), (.int p4)] (.int 0)) (g_w1 : n0 ≤ w1) (ne_w0_w1 : w0 ≠ w1) :
    own_M l Z (⟨"com/example/ordal/ordal/Relation", "value", "(II)I"⟩ : MethodName) prog_12_method_5_code 3 (some .int) ws ({ frames := 0, cells := 0, slots := 0, locals := 0 } : Room) #[(.ref w0), (.int 0), (.int 0)] h0 n0 (Q_30 Z w0 w1 kw1 p3 p4 h0 n0) := by
  refine own_enter' (Q := Q_30 Z w0 w1 kw1 p3 p4 h0 n0) (F := fun m => mkF m 0 #[.val (.ref w0), .val (.int 0), .val (.int 0)] []) (plainFor_of_name pn_2) ?_
  intro p e s m below meth c s₁ B X0
  have K : Keep h0 h0 [] := Keep.refl h0 _
  have lt_w0 := E_w0.lt
  have lt_w1 := V_w1.lt
  refine own_aloadN (pc' := 1) B X0 d27_0 rfl rfl rfl ?_
  refine own_getfield (pc' := 4) B X0 (host := "") (Or.inl (own_w hw 32 rfl)) Via.refl F_w0_rows d27_1 rfl ?_
  intro T1 X1
  refine own_iloadN (pc' := 5) B X1 d27_4 rfl rfl ?_
  refine own_aloadN (pc' := 6) B X1 d27_5 rfl rfl rfl ?_
  refine own_getfield (pc' := 9) B X1 (host := "") (Or.inl (own_w hw 29 rfl)) Via.refl F_w0_arity d27_6 rfl ?_
  intro T2 X2
  refine own_imul (pc' := 10) B X2 (z := (0 : Int32)) d27_9 rfl (by decide) ?_
  refine own_iloadN (pc' := 11) B X2 d27_10 rfl rfl ?_
  refine own_iadd (pc' := 12) B X2 (z := (0 : Int32)) d27_11 rfl (by decide) ?_
  refine own_iaload (pc' := 13) B X2 V_w1 (v := (.int p3)) ⟨by decide, by decide⟩ rfl d27_12 rfl ?_
  exact own_retI B X2 d27_13 (by decide) (by decide) (⟨rfl, rfl⟩)
def Q_31 (Z : State) (w0 w1 : Addr) (kw1 : ClassId) (p3 p4 : Int32) (h0 : Heap) (n0 : Nat) (v : Option Value) (h : Heap) : Prop :=
  (v = some (.int p4) ∧ h0 = h)
theorem rm_31 (l : Launch) (Z : State) (a0 : Array Value) (hw : ∀ d ∈ tables_1, d.before a0 Z = true) (ws : List Jvm.Cond) (w0 w1 : Addr) (kw1 : ClassId) (p3 p4 : Int32) (h0 : Heap) (n0 : Nat) (Z0 : n0 ≤ h0.size) (E_w0 : Exa Z h0 w0 oC2) (F_w0_arity : Fld Z h0 w0 oC2 "arity" "I" (.int 2)) (F_w0_rows : Fld Z h0 w0 oC2 "rows" "[I" (.ref w1)) (g_w0 : n0 ≤ w0) (V_w1 : Arv Z h0 w1 kw1 .int (16 : Int32) [(.int p3), (.int p4)] (.int 0)) (g_w1 : n0 ≤ w1) (ne_w0_w1 : w0 ≠ w1) :
    own_M l Z (⟨"com/example/ordal/ordal/Relation", "value", "(II)I"⟩ : MethodName) prog_12_method_5_code 3 (some .int) ws ({ frames := 0, cells := 0, slots := 0, locals := 0 } : Room) #[(.ref w0), (.int 0), (.int 1)] h0 n0 (Q_31 Z w0 w1 kw1 p3 p4 h0 n0) := by
  refine own_enter' (Q := Q_31 Z w0 w1 kw1 p3 p4 h0 n0) (F := fun m => mkF m 0 #[.val (.ref w0), .val (.int 0), .val (.int 1)] []) (plainFor_of_name pn_2) ?_
  intro p e s m below meth c s₁ B X0
  have K : Keep h0 h0 [] := Keep.refl h0 _
  have lt_w0 := E_w0.lt
  have lt_w1 := V_w1.lt
  refine own_aloadN (pc' := 1) B X0 d27_0 rfl rfl rfl ?_
  refine own_getfield (pc' := 4) B X0 (host := "") (Or.inl (own_w hw 32 rfl)) Via.refl F_w0_rows d27_1 rfl ?_
  intro T1 X1
  refine own_iloadN (pc' := 5) B X1 d27_4 rfl rfl ?_
  refine own_aloadN (pc' := 6) B X1 d27_5 rfl rfl rfl ?_
  refine own_getfield (pc' := 9) B X1 (host := "") (Or.inl (own_w hw 29 rfl)) Via.refl F_w0_arity d27_6 rfl ?_
  intro T2 X2
  refine own_imul (pc' := 10) B X2 (z := (0 : Int32)) d27_9 rfl (by decide) ?_
  refine own_iloadN (pc' := 11) B X2 d27_10 rfl rfl ?_
  refine own_iadd (pc' := 12) B X2 (z := (1 : Int32)) d27_11 rfl (by decide) ?_
  refine own_iaload (pc' := 13) B X2 V_w1 (v := (.int p4)) ⟨by decide, by decide⟩ rfl d27_12 rfl ?_
  exact own_retI B X2 d27_13 (by decide) (by decide) (⟨rfl, rfl⟩)
theorem b_own_F_holds {a0 a1 a2 a3 z : Int32} (h : own_F_holds a0 a1 a2 a3 = z) : z &&& (1 : Int32) = z := by subst h; unfold own_F_holds; (repeat' split) <;> decide
def Q_29 (Z : State) (w0 w1 w2 : Addr) (kw2 : ClassId) (p4 p5 : Int32) (w6 : Addr) (kw6 : ClassId) (w8 : Addr) (kw8 : ClassId) (p10 p11 : Int32) (h0 : Heap) (n0 : Nat) (v : Option Value) (h : Heap) : Prop :=
  (∃ (yF : Int32), own_F_holds p4 p5 p10 p11 = yF ∧ v = some (.int yF) ∧ h0 = h)
theorem rm_29 (l : Launch) (Z : State) (a0 : Array Value) (hw : ∀ d ∈ tables_1, d.before a0 Z = true) (ws : List Jvm.Cond) (w0 w1 w2 : Addr) (kw2 : ClassId) (p4 p5 : Int32) (w6 : Addr) (kw6 : ClassId) (w8 : Addr) (kw8 : ClassId) (p10 p11 : Int32) (h0 : Heap) (n0 : Nat) (Z0 : n0 ≤ h0.size) (E_w0 : Exa Z h0 w0 oC3) (F_w0_relation : Fld Z h0 w0 oC3 "relation" "Lcom/example/ordal/ordal/Relation;" (.ref w1)) (F_w0_columns : Fld Z h0 w0 oC3 "columns" "[I" (.ref w6)) (g_w0 : n0 ≤ w0) (E_w1 : Exa Z h0 w1 oC2) (F_w1_arity : Fld Z h0 w1 oC2 "arity" "I" (.int 2)) (F_w1_rows : Fld Z h0 w1 oC2 "rows" "[I" (.ref w2)) (g_w1 : n0 ≤ w1) (V_w2 : Arv Z h0 w2 kw2 .int (16 : Int32) [(.int p4), (.int p5)] (.int 0)) (g_w2 : n0 ≤ w2) (V_w6 : Arv Z h0 w6 kw6 .int (2 : Int32) [(.int 0), (.int 1)] (.int 0)) (g_w6 : n0 ≤ w6) (E_w8 : Exa Z h0 w8 "[I") (V_w8 : Arv Z h0 w8 kw8 .int (2 : Int32) [(.int p10), (.int p11)] (.int 0)) (g_w8 : n0 ≤ w8) (ne_w0_w1 : w0 ≠ w1) (ne_w0_w2 : w0 ≠ w2) (ne_w0_w6 : w0 ≠ w6) (ne_w0_w8 : w0 ≠ w8) (ne_w1_w2 : w1 ≠ w2) (ne_w1_w6 : w1 ≠ w6) (ne_w1_w8 : w1 ≠ w8) (ne_w2_w6 : w2 ≠ w6) (ne_w2_w8 : w2 ≠ w8) (ne_w6_w8 : w6 ≠ w8) :
    own_M l Z (⟨"com/example/ordal/ordal/Relation$PositionTable", "holds", "(I[I)Z"⟩ : MethodName) prog_15_method_6_code 4 (some .boolean) ws ({ frames := 1, cells := 0, slots := 0, locals := 14 } : Room) #[(.ref w0), (.int 0), (.ref w8)] h0 n0 (Q_29 Z w0 w1 w2 kw2 p4 p5 w6 kw6 w8 kw8 p10 p11 h0 n0) := by
  refine own_enter' (Q := Q_29 Z w0 w1 w2 kw2 p4 p5 w6 kw6 w8 kw8 p10 p11 h0 n0) (F := fun m => mkF m 0 #[.val (.ref w0), .val (.int 0), .val (.ref w8), .unset] []) (plainFor_of_name pn_4) ?_
  intro p e s m below meth c s₁ B X0
  have K : Keep h0 h0 [] := Keep.refl h0 _
  have lt_w0 := E_w0.lt
  have lt_w1 := E_w1.lt
  have lt_w2 := V_w2.lt
  have lt_w6 := V_w6.lt
  have lt_w8 := E_w8.lt
  refine own_iconst (pc' := 1) B X0 (z := (0 : Int32)) d26_0 rfl rfl ?_
  refine own_istoreN (pc' := 2) B X0 (Ls' := #[.val (.ref w0), .val (.int 0), .val (.ref w8), .val (.int 0)]) d26_1 rfl rfl ?_
  refine own_iloadN (pc' := 3) B X0 d26_2 rfl rfl ?_
  refine own_aloadN (pc' := 4) B X0 d26_3 rfl rfl rfl ?_
  refine own_getfield (pc' := 7) B X0 (host := "") (Or.inl (own_w hw 61 rfl)) Via.refl F_w0_columns d26_4 rfl ?_
  intro T1 X1
  refine own_arraylength (pc' := 8) B X1 V_w6 d26_7 rfl ?_
  refine own_icmpNo (pc' := 11) B X1 d26_8 (tlt (by decide : (0 : Int32) < (2 : Int32))).2.1 rfl ?_
  refine own_aloadN (pc' := 12) B X1 d26_11 rfl rfl rfl ?_
  refine own_getfield (pc' := 15) B X1 (host := "") (Or.inl (own_w hw 59 rfl)) Via.refl F_w0_relation d26_12 rfl ?_
  intro T2 X2
  refine own_iloadN (pc' := 16) B X2 d26_15 rfl rfl ?_
  refine own_aloadN (pc' := 17) B X2 d26_16 rfl rfl rfl ?_
  refine own_getfield (pc' := 20) B X2 (host := "") (Or.inl (own_w hw 61 rfl)) Via.refl F_w0_columns d26_17 rfl ?_
  intro T3 X3
  refine own_iloadN (pc' := 21) B X3 d26_20 rfl rfl ?_
  refine own_iaload (pc' := 22) B X3 V_w6 (v := (.int 0)) ⟨by decide, by decide⟩ rfl d26_21 rfl ?_
  refine own_callV (pc' := 25) B X3 (own_w hw 178 rfl) (own_w hw 179 rfl) (own_w hw 181 rfl) (own_w hw 180 rfl) (own_w hw 2 rfl) (own_w hw 182 rfl) E_w1 (by decide) [(.int 0), (.int 0)] [] (rm_30 l Z a0 hw [] w1 w2 kw2 (p4) (p5) h0 n0 (Nat.le_trans Z0 K.1) E_w1 F_w1_arity F_w1_rows g_w1 V_w2 g_w2 ne_w1_w2) 0 (by decide) (by decide) rfl pd_5 rfl rfl (Nat.le_of_eq rfl) d26_22 rfl (k' := 0) (n' := 0) rfl rfl (by decide) (by decide) ?_
  intro T4 v4 h4 X4 q4
  obtain ⟨rfl, rfl⟩ := q4
  show own_Go p e below (T4.setTop (mkF m 25 #[.val (.ref w0), .val (.int 0), .val (.ref w8), .val (.int 0)] [(.int p4)])) _
  refine own_aloadN (pc' := 26) B X4 d26_25 rfl rfl rfl ?_
  refine own_iloadN (pc' := 27) B X4 d26_26 rfl rfl ?_
  refine own_iaload (pc' := 28) B X4 V_w8 (v := (.int p10)) ⟨by decide, by decide⟩ rfl d26_27 rfl ?_
  by_cases c5 : p4 = p10
  refine own_icmpYes (pc' := 33) B X4 d26_28 (teq c5).1 (by decide) rfl ?_
  refine own_iinc (pc' := 36) B X4 (Ls' := #[.val (.ref w0), .val (.int 0), .val (.ref w8), .val (.int 1)]) d26_33 rfl rfl (z := (1 : Int32)) (by decide) rfl ?_
  refine own_goto (pc' := 2) B X4 d26_36 (by decide) rfl ?_
  refine own_iloadN (pc' := 3) B X4 d26_2 rfl rfl ?_
  refine own_aloadN (pc' := 4) B X4 d26_3 rfl rfl rfl ?_
  refine own_getfield (pc' := 7) B X4 (host := "") (Or.inl (own_w hw 61 rfl)) Via.refl F_w0_columns d26_4 rfl ?_
  intro T6 X6
  refine own_arraylength (pc' := 8) B X6 V_w6 d26_7 rfl ?_
  refine own_icmpNo (pc' := 11) B X6 d26_8 (tlt (by decide : (1 : Int32) < (2 : Int32))).2.1 rfl ?_
  refine own_aloadN (pc' := 12) B X6 d26_11 rfl rfl rfl ?_
  refine own_getfield (pc' := 15) B X6 (host := "") (Or.inl (own_w hw 59 rfl)) Via.refl F_w0_relation d26_12 rfl ?_
  intro T7 X7
  refine own_iloadN (pc' := 16) B X7 d26_15 rfl rfl ?_
  refine own_aloadN (pc' := 17) B X7 d26_16 rfl rfl rfl ?_
  refine own_getfield (pc' := 20) B X7 (host := "") (Or.inl (own_w hw 61 rfl)) Via.refl F_w0_columns d26_17 rfl ?_
  intro T8 X8
  refine own_iloadN (pc' := 21) B X8 d26_20 rfl rfl ?_
  refine own_iaload (pc' := 22) B X8 V_w6 (v := (.int 1)) ⟨by decide, by decide⟩ rfl d26_21 rfl ?_
  refine own_callV (pc' := 25) B X8 (own_w hw 178 rfl) (own_w hw 179 rfl) (own_w hw 181 rfl) (own_w hw 180 rfl) (own_w hw 2 rfl) (own_w hw 182 rfl) E_w1 (by decide) [(.int 0), (.int 1)] [] (rm_31 l Z a0 hw [] w1 w2 kw2 (p4) (p5) h0 n0 (Nat.le_trans Z0 K.1) E_w1 F_w1_arity F_w1_rows g_w1 V_w2 g_w2 ne_w1_w2) 0 (by decide) (by decide) rfl pd_5 rfl rfl (Nat.le_of_eq rfl) d26_22 rfl (k' := 0) (n' := 0) rfl rfl (by decide) (by decide) ?_
  intro T9 v9 h9 X9 q9
  obtain ⟨rfl, rfl⟩ := q9
  show own_Go p e below (T9.setTop (mkF m 25 #[.val (.ref w0), .val (.int 0), .val (.ref w8), .val (.int 1)] [(.int p5)])) _
  refine own_aloadN (pc' := 26) B X9 d26_25 rfl rfl rfl ?_
  refine own_iloadN (pc' := 27) B X9 d26_26 rfl rfl ?_
  refine own_iaload (pc' := 28) B X9 V_w8 (v := (.int p11)) ⟨by decide, by decide⟩ rfl d26_27 rfl ?_
  by_cases c10 : p5 = p11
  refine own_icmpYes (pc' := 33) B X9 d26_28 (teq c10).1 (by decide) rfl ?_
  refine own_iinc (pc' := 36) B X9 (Ls' := #[.val (.ref w0), .val (.int 0), .val (.ref w8), .val (.int 2)]) d26_33 rfl rfl (z := (2 : Int32)) (by decide) rfl ?_
  refine own_goto (pc' := 2) B X9 d26_36 (by decide) rfl ?_
  refine own_iloadN (pc' := 3) B X9 d26_2 rfl rfl ?_
  refine own_aloadN (pc' := 4) B X9 d26_3 rfl rfl rfl ?_
  refine own_getfield (pc' := 7) B X9 (host := "") (Or.inl (own_w hw 61 rfl)) Via.refl F_w0_columns d26_4 rfl ?_
  intro T11 X11
  refine own_arraylength (pc' := 8) B X11 V_w6 d26_7 rfl ?_
  refine own_icmpYes (pc' := 39) B X11 d26_8 (flt (by decide : ¬ ((2 : Int32) < (2 : Int32)))).2.1 (by decide) rfl ?_
  refine own_iconst (pc' := 40) B X11 (z := (1 : Int32)) d26_39 rfl rfl ?_
  exact own_retN B X11 (t := .boolean) (z' := (1 : Int32)) (by simp) (by decide) d26_40 (by decide) (by decide) ⟨(1 : Int32), (by rw [own_F_holds, if_pos c5, if_pos c10]), rfl, rfl⟩
  refine own_icmpNo (pc' := 31) B X9 d26_28 (feq c10).1 rfl ?_
  refine own_iconst (pc' := 32) B X9 (z := (0 : Int32)) d26_31 rfl rfl ?_
  exact own_retN B X9 (t := .boolean) (z' := (0 : Int32)) (by simp) (by decide) d26_32 (by decide) (by decide) ⟨(0 : Int32), (by rw [own_F_holds, if_pos c5, if_neg c10]), rfl, rfl⟩
  refine own_icmpNo (pc' := 31) B X4 d26_28 (feq c5).1 rfl ?_
  refine own_iconst (pc' := 32) B X4 (z := (0 : Int32)) d26_31 rfl rfl ?_
  exact own_retN B X4 (t := .boolean) (z' := (0 : Int32)) (by simp) (by decide) d26_32 (by decide) (by decide) ⟨(0 : Int32), (by rw [own_F_holds, if_neg c5]), rfl, rfl⟩
def Q_28 (Z : State) (w0 w1 w2 : Addr) (kw2 : ClassId) (p4 p5 : Int32) (w6 : Addr) (kw6 : ClassId) (w8 : Addr) (kw8 : ClassId) (p10 p11 : Int32) (h0 : Heap) (n0 : Nat) (v : Option Value) (h : Heap) : Prop :=
  (∃ (y3 : Int32), own_F_holds p4 p5 p10 p11 = y3 ∧ v = some (.int y3) ∧ h0 = h)
theorem rm_28 (l : Launch) (Z : State) (a0 : Array Value) (hw : ∀ d ∈ tables_1, d.before a0 Z = true) (ws : List Jvm.Cond) (w0 w1 w2 : Addr) (kw2 : ClassId) (p4 p5 : Int32) (w6 : Addr) (kw6 : ClassId) (w8 : Addr) (kw8 : ClassId) (p10 p11 : Int32) (h0 : Heap) (n0 : Nat) (Z0 : n0 ≤ h0.size) (E_w0 : Exa Z h0 w0 oC3) (F_w0_relation : Fld Z h0 w0 oC3 "relation" "Lcom/example/ordal/ordal/Relation;" (.ref w1)) (F_w0_columns : Fld Z h0 w0 oC3 "columns" "[I" (.ref w6)) (g_w0 : n0 ≤ w0) (E_w1 : Exa Z h0 w1 oC2) (F_w1_arity : Fld Z h0 w1 oC2 "arity" "I" (.int 2)) (F_w1_rows : Fld Z h0 w1 oC2 "rows" "[I" (.ref w2)) (g_w1 : n0 ≤ w1) (V_w2 : Arv Z h0 w2 kw2 .int (16 : Int32) [(.int p4), (.int p5)] (.int 0)) (g_w2 : n0 ≤ w2) (V_w6 : Arv Z h0 w6 kw6 .int (2 : Int32) [(.int 0), (.int 1)] (.int 0)) (g_w6 : n0 ≤ w6) (E_w8 : Exa Z h0 w8 "[I") (V_w8 : Arv Z h0 w8 kw8 .int (2 : Int32) [(.int p10), (.int p11)] (.int 0)) (g_w8 : n0 ≤ w8) (ne_w0_w1 : w0 ≠ w1) (ne_w0_w2 : w0 ≠ w2) (ne_w0_w6 : w0 ≠ w6) (ne_w0_w8 : w0 ≠ w8) (ne_w1_w2 : w1 ≠ w2) (ne_w1_w6 : w1 ≠ w6) (ne_w1_w8 : w1 ≠ w8) (ne_w2_w6 : w2 ≠ w6) (ne_w2_w8 : w2 ≠ w8) (ne_w6_w8 : w6 ≠ w8) :
    own_M l Z (⟨"com/example/ordal/ordal/Relation$PositionTable", "holds", "(ILjava/lang/Object;)Z"⟩ : MethodName) prog_15_method_13_code 3 (some .boolean) ws ({ frames := 2, cells := 0, slots := 0, locals := 29 } : Room) #[(.ref w0), (.int 0), (.ref w8)] h0 n0 (Q_28 Z w0 w1 w2 kw2 p4 p5 w6 kw6 w8 kw8 p10 p11 h0 n0) := by
  refine own_enter' (Q := Q_28 Z w0 w1 w2 kw2 p4 p5 w6 kw6 w8 kw8 p10 p11 h0 n0) (F := fun m => mkF m 0 #[.val (.ref w0), .val (.int 0), .val (.ref w8)] []) (plainFor_of_name pn_4) ?_
  intro p e s m below meth c s₁ B X0
  have K : Keep h0 h0 [] := Keep.refl h0 _
  have lt_w0 := E_w0.lt
  have lt_w1 := E_w1.lt
  have lt_w2 := V_w2.lt
  have lt_w6 := V_w6.lt
  have lt_w8 := E_w8.lt
  refine own_aloadN (pc' := 1) B X0 d25_0 rfl rfl rfl ?_
  refine own_iloadN (pc' := 2) B X0 d25_1 rfl rfl ?_
  refine own_aloadN (pc' := 3) B X0 d25_2 rfl rfl rfl ?_
  refine own_checkcast (pc' := 6) B X0 (own_w hw 171 rfl) (Ins.self E_w8) d25_3 rfl ?_
  intro T1 X1
  refine own_callV (pc' := 9) B X1 (own_w hw 173 rfl) (own_w hw 174 rfl) (own_w hw 176 rfl) (own_w hw 175 rfl) (own_w hw 36 rfl) (own_w hw 177 rfl) E_w0 (by decide) [(.int 0), (.ref w8)] [] (rm_29 l Z a0 hw [] w0 w1 w2 kw2 (p4) (p5) w6 kw6 w8 kw8 (p10) (p11) h0 n0 (Nat.le_trans Z0 K.1) E_w0 F_w0_relation F_w0_columns g_w0 E_w1 F_w1_arity F_w1_rows g_w1 V_w2 g_w2 V_w6 g_w6 E_w8 V_w8 g_w8 ne_w0_w1 ne_w0_w2 ne_w0_w6 ne_w0_w8 ne_w1_w2 ne_w1_w6 ne_w1_w8 ne_w2_w6 ne_w2_w8 ne_w6_w8) 0 (by decide) (by decide) rfl pd_15 rfl rfl (Nat.le_of_eq rfl) d25_6 rfl (k' := 0) (n' := 0) rfl rfl (by decide) (by decide) ?_
  intro T2 v2 h2 X2 q2
  obtain ⟨y3, hy4, rfl, rfl⟩ := q2
  show own_Go p e below (T2.setTop (mkF m 9 #[.val (.ref w0), .val (.int 0), .val (.ref w8)] [(.int y3)])) _
  exact own_retN B X2 (t := .boolean) (z' := y3) (by simp) (b_own_F_holds hy4) d25_9 (by decide) (by decide) (⟨y3, hy4, rfl, rfl⟩)
def Q_32 (Z : State) (w0 w1 : Addr) (kw1 : ClassId) (p3 p4 : Int32) (h0 : Heap) (n0 : Nat) (v : Option Value) (h : Heap) : Prop :=
  (∃ (yF : Int32), own_F_next p4 = yF ∧ v = some (.int yF) ∧ h0 = h)
theorem rm_32 (l : Launch) (Z : State) (a0 : Array Value) (hw : ∀ d ∈ tables_1, d.before a0 Z = true) (ws : List Jvm.Cond) (w0 w1 : Addr) (kw1 : ClassId) (p3 p4 : Int32) (h0 : Heap) (n0 : Nat) (Z0 : n0 ≤ h0.size) (E_w0 : Exa Z h0 w0 oC1) (F_w0_slots : Fld Z h0 w0 oC1 "slots" "[I" (.ref w1)) (g_w0 : n0 ≤ w0) (V_w1 : Arh Z h0 w1 kw1 .int (16 : Int32) [(p3, (.int 1))] [] (.int 0)) (g_w1 : n0 ≤ w1) (ne_w0_w1 : w0 ≠ w1) :
    own_M l Z (⟨"com/example/ordal/ordal/NumberTable", "next", "(I)I"⟩ : MethodName) prog_9_method_9_code 2 (some .int) ws ({ frames := 0, cells := 0, slots := 0, locals := 0 } : Room) #[(.ref w0), (.int p4)] h0 n0 (Q_32 Z w0 w1 kw1 p3 p4 h0 n0) := by
  refine own_enter' (Q := Q_32 Z w0 w1 kw1 p3 p4 h0 n0) (F := fun m => mkF m 0 #[.val (.ref w0), .val (.int p4)] []) (plainFor_of_name pn_3) ?_
  intro p e s m below meth c s₁ B X0
  have K : Keep h0 h0 [] := Keep.refl h0 _
  have lt_w0 := E_w0.lt
  have lt_w1 := V_w1.lt
  refine own_iloadN (pc' := 1) B X0 d28_0 rfl rfl ?_
  refine own_iconst (pc' := 2) B X0 (z := (1 : Int32)) d28_1 rfl rfl ?_
  obtain ⟨y1, hy1⟩ : ∃ z : Int32, p4 + (1 : Int32) = z := ⟨_, rfl⟩
  refine own_iadd (pc' := 3) B X0 d28_2 rfl hy1 ?_
  refine own_aloadN (pc' := 4) B X0 d28_3 rfl rfl rfl ?_
  refine own_getfield (pc' := 7) B X0 (host := "") (Or.inl (own_w hw 51 rfl)) Via.refl F_w0_slots d28_4 rfl ?_
  intro T2 X2
  refine own_arraylengthH (pc' := 8) B X2 V_w1 d28_7 rfl ?_
  refine own_iconst (pc' := 9) B X2 (z := (1 : Int32)) d28_8 rfl rfl ?_
  refine own_isub (pc' := 10) B X2 (z := (15 : Int32)) d28_9 rfl (by decide) ?_
  obtain ⟨y3, hy3⟩ : ∃ z : Int32, y1 &&& (15 : Int32) = z := ⟨_, rfl⟩
  refine own_iand (pc' := 11) B X2 d28_10 rfl hy3 ?_
  exact own_retI B X2 d28_11 (by decide) (by decide) ⟨y3, (by subst hy1; subst hy3; rw [own_F_next]), rfl, rfl⟩
theorem ax_0 {F N : Int32 → Int32} {H : Int32 → Int32 → Int32} (nn : ∀ x, ¬ N x = x) {a0 a1 a2 a3 a4 a5 a6 a7 a8 a9 : Int32} (e0 : H a1 a2 = a0) (e1 : F a0 = a3) (e2 : H a5 a6 = a4) (e3 : F a4 = a7) (e4 : a7 = a3) (e5 : a0 = a4) (e6 : own_F_holds a1 a2 a5 a6 = a8) (e7 : a8 = (0 : Int32)) (e8 : N a7 = a9) : ¬ (a9 = a3) := by grind [own_F_look1, own_F_look2, own_G_put2, own_F_holds]
theorem ax_1 {F N : Int32 → Int32} {H : Int32 → Int32 → Int32} (nn : ∀ x, ¬ N x = x) {a0 a1 a2 a3 a4 a5 a6 a7 a8 a9 : Int32} (e0 : H a1 a2 = a0) (e1 : F a0 = a3) (e2 : H a5 a6 = a4) (e3 : F a4 = a7) (e4 : a7 = a3) (e5 : a0 = a4) (e6 : own_F_holds a1 a2 a5 a6 = a8) (e7 : a8 = (0 : Int32)) (e8 : N a7 = a9) (e9 : ¬ (a9 = a3)) : own_F_look1 a1 a2 a5 a6 = (-1 : Int32) := by grind [own_F_look1, own_F_look2, own_G_put2, own_F_holds]
theorem ax_2 {F N : Int32 → Int32} {H : Int32 → Int32 → Int32} (nn : ∀ x, ¬ N x = x) {a0 a1 a2 a3 a4 a5 a6 a7 a8 : Int32} (e0 : H a1 a2 = a0) (e1 : F a0 = a3) (e2 : H a5 a6 = a4) (e3 : F a4 = a7) (e4 : a7 = a3) (e5 : a0 = a4) (e6 : own_F_holds a1 a2 a5 a6 = a8) (e7 : ¬ (a8 = (0 : Int32))) : own_F_look1 a1 a2 a5 a6 = (0 : Int32) := by grind [own_F_look1, own_F_look2, own_G_put2, own_F_holds]
theorem ax_3 {F N : Int32 → Int32} {H : Int32 → Int32 → Int32} (nn : ∀ x, ¬ N x = x) {a0 a1 a2 a3 a4 a5 a6 a7 a8 : Int32} (e0 : H a1 a2 = a0) (e1 : F a0 = a3) (e2 : H a5 a6 = a4) (e3 : F a4 = a7) (e4 : a7 = a3) (e5 : ¬ (a0 = a4)) (e6 : N a7 = a8) : ¬ (a8 = a3) := by grind [own_F_look1, own_F_look2, own_G_put2, own_F_holds]
theorem ax_4 {F N : Int32 → Int32} {H : Int32 → Int32 → Int32} (nn : ∀ x, ¬ N x = x) {a0 a1 a2 a3 a4 a5 a6 a7 a8 : Int32} (e0 : H a1 a2 = a0) (e1 : F a0 = a3) (e2 : H a5 a6 = a4) (e3 : F a4 = a7) (e4 : a7 = a3) (e5 : ¬ (a0 = a4)) (e6 : N a7 = a8) (e7 : ¬ (a8 = a3)) : own_F_look1 a1 a2 a5 a6 = (-1 : Int32) := by grind [own_F_look1, own_F_look2, own_G_put2, own_F_holds]
theorem ax_5 {F N : Int32 → Int32} {H : Int32 → Int32 → Int32} (nn : ∀ x, ¬ N x = x) {a0 a1 a2 a3 a4 a5 a6 a7 : Int32} (e0 : H a1 a2 = a0) (e1 : F a0 = a3) (e2 : H a5 a6 = a4) (e3 : F a4 = a7) (e4 : ¬ (a7 = a3)) : own_F_look1 a1 a2 a5 a6 = (-1 : Int32) := by grind [own_F_look1, own_F_look2, own_G_put2, own_F_holds]
def Q_26 (Z : State) (w0 w1 : Addr) (kw1 : ClassId) (p3 : Int32) (w4 : Addr) (kw4 : ClassId) (p6 : Int32) (w7 w8 w9 : Addr) (kw9 : ClassId) (p11 p12 : Int32) (w13 : Addr) (kw13 : ClassId) (p15 : Int32) (w16 : Addr) (kw16 : ClassId) (p18 p19 : Int32) (h0 : Heap) (n0 : Nat) (v : Option Value) (h : Heap) : Prop :=
  (∃ (yF : Int32), own_F_look1 p11 p12 p18 p19 = yF ∧ v = some (.int yF) ∧ h0 = h)
theorem rm_26 (l : Launch) (Z : State) (a0 : Array Value) (hw : ∀ d ∈ tables_1, d.before a0 Z = true) (ws : List Jvm.Cond) (w0 w1 : Addr) (kw1 : ClassId) (p3 : Int32) (w4 : Addr) (kw4 : ClassId) (p6 : Int32) (w7 w8 w9 : Addr) (kw9 : ClassId) (p11 p12 : Int32) (w13 : Addr) (kw13 : ClassId) (p15 : Int32) (w16 : Addr) (kw16 : ClassId) (p18 p19 : Int32) (h0 : Heap) (n0 : Nat) (Z0 : n0 ≤ h0.size) (E_w0 : Exa Z h0 w0 oC1) (F_w0_slots : Fld Z h0 w0 oC1 "slots" "[I" (.ref w1)) (F_w0_hashes : Fld Z h0 w0 oC1 "hashes" "[I" (.ref w4)) (F_w0_keys : Fld Z h0 w0 oC1 "keys" "Lcom/example/ordal/ordal/NumberTable$Keys;" (.ref w7)) (F_w0_crowded : Fld Z h0 w0 oC1 "crowded" "Ljava/util/TreeMap;" .null) (g_w0 : n0 ≤ w0) (V_w1 : Arh Z h0 w1 kw1 .int (16 : Int32) [(p3, (.int 1))] [] (.int 0)) (g_w1 : n0 ≤ w1) (V_w4 : Arv Z h0 w4 kw4 .int (8 : Int32) [(.int p6)] (.int 0)) (g_w4 : n0 ≤ w4) (E_w7 : Exa Z h0 w7 oC3) (F_w7_table : Fld Z h0 w7 oC3 "table" "Lcom/example/ordal/ordal/NumberTable;" (.ref w0)) (F_w7_relation : Fld Z h0 w7 oC3 "relation" "Lcom/example/ordal/ordal/Relation;" (.ref w8)) (F_w7_columns : Fld Z h0 w7 oC3 "columns" "[I" (.ref w13)) (g_w7 : n0 ≤ w7) (E_w8 : Exa Z h0 w8 oC2) (F_w8_arity : Fld Z h0 w8 oC2 "arity" "I" (.int 2)) (F_w8_rows : Fld Z h0 w8 oC2 "rows" "[I" (.ref w9)) (g_w8 : n0 ≤ w8) (V_w9 : Arv Z h0 w9 kw9 .int (16 : Int32) [(.int p11), (.int p12)] (.int 0)) (g_w9 : n0 ≤ w9) (V_w13 : Arv Z h0 w13 kw13 .int (2 : Int32) [(.int 0), (.int 1)] (.int 0)) (g_w13 : n0 ≤ w13) (E_w16 : Exa Z h0 w16 "[I") (V_w16 : Arv Z h0 w16 kw16 .int (2 : Int32) [(.int p18), (.int p19)] (.int 0)) (g_w16 : n0 ≤ w16) (ne_w0_w1 : w0 ≠ w1) (ne_w0_w4 : w0 ≠ w4) (ne_w0_w7 : w0 ≠ w7) (ne_w0_w8 : w0 ≠ w8) (ne_w0_w9 : w0 ≠ w9) (ne_w0_w13 : w0 ≠ w13) (ne_w0_w16 : w0 ≠ w16) (ne_w1_w4 : w1 ≠ w4) (ne_w1_w7 : w1 ≠ w7) (ne_w1_w8 : w1 ≠ w8) (ne_w1_w9 : w1 ≠ w9) (ne_w1_w13 : w1 ≠ w13) (ne_w1_w16 : w1 ≠ w16) (ne_w4_w7 : w4 ≠ w7) (ne_w4_w8 : w4 ≠ w8) (ne_w4_w9 : w4 ≠ w9) (ne_w4_w13 : w4 ≠ w13) (ne_w4_w16 : w4 ≠ w16) (ne_w7_w8 : w7 ≠ w8) (ne_w7_w9 : w7 ≠ w9) (ne_w7_w13 : w7 ≠ w13) (ne_w7_w16 : w7 ≠ w16) (ne_w8_w9 : w8 ≠ w9) (ne_w8_w13 : w8 ≠ w13) (ne_w8_w16 : w8 ≠ w16) (ne_w9_w13 : w9 ≠ w13) (ne_w9_w16 : w9 ≠ w16) (ne_w13_w16 : w13 ≠ w16) (hp0 : own_F_hash p11 p12 = p6) (hp1 : own_F_slot p6 = p3) (hp2 : own_F_hash p18 p19 = p15) :
    own_M l Z (⟨"com/example/ordal/ordal/NumberTable", "find", "(ILjava/lang/Object;)I"⟩ : MethodName) prog_9_method_2_code 7 (some .int) ws ({ frames := 3, cells := 0, slots := 0, locals := 43 } : Room) #[(.ref w0), (.int p15), (.ref w16)] h0 n0 (Q_26 Z w0 w1 kw1 p3 w4 kw4 p6 w7 w8 w9 kw9 p11 p12 w13 kw13 p15 w16 kw16 p18 p19 h0 n0) := by
  refine own_enter' (Q := Q_26 Z w0 w1 kw1 p3 w4 kw4 p6 w7 w8 w9 kw9 p11 p12 w13 kw13 p15 w16 kw16 p18 p19 h0 n0) (F := fun m => mkF m 0 #[.val (.ref w0), .val (.int p15), .val (.ref w16), .unset, .unset, .unset, .unset] []) (plainFor_of_name pn_3) ?_
  intro p e s m below meth c s₁ B X0
  have K : Keep h0 h0 [] := Keep.refl h0 _
  have lt_w0 := E_w0.lt
  have lt_w1 := V_w1.lt
  have lt_w4 := V_w4.lt
  have lt_w7 := E_w7.lt
  have lt_w8 := E_w8.lt
  have lt_w9 := V_w9.lt
  have lt_w13 := V_w13.lt
  have lt_w16 := E_w16.lt
  refine own_aloadN (pc' := 1) B X0 d16_0 rfl rfl rfl ?_
  refine own_iloadN (pc' := 2) B X0 d16_1 rfl rfl ?_
  refine own_callP (pc' := 5) B X0 (own_w hw 111 rfl) (own_w hw 112 rfl) (own_w hw 113 rfl) (own_w hw 45 rfl) (own_w hw 46 rfl) (own_w hw 114 rfl) E_w0 (by decide) [(.int p15)] [] (rm_27 l Z a0 hw [] w0 w1 kw1 (p3) (p15) h0 n0 (Nat.le_trans Z0 K.1) E_w0 F_w0_slots g_w0 V_w1 g_w1 ne_w0_w1) 0 (by decide) (by decide) rfl pd_7 rfl rfl (Nat.le_of_eq rfl) d16_2 rfl (k' := 0) (n' := 0) rfl rfl (by decide) (by decide) ?_
  intro T1 v1 h1 X1 q1
  obtain ⟨y2, hy3, rfl, rfl⟩ := q1
  show own_Go p e below (T1.setTop (mkF m 5 #[.val (.ref w0), .val (.int p15), .val (.ref w16), .unset, .unset, .unset, .unset] [(.int y2)])) _
  refine own_istoreN (pc' := 6) B X1 (Ls' := #[.val (.ref w0), .val (.int p15), .val (.ref w16), .val (.int y2), .unset, .unset, .unset]) d16_5 rfl rfl ?_
  refine own_iconst (pc' := 7) B X1 (z := (0 : Int32)) d16_6 rfl rfl ?_
  refine own_istore (pc' := 9) B X1 (Ls' := #[.val (.ref w0), .val (.int p15), .val (.ref w16), .val (.int y2), .val (.int 0), .unset, .unset]) d16_7 rfl rfl ?_
  refine own_iconst (pc' := 10) B X1 (z := (0 : Int32)) d16_9 rfl rfl ?_
  refine own_istore (pc' := 12) B X1 (Ls' := #[.val (.ref w0), .val (.int p15), .val (.ref w16), .val (.int y2), .val (.int 0), .val (.int 0), .unset]) d16_10 rfl rfl ?_
  refine own_iload (pc' := 14) B X1 d16_12 rfl rfl ?_
  refine own_bipush (pc' := 16) B X1 (z := (32 : Int32)) d16_14 rfl (by decide) ?_
  refine own_icmpNo (pc' := 19) B X1 d16_16 (tlt (by decide : (0 : Int32) < (32 : Int32))).2.1 rfl ?_
  refine own_iload (pc' := 21) B X1 d16_19 rfl rfl ?_
  refine own_iconst (pc' := 22) B X1 (z := (4 : Int32)) d16_21 rfl rfl ?_
  refine own_icmpNo (pc' := 25) B X1 d16_22 (tlt (by decide : (0 : Int32) < (4 : Int32))).2.1 rfl ?_
  refine own_aloadN (pc' := 26) B X1 d16_25 rfl rfl rfl ?_
  refine own_getfield (pc' := 29) B X1 (host := "") (Or.inl (own_w hw 51 rfl)) Via.refl F_w0_slots d16_26 rfl ?_
  intro T4 X4
  refine own_iloadN (pc' := 30) B X4 d16_29 rfl rfl ?_
  by_cases c7 : y2 = p3
  refine own_ialoadH (pc' := 31) B X4 V_w1 (v := (.int 1)) ⟨(own_slot_ge hy3), (own_slot_lt hy3)⟩ (getH_hit (own_slot_ge hy3) c7) d16_30 rfl ?_
  refine own_iconst (pc' := 32) B X4 (z := (1 : Int32)) d16_31 rfl rfl ?_
  refine own_isub (pc' := 33) B X4 (z := (0 : Int32)) d16_32 rfl (by decide) ?_
  refine own_istore (pc' := 35) B X4 (Ls' := #[.val (.ref w0), .val (.int p15), .val (.ref w16), .val (.int y2), .val (.int 0), .val (.int 0), .val (.int 0)]) d16_33 rfl rfl ?_
  refine own_iload (pc' := 37) B X4 d16_35 rfl rfl ?_
  refine own_ifYes (pc' := 42) B X4 d16_37 ((if0 _ _).trans (flt (by decide : ¬ ((0 : Int32) < (0 : Int32)))).2.1) (by decide) rfl ?_
  refine own_aloadN (pc' := 43) B X4 d16_42 rfl rfl rfl ?_
  refine own_getfield (pc' := 46) B X4 (host := "") (Or.inl (own_w hw 53 rfl)) Via.refl F_w0_hashes d16_43 rfl ?_
  intro T8 X8
  refine own_iload (pc' := 48) B X8 d16_46 rfl rfl ?_
  refine own_iaload (pc' := 49) B X8 V_w4 (v := (.int p6)) ⟨by decide, by decide⟩ rfl d16_48 rfl ?_
  refine own_iloadN (pc' := 50) B X8 d16_49 rfl rfl ?_
  by_cases c9 : p6 = p15
  refine own_icmpNo (pc' := 53) B X8 d16_50 (teq c9).2 rfl ?_
  refine own_aloadN (pc' := 54) B X8 d16_53 rfl rfl rfl ?_
  refine own_getfield (pc' := 57) B X8 (host := "") (Or.inl (own_w hw 55 rfl)) Via.refl F_w0_keys d16_54 rfl ?_
  intro T10 X10
  refine own_iload (pc' := 59) B X10 d16_57 rfl rfl ?_
  refine own_aloadN (pc' := 60) B X10 d16_59 rfl rfl rfl ?_
  refine own_callF (pc' := 65) B X10 (xi := (⟨"com/example/ordal/ordal/NumberTable$Keys", "holds", "(ILjava/lang/Object;)Z"⟩ : MethodName)) (own_w hw 162 rfl) (own_w hw 163 rfl) (own_w hw 164 rfl) (own_w hw 165 rfl) (own_w hw 166 rfl) (own_w hw 167 rfl) (own_w hw 168 rfl) (own_w hw 169 rfl) (own_w hw 36 rfl) (own_w hw 170 rfl) E_w7 (by decide) [(.int 0), (.ref w16)] [] (rm_28 l Z a0 hw [] w7 w8 w9 kw9 (p11) (p12) w13 kw13 w16 kw16 (p18) (p19) h0 n0 (Nat.le_trans Z0 K.1) E_w7 F_w7_relation F_w7_columns g_w7 E_w8 F_w8_arity F_w8_rows g_w8 V_w9 g_w9 V_w13 g_w13 E_w16 V_w16 g_w16 ne_w7_w8 ne_w7_w9 ne_w7_w13 ne_w7_w16 ne_w8_w9 ne_w8_w13 ne_w8_w16 ne_w9_w13 ne_w9_w16 ne_w13_w16) 0 (by decide) (by decide) rfl pd_16 rfl rfl (Nat.le_of_eq rfl) d16_60 rfl (k' := 0) (n' := 0) rfl rfl (by decide) (by decide) ?_
  intro T11 v11 h11 X11 q11
  obtain ⟨y12, hy13, rfl, rfl⟩ := q11
  show own_Go p e below (T11.setTop (mkF m 65 #[.val (.ref w0), .val (.int p15), .val (.ref w16), .val (.int y2), .val (.int 0), .val (.int 0), .val (.int 0)] [(.int y12)])) _
  by_cases c14 : y12 = (0 : Int32)
  refine own_ifYes (pc' := 71) B X11 d16_65 ((if0 _ _).trans (teq c14).1) (by decide) rfl ?_
  refine own_iinc (pc' := 74) B X11 (Ls' := #[.val (.ref w0), .val (.int p15), .val (.ref w16), .val (.int y2), .val (.int 1), .val (.int 0), .val (.int 0)]) d16_71 rfl rfl (z := (1 : Int32)) (by decide) rfl ?_
  refine own_aloadN (pc' := 75) B X11 d16_74 rfl rfl rfl ?_
  refine own_iloadN (pc' := 76) B X11 d16_75 rfl rfl ?_
  refine own_callP (pc' := 79) B X11 (own_w hw 183 rfl) (own_w hw 184 rfl) (own_w hw 185 rfl) (own_w hw 45 rfl) (own_w hw 46 rfl) (own_w hw 186 rfl) E_w0 (by decide) [(.int y2)] [] (rm_32 l Z a0 hw [] w0 w1 kw1 (p3) (y2) h0 n0 (Nat.le_trans Z0 K.1) E_w0 F_w0_slots g_w0 V_w1 g_w1 ne_w0_w1) 0 (by decide) (by decide) rfl pd_7 rfl rfl (Nat.le_of_eq rfl) d16_76 rfl (k' := 0) (n' := 0) rfl rfl (by decide) (by decide) ?_
  intro T15 v15 h15 X15 q15
  obtain ⟨y16, hy17, rfl, rfl⟩ := q15
  show own_Go p e below (T15.setTop (mkF m 79 #[.val (.ref w0), .val (.int p15), .val (.ref w16), .val (.int y2), .val (.int 1), .val (.int 0), .val (.int 0)] [(.int y16)])) _
  refine own_istoreN (pc' := 80) B X15 (Ls' := #[.val (.ref w0), .val (.int p15), .val (.ref w16), .val (.int y16), .val (.int 1), .val (.int 0), .val (.int 0)]) d16_79 rfl rfl ?_
  refine own_iinc (pc' := 83) B X15 (Ls' := #[.val (.ref w0), .val (.int p15), .val (.ref w16), .val (.int y16), .val (.int 1), .val (.int 1), .val (.int 0)]) d16_80 rfl rfl (z := (1 : Int32)) (by decide) rfl ?_
  refine own_goto (pc' := 12) B X15 d16_83 (by decide) rfl ?_
  refine own_iload (pc' := 14) B X15 d16_12 rfl rfl ?_
  refine own_bipush (pc' := 16) B X15 (z := (32 : Int32)) d16_14 rfl (by decide) ?_
  refine own_icmpNo (pc' := 19) B X15 d16_16 (tlt (by decide : (1 : Int32) < (32 : Int32))).2.1 rfl ?_
  refine own_iload (pc' := 21) B X15 d16_19 rfl rfl ?_
  refine own_iconst (pc' := 22) B X15 (z := (4 : Int32)) d16_21 rfl rfl ?_
  refine own_icmpNo (pc' := 25) B X15 d16_22 (tlt (by decide : (1 : Int32) < (4 : Int32))).2.1 rfl ?_
  refine own_aloadN (pc' := 26) B X15 d16_25 rfl rfl rfl ?_
  refine own_getfield (pc' := 29) B X15 (host := "") (Or.inl (own_w hw 51 rfl)) Via.refl F_w0_slots d16_26 rfl ?_
  intro T18 X18
  refine own_iloadN (pc' := 30) B X18 d16_29 rfl rfl ?_
  have c21 : ¬ (y16 = p3) := by
    exact (ax_0 (F := own_F_slot) (H := own_F_hash) own_next_ne hp0 hp1 hp2 hy3 c7 c9 hy13 c14 hy17)
  refine own_ialoadH (pc' := 31) B X18 V_w1 (v := (.int 0)) ⟨(own_next_ge hy17), (own_next_lt hy17)⟩ (getH_miss (own_next_ge hy17) c21 (getH_all rfl _)) d16_30 rfl ?_
  refine own_iconst (pc' := 32) B X18 (z := (1 : Int32)) d16_31 rfl rfl ?_
  refine own_isub (pc' := 33) B X18 (z := (-1 : Int32)) d16_32 rfl (by decide) ?_
  refine own_istore (pc' := 35) B X18 (Ls' := #[.val (.ref w0), .val (.int p15), .val (.ref w16), .val (.int y16), .val (.int 1), .val (.int 1), .val (.int (-1))]) d16_33 rfl rfl ?_
  refine own_iload (pc' := 37) B X18 d16_35 rfl rfl ?_
  refine own_ifNo (pc' := 40) B X18 d16_37 ((if0 _ _).trans (tlt (by decide : (-1 : Int32) < (0 : Int32))).2.1) rfl ?_
  refine own_iconst (pc' := 41) B X18 (z := (-1 : Int32)) d16_40 rfl rfl ?_
  have g22 := (ax_1 (F := own_F_slot) (H := own_F_hash) own_next_ne hp0 hp1 hp2 hy3 c7 c9 hy13 c14 hy17 c21)
  exact own_retI B X18 d16_41 (by decide) (by decide) (⟨(-1 : Int32), g22, rfl, rfl⟩)
  refine own_ifNo (pc' := 68) B X11 d16_65 ((if0 _ _).trans (feq c14).1) rfl ?_
  refine own_iload (pc' := 70) B X11 d16_68 rfl rfl ?_
  have g23 := (ax_2 (F := own_F_slot) (H := own_F_hash) own_next_ne hp0 hp1 hp2 hy3 c7 c9 hy13 c14)
  exact own_retI B X11 d16_70 (by decide) (by decide) (⟨(0 : Int32), g23, rfl, rfl⟩)
  refine own_icmpYes (pc' := 74) B X8 d16_50 (feq c9).2 (by decide) rfl ?_
  refine own_aloadN (pc' := 75) B X8 d16_74 rfl rfl rfl ?_
  refine own_iloadN (pc' := 76) B X8 d16_75 rfl rfl ?_
  refine own_callP (pc' := 79) B X8 (own_w hw 183 rfl) (own_w hw 184 rfl) (own_w hw 185 rfl) (own_w hw 45 rfl) (own_w hw 46 rfl) (own_w hw 186 rfl) E_w0 (by decide) [(.int y2)] [] (rm_32 l Z a0 hw [] w0 w1 kw1 (p3) (y2) h0 n0 (Nat.le_trans Z0 K.1) E_w0 F_w0_slots g_w0 V_w1 g_w1 ne_w0_w1) 0 (by decide) (by decide) rfl pd_7 rfl rfl (Nat.le_of_eq rfl) d16_76 rfl (k' := 0) (n' := 0) rfl rfl (by decide) (by decide) ?_
  intro T24 v24 h24 X24 q24
  obtain ⟨y25, hy26, rfl, rfl⟩ := q24
  show own_Go p e below (T24.setTop (mkF m 79 #[.val (.ref w0), .val (.int p15), .val (.ref w16), .val (.int y2), .val (.int 0), .val (.int 0), .val (.int 0)] [(.int y25)])) _
  refine own_istoreN (pc' := 80) B X24 (Ls' := #[.val (.ref w0), .val (.int p15), .val (.ref w16), .val (.int y25), .val (.int 0), .val (.int 0), .val (.int 0)]) d16_79 rfl rfl ?_
  refine own_iinc (pc' := 83) B X24 (Ls' := #[.val (.ref w0), .val (.int p15), .val (.ref w16), .val (.int y25), .val (.int 0), .val (.int 1), .val (.int 0)]) d16_80 rfl rfl (z := (1 : Int32)) (by decide) rfl ?_
  refine own_goto (pc' := 12) B X24 d16_83 (by decide) rfl ?_
  refine own_iload (pc' := 14) B X24 d16_12 rfl rfl ?_
  refine own_bipush (pc' := 16) B X24 (z := (32 : Int32)) d16_14 rfl (by decide) ?_
  refine own_icmpNo (pc' := 19) B X24 d16_16 (tlt (by decide : (1 : Int32) < (32 : Int32))).2.1 rfl ?_
  refine own_iload (pc' := 21) B X24 d16_19 rfl rfl ?_
  refine own_iconst (pc' := 22) B X24 (z := (4 : Int32)) d16_21 rfl rfl ?_
  refine own_icmpNo (pc' := 25) B X24 d16_22 (tlt (by decide : (0 : Int32) < (4 : Int32))).2.1 rfl ?_
  refine own_aloadN (pc' := 26) B X24 d16_25 rfl rfl rfl ?_
  refine own_getfield (pc' := 29) B X24 (host := "") (Or.inl (own_w hw 51 rfl)) Via.refl F_w0_slots d16_26 rfl ?_
  intro T27 X27
  refine own_iloadN (pc' := 30) B X27 d16_29 rfl rfl ?_
  have c30 : ¬ (y25 = p3) := by
    exact (ax_3 (F := own_F_slot) (H := own_F_hash) own_next_ne hp0 hp1 hp2 hy3 c7 c9 hy26)
  refine own_ialoadH (pc' := 31) B X27 V_w1 (v := (.int 0)) ⟨(own_next_ge hy26), (own_next_lt hy26)⟩ (getH_miss (own_next_ge hy26) c30 (getH_all rfl _)) d16_30 rfl ?_
  refine own_iconst (pc' := 32) B X27 (z := (1 : Int32)) d16_31 rfl rfl ?_
  refine own_isub (pc' := 33) B X27 (z := (-1 : Int32)) d16_32 rfl (by decide) ?_
  refine own_istore (pc' := 35) B X27 (Ls' := #[.val (.ref w0), .val (.int p15), .val (.ref w16), .val (.int y25), .val (.int 0), .val (.int 1), .val (.int (-1))]) d16_33 rfl rfl ?_
  refine own_iload (pc' := 37) B X27 d16_35 rfl rfl ?_
  refine own_ifNo (pc' := 40) B X27 d16_37 ((if0 _ _).trans (tlt (by decide : (-1 : Int32) < (0 : Int32))).2.1) rfl ?_
  refine own_iconst (pc' := 41) B X27 (z := (-1 : Int32)) d16_40 rfl rfl ?_
  have g31 := (ax_4 (F := own_F_slot) (H := own_F_hash) own_next_ne hp0 hp1 hp2 hy3 c7 c9 hy26 c30)
  exact own_retI B X27 d16_41 (by decide) (by decide) (⟨(-1 : Int32), g31, rfl, rfl⟩)
  refine own_ialoadH (pc' := 31) B X4 V_w1 (v := (.int 0)) ⟨(own_slot_ge hy3), (own_slot_lt hy3)⟩ (getH_miss (own_slot_ge hy3) c7 (getH_all rfl _)) d16_30 rfl ?_
  refine own_iconst (pc' := 32) B X4 (z := (1 : Int32)) d16_31 rfl rfl ?_
  refine own_isub (pc' := 33) B X4 (z := (-1 : Int32)) d16_32 rfl (by decide) ?_
  refine own_istore (pc' := 35) B X4 (Ls' := #[.val (.ref w0), .val (.int p15), .val (.ref w16), .val (.int y2), .val (.int 0), .val (.int 0), .val (.int (-1))]) d16_33 rfl rfl ?_
  refine own_iload (pc' := 37) B X4 d16_35 rfl rfl ?_
  refine own_ifNo (pc' := 40) B X4 d16_37 ((if0 _ _).trans (tlt (by decide : (-1 : Int32) < (0 : Int32))).2.1) rfl ?_
  refine own_iconst (pc' := 41) B X4 (z := (-1 : Int32)) d16_40 rfl rfl ?_
  have g32 := (ax_5 (F := own_F_slot) (H := own_F_hash) own_next_ne hp0 hp1 hp2 hy3 c7)
  exact own_retI B X4 d16_41 (by decide) (by decide) (⟨(-1 : Int32), g32, rfl, rfl⟩)
def Q_25 (Z : State) (w0 w1 w2 : Addr) (kw2 : ClassId) (p4 : Int32) (w5 : Addr) (kw5 : ClassId) (p7 : Int32) (w8 w9 : Addr) (kw9 : ClassId) (p11 p12 : Int32) (w13 : Addr) (kw13 : ClassId) (w15 : Addr) (kw15 : ClassId) (p17 p18 p19 : Int32) (h0 : Heap) (n0 : Nat) (v : Option Value) (h : Heap) : Prop :=
  (∃ (y3 : Int32), own_F_look1 p11 p12 p17 p18 = y3 ∧ v = some (.int y3) ∧ h0 = h)
theorem rm_25 (l : Launch) (Z : State) (a0 : Array Value) (hw : ∀ d ∈ tables_1, d.before a0 Z = true) (ws : List Jvm.Cond) (w0 w1 w2 : Addr) (kw2 : ClassId) (p4 : Int32) (w5 : Addr) (kw5 : ClassId) (p7 : Int32) (w8 w9 : Addr) (kw9 : ClassId) (p11 p12 : Int32) (w13 : Addr) (kw13 : ClassId) (w15 : Addr) (kw15 : ClassId) (p17 p18 p19 : Int32) (h0 : Heap) (n0 : Nat) (Z0 : n0 ≤ h0.size) (E_w0 : Exa Z h0 w0 oC3) (F_w0_table : Fld Z h0 w0 oC3 "table" "Lcom/example/ordal/ordal/NumberTable;" (.ref w1)) (F_w0_relation : Fld Z h0 w0 oC3 "relation" "Lcom/example/ordal/ordal/Relation;" (.ref w8)) (F_w0_columns : Fld Z h0 w0 oC3 "columns" "[I" (.ref w13)) (g_w0 : n0 ≤ w0) (E_w1 : Exa Z h0 w1 oC1) (F_w1_slots : Fld Z h0 w1 oC1 "slots" "[I" (.ref w2)) (F_w1_hashes : Fld Z h0 w1 oC1 "hashes" "[I" (.ref w5)) (F_w1_keys : Fld Z h0 w1 oC1 "keys" "Lcom/example/ordal/ordal/NumberTable$Keys;" (.ref w0)) (F_w1_crowded : Fld Z h0 w1 oC1 "crowded" "Ljava/util/TreeMap;" .null) (g_w1 : n0 ≤ w1) (V_w2 : Arh Z h0 w2 kw2 .int (16 : Int32) [(p4, (.int 1))] [] (.int 0)) (g_w2 : n0 ≤ w2) (V_w5 : Arv Z h0 w5 kw5 .int (8 : Int32) [(.int p7)] (.int 0)) (g_w5 : n0 ≤ w5) (E_w8 : Exa Z h0 w8 oC2) (F_w8_arity : Fld Z h0 w8 oC2 "arity" "I" (.int 2)) (F_w8_rows : Fld Z h0 w8 oC2 "rows" "[I" (.ref w9)) (g_w8 : n0 ≤ w8) (V_w9 : Arv Z h0 w9 kw9 .int (16 : Int32) [(.int p11), (.int p12)] (.int 0)) (g_w9 : n0 ≤ w9) (V_w13 : Arv Z h0 w13 kw13 .int (2 : Int32) [(.int 0), (.int 1)] (.int 0)) (g_w13 : n0 ≤ w13) (E_w15 : Exa Z h0 w15 "[I") (V_w15 : Arv Z h0 w15 kw15 .int (2 : Int32) [(.int p17), (.int p18)] (.int 0)) (g_w15 : n0 ≤ w15) (ne_w0_w1 : w0 ≠ w1) (ne_w0_w2 : w0 ≠ w2) (ne_w0_w5 : w0 ≠ w5) (ne_w0_w8 : w0 ≠ w8) (ne_w0_w9 : w0 ≠ w9) (ne_w0_w13 : w0 ≠ w13) (ne_w0_w15 : w0 ≠ w15) (ne_w1_w2 : w1 ≠ w2) (ne_w1_w5 : w1 ≠ w5) (ne_w1_w8 : w1 ≠ w8) (ne_w1_w9 : w1 ≠ w9) (ne_w1_w13 : w1 ≠ w13) (ne_w1_w15 : w1 ≠ w15) (ne_w2_w5 : w2 ≠ w5) (ne_w2_w8 : w2 ≠ w8) (ne_w2_w9 : w2 ≠ w9) (ne_w2_w13 : w2 ≠ w13) (ne_w2_w15 : w2 ≠ w15) (ne_w5_w8 : w5 ≠ w8) (ne_w5_w9 : w5 ≠ w9) (ne_w5_w13 : w5 ≠ w13) (ne_w5_w15 : w5 ≠ w15) (ne_w8_w9 : w8 ≠ w9) (ne_w8_w13 : w8 ≠ w13) (ne_w8_w15 : w8 ≠ w15) (ne_w9_w13 : w9 ≠ w13) (ne_w9_w15 : w9 ≠ w15) (ne_w13_w15 : w13 ≠ w15) (hp0 : own_F_hash p11 p12 = p7) (hp1 : own_F_slot p7 = p4) (hp2 : own_F_hash p17 p18 = p19) :
    own_M l Z (⟨"com/example/ordal/ordal/Relation$PositionTable", "find", "([II)I"⟩ : MethodName) prog_15_method_2_code 3 (some .int) ws ({ frames := 4, cells := 0, slots := 0, locals := 61 } : Room) #[(.ref w0), (.ref w15), (.int p19)] h0 n0 (Q_25 Z w0 w1 w2 kw2 p4 w5 kw5 p7 w8 w9 kw9 p11 p12 w13 kw13 w15 kw15 p17 p18 p19 h0 n0) := by
  refine own_enter' (Q := Q_25 Z w0 w1 w2 kw2 p4 w5 kw5 p7 w8 w9 kw9 p11 p12 w13 kw13 w15 kw15 p17 p18 p19 h0 n0) (F := fun m => mkF m 0 #[.val (.ref w0), .val (.ref w15), .val (.int p19)] []) (plainFor_of_name pn_4) ?_
  intro p e s m below meth c s₁ B X0
  have K : Keep h0 h0 [] := Keep.refl h0 _
  have lt_w0 := E_w0.lt
  have lt_w1 := E_w1.lt
  have lt_w2 := V_w2.lt
  have lt_w5 := V_w5.lt
  have lt_w8 := E_w8.lt
  have lt_w9 := V_w9.lt
  have lt_w13 := V_w13.lt
  have lt_w15 := E_w15.lt
  refine own_aloadN (pc' := 1) B X0 d15_0 rfl rfl rfl ?_
  refine own_getfield (pc' := 4) B X0 (host := "") (Or.inl (own_w hw 57 rfl)) Via.refl F_w0_table d15_1 rfl ?_
  intro T1 X1
  refine own_iloadN (pc' := 5) B X1 d15_4 rfl rfl ?_
  refine own_aloadN (pc' := 6) B X1 d15_5 rfl rfl rfl ?_
  refine own_callV (pc' := 9) B X1 (own_w hw 106 rfl) (own_w hw 107 rfl) (own_w hw 109 rfl) (own_w hw 108 rfl) (own_w hw 46 rfl) (own_w hw 110 rfl) E_w1 (by decide) [(.int p19), (.ref w15)] [] (rm_26 l Z a0 hw [] w1 w2 kw2 (p4) w5 kw5 (p7) w0 w8 w9 kw9 (p11) (p12) w13 kw13 (p19) w15 kw15 (p17) (p18) h0 n0 (Nat.le_trans Z0 K.1) E_w1 F_w1_slots F_w1_hashes F_w1_keys F_w1_crowded g_w1 V_w2 g_w2 V_w5 g_w5 E_w0 F_w0_table F_w0_relation F_w0_columns g_w0 E_w8 F_w8_arity F_w8_rows g_w8 V_w9 g_w9 V_w13 g_w13 E_w15 V_w15 g_w15 ne_w1_w2 ne_w1_w5 (Ne.symm ne_w0_w1) ne_w1_w8 ne_w1_w9 ne_w1_w13 ne_w1_w15 ne_w2_w5 (Ne.symm ne_w0_w2) ne_w2_w8 ne_w2_w9 ne_w2_w13 ne_w2_w15 (Ne.symm ne_w0_w5) ne_w5_w8 ne_w5_w9 ne_w5_w13 ne_w5_w15 ne_w0_w8 ne_w0_w9 ne_w0_w13 ne_w0_w15 ne_w8_w9 ne_w8_w13 ne_w8_w15 ne_w9_w13 ne_w9_w15 ne_w13_w15 hp0 hp1 hp2) 0 (by decide) (by decide) rfl pd_8 rfl rfl (Nat.le_of_eq rfl) d15_6 rfl (k' := 0) (n' := 0) rfl rfl (by decide) (by decide) ?_
  intro T2 v2 h2 X2 q2
  obtain ⟨y3, hy4, rfl, rfl⟩ := q2
  show own_Go p e below (T2.setTop (mkF m 9 #[.val (.ref w0), .val (.ref w15), .val (.int p19)] [(.int y3)])) _
  exact own_retI B X2 d15_9 (by decide) (by decide) (⟨y3, hy4, rfl, rfl⟩)
theorem ax_6 {F N : Int32 → Int32} {H : Int32 → Int32 → Int32} (nn : ∀ x, ¬ N x = x) {a0 a1 a2 a3 : Int32} (e0 : F a1 = a0) (e1 : a0 = a2) (e2 : N a0 = a3) : ¬ (a3 = a2) := by grind [own_F_look1, own_F_look2, own_G_put2, own_F_holds]
theorem ax_7 {F N : Int32 → Int32} {H : Int32 → Int32 → Int32} (nn : ∀ x, ¬ N x = x) {a0 a1 a2 a3 : Int32} (e0 : F a1 = a0) (e1 : a0 = a2) (e2 : N a0 = a3) (e3 : ¬ (a3 = a2)) : own_G_put2 F N a2 a1 = a3 := by grind [own_F_look1, own_F_look2, own_G_put2, own_F_holds]
theorem ax_8 {F N : Int32 → Int32} {H : Int32 → Int32 → Int32} (nn : ∀ x, ¬ N x = x) {a0 a1 a2 : Int32} (e0 : F a1 = a0) (e1 : ¬ (a0 = a2)) : own_G_put2 F N a2 a1 = a0 := by grind [own_F_look1, own_F_look2, own_G_put2, own_F_holds]
def Q_36 (Z : State) (w0 w1 : Addr) (kw1 : ClassId) (p3 : Int32) (w4 : Addr) (kw4 : ClassId) (p6 p7 : Int32) (w8 : Addr) (h0 : Heap) (n0 : Nat) (v : Option Value) (h : Heap) : Prop :=
  (∃ (ys : Int32), own_F_put2 p3 p7 = ys ∧ v = some (.int 1) ∧ Keep h0 h [w1] ∧ Arh Z h w1 kw1 .int (16 : Int32) [(ys, (.int 2)), (p3, (.int 1))] [] (.int 0))
theorem rm_36 (l : Launch) (Z : State) (a0 : Array Value) (hw : ∀ d ∈ tables_1, d.before a0 Z = true) (ws : List Jvm.Cond) (w0 w1 : Addr) (kw1 : ClassId) (p3 : Int32) (w4 : Addr) (kw4 : ClassId) (p6 p7 : Int32) (w8 : Addr) (h0 : Heap) (n0 : Nat) (Z0 : n0 ≤ h0.size) (E_w0 : Exa Z h0 w0 oC1) (F_w0_slots : Fld Z h0 w0 oC1 "slots" "[I" (.ref w1)) (F_w0_hashes : Fld Z h0 w0 oC1 "hashes" "[I" (.ref w4)) (F_w0_keys : Fld Z h0 w0 oC1 "keys" "Lcom/example/ordal/ordal/NumberTable$Keys;" (.ref w8)) (F_w0_count : Fld Z h0 w0 oC1 "count" "I" (.int 1)) (F_w0_crowded : Fld Z h0 w0 oC1 "crowded" "Ljava/util/TreeMap;" .null) (g_w0 : n0 ≤ w0) (V_w1 : Arh Z h0 w1 kw1 .int (16 : Int32) [(p3, (.int 1))] [] (.int 0)) (g_w1 : n0 ≤ w1) (V_w4 : Arv Z h0 w4 kw4 .int (8 : Int32) [(.int p6), (.int p7)] (.int 0)) (g_w4 : n0 ≤ w4) (ne_w0_w1 : w0 ≠ w1) (ne_w0_w4 : w0 ≠ w4) (ne_w1_w4 : w1 ≠ w4) :
    own_M l Z (⟨"com/example/ordal/ordal/NumberTable", "place", "(I)Z"⟩ : MethodName) prog_9_method_7_code 7 (some .boolean) ws ({ frames := 2, cells := 0, slots := 0, locals := 26 } : Room) #[(.ref w0), (.int 1)] h0 n0 (Q_36 Z w0 w1 kw1 p3 w4 kw4 p6 p7 w8 h0 n0) := by
  refine own_enter' (Q := Q_36 Z w0 w1 kw1 p3 w4 kw4 p6 p7 w8 h0 n0) (F := fun m => mkF m 0 #[.val (.ref w0), .val (.int 1), .unset, .unset, .unset, .unset, .unset] []) (plainFor_of_name pn_3) ?_
  intro p e s m below meth c s₁ B X0
  have K : Keep h0 h0 [w1] := Keep.refl h0 _
  have lt_w0 := E_w0.lt
  have lt_w1 := V_w1.lt
  have lt_w4 := V_w4.lt
  refine own_aloadN (pc' := 1) B X0 d22_0 rfl rfl rfl ?_
  refine own_getfield (pc' := 4) B X0 (host := "") (Or.inl (own_w hw 53 rfl)) Via.refl F_w0_hashes d22_1 rfl ?_
  intro T1 X1
  refine own_iloadN (pc' := 5) B X1 d22_4 rfl rfl ?_
  refine own_iaload (pc' := 6) B X1 V_w4 (v := (.int p7)) ⟨by decide, by decide⟩ rfl d22_5 rfl ?_
  refine own_istoreN (pc' := 7) B X1 (Ls' := #[.val (.ref w0), .val (.int 1), .val (.int p7), .unset, .unset, .unset, .unset]) d22_6 rfl rfl ?_
  refine own_aloadN (pc' := 8) B X1 d22_7 rfl rfl rfl ?_
  refine own_iloadN (pc' := 9) B X1 d22_8 rfl rfl ?_
  refine own_callP (pc' := 12) B X1 (own_w hw 111 rfl) (own_w hw 112 rfl) (own_w hw 113 rfl) (own_w hw 45 rfl) (own_w hw 46 rfl) (own_w hw 114 rfl) E_w0 (by decide) [(.int p7)] [] (rm_27 l Z a0 hw [] w0 w1 kw1 (p3) (p7) h0 n0 (Nat.le_trans Z0 K.1) E_w0 F_w0_slots g_w0 V_w1 g_w1 ne_w0_w1) 0 (by decide) (by decide) rfl pd_7 rfl rfl (Nat.le_of_eq rfl) d22_9 rfl (k' := 0) (n' := 0) rfl rfl (by decide) (by decide) ?_
  intro T2 v2 h2 X2 q2
  obtain ⟨y3, hy4, rfl, rfl⟩ := q2
  show own_Go p e below (T2.setTop (mkF m 12 #[.val (.ref w0), .val (.int 1), .val (.int p7), .unset, .unset, .unset, .unset] [(.int y3)])) _
  refine own_istoreN (pc' := 13) B X2 (Ls' := #[.val (.ref w0), .val (.int 1), .val (.int p7), .val (.int y3), .unset, .unset, .unset]) d22_12 rfl rfl ?_
  refine own_iconst (pc' := 14) B X2 (z := (0 : Int32)) d22_13 rfl rfl ?_
  refine own_istore (pc' := 16) B X2 (Ls' := #[.val (.ref w0), .val (.int 1), .val (.int p7), .val (.int y3), .val (.int 0), .unset, .unset]) d22_14 rfl rfl ?_
  refine own_iconst (pc' := 17) B X2 (z := (0 : Int32)) d22_16 rfl rfl ?_
  refine own_istore (pc' := 19) B X2 (Ls' := #[.val (.ref w0), .val (.int 1), .val (.int p7), .val (.int y3), .val (.int 0), .val (.int 0), .unset]) d22_17 rfl rfl ?_
  refine own_iload (pc' := 21) B X2 d22_19 rfl rfl ?_
  refine own_bipush (pc' := 23) B X2 (z := (32 : Int32)) d22_21 rfl (by decide) ?_
  refine own_icmpNo (pc' := 26) B X2 d22_23 (tlt (by decide : (0 : Int32) < (32 : Int32))).2.1 rfl ?_
  refine own_iload (pc' := 28) B X2 d22_26 rfl rfl ?_
  refine own_iconst (pc' := 29) B X2 (z := (4 : Int32)) d22_28 rfl rfl ?_
  refine own_icmpNo (pc' := 32) B X2 d22_29 (tlt (by decide : (0 : Int32) < (4 : Int32))).2.1 rfl ?_
  refine own_aloadN (pc' := 33) B X2 d22_32 rfl rfl rfl ?_
  refine own_getfield (pc' := 36) B X2 (host := "") (Or.inl (own_w hw 51 rfl)) Via.refl F_w0_slots d22_33 rfl ?_
  intro T5 X5
  refine own_iloadN (pc' := 37) B X5 d22_36 rfl rfl ?_
  by_cases c8 : y3 = p3
  refine own_ialoadH (pc' := 38) B X5 V_w1 (v := (.int 1)) ⟨(own_slot_ge hy4), (own_slot_lt hy4)⟩ (getH_hit (own_slot_ge hy4) c8) d22_37 rfl ?_
  refine own_iconst (pc' := 39) B X5 (z := (1 : Int32)) d22_38 rfl rfl ?_
  refine own_isub (pc' := 40) B X5 (z := (0 : Int32)) d22_39 rfl (by decide) ?_
  refine own_istore (pc' := 42) B X5 (Ls' := #[.val (.ref w0), .val (.int 1), .val (.int p7), .val (.int y3), .val (.int 0), .val (.int 0), .val (.int 0)]) d22_40 rfl rfl ?_
  refine own_iload (pc' := 44) B X5 d22_42 rfl rfl ?_
  refine own_ifYes (pc' := 58) B X5 d22_44 ((if0 _ _).trans (flt (by decide : ¬ ((0 : Int32) < (0 : Int32)))).2.1) (by decide) rfl ?_
  refine own_aloadN (pc' := 59) B X5 d22_58 rfl rfl rfl ?_
  refine own_getfield (pc' := 62) B X5 (host := "") (Or.inl (own_w hw 53 rfl)) Via.refl F_w0_hashes d22_59 rfl ?_
  intro T9 X9
  refine own_iload (pc' := 64) B X9 d22_62 rfl rfl ?_
  refine own_iaload (pc' := 65) B X9 V_w4 (v := (.int p6)) ⟨by decide, by decide⟩ rfl d22_64 rfl ?_
  refine own_iloadN (pc' := 66) B X9 d22_65 rfl rfl ?_
  by_cases c10 : p6 = p7
  refine own_icmpNo (pc' := 69) B X9 d22_66 (teq c10).2 rfl ?_
  refine own_iinc (pc' := 72) B X9 (Ls' := #[.val (.ref w0), .val (.int 1), .val (.int p7), .val (.int y3), .val (.int 1), .val (.int 0), .val (.int 0)]) d22_69 rfl rfl (z := (1 : Int32)) (by decide) rfl ?_
  refine own_aloadN (pc' := 73) B X9 d22_72 rfl rfl rfl ?_
  refine own_iloadN (pc' := 74) B X9 d22_73 rfl rfl ?_
  refine own_callP (pc' := 77) B X9 (own_w hw 183 rfl) (own_w hw 184 rfl) (own_w hw 185 rfl) (own_w hw 45 rfl) (own_w hw 46 rfl) (own_w hw 186 rfl) E_w0 (by decide) [(.int y3)] [] (rm_32 l Z a0 hw [] w0 w1 kw1 (p3) (y3) h0 n0 (Nat.le_trans Z0 K.1) E_w0 F_w0_slots g_w0 V_w1 g_w1 ne_w0_w1) 0 (by decide) (by decide) rfl pd_7 rfl rfl (Nat.le_of_eq rfl) d22_74 rfl (k' := 0) (n' := 0) rfl rfl (by decide) (by decide) ?_
  intro T11 v11 h11 X11 q11
  obtain ⟨y12, hy13, rfl, rfl⟩ := q11
  show own_Go p e below (T11.setTop (mkF m 77 #[.val (.ref w0), .val (.int 1), .val (.int p7), .val (.int y3), .val (.int 1), .val (.int 0), .val (.int 0)] [(.int y12)])) _
  refine own_istoreN (pc' := 78) B X11 (Ls' := #[.val (.ref w0), .val (.int 1), .val (.int p7), .val (.int y12), .val (.int 1), .val (.int 0), .val (.int 0)]) d22_77 rfl rfl ?_
  refine own_iinc (pc' := 81) B X11 (Ls' := #[.val (.ref w0), .val (.int 1), .val (.int p7), .val (.int y12), .val (.int 1), .val (.int 1), .val (.int 0)]) d22_78 rfl rfl (z := (1 : Int32)) (by decide) rfl ?_
  refine own_goto (pc' := 19) B X11 d22_81 (by decide) rfl ?_
  refine own_iload (pc' := 21) B X11 d22_19 rfl rfl ?_
  refine own_bipush (pc' := 23) B X11 (z := (32 : Int32)) d22_21 rfl (by decide) ?_
  refine own_icmpNo (pc' := 26) B X11 d22_23 (tlt (by decide : (1 : Int32) < (32 : Int32))).2.1 rfl ?_
  refine own_iload (pc' := 28) B X11 d22_26 rfl rfl ?_
  refine own_iconst (pc' := 29) B X11 (z := (4 : Int32)) d22_28 rfl rfl ?_
  refine own_icmpNo (pc' := 32) B X11 d22_29 (tlt (by decide : (1 : Int32) < (4 : Int32))).2.1 rfl ?_
  refine own_aloadN (pc' := 33) B X11 d22_32 rfl rfl rfl ?_
  refine own_getfield (pc' := 36) B X11 (host := "") (Or.inl (own_w hw 51 rfl)) Via.refl F_w0_slots d22_33 rfl ?_
  intro T14 X14
  refine own_iloadN (pc' := 37) B X14 d22_36 rfl rfl ?_
  have c17 : ¬ (y12 = p3) := by
    exact (ax_6 (F := own_F_slot) (H := own_F_hash) own_next_ne hy4 c8 hy13)
  refine own_ialoadH (pc' := 38) B X14 V_w1 (v := (.int 0)) ⟨(own_next_ge hy13), (own_next_lt hy13)⟩ (getH_miss (own_next_ge hy13) c17 (getH_all rfl _)) d22_37 rfl ?_
  refine own_iconst (pc' := 39) B X14 (z := (1 : Int32)) d22_38 rfl rfl ?_
  refine own_isub (pc' := 40) B X14 (z := (-1 : Int32)) d22_39 rfl (by decide) ?_
  refine own_istore (pc' := 42) B X14 (Ls' := #[.val (.ref w0), .val (.int 1), .val (.int p7), .val (.int y12), .val (.int 1), .val (.int 1), .val (.int (-1))]) d22_40 rfl rfl ?_
  refine own_iload (pc' := 44) B X14 d22_42 rfl rfl ?_
  refine own_ifNo (pc' := 47) B X14 d22_44 ((if0 _ _).trans (tlt (by decide : (-1 : Int32) < (0 : Int32))).2.1) rfl ?_
  refine own_aloadN (pc' := 48) B X14 d22_47 rfl rfl rfl ?_
  refine own_getfield (pc' := 51) B X14 (host := "") (Or.inl (own_w hw 51 rfl)) Via.refl F_w0_slots d22_48 rfl ?_
  intro T18 X18
  refine own_iloadN (pc' := 52) B X18 d22_51 rfl rfl ?_
  refine own_iloadN (pc' := 53) B X18 d22_52 rfl rfl ?_
  refine own_iconst (pc' := 54) B X18 (z := (1 : Int32)) d22_53 rfl rfl ?_
  refine own_iadd (pc' := 55) B X18 (z := (2 : Int32)) d22_54 rfl (by decide) ?_
  refine own_iastoreH (pc' := 56) B X18 V_w1 g_w1 ⟨(own_next_ge hy13), (own_next_lt hy13)⟩ d22_55 rfl ?_
  intro T21 h21 X21 W21 V_w1
  replace K := K.wr W21 (Or.inl (List.mem_of_getElem? (i := 0) rfl))
  refine own_iconst (pc' := 57) B X21 (z := (1 : Int32)) d22_56 rfl rfl ?_
  have g22 := (ax_7 (F := own_F_slot) (H := own_F_hash) own_next_ne hy4 c8 hy13 c17)
  exact own_retN B X21 (t := .boolean) (z' := (1 : Int32)) (by simp) (by decide) d22_57 (by decide) (by decide) (⟨y12, g22, rfl, K, V_w1⟩)
  refine own_icmpYes (pc' := 72) B X9 d22_66 (feq c10).2 (by decide) rfl ?_
  refine own_aloadN (pc' := 73) B X9 d22_72 rfl rfl rfl ?_
  refine own_iloadN (pc' := 74) B X9 d22_73 rfl rfl ?_
  refine own_callP (pc' := 77) B X9 (own_w hw 183 rfl) (own_w hw 184 rfl) (own_w hw 185 rfl) (own_w hw 45 rfl) (own_w hw 46 rfl) (own_w hw 186 rfl) E_w0 (by decide) [(.int y3)] [] (rm_32 l Z a0 hw [] w0 w1 kw1 (p3) (y3) h0 n0 (Nat.le_trans Z0 K.1) E_w0 F_w0_slots g_w0 V_w1 g_w1 ne_w0_w1) 0 (by decide) (by decide) rfl pd_7 rfl rfl (Nat.le_of_eq rfl) d22_74 rfl (k' := 0) (n' := 0) rfl rfl (by decide) (by decide) ?_
  intro T24 v24 h24 X24 q24
  obtain ⟨y25, hy26, rfl, rfl⟩ := q24
  show own_Go p e below (T24.setTop (mkF m 77 #[.val (.ref w0), .val (.int 1), .val (.int p7), .val (.int y3), .val (.int 0), .val (.int 0), .val (.int 0)] [(.int y25)])) _
  refine own_istoreN (pc' := 78) B X24 (Ls' := #[.val (.ref w0), .val (.int 1), .val (.int p7), .val (.int y25), .val (.int 0), .val (.int 0), .val (.int 0)]) d22_77 rfl rfl ?_
  refine own_iinc (pc' := 81) B X24 (Ls' := #[.val (.ref w0), .val (.int 1), .val (.int p7), .val (.int y25), .val (.int 0), .val (.int 1), .val (.int 0)]) d22_78 rfl rfl (z := (1 : Int32)) (by decide) rfl ?_
  refine own_goto (pc' := 19) B X24 d22_81 (by decide) rfl ?_
  refine own_iload (pc' := 21) B X24 d22_19 rfl rfl ?_
  refine own_bipush (pc' := 23) B X24 (z := (32 : Int32)) d22_21 rfl (by decide) ?_
  refine own_icmpNo (pc' := 26) B X24 d22_23 (tlt (by decide : (1 : Int32) < (32 : Int32))).2.1 rfl ?_
  refine own_iload (pc' := 28) B X24 d22_26 rfl rfl ?_
  refine own_iconst (pc' := 29) B X24 (z := (4 : Int32)) d22_28 rfl rfl ?_
  refine own_icmpNo (pc' := 32) B X24 d22_29 (tlt (by decide : (0 : Int32) < (4 : Int32))).2.1 rfl ?_
  refine own_aloadN (pc' := 33) B X24 d22_32 rfl rfl rfl ?_
  refine own_getfield (pc' := 36) B X24 (host := "") (Or.inl (own_w hw 51 rfl)) Via.refl F_w0_slots d22_33 rfl ?_
  intro T27 X27
  refine own_iloadN (pc' := 37) B X27 d22_36 rfl rfl ?_
  have c30 : ¬ (y25 = p3) := by
    exact (ax_6 (F := own_F_slot) (H := own_F_hash) own_next_ne hy4 c8 hy26)
  refine own_ialoadH (pc' := 38) B X27 V_w1 (v := (.int 0)) ⟨(own_next_ge hy26), (own_next_lt hy26)⟩ (getH_miss (own_next_ge hy26) c30 (getH_all rfl _)) d22_37 rfl ?_
  refine own_iconst (pc' := 39) B X27 (z := (1 : Int32)) d22_38 rfl rfl ?_
  refine own_isub (pc' := 40) B X27 (z := (-1 : Int32)) d22_39 rfl (by decide) ?_
  refine own_istore (pc' := 42) B X27 (Ls' := #[.val (.ref w0), .val (.int 1), .val (.int p7), .val (.int y25), .val (.int 0), .val (.int 1), .val (.int (-1))]) d22_40 rfl rfl ?_
  refine own_iload (pc' := 44) B X27 d22_42 rfl rfl ?_
  refine own_ifNo (pc' := 47) B X27 d22_44 ((if0 _ _).trans (tlt (by decide : (-1 : Int32) < (0 : Int32))).2.1) rfl ?_
  refine own_aloadN (pc' := 48) B X27 d22_47 rfl rfl rfl ?_
  refine own_getfield (pc' := 51) B X27 (host := "") (Or.inl (own_w hw 51 rfl)) Via.refl F_w0_slots d22_48 rfl ?_
  intro T31 X31
  refine own_iloadN (pc' := 52) B X31 d22_51 rfl rfl ?_
  refine own_iloadN (pc' := 53) B X31 d22_52 rfl rfl ?_
  refine own_iconst (pc' := 54) B X31 (z := (1 : Int32)) d22_53 rfl rfl ?_
  refine own_iadd (pc' := 55) B X31 (z := (2 : Int32)) d22_54 rfl (by decide) ?_
  refine own_iastoreH (pc' := 56) B X31 V_w1 g_w1 ⟨(own_next_ge hy26), (own_next_lt hy26)⟩ d22_55 rfl ?_
  intro T34 h34 X34 W34 V_w1
  replace K := K.wr W34 (Or.inl (List.mem_of_getElem? (i := 0) rfl))
  refine own_iconst (pc' := 57) B X34 (z := (1 : Int32)) d22_56 rfl rfl ?_
  have g35 := (ax_7 (F := own_F_slot) (H := own_F_hash) own_next_ne hy4 c8 hy26 c30)
  exact own_retN B X34 (t := .boolean) (z' := (1 : Int32)) (by simp) (by decide) d22_57 (by decide) (by decide) (⟨y25, g35, rfl, K, V_w1⟩)
  refine own_ialoadH (pc' := 38) B X5 V_w1 (v := (.int 0)) ⟨(own_slot_ge hy4), (own_slot_lt hy4)⟩ (getH_miss (own_slot_ge hy4) c8 (getH_all rfl _)) d22_37 rfl ?_
  refine own_iconst (pc' := 39) B X5 (z := (1 : Int32)) d22_38 rfl rfl ?_
  refine own_isub (pc' := 40) B X5 (z := (-1 : Int32)) d22_39 rfl (by decide) ?_
  refine own_istore (pc' := 42) B X5 (Ls' := #[.val (.ref w0), .val (.int 1), .val (.int p7), .val (.int y3), .val (.int 0), .val (.int 0), .val (.int (-1))]) d22_40 rfl rfl ?_
  refine own_iload (pc' := 44) B X5 d22_42 rfl rfl ?_
  refine own_ifNo (pc' := 47) B X5 d22_44 ((if0 _ _).trans (tlt (by decide : (-1 : Int32) < (0 : Int32))).2.1) rfl ?_
  refine own_aloadN (pc' := 48) B X5 d22_47 rfl rfl rfl ?_
  refine own_getfield (pc' := 51) B X5 (host := "") (Or.inl (own_w hw 51 rfl)) Via.refl F_w0_slots d22_48 rfl ?_
  intro T37 X37
  refine own_iloadN (pc' := 52) B X37 d22_51 rfl rfl ?_
  refine own_iloadN (pc' := 53) B X37 d22_52 rfl rfl ?_
  refine own_iconst (pc' := 54) B X37 (z := (1 : Int32)) d22_53 rfl rfl ?_
  refine own_iadd (pc' := 55) B X37 (z := (2 : Int32)) d22_54 rfl (by decide) ?_
  refine own_iastoreH (pc' := 56) B X37 V_w1 g_w1 ⟨(own_slot_ge hy4), (own_slot_lt hy4)⟩ d22_55 rfl ?_
  intro T40 h40 X40 W40 V_w1
  replace K := K.wr W40 (Or.inl (List.mem_of_getElem? (i := 0) rfl))
  refine own_iconst (pc' := 57) B X40 (z := (1 : Int32)) d22_56 rfl rfl ?_
  have g41 := (ax_8 (F := own_F_slot) (H := own_F_hash) own_next_ne hy4 c8)
  exact own_retN B X40 (t := .boolean) (z' := (1 : Int32)) (by simp) (by decide) d22_57 (by decide) (by decide) (⟨y3, g41, rfl, K, V_w1⟩)
def Q_35 (Z : State) (w0 w1 : Addr) (kw1 : ClassId) (p3 : Int32) (w4 : Addr) (kw4 : ClassId) (p6 p7 : Int32) (w8 : Addr) (h0 : Heap) (n0 : Nat) (v : Option Value) (h : Heap) : Prop :=
  (∃ (y2 : Int32), own_F_put2 p3 p7 = y2 ∧ v = none ∧ Keep h0 h [w1] ∧ Arh Z h w1 kw1 .int (16 : Int32) [(y2, (.int 2)), (p3, (.int 1))] [] (.int 0))
theorem rm_35 (l : Launch) (Z : State) (a0 : Array Value) (hw : ∀ d ∈ tables_1, d.before a0 Z = true) (ws : List Jvm.Cond) (w0 w1 : Addr) (kw1 : ClassId) (p3 : Int32) (w4 : Addr) (kw4 : ClassId) (p6 p7 : Int32) (w8 : Addr) (h0 : Heap) (n0 : Nat) (Z0 : n0 ≤ h0.size) (E_w0 : Exa Z h0 w0 oC1) (F_w0_slots : Fld Z h0 w0 oC1 "slots" "[I" (.ref w1)) (F_w0_hashes : Fld Z h0 w0 oC1 "hashes" "[I" (.ref w4)) (F_w0_keys : Fld Z h0 w0 oC1 "keys" "Lcom/example/ordal/ordal/NumberTable$Keys;" (.ref w8)) (F_w0_count : Fld Z h0 w0 oC1 "count" "I" (.int 1)) (F_w0_crowded : Fld Z h0 w0 oC1 "crowded" "Ljava/util/TreeMap;" .null) (g_w0 : n0 ≤ w0) (V_w1 : Arh Z h0 w1 kw1 .int (16 : Int32) [(p3, (.int 1))] [] (.int 0)) (g_w1 : n0 ≤ w1) (V_w4 : Arv Z h0 w4 kw4 .int (8 : Int32) [(.int p6), (.int p7)] (.int 0)) (g_w4 : n0 ≤ w4) (ne_w0_w1 : w0 ≠ w1) (ne_w0_w4 : w0 ≠ w4) (ne_w1_w4 : w1 ≠ w4) :
    own_M l Z (⟨"com/example/ordal/ordal/NumberTable", "insert", "(I)V"⟩ : MethodName) prog_9_method_6_code 2 none ws ({ frames := 3, cells := 0, slots := 0, locals := 44 } : Room) #[(.ref w0), (.int 1)] h0 n0 (Q_35 Z w0 w1 kw1 p3 w4 kw4 p6 p7 w8 h0 n0) := by
  refine own_enter' (Q := Q_35 Z w0 w1 kw1 p3 w4 kw4 p6 p7 w8 h0 n0) (F := fun m => mkF m 0 #[.val (.ref w0), .val (.int 1)] []) (plainFor_of_name pn_3) ?_
  intro p e s m below meth c s₁ B X0
  have K : Keep h0 h0 [w1] := Keep.refl h0 _
  have lt_w0 := E_w0.lt
  have lt_w1 := V_w1.lt
  have lt_w4 := V_w4.lt
  refine own_aloadN (pc' := 1) B X0 d21_0 rfl rfl rfl ?_
  refine own_iloadN (pc' := 2) B X0 d21_1 rfl rfl ?_
  refine own_callP (pc' := 5) B X0 (own_w hw 142 rfl) (own_w hw 143 rfl) (own_w hw 144 rfl) (own_w hw 45 rfl) (own_w hw 46 rfl) (own_w hw 145 rfl) E_w0 (by decide) [(.int 1)] [] (rm_36 l Z a0 hw [] w0 w1 kw1 (p3) w4 kw4 (p6) (p7) w8 h0 n0 (Nat.le_trans Z0 K.1) E_w0 F_w0_slots F_w0_hashes F_w0_keys F_w0_count F_w0_crowded g_w0 V_w1 g_w1 V_w4 g_w4 ne_w0_w1 ne_w0_w4 ne_w1_w4) 0 (by decide) (by decide) rfl pd_10 rfl rfl (Nat.le_of_eq rfl) d21_2 rfl (k' := 0) (n' := 0) rfl rfl (by decide) (by decide) ?_
  intro T1 v1 h1 X1 q1
  obtain ⟨y2, hy3, rfl, K1, V_w1⟩ := q1
  replace K := K.trans K1 (allS (Or.inl (List.mem_of_getElem? (i := 0) rfl)) all0)
  show own_Go p e below (T1.setTop (mkF m 5 #[.val (.ref w0), .val (.int 1)] [(.int 1)])) _
  refine own_ifYes (pc' := 52) B X1 d21_5 ((if0 _ _).trans (feq (by decide : ¬ ((1 : Int32) = (0 : Int32)))).2) (by decide) rfl ?_
  exact own_ret B X1 d21_52 (by decide) (by decide) (⟨y2, hy3, rfl, K, V_w1⟩)
def Q_34 (Z : State) (w0 w1 : Addr) (kw1 : ClassId) (p3 : Int32) (w4 : Addr) (kw4 : ClassId) (p6 : Int32) (w7 : Addr) (p8 : Int32) (h0 : Heap) (n0 : Nat) (v : Option Value) (h : Heap) : Prop :=
  (∃ (y7 : Int32), own_F_put2 p3 p8 = y7 ∧ v = none ∧ Keep h0 h [w4, w1, w0] ∧ Exa Z h w0 oC1 ∧ Fld Z h w0 oC1 "slots" "[I" (.ref w1) ∧ Fld Z h w0 oC1 "hashes" "[I" (.ref w4) ∧ Fld Z h w0 oC1 "keys" "Lcom/example/ordal/ordal/NumberTable$Keys;" (.ref w7) ∧ Fld Z h w0 oC1 "count" "I" (.int 2) ∧ Fld Z h w0 oC1 "crowded" "Ljava/util/TreeMap;" .null ∧ Arh Z h w1 kw1 .int (16 : Int32) [(y7, (.int 2)), (p3, (.int 1))] [] (.int 0) ∧ Arv Z h w4 kw4 .int (8 : Int32) [(.int p6), (.int p8)] (.int 0))
theorem rm_34 (l : Launch) (Z : State) (a0 : Array Value) (hw : ∀ d ∈ tables_1, d.before a0 Z = true) (ws : List Jvm.Cond) (w0 w1 : Addr) (kw1 : ClassId) (p3 : Int32) (w4 : Addr) (kw4 : ClassId) (p6 : Int32) (w7 : Addr) (p8 : Int32) (h0 : Heap) (n0 : Nat) (Z0 : n0 ≤ h0.size) (E_w0 : Exa Z h0 w0 oC1) (F_w0_slots : Fld Z h0 w0 oC1 "slots" "[I" (.ref w1)) (F_w0_hashes : Fld Z h0 w0 oC1 "hashes" "[I" (.ref w4)) (F_w0_keys : Fld Z h0 w0 oC1 "keys" "Lcom/example/ordal/ordal/NumberTable$Keys;" (.ref w7)) (F_w0_count : Fld Z h0 w0 oC1 "count" "I" (.int 1)) (F_w0_crowded : Fld Z h0 w0 oC1 "crowded" "Ljava/util/TreeMap;" .null) (g_w0 : n0 ≤ w0) (V_w1 : Arh Z h0 w1 kw1 .int (16 : Int32) [(p3, (.int 1))] [] (.int 0)) (g_w1 : n0 ≤ w1) (V_w4 : Arv Z h0 w4 kw4 .int (8 : Int32) [(.int p6)] (.int 0)) (g_w4 : n0 ≤ w4) (ne_w0_w1 : w0 ≠ w1) (ne_w0_w4 : w0 ≠ w4) (ne_w1_w4 : w1 ≠ w4) :
    own_M l Z (⟨"com/example/ordal/ordal/NumberTable", "put", "(II)V"⟩ : MethodName) prog_9_method_3_code 3 none ws ({ frames := 4, cells := 0, slots := 0, locals := 57 } : Room) #[(.ref w0), (.int 1), (.int p8)] h0 n0 (Q_34 Z w0 w1 kw1 p3 w4 kw4 p6 w7 p8 h0 n0) := by
  refine own_enter' (Q := Q_34 Z w0 w1 kw1 p3 w4 kw4 p6 w7 p8 h0 n0) (F := fun m => mkF m 0 #[.val (.ref w0), .val (.int 1), .val (.int p8)] []) (plainFor_of_name pn_3) ?_
  intro p e s m below meth c s₁ B X0
  have K : Keep h0 h0 [w4, w1, w0] := Keep.refl h0 _
  have lt_w0 := E_w0.lt
  have lt_w1 := V_w1.lt
  have lt_w4 := V_w4.lt
  refine own_iloadN (pc' := 1) B X0 d20_0 rfl rfl ?_
  refine own_aloadN (pc' := 2) B X0 d20_1 rfl rfl rfl ?_
  refine own_getfield (pc' := 5) B X0 (host := "") (Or.inl (own_w hw 53 rfl)) Via.refl F_w0_hashes d20_2 rfl ?_
  intro T1 X1
  refine own_arraylength (pc' := 6) B X1 V_w4 d20_5 rfl ?_
  refine own_icmpYes (pc' := 33) B X1 d20_6 (tlt (by decide : (1 : Int32) < (8 : Int32))).1 (by decide) rfl ?_
  refine own_aloadN (pc' := 34) B X1 d20_33 rfl rfl rfl ?_
  refine own_getfield (pc' := 37) B X1 (host := "") (Or.inl (own_w hw 53 rfl)) Via.refl F_w0_hashes d20_34 rfl ?_
  intro T2 X2
  refine own_iloadN (pc' := 38) B X2 d20_37 rfl rfl ?_
  refine own_iloadN (pc' := 39) B X2 d20_38 rfl rfl ?_
  replace V_w4 : Arv Z h0 w4 kw4 .int (8 : Int32) [(.int p6), (.int 0)] (.int 0) := V_w4.pad (pad_rep [(.int p6)] (.int 0) 1)
  refine own_iastore (pc' := 40) B X2 (x' := p8) V_w4 g_w4 ⟨by decide, by decide⟩ 1 (by decide) (Nat.le_of_ble_eq_true rfl) rfl d20_39 rfl ?_
  intro T3 h3 X3 W3 V_w4
  replace V_w4 : Arv Z h3 w4 kw4 .int (8 : Int32) [(.int p6), (.int p8)] (.int 0) := V_w4
  replace K := K.wr W3 (Or.inl (List.mem_of_getElem? (i := 0) rfl))
  refine own_iconst (pc' := 41) B X3 (z := (2 : Int32)) d20_40 rfl rfl ?_
  refine own_aloadN (pc' := 42) B X3 d20_41 rfl rfl rfl ?_
  replace F_w0_count := (F_w0_count.other W3 (Or.inl ne_w0_w4))
  refine own_getfield (pc' := 45) B X3 (host := "") (Or.inl (own_w hw 136 rfl)) Via.refl F_w0_count d20_42 rfl ?_
  intro T4 X4
  refine own_iconst (pc' := 46) B X4 (z := (1 : Int32)) d20_45 rfl rfl ?_
  refine own_iadd (pc' := 47) B X4 (z := (2 : Int32)) d20_46 rfl (by decide) ?_
  refine own_imul (pc' := 48) B X4 (z := (4 : Int32)) d20_47 rfl (by decide) ?_
  refine own_aloadN (pc' := 49) B X4 d20_48 rfl rfl rfl ?_
  replace F_w0_slots := (F_w0_slots.other W3 (Or.inl ne_w0_w4))
  refine own_getfield (pc' := 52) B X4 (host := "") (Or.inl (own_w hw 51 rfl)) Via.refl F_w0_slots d20_49 rfl ?_
  intro T5 X5
  replace V_w1 := (V_w1.other W3 ne_w1_w4)
  refine own_arraylengthH (pc' := 53) B X5 V_w1 d20_52 rfl ?_
  refine own_icmpYes (pc' := 60) B X5 d20_53 (flt (by decide : ¬ ((16 : Int32) < (4 : Int32)))).2.2.2 (by decide) rfl ?_
  refine own_aloadN (pc' := 61) B X5 d20_60 rfl rfl rfl ?_
  refine own_iloadN (pc' := 62) B X5 d20_61 rfl rfl ?_
  replace E_w0 := (E_w0.wr W3)
  refine own_callP (pc' := 65) B X5 (own_w hw 138 rfl) (own_w hw 139 rfl) (own_w hw 140 rfl) (own_w hw 45 rfl) (own_w hw 46 rfl) (own_w hw 141 rfl) E_w0 (by decide) [(.int 1)] [] (rm_35 l Z a0 hw [] w0 w1 kw1 (p3) w4 kw4 (p6) (p8) w7 h3 n0 (Nat.le_trans Z0 K.1) E_w0 F_w0_slots (F_w0_hashes.other W3 (Or.inl ne_w0_w4)) (F_w0_keys.other W3 (Or.inl ne_w0_w4)) F_w0_count (F_w0_crowded.other W3 (Or.inl ne_w0_w4)) g_w0 V_w1 g_w1 V_w4 g_w4 ne_w0_w1 ne_w0_w4 ne_w1_w4) 0 (by decide) (by decide) rfl pd_4 rfl rfl (Nat.le_of_eq rfl) d20_62 rfl (k' := 0) (n' := 0) rfl rfl (by decide) (by decide) ?_
  intro T6 v6 h6 X6 q6
  obtain ⟨y7, hy8, rfl, K6, V_w1⟩ := q6
  replace K := K.trans K6 (allS (Or.inl (List.mem_of_getElem? (i := 1) rfl)) all0)
  show own_Go p e below (T6.setTop (mkF m 65 #[.val (.ref w0), .val (.int 1), .val (.int p8)] [])) _
  refine own_aloadN (pc' := 66) B X6 d20_65 rfl rfl rfl ?_
  refine own_dup (pc' := 67) B X6 d20_66 rfl rfl ?_
  replace F_w0_count := (F_w0_count.keep K6 (ninS ne_w0_w1 nin0))
  refine own_getfield (pc' := 70) B X6 (host := "") (Or.inl (own_w hw 136 rfl)) Via.refl F_w0_count d20_67 rfl ?_
  intro T9 X9
  refine own_iconst (pc' := 71) B X9 (z := (1 : Int32)) d20_70 rfl rfl ?_
  refine own_iadd (pc' := 72) B X9 (z := (2 : Int32)) d20_71 rfl (by decide) ?_
  replace E_w0 := (E_w0.keep K6)
  refine own_putfield (pc' := 75) B X9 (host := "") (Or.inl (own_w hw 136 rfl)) Via.refl F_w0_count E_w0 g_w0 (Or.inl (own_w hw 137 rfl)) (own_w hw 45 rfl) (ty := .int) (by decide) rfl rfl d20_72 rfl ?_
  intro T10 h10 X10 W10 F_w0_count
  replace K := K.wr W10 (Or.inl (List.mem_of_getElem? (i := 2) rfl))
  exact own_ret B X10 d20_75 (by decide) (by decide) (⟨y7, hy8, rfl, K, (E_w0.wr W10), ((F_w0_slots.keep K6 (ninS ne_w0_w1 nin0)).other W10 (Or.inr (slot_ne (Or.inl (own_w hw 52 rfl)) (Or.inl (own_w hw 137 rfl)) (by decide) (t := (.array .int)) (t' := .int) (by decide) (by decide)))), (((F_w0_hashes.other W3 (Or.inl ne_w0_w4)).keep K6 (ninS ne_w0_w1 nin0)).other W10 (Or.inr (slot_ne (Or.inl (own_w hw 54 rfl)) (Or.inl (own_w hw 137 rfl)) (by decide) (t := (.array .int)) (t' := .int) (by decide) (by decide)))), (((F_w0_keys.other W3 (Or.inl ne_w0_w4)).keep K6 (ninS ne_w0_w1 nin0)).other W10 (Or.inr (slot_ne (Or.inr (own_w hw 56 rfl)) (Or.inl (own_w hw 137 rfl)) (by decide) (t := (.object "com/example/ordal/ordal/NumberTable$Keys")) (t' := .int) (by decide) (by decide)))), F_w0_count, (((F_w0_crowded.other W3 (Or.inl ne_w0_w4)).keep K6 (ninS ne_w0_w1 nin0)).other W10 (Or.inr (slot_ne (Or.inl (own_w hw 188 rfl)) (Or.inl (own_w hw 137 rfl)) (by decide) (t := (.object "java/util/TreeMap")) (t' := .int) (by decide) (by decide)))), (V_w1.other W10 (Ne.symm ne_w0_w1)), ((V_w4.keep K6 (ninS (Ne.symm ne_w1_w4) nin0)).other W10 (Ne.symm ne_w0_w4))⟩)
def Q_33 (Z : State) (w0 w1 w2 : Addr) (kw2 : ClassId) (p4 : Int32) (w5 : Addr) (kw5 : ClassId) (p7 p8 : Int32) (h0 : Heap) (n0 : Nat) (v : Option Value) (h : Heap) : Prop :=
  (∃ (y3 : Int32), own_F_put2 p4 p8 = y3 ∧ v = none ∧ Keep h0 h [w5, w2, w1] ∧ Exa Z h w1 oC1 ∧ Fld Z h w1 oC1 "slots" "[I" (.ref w2) ∧ Fld Z h w1 oC1 "hashes" "[I" (.ref w5) ∧ Fld Z h w1 oC1 "keys" "Lcom/example/ordal/ordal/NumberTable$Keys;" (.ref w0) ∧ Fld Z h w1 oC1 "count" "I" (.int 2) ∧ Fld Z h w1 oC1 "crowded" "Ljava/util/TreeMap;" .null ∧ Arh Z h w2 kw2 .int (16 : Int32) [(y3, (.int 2)), (p4, (.int 1))] [] (.int 0) ∧ Arv Z h w5 kw5 .int (8 : Int32) [(.int p7), (.int p8)] (.int 0))
theorem rm_33 (l : Launch) (Z : State) (a0 : Array Value) (hw : ∀ d ∈ tables_1, d.before a0 Z = true) (ws : List Jvm.Cond) (w0 w1 w2 : Addr) (kw2 : ClassId) (p4 : Int32) (w5 : Addr) (kw5 : ClassId) (p7 p8 : Int32) (h0 : Heap) (n0 : Nat) (Z0 : n0 ≤ h0.size) (E_w0 : Exa Z h0 w0 oC3) (F_w0_table : Fld Z h0 w0 oC3 "table" "Lcom/example/ordal/ordal/NumberTable;" (.ref w1)) (g_w0 : n0 ≤ w0) (E_w1 : Exa Z h0 w1 oC1) (F_w1_slots : Fld Z h0 w1 oC1 "slots" "[I" (.ref w2)) (F_w1_hashes : Fld Z h0 w1 oC1 "hashes" "[I" (.ref w5)) (F_w1_keys : Fld Z h0 w1 oC1 "keys" "Lcom/example/ordal/ordal/NumberTable$Keys;" (.ref w0)) (F_w1_count : Fld Z h0 w1 oC1 "count" "I" (.int 1)) (F_w1_crowded : Fld Z h0 w1 oC1 "crowded" "Ljava/util/TreeMap;" .null) (g_w1 : n0 ≤ w1) (V_w2 : Arh Z h0 w2 kw2 .int (16 : Int32) [(p4, (.int 1))] [] (.int 0)) (g_w2 : n0 ≤ w2) (V_w5 : Arv Z h0 w5 kw5 .int (8 : Int32) [(.int p7)] (.int 0)) (g_w5 : n0 ≤ w5) (ne_w0_w1 : w0 ≠ w1) (ne_w0_w2 : w0 ≠ w2) (ne_w0_w5 : w0 ≠ w5) (ne_w1_w2 : w1 ≠ w2) (ne_w1_w5 : w1 ≠ w5) (ne_w2_w5 : w2 ≠ w5) :
    own_M l Z (⟨"com/example/ordal/ordal/Relation$PositionTable", "put", "(II)V"⟩ : MethodName) prog_15_method_4_code 3 none ws ({ frames := 5, cells := 0, slots := 0, locals := 71 } : Room) #[(.ref w0), (.int 1), (.int p8)] h0 n0 (Q_33 Z w0 w1 w2 kw2 p4 w5 kw5 p7 p8 h0 n0) := by
  refine own_enter' (Q := Q_33 Z w0 w1 w2 kw2 p4 w5 kw5 p7 p8 h0 n0) (F := fun m => mkF m 0 #[.val (.ref w0), .val (.int 1), .val (.int p8)] []) (plainFor_of_name pn_4) ?_
  intro p e s m below meth c s₁ B X0
  have K : Keep h0 h0 [w5, w2, w1] := Keep.refl h0 _
  have lt_w0 := E_w0.lt
  have lt_w1 := E_w1.lt
  have lt_w2 := V_w2.lt
  have lt_w5 := V_w5.lt
  refine own_aloadN (pc' := 1) B X0 d19_0 rfl rfl rfl ?_
  refine own_getfield (pc' := 4) B X0 (host := "") (Or.inl (own_w hw 57 rfl)) Via.refl F_w0_table d19_1 rfl ?_
  intro T1 X1
  refine own_iloadN (pc' := 5) B X1 d19_4 rfl rfl ?_
  refine own_iloadN (pc' := 6) B X1 d19_5 rfl rfl ?_
  refine own_callV (pc' := 9) B X1 (own_w hw 131 rfl) (own_w hw 132 rfl) (own_w hw 134 rfl) (own_w hw 133 rfl) (own_w hw 46 rfl) (own_w hw 135 rfl) E_w1 (by decide) [(.int 1), (.int p8)] [] (rm_34 l Z a0 hw [] w1 w2 kw2 (p4) w5 kw5 (p7) w0 (p8) h0 n0 (Nat.le_trans Z0 K.1) E_w1 F_w1_slots F_w1_hashes F_w1_keys F_w1_count F_w1_crowded g_w1 V_w2 g_w2 V_w5 g_w5 ne_w1_w2 ne_w1_w5 ne_w2_w5) 0 (by decide) (by decide) rfl pd_11 rfl rfl (Nat.le_of_eq rfl) d19_6 rfl (k' := 0) (n' := 0) rfl rfl (by decide) (by decide) ?_
  intro T2 v2 h2 X2 q2
  obtain ⟨y3, hy4, rfl, K2, E_w1, F_w1_slots, F_w1_hashes, F_w1_keys, F_w1_count, F_w1_crowded, V_w2, V_w5⟩ := q2
  replace K := K.trans K2 (allS (Or.inl (List.mem_of_getElem? (i := 0) rfl)) (allS (Or.inl (List.mem_of_getElem? (i := 1) rfl)) (allS (Or.inl (List.mem_of_getElem? (i := 2) rfl)) all0)))
  show own_Go p e below (T2.setTop (mkF m 9 #[.val (.ref w0), .val (.int 1), .val (.int p8)] [])) _
  exact own_ret B X2 d19_9 (by decide) (by decide) (⟨y3, hy4, rfl, K, E_w1, F_w1_slots, F_w1_hashes, F_w1_keys, F_w1_count, F_w1_crowded, V_w2, V_w5⟩)
def Q_24 (Z : State) (w0 w1 w2 : Addr) (kw2 : ClassId) (p4 p5 : Int32) (w6 w7 w8 : Addr) (kw8 : ClassId) (p10 : Int32) (w11 : Addr) (kw11 : ClassId) (p13 : Int32) (w14 : Addr) (kw14 : ClassId) (w16 : Addr) (kw16 : ClassId) (p18 p19 : Int32) (h0 : Heap) (n0 : Nat) (v : Option Value) (h : Heap) : Prop :=
  (∃ (y3 : Int32) (y7 : Int32) (y24 : Int32), own_F_hash p18 p19 = y3 ∧ own_F_look1 p4 p5 p18 p19 = y7 ∧ y7 = (-1 : Int32) ∧ own_F_put2 p10 y3 = y24 ∧ v = some (.int 1) ∧ Keep h0 h [w2, w0, w11, w8, w7] ∧ Exa Z h w0 oC2 ∧ Fld Z h w0 oC2 "indexes" "Ljava/util/Map;" (.ref w1) ∧ Fld Z h w0 oC2 "arity" "I" (.int 2) ∧ Fld Z h w0 oC2 "rows" "[I" (.ref w2) ∧ Fld Z h w0 oC2 "members" "Lcom/example/ordal/ordal/Relation$PositionTable;" (.ref w6) ∧ Fld Z h w0 oC2 "size" "I" (.int 2) ∧ Fld Z h w0 oC2 "spellings" "[I" .null ∧ Fld Z h w0 oC2 "arrived" "I" (.int 1) ∧ Arv Z h w2 kw2 .int (16 : Int32) [(.int p4), (.int p5), (.int p18), (.int p19)] (.int 0) ∧ Exa Z h w7 oC1 ∧ Fld Z h w7 oC1 "slots" "[I" (.ref w8) ∧ Fld Z h w7 oC1 "hashes" "[I" (.ref w11) ∧ Fld Z h w7 oC1 "keys" "Lcom/example/ordal/ordal/NumberTable$Keys;" (.ref w6) ∧ Fld Z h w7 oC1 "count" "I" (.int 2) ∧ Fld Z h w7 oC1 "crowded" "Ljava/util/TreeMap;" .null ∧ Arh Z h w8 kw8 .int (16 : Int32) [(y24, (.int 2)), (p10, (.int 1))] [] (.int 0) ∧ Arv Z h w11 kw11 .int (8 : Int32) [(.int p13), (.int y3)] (.int 0)) ∨
  (∃ (y7 : Int32), own_F_look1 p4 p5 p18 p19 = y7 ∧ ¬ (y7 = (-1 : Int32)) ∧ v = some (.int 0) ∧ h0 = h)
theorem rm_24 (l : Launch) (Z : State) (a0 : Array Value) (hw : ∀ d ∈ tables_1, d.before a0 Z = true) (ws : List Jvm.Cond) (w0 w1 w2 : Addr) (kw2 : ClassId) (p4 p5 : Int32) (w6 w7 w8 : Addr) (kw8 : ClassId) (p10 : Int32) (w11 : Addr) (kw11 : ClassId) (p13 : Int32) (w14 : Addr) (kw14 : ClassId) (w16 : Addr) (kw16 : ClassId) (p18 p19 : Int32) (h0 : Heap) (n0 : Nat) (Z0 : n0 ≤ h0.size) (E_w0 : Exa Z h0 w0 oC2) (F_w0_indexes : Fld Z h0 w0 oC2 "indexes" "Ljava/util/Map;" (.ref w1)) (F_w0_arity : Fld Z h0 w0 oC2 "arity" "I" (.int 2)) (F_w0_rows : Fld Z h0 w0 oC2 "rows" "[I" (.ref w2)) (F_w0_members : Fld Z h0 w0 oC2 "members" "Lcom/example/ordal/ordal/Relation$PositionTable;" (.ref w6)) (F_w0_size : Fld Z h0 w0 oC2 "size" "I" (.int 1)) (F_w0_spellings : Fld Z h0 w0 oC2 "spellings" "[I" .null) (F_w0_arrived : Fld Z h0 w0 oC2 "arrived" "I" (.int 1)) (g_w0 : n0 ≤ w0) (E_w1 : Exa Z h0 w1 oC4) (F_w1_size : Fld Z h0 w1 oC4 "size" "I" (.int 0)) (g_w1 : n0 ≤ w1) (V_w2 : Arv Z h0 w2 kw2 .int (16 : Int32) [(.int p4), (.int p5)] (.int 0)) (g_w2 : n0 ≤ w2) (E_w6 : Exa Z h0 w6 oC3) (F_w6_table : Fld Z h0 w6 oC3 "table" "Lcom/example/ordal/ordal/NumberTable;" (.ref w7)) (F_w6_relation : Fld Z h0 w6 oC3 "relation" "Lcom/example/ordal/ordal/Relation;" (.ref w0)) (F_w6_columns : Fld Z h0 w6 oC3 "columns" "[I" (.ref w14)) (g_w6 : n0 ≤ w6) (E_w7 : Exa Z h0 w7 oC1) (F_w7_slots : Fld Z h0 w7 oC1 "slots" "[I" (.ref w8)) (F_w7_hashes : Fld Z h0 w7 oC1 "hashes" "[I" (.ref w11)) (F_w7_keys : Fld Z h0 w7 oC1 "keys" "Lcom/example/ordal/ordal/NumberTable$Keys;" (.ref w6)) (F_w7_count : Fld Z h0 w7 oC1 "count" "I" (.int 1)) (F_w7_crowded : Fld Z h0 w7 oC1 "crowded" "Ljava/util/TreeMap;" .null) (g_w7 : n0 ≤ w7) (V_w8 : Arh Z h0 w8 kw8 .int (16 : Int32) [(p10, (.int 1))] [] (.int 0)) (g_w8 : n0 ≤ w8) (V_w11 : Arv Z h0 w11 kw11 .int (8 : Int32) [(.int p13)] (.int 0)) (g_w11 : n0 ≤ w11) (V_w14 : Arv Z h0 w14 kw14 .int (2 : Int32) [(.int 0), (.int 1)] (.int 0)) (g_w14 : n0 ≤ w14) (E_w16 : Exa Z h0 w16 "[I") (V_w16 : Arv Z h0 w16 kw16 .int (2 : Int32) [(.int p18), (.int p19)] (.int 0)) (g_w16 : n0 ≤ w16) (ne_w0_w1 : w0 ≠ w1) (ne_w0_w2 : w0 ≠ w2) (ne_w0_w6 : w0 ≠ w6) (ne_w0_w7 : w0 ≠ w7) (ne_w0_w8 : w0 ≠ w8) (ne_w0_w11 : w0 ≠ w11) (ne_w0_w14 : w0 ≠ w14) (ne_w0_w16 : w0 ≠ w16) (ne_w1_w2 : w1 ≠ w2) (ne_w1_w6 : w1 ≠ w6) (ne_w1_w7 : w1 ≠ w7) (ne_w1_w8 : w1 ≠ w8) (ne_w1_w11 : w1 ≠ w11) (ne_w1_w14 : w1 ≠ w14) (ne_w1_w16 : w1 ≠ w16) (ne_w2_w6 : w2 ≠ w6) (ne_w2_w7 : w2 ≠ w7) (ne_w2_w8 : w2 ≠ w8) (ne_w2_w11 : w2 ≠ w11) (ne_w2_w14 : w2 ≠ w14) (ne_w2_w16 : w2 ≠ w16) (ne_w6_w7 : w6 ≠ w7) (ne_w6_w8 : w6 ≠ w8) (ne_w6_w11 : w6 ≠ w11) (ne_w6_w14 : w6 ≠ w14) (ne_w6_w16 : w6 ≠ w16) (ne_w7_w8 : w7 ≠ w8) (ne_w7_w11 : w7 ≠ w11) (ne_w7_w14 : w7 ≠ w14) (ne_w7_w16 : w7 ≠ w16) (ne_w8_w11 : w8 ≠ w11) (ne_w8_w14 : w8 ≠ w14) (ne_w8_w16 : w8 ≠ w16) (ne_w11_w14 : w11 ≠ w14) (ne_w11_w16 : w11 ≠ w16) (ne_w14_w16 : w14 ≠ w16) (hp0 : own_F_hash p4 p5 = p13) (hp1 : own_F_slot p13 = p10) :
    own_M l Z (⟨"com/example/ordal/ordal/Relation", "put", "([I[I)Z"⟩ : MethodName) prog_12_method_16_code 8 (some .boolean) ws ({ frames := 6, cells := 0, slots := 0, locals := 85 } : Room) #[(.ref w0), (.ref w16), (.ref w16)] h0 n0 (Q_24 Z w0 w1 w2 kw2 p4 p5 w6 w7 w8 kw8 p10 w11 kw11 p13 w14 kw14 w16 kw16 p18 p19 h0 n0) := by
  refine own_enter' (Q := Q_24 Z w0 w1 w2 kw2 p4 p5 w6 w7 w8 kw8 p10 w11 kw11 p13 w14 kw14 w16 kw16 p18 p19 h0 n0) (F := fun m => mkF m 0 #[.val (.ref w0), .val (.ref w16), .val (.ref w16), .unset, .unset, .unset, .unset, .unset] []) (plainFor_of_name pn_2) ?_
  intro p e s m below meth c s₁ B X0
  have K : Keep h0 h0 [w2, w0, w11, w8, w7] := Keep.refl h0 _
  have lt_w0 := E_w0.lt
  have lt_w1 := E_w1.lt
  have lt_w2 := V_w2.lt
  have lt_w6 := E_w6.lt
  have lt_w7 := E_w7.lt
  have lt_w8 := V_w8.lt
  have lt_w11 := V_w11.lt
  have lt_w14 := V_w14.lt
  have lt_w16 := E_w16.lt
  refine own_aloadN (pc' := 1) B X0 d12_0 rfl rfl rfl ?_
  refine own_getfield (pc' := 4) B X0 (host := "") (Or.inl (own_w hw 65 rfl)) Via.refl F_w0_members d12_1 rfl ?_
  intro T1 X1
  refine own_aloadN (pc' := 5) B X1 d12_4 rfl rfl rfl ?_
  refine own_callV (pc' := 8) B X1 (own_w hw 92 rfl) (own_w hw 93 rfl) (own_w hw 95 rfl) (own_w hw 94 rfl) (own_w hw 36 rfl) (own_w hw 96 rfl) E_w6 (by decide) [(.ref w16)] [] (rm_10 l Z a0 hw [] w6 w16 kw16 (p18) (p19) h0 n0 (Nat.le_trans Z0 K.1) E_w6 g_w6 E_w16 V_w16 g_w16 ne_w6_w16) 0 (by decide) (by decide) rfl pd_6 rfl rfl (Nat.le_of_eq rfl) d12_5 rfl (k' := 0) (n' := 0) rfl rfl (by decide) (by decide) ?_
  intro T2 v2 h2 X2 q2
  obtain ⟨y3, hy4, rfl, rfl⟩ := q2
  show own_Go p e below (T2.setTop (mkF m 8 #[.val (.ref w0), .val (.ref w16), .val (.ref w16), .unset, .unset, .unset, .unset, .unset] [(.int y3)])) _
  refine own_istoreN (pc' := 9) B X2 (Ls' := #[.val (.ref w0), .val (.ref w16), .val (.ref w16), .val (.int y3), .unset, .unset, .unset, .unset]) d12_8 rfl rfl ?_
  refine own_aloadN (pc' := 10) B X2 d12_9 rfl rfl rfl ?_
  refine own_getfield (pc' := 13) B X2 (host := "") (Or.inl (own_w hw 65 rfl)) Via.refl F_w0_members d12_10 rfl ?_
  intro T5 X5
  refine own_aloadN (pc' := 14) B X5 d12_13 rfl rfl rfl ?_
  refine own_iloadN (pc' := 15) B X5 d12_14 rfl rfl ?_
  refine own_callV (pc' := 18) B X5 (own_w hw 101 rfl) (own_w hw 102 rfl) (own_w hw 104 rfl) (own_w hw 103 rfl) (own_w hw 36 rfl) (own_w hw 105 rfl) E_w6 (by decide) [(.ref w16), (.int y3)] [] (rm_25 l Z a0 hw [] w6 w7 w8 kw8 (p10) w11 kw11 (p13) w0 w2 kw2 (p4) (p5) w14 kw14 w16 kw16 (p18) (p19) (y3) h0 n0 (Nat.le_trans Z0 K.1) E_w6 F_w6_table F_w6_relation F_w6_columns g_w6 E_w7 F_w7_slots F_w7_hashes F_w7_keys F_w7_crowded g_w7 V_w8 g_w8 V_w11 g_w11 E_w0 F_w0_arity F_w0_rows g_w0 V_w2 g_w2 V_w14 g_w14 E_w16 V_w16 g_w16 ne_w6_w7 ne_w6_w8 ne_w6_w11 (Ne.symm ne_w0_w6) (Ne.symm ne_w2_w6) ne_w6_w14 ne_w6_w16 ne_w7_w8 ne_w7_w11 (Ne.symm ne_w0_w7) (Ne.symm ne_w2_w7) ne_w7_w14 ne_w7_w16 ne_w8_w11 (Ne.symm ne_w0_w8) (Ne.symm ne_w2_w8) ne_w8_w14 ne_w8_w16 (Ne.symm ne_w0_w11) (Ne.symm ne_w2_w11) ne_w11_w14 ne_w11_w16 ne_w0_w2 ne_w0_w14 ne_w0_w16 ne_w2_w14 ne_w2_w16 ne_w14_w16 hp0 hp1 hy4) 0 (by decide) (by decide) rfl pd_9 rfl rfl (Nat.le_of_eq rfl) d12_15 rfl (k' := 0) (n' := 0) rfl rfl (by decide) (by decide) ?_
  intro T6 v6 h6 X6 q6
  obtain ⟨y7, hy8, rfl, rfl⟩ := q6
  show own_Go p e below (T6.setTop (mkF m 18 #[.val (.ref w0), .val (.ref w16), .val (.ref w16), .val (.int y3), .unset, .unset, .unset, .unset] [(.int y7)])) _
  refine own_iconst (pc' := 19) B X6 (z := (-1 : Int32)) d12_18 rfl rfl ?_
  by_cases c9 : y7 = (-1 : Int32)
  refine own_icmpYes (pc' := 24) B X6 d12_19 (teq c9).1 (by decide) rfl ?_
  refine own_aloadN (pc' := 25) B X6 d12_24 rfl rfl rfl ?_
  refine own_getfield (pc' := 28) B X6 (host := "") (Or.inl (own_w hw 72 rfl)) Via.refl F_w0_size d12_25 rfl ?_
  intro T10 X10
  refine own_iconst (pc' := 29) B X10 (z := (1 : Int32)) d12_28 rfl rfl ?_
  refine own_iadd (pc' := 30) B X10 (z := (2 : Int32)) d12_29 rfl (by decide) ?_
  refine own_aloadN (pc' := 31) B X10 d12_30 rfl rfl rfl ?_
  refine own_getfield (pc' := 34) B X10 (host := "") (Or.inl (own_w hw 29 rfl)) Via.refl F_w0_arity d12_31 rfl ?_
  intro T11 X11
  refine own_imul (pc' := 35) B X11 (z := (4 : Int32)) d12_34 rfl (by decide) ?_
  refine own_aloadN (pc' := 36) B X11 d12_35 rfl rfl rfl ?_
  refine own_getfield (pc' := 39) B X11 (host := "") (Or.inl (own_w hw 32 rfl)) Via.refl F_w0_rows d12_36 rfl ?_
  intro T12 X12
  refine own_arraylength (pc' := 40) B X12 V_w2 d12_39 rfl ?_
  refine own_icmpYes (pc' := 98) B X12 d12_40 (flt (by decide : ¬ ((16 : Int32) < (4 : Int32)))).2.2.2 (by decide) rfl ?_
  refine own_aloadN (pc' := 99) B X12 d12_98 rfl rfl rfl ?_
  refine own_getfield (pc' := 102) B X12 (host := "") (Or.inl (own_w hw 72 rfl)) Via.refl F_w0_size d12_99 rfl ?_
  intro T13 X13
  refine own_aloadN (pc' := 103) B X13 d12_102 rfl rfl rfl ?_
  refine own_getfield (pc' := 106) B X13 (host := "") (Or.inl (own_w hw 29 rfl)) Via.refl F_w0_arity d12_103 rfl ?_
  intro T14 X14
  refine own_imul (pc' := 107) B X14 (z := (2 : Int32)) d12_106 rfl (by decide) ?_
  refine own_istore (pc' := 109) B X14 (Ls' := #[.val (.ref w0), .val (.ref w16), .val (.ref w16), .val (.int y3), .val (.int 2), .unset, .unset, .unset]) d12_107 rfl rfl ?_
  refine own_aloadN (pc' := 110) B X14 d12_109 rfl rfl rfl ?_
  refine own_iconst (pc' := 111) B X14 (z := (0 : Int32)) d12_110 rfl rfl ?_
  refine own_aloadN (pc' := 112) B X14 d12_111 rfl rfl rfl ?_
  refine own_getfield (pc' := 115) B X14 (host := "") (Or.inl (own_w hw 32 rfl)) Via.refl F_w0_rows d12_112 rfl ?_
  intro T15 X15
  refine own_iload (pc' := 117) B X15 d12_115 rfl rfl ?_
  refine own_aloadN (pc' := 118) B X15 d12_117 rfl rfl rfl ?_
  refine own_getfield (pc' := 121) B X15 (host := "") (Or.inl (own_w hw 29 rfl)) Via.refl F_w0_arity d12_118 rfl ?_
  intro T16 X16
  replace V_w2 : Arv Z h0 w2 kw2 .int (16 : Int32) [(.int p4), (.int p5), (.int 0), (.int 0)] (.int 0) := V_w2.pad (pad_rep [(.int p4), (.int p5)] (.int 0) 2)
  refine own_arraycopy (pc' := 124) B X16 (own_w hw 120 rfl) (own_w hw 123 rfl) (own_w hw 121 rfl) (own_w hw 122 rfl) V_w16 V_w2 rfl g_w2 (by decide) (by decide) (by decide) (by decide) (by decide) (us := [(.int p18), (.int p19)]) rfl (Nat.le_of_ble_eq_true rfl) (rs := [(.int p4), (.int p5), (.int p18), (.int p19)]) rfl d12_121 rfl rfl (by decide) 0 (Nat.le_of_eq rfl) (by decide) ?_
  intro T17 h17 X17 K17 V_w2
  replace K := K.trans K17 (allS (Or.inl (List.mem_of_getElem? (i := 0) rfl)) all0)
  refine own_aloadN (pc' := 125) B X17 d12_124 rfl rfl rfl ?_
  replace F_w0_spellings := (F_w0_spellings.keep K17 (ninS ne_w0_w2 nin0))
  refine own_getfield (pc' := 128) B X17 (host := "") (Or.inl (own_w hw 124 rfl)) Via.refl F_w0_spellings d12_125 rfl ?_
  intro T18 X18
  refine own_ifnonnullNo (pc' := 131) B X18 d12_128 rfl ?_
  refine own_aloadN (pc' := 132) B X18 d12_131 rfl rfl rfl ?_
  refine own_aloadN (pc' := 133) B X18 d12_132 rfl rfl rfl ?_
  refine own_acmp B X18 rfl rfl (same := true) d12_133 (decide_eq_true rfl) (by decide) (pc' := 158) (by decide) ?_
  refine own_aloadN (pc' := 159) B X18 d12_158 rfl rfl rfl ?_
  refine own_getfield (pc' := 162) B X18 (host := "") (Or.inl (own_w hw 124 rfl)) Via.refl F_w0_spellings d12_159 rfl ?_
  intro T19 X19
  refine own_ifnullYes (pc' := 180) B X19 d12_162 (by decide) rfl ?_
  refine own_aloadN (pc' := 181) B X19 d12_180 rfl rfl rfl ?_
  refine own_dup (pc' := 182) B X19 d12_181 rfl rfl ?_
  replace F_w0_size := (F_w0_size.keep K17 (ninS ne_w0_w2 nin0))
  refine own_getfield (pc' := 185) B X19 (host := "") (Or.inl (own_w hw 72 rfl)) Via.refl F_w0_size d12_182 rfl ?_
  intro T20 X20
  refine own_dup_x1 (pc' := 186) B X20 d12_185 rfl rfl rfl ?_
  refine own_iconst (pc' := 187) B X20 (z := (1 : Int32)) d12_186 rfl rfl ?_
  refine own_iadd (pc' := 188) B X20 (z := (2 : Int32)) d12_187 rfl (by decide) ?_
  replace E_w0 := (E_w0.keep K17)
  refine own_putfield (pc' := 191) B X20 (host := "") (Or.inl (own_w hw 72 rfl)) Via.refl F_w0_size E_w0 g_w0 (Or.inl (own_w hw 73 rfl)) (own_w hw 1 rfl) (ty := .int) (by decide) rfl rfl d12_188 rfl ?_
  intro T21 h21 X21 W21 F_w0_size
  replace K := K.wr W21 (Or.inl (List.mem_of_getElem? (i := 1) rfl))
  refine own_istore (pc' := 193) B X21 (Ls' := #[.val (.ref w0), .val (.ref w16), .val (.ref w16), .val (.int y3), .val (.int 2), .val (.int 1), .unset, .unset]) d12_191 rfl rfl ?_
  refine own_aloadN (pc' := 194) B X21 d12_193 rfl rfl rfl ?_
  replace F_w0_members := ((F_w0_members.keep K17 (ninS ne_w0_w2 nin0)).other W21 (Or.inr (slot_ne (Or.inr (own_w hw 66 rfl)) (Or.inl (own_w hw 73 rfl)) (by decide) (t := (.object "com/example/ordal/ordal/Relation$PositionTable")) (t' := .int) (by decide) (by decide))))
  refine own_getfield (pc' := 197) B X21 (host := "") (Or.inl (own_w hw 65 rfl)) Via.refl F_w0_members d12_194 rfl ?_
  intro T22 X22
  refine own_iload (pc' := 199) B X22 d12_197 rfl rfl ?_
  refine own_iloadN (pc' := 200) B X22 d12_199 rfl rfl ?_
  replace E_w6 := ((E_w6.keep K17).wr W21)
  replace F_w6_table := ((F_w6_table.keep K17 (ninS (Ne.symm ne_w2_w6) nin0)).other W21 (Or.inl (Ne.symm ne_w0_w6)))
  replace E_w7 := ((E_w7.keep K17).wr W21)
  replace F_w7_slots := ((F_w7_slots.keep K17 (ninS (Ne.symm ne_w2_w7) nin0)).other W21 (Or.inl (Ne.symm ne_w0_w7)))
  replace F_w7_hashes := ((F_w7_hashes.keep K17 (ninS (Ne.symm ne_w2_w7) nin0)).other W21 (Or.inl (Ne.symm ne_w0_w7)))
  replace F_w7_keys := ((F_w7_keys.keep K17 (ninS (Ne.symm ne_w2_w7) nin0)).other W21 (Or.inl (Ne.symm ne_w0_w7)))
  replace F_w7_count := ((F_w7_count.keep K17 (ninS (Ne.symm ne_w2_w7) nin0)).other W21 (Or.inl (Ne.symm ne_w0_w7)))
  replace F_w7_crowded := ((F_w7_crowded.keep K17 (ninS (Ne.symm ne_w2_w7) nin0)).other W21 (Or.inl (Ne.symm ne_w0_w7)))
  replace V_w8 := ((V_w8.keep K17 (ninS (Ne.symm ne_w2_w8) nin0)).other W21 (Ne.symm ne_w0_w8))
  replace V_w11 := ((V_w11.keep K17 (ninS (Ne.symm ne_w2_w11) nin0)).other W21 (Ne.symm ne_w0_w11))
  refine own_callV (pc' := 203) B X22 (own_w hw 126 rfl) (own_w hw 127 rfl) (own_w hw 129 rfl) (own_w hw 128 rfl) (own_w hw 36 rfl) (own_w hw 130 rfl) E_w6 (by decide) [(.int 1), (.int y3)] [] (rm_33 l Z a0 hw [] w6 w7 w8 kw8 (p10) w11 kw11 (p13) (y3) h21 n0 (Nat.le_trans Z0 K.1) E_w6 F_w6_table g_w6 E_w7 F_w7_slots F_w7_hashes F_w7_keys F_w7_count F_w7_crowded g_w7 V_w8 g_w8 V_w11 g_w11 ne_w6_w7 ne_w6_w8 ne_w6_w11 ne_w7_w8 ne_w7_w11 ne_w8_w11) 0 (by decide) (by decide) rfl pd_11 rfl rfl (Nat.le_of_eq rfl) d12_200 rfl (k' := 0) (n' := 0) rfl rfl (by decide) (by decide) ?_
  intro T23 v23 h23 X23 q23
  obtain ⟨y24, hy25, rfl, K23, E_w7, F_w7_slots, F_w7_hashes, F_w7_keys, F_w7_count, F_w7_crowded, V_w8, V_w11⟩ := q23
  replace K := K.trans K23 (allS (Or.inl (List.mem_of_getElem? (i := 2) rfl)) (allS (Or.inl (List.mem_of_getElem? (i := 3) rfl)) (allS (Or.inl (List.mem_of_getElem? (i := 4) rfl)) all0)))
  show own_Go p e below (T23.setTop (mkF m 203 #[.val (.ref w0), .val (.ref w16), .val (.ref w16), .val (.int y3), .val (.int 2), .val (.int 1), .unset, .unset] [])) _
  refine own_aloadN (pc' := 204) B X23 d12_203 rfl rfl rfl ?_
  replace F_w0_indexes := (((F_w0_indexes.keep K17 (ninS ne_w0_w2 nin0)).other W21 (Or.inr (slot_ne (Or.inr (own_w hw 26 rfl)) (Or.inl (own_w hw 73 rfl)) (by decide) (t := (.object "java/util/Map")) (t' := .int) (by decide) (by decide)))).keep K23 (ninS ne_w0_w11 (ninS ne_w0_w8 (ninS ne_w0_w7 nin0))))
  refine own_getfield (pc' := 207) B X23 (host := "") (Or.inl (own_w hw 25 rfl)) Via.refl F_w0_indexes d12_204 rfl ?_
  intro T26 X26
  replace E_w1 := (((E_w1.keep K17).wr W21).keep K23)
  replace F_w1_size := (((F_w1_size.keep K17 (ninS ne_w1_w2 nin0)).other W21 (Or.inl (Ne.symm ne_w0_w1))).keep K23 (ninS ne_w1_w11 (ninS ne_w1_w8 (ninS ne_w1_w7 nin0))))
  refine own_callF (pc' := 212) B X26 (xi := (⟨"java/util/Map", "isEmpty", "()Z"⟩ : MethodName)) (own_w hw 146 rfl) (own_w hw 147 rfl) (own_w hw 148 rfl) (own_w hw 149 rfl) (own_w hw 150 rfl) (own_w hw 151 rfl) (own_w hw 152 rfl) (own_w hw 153 rfl) (own_w hw 11 rfl) (own_w hw 154 rfl) E_w1 (by decide) [] [] (rm_21 l Z a0 hw [] w1 h23 n0 (Nat.le_trans Z0 K.1) E_w1 F_w1_size g_w1) 0 (by decide) (by decide) rfl pd_12 rfl rfl (Nat.le_of_eq rfl) d12_207 rfl (k' := 0) (n' := 0) rfl rfl (by decide) (by decide) ?_
  intro T27 v27 h27 X27 q27
  obtain ⟨rfl, rfl⟩ := q27
  show own_Go p e below (T27.setTop (mkF m 212 #[.val (.ref w0), .val (.ref w16), .val (.ref w16), .val (.int y3), .val (.int 2), .val (.int 1), .unset, .unset] [(.int 1)])) _
  refine own_ifYes (pc' := 263) B X27 d12_212 ((if0 _ _).trans (feq (by decide : ¬ ((1 : Int32) = (0 : Int32)))).2) (by decide) rfl ?_
  refine own_iconst (pc' := 264) B X27 (z := (1 : Int32)) d12_263 rfl rfl ?_
  exact own_retN B X27 (t := .boolean) (z' := (1 : Int32)) (by simp) (by decide) d12_264 (by decide) (by decide) (Or.inl ⟨y3, y7, y24, hy4, hy8, c9, hy25, rfl, K, ((E_w0.wr W21).keep K23), F_w0_indexes, (((F_w0_arity.keep K17 (ninS ne_w0_w2 nin0)).other W21 (Or.inr (slot_ne (Or.inr (own_w hw 30 rfl)) (Or.inl (own_w hw 73 rfl)) (by decide) (t := .int) (t' := .int) (by decide) (by decide)))).keep K23 (ninS ne_w0_w11 (ninS ne_w0_w8 (ninS ne_w0_w7 nin0)))), (((F_w0_rows.keep K17 (ninS ne_w0_w2 nin0)).other W21 (Or.inr (slot_ne (Or.inl (own_w hw 33 rfl)) (Or.inl (own_w hw 73 rfl)) (by decide) (t := (.array .int)) (t' := .int) (by decide) (by decide)))).keep K23 (ninS ne_w0_w11 (ninS ne_w0_w8 (ninS ne_w0_w7 nin0)))), (F_w0_members.keep K23 (ninS ne_w0_w11 (ninS ne_w0_w8 (ninS ne_w0_w7 nin0)))), (F_w0_size.keep K23 (ninS ne_w0_w11 (ninS ne_w0_w8 (ninS ne_w0_w7 nin0)))), ((F_w0_spellings.other W21 (Or.inr (slot_ne (Or.inl (own_w hw 125 rfl)) (Or.inl (own_w hw 73 rfl)) (by decide) (t := (.array .int)) (t' := .int) (by decide) (by decide)))).keep K23 (ninS ne_w0_w11 (ninS ne_w0_w8 (ninS ne_w0_w7 nin0)))), (((F_w0_arrived.keep K17 (ninS ne_w0_w2 nin0)).other W21 (Or.inr (slot_ne (Or.inl (own_w hw 158 rfl)) (Or.inl (own_w hw 73 rfl)) (by decide) (t := .int) (t' := .int) (by decide) (by decide)))).keep K23 (ninS ne_w0_w11 (ninS ne_w0_w8 (ninS ne_w0_w7 nin0)))), ((V_w2.other W21 (Ne.symm ne_w0_w2)).keep K23 (ninS ne_w2_w11 (ninS ne_w2_w8 (ninS ne_w2_w7 nin0)))), E_w7, F_w7_slots, F_w7_hashes, F_w7_keys, F_w7_count, F_w7_crowded, V_w8, V_w11⟩)
  refine own_icmpNo (pc' := 22) B X6 d12_19 (feq c9).1 rfl ?_
  refine own_iconst (pc' := 23) B X6 (z := (0 : Int32)) d12_22 rfl rfl ?_
  exact own_retN B X6 (t := .boolean) (z' := (0 : Int32)) (by simp) (by decide) d12_23 (by decide) (by decide) (Or.inr (⟨y7, hy8, c9, rfl, rfl⟩))
def Q_23 (Z : State) (w0 w1 w2 : Addr) (kw2 : ClassId) (p4 p5 : Int32) (w6 w7 w8 : Addr) (kw8 : ClassId) (p10 : Int32) (w11 : Addr) (kw11 : ClassId) (p13 : Int32) (w14 : Addr) (kw14 : ClassId) (w16 : Addr) (kw16 : ClassId) (p18 p19 : Int32) (h0 : Heap) (n0 : Nat) (v : Option Value) (h : Heap) : Prop :=
  (∃ (y4 : Int32) (y5 : Int32) (y6 : Int32), own_F_hash p18 p19 = y4 ∧ own_F_look1 p4 p5 p18 p19 = y5 ∧ y5 = (-1 : Int32) ∧ own_F_put2 p10 y4 = y6 ∧ v = some (.int 1) ∧ Keep h0 h [w2, w0, w11, w8, w7] ∧ Exa Z h w0 oC2 ∧ Fld Z h w0 oC2 "indexes" "Ljava/util/Map;" (.ref w1) ∧ Fld Z h w0 oC2 "arity" "I" (.int 2) ∧ Fld Z h w0 oC2 "rows" "[I" (.ref w2) ∧ Fld Z h w0 oC2 "members" "Lcom/example/ordal/ordal/Relation$PositionTable;" (.ref w6) ∧ Fld Z h w0 oC2 "size" "I" (.int 2) ∧ Fld Z h w0 oC2 "spellings" "[I" .null ∧ Fld Z h w0 oC2 "arrived" "I" (.int 2) ∧ Arv Z h w2 kw2 .int (16 : Int32) [(.int p4), (.int p5), (.int p18), (.int p19)] (.int 0) ∧ Exa Z h w7 oC1 ∧ Fld Z h w7 oC1 "slots" "[I" (.ref w8) ∧ Fld Z h w7 oC1 "hashes" "[I" (.ref w11) ∧ Fld Z h w7 oC1 "keys" "Lcom/example/ordal/ordal/NumberTable$Keys;" (.ref w6) ∧ Fld Z h w7 oC1 "count" "I" (.int 2) ∧ Fld Z h w7 oC1 "crowded" "Ljava/util/TreeMap;" .null ∧ Arh Z h w8 kw8 .int (16 : Int32) [(y6, (.int 2)), (p10, (.int 1))] [] (.int 0) ∧ Arv Z h w11 kw11 .int (8 : Int32) [(.int p13), (.int y4)] (.int 0)) ∨
  (∃ (y11 : Int32), own_F_look1 p4 p5 p18 p19 = y11 ∧ ¬ (y11 = (-1 : Int32)) ∧ v = some (.int 0) ∧ h0 = h)
theorem rm_23 (l : Launch) (Z : State) (a0 : Array Value) (hw : ∀ d ∈ tables_1, d.before a0 Z = true) (ws : List Jvm.Cond) (w0 w1 w2 : Addr) (kw2 : ClassId) (p4 p5 : Int32) (w6 w7 w8 : Addr) (kw8 : ClassId) (p10 : Int32) (w11 : Addr) (kw11 : ClassId) (p13 : Int32) (w14 : Addr) (kw14 : ClassId) (w16 : Addr) (kw16 : ClassId) (p18 p19 : Int32) (h0 : Heap) (n0 : Nat) (Z0 : n0 ≤ h0.size) (E_w0 : Exa Z h0 w0 oC2) (F_w0_indexes : Fld Z h0 w0 oC2 "indexes" "Ljava/util/Map;" (.ref w1)) (F_w0_arity : Fld Z h0 w0 oC2 "arity" "I" (.int 2)) (F_w0_rows : Fld Z h0 w0 oC2 "rows" "[I" (.ref w2)) (F_w0_members : Fld Z h0 w0 oC2 "members" "Lcom/example/ordal/ordal/Relation$PositionTable;" (.ref w6)) (F_w0_size : Fld Z h0 w0 oC2 "size" "I" (.int 1)) (F_w0_spellings : Fld Z h0 w0 oC2 "spellings" "[I" .null) (F_w0_arrived : Fld Z h0 w0 oC2 "arrived" "I" (.int 1)) (g_w0 : n0 ≤ w0) (E_w1 : Exa Z h0 w1 oC4) (F_w1_size : Fld Z h0 w1 oC4 "size" "I" (.int 0)) (g_w1 : n0 ≤ w1) (V_w2 : Arv Z h0 w2 kw2 .int (16 : Int32) [(.int p4), (.int p5)] (.int 0)) (g_w2 : n0 ≤ w2) (E_w6 : Exa Z h0 w6 oC3) (F_w6_table : Fld Z h0 w6 oC3 "table" "Lcom/example/ordal/ordal/NumberTable;" (.ref w7)) (F_w6_relation : Fld Z h0 w6 oC3 "relation" "Lcom/example/ordal/ordal/Relation;" (.ref w0)) (F_w6_columns : Fld Z h0 w6 oC3 "columns" "[I" (.ref w14)) (g_w6 : n0 ≤ w6) (E_w7 : Exa Z h0 w7 oC1) (F_w7_slots : Fld Z h0 w7 oC1 "slots" "[I" (.ref w8)) (F_w7_hashes : Fld Z h0 w7 oC1 "hashes" "[I" (.ref w11)) (F_w7_keys : Fld Z h0 w7 oC1 "keys" "Lcom/example/ordal/ordal/NumberTable$Keys;" (.ref w6)) (F_w7_count : Fld Z h0 w7 oC1 "count" "I" (.int 1)) (F_w7_crowded : Fld Z h0 w7 oC1 "crowded" "Ljava/util/TreeMap;" .null) (g_w7 : n0 ≤ w7) (V_w8 : Arh Z h0 w8 kw8 .int (16 : Int32) [(p10, (.int 1))] [] (.int 0)) (g_w8 : n0 ≤ w8) (V_w11 : Arv Z h0 w11 kw11 .int (8 : Int32) [(.int p13)] (.int 0)) (g_w11 : n0 ≤ w11) (V_w14 : Arv Z h0 w14 kw14 .int (2 : Int32) [(.int 0), (.int 1)] (.int 0)) (g_w14 : n0 ≤ w14) (E_w16 : Exa Z h0 w16 "[I") (V_w16 : Arv Z h0 w16 kw16 .int (2 : Int32) [(.int p18), (.int p19)] (.int 0)) (g_w16 : n0 ≤ w16) (ne_w0_w1 : w0 ≠ w1) (ne_w0_w2 : w0 ≠ w2) (ne_w0_w6 : w0 ≠ w6) (ne_w0_w7 : w0 ≠ w7) (ne_w0_w8 : w0 ≠ w8) (ne_w0_w11 : w0 ≠ w11) (ne_w0_w14 : w0 ≠ w14) (ne_w0_w16 : w0 ≠ w16) (ne_w1_w2 : w1 ≠ w2) (ne_w1_w6 : w1 ≠ w6) (ne_w1_w7 : w1 ≠ w7) (ne_w1_w8 : w1 ≠ w8) (ne_w1_w11 : w1 ≠ w11) (ne_w1_w14 : w1 ≠ w14) (ne_w1_w16 : w1 ≠ w16) (ne_w2_w6 : w2 ≠ w6) (ne_w2_w7 : w2 ≠ w7) (ne_w2_w8 : w2 ≠ w8) (ne_w2_w11 : w2 ≠ w11) (ne_w2_w14 : w2 ≠ w14) (ne_w2_w16 : w2 ≠ w16) (ne_w6_w7 : w6 ≠ w7) (ne_w6_w8 : w6 ≠ w8) (ne_w6_w11 : w6 ≠ w11) (ne_w6_w14 : w6 ≠ w14) (ne_w6_w16 : w6 ≠ w16) (ne_w7_w8 : w7 ≠ w8) (ne_w7_w11 : w7 ≠ w11) (ne_w7_w14 : w7 ≠ w14) (ne_w7_w16 : w7 ≠ w16) (ne_w8_w11 : w8 ≠ w11) (ne_w8_w14 : w8 ≠ w14) (ne_w8_w16 : w8 ≠ w16) (ne_w11_w14 : w11 ≠ w14) (ne_w11_w16 : w11 ≠ w16) (ne_w14_w16 : w14 ≠ w16) (hp0 : own_F_hash p4 p5 = p13) (hp1 : own_F_slot p13 = p10) :
    own_M l Z (⟨"com/example/ordal/ordal/Relation", "add", "([I[I)Z"⟩ : MethodName) prog_12_method_15_code 4 (some .boolean) ws ({ frames := 7, cells := 0, slots := 0, locals := 104 } : Room) #[(.ref w0), (.ref w16), (.ref w16)] h0 n0 (Q_23 Z w0 w1 w2 kw2 p4 p5 w6 w7 w8 kw8 p10 w11 kw11 p13 w14 kw14 w16 kw16 p18 p19 h0 n0) := by
  refine own_enter' (Q := Q_23 Z w0 w1 w2 kw2 p4 p5 w6 w7 w8 kw8 p10 w11 kw11 p13 w14 kw14 w16 kw16 p18 p19 h0 n0) (F := fun m => mkF m 0 #[.val (.ref w0), .val (.ref w16), .val (.ref w16), .unset] []) (plainFor_of_name pn_2) ?_
  intro p e s m below meth c s₁ B X0
  have K : Keep h0 h0 [w2, w0, w11, w8, w7] := Keep.refl h0 _
  have lt_w0 := E_w0.lt
  have lt_w1 := E_w1.lt
  have lt_w2 := V_w2.lt
  have lt_w6 := E_w6.lt
  have lt_w7 := E_w7.lt
  have lt_w8 := V_w8.lt
  have lt_w11 := V_w11.lt
  have lt_w14 := V_w14.lt
  have lt_w16 := E_w16.lt
  refine own_aloadN (pc' := 1) B X0 d11_0 rfl rfl rfl ?_
  refine own_arraylength (pc' := 2) B X0 V_w16 d11_1 rfl ?_
  refine own_aloadN (pc' := 3) B X0 d11_2 rfl rfl rfl ?_
  refine own_getfield (pc' := 6) B X0 (host := "") (Or.inl (own_w hw 29 rfl)) Via.refl F_w0_arity d11_3 rfl ?_
  intro T1 X1
  refine own_icmpNo (pc' := 9) B X1 d11_6 (teq (by decide : (2 : Int32) = (2 : Int32))).2 rfl ?_
  refine own_aloadN (pc' := 10) B X1 d11_9 rfl rfl rfl ?_
  refine own_arraylength (pc' := 11) B X1 V_w16 d11_10 rfl ?_
  refine own_aloadN (pc' := 12) B X1 d11_11 rfl rfl rfl ?_
  refine own_getfield (pc' := 15) B X1 (host := "") (Or.inl (own_w hw 29 rfl)) Via.refl F_w0_arity d11_12 rfl ?_
  intro T2 X2
  refine own_icmpYes (pc' := 37) B X2 d11_15 (teq (by decide : (2 : Int32) = (2 : Int32))).1 (by decide) rfl ?_
  refine own_aloadN (pc' := 38) B X2 d11_37 rfl rfl rfl ?_
  refine own_aloadN (pc' := 39) B X2 d11_38 rfl rfl rfl ?_
  refine own_aloadN (pc' := 40) B X2 d11_39 rfl rfl rfl ?_
  refine own_callP (pc' := 43) B X2 (own_w hw 88 rfl) (own_w hw 89 rfl) (own_w hw 90 rfl) (own_w hw 1 rfl) (own_w hw 2 rfl) (own_w hw 91 rfl) E_w0 (by decide) [(.ref w16), (.ref w16)] [] (rm_24 l Z a0 hw [] w0 w1 w2 kw2 (p4) (p5) w6 w7 w8 kw8 (p10) w11 kw11 (p13) w14 kw14 w16 kw16 (p18) (p19) h0 n0 (Nat.le_trans Z0 K.1) E_w0 F_w0_indexes F_w0_arity F_w0_rows F_w0_members F_w0_size F_w0_spellings F_w0_arrived g_w0 E_w1 F_w1_size g_w1 V_w2 g_w2 E_w6 F_w6_table F_w6_relation F_w6_columns g_w6 E_w7 F_w7_slots F_w7_hashes F_w7_keys F_w7_count F_w7_crowded g_w7 V_w8 g_w8 V_w11 g_w11 V_w14 g_w14 E_w16 V_w16 g_w16 ne_w0_w1 ne_w0_w2 ne_w0_w6 ne_w0_w7 ne_w0_w8 ne_w0_w11 ne_w0_w14 ne_w0_w16 ne_w1_w2 ne_w1_w6 ne_w1_w7 ne_w1_w8 ne_w1_w11 ne_w1_w14 ne_w1_w16 ne_w2_w6 ne_w2_w7 ne_w2_w8 ne_w2_w11 ne_w2_w14 ne_w2_w16 ne_w6_w7 ne_w6_w8 ne_w6_w11 ne_w6_w14 ne_w6_w16 ne_w7_w8 ne_w7_w11 ne_w7_w14 ne_w7_w16 ne_w8_w11 ne_w8_w14 ne_w8_w16 ne_w11_w14 ne_w11_w16 ne_w14_w16 hp0 hp1) 0 (by decide) (by decide) rfl pd_13 rfl rfl (Nat.le_of_eq rfl) d11_40 rfl (k' := 0) (n' := 0) rfl rfl (by decide) (by decide) ?_
  intro T3 v3 h3 X3 q3
  rcases q3 with ⟨y4, y5, y6, hy7, hy8, c9, hy10, rfl, K3, E_w0, F_w0_indexes, F_w0_arity, F_w0_rows, F_w0_members, F_w0_size, F_w0_spellings, F_w0_arrived, V_w2, E_w7, F_w7_slots, F_w7_hashes, F_w7_keys, F_w7_count, F_w7_crowded, V_w8, V_w11⟩ | ⟨y11, hy12, c13, rfl, rfl⟩
  replace K := K.trans K3 (allS (Or.inl (List.mem_of_getElem? (i := 0) rfl)) (allS (Or.inl (List.mem_of_getElem? (i := 1) rfl)) (allS (Or.inl (List.mem_of_getElem? (i := 2) rfl)) (allS (Or.inl (List.mem_of_getElem? (i := 3) rfl)) (allS (Or.inl (List.mem_of_getElem? (i := 4) rfl)) all0)))))
  show own_Go p e below (T3.setTop (mkF m 43 #[.val (.ref w0), .val (.ref w16), .val (.ref w16), .unset] [(.int 1)])) _
  refine own_istoreN (pc' := 44) B X3 (Ls' := #[.val (.ref w0), .val (.ref w16), .val (.ref w16), .val (.int 1)]) d11_43 rfl rfl ?_
  refine own_iloadN (pc' := 45) B X3 d11_44 rfl rfl ?_
  refine own_ifNo (pc' := 48) B X3 d11_45 ((if0 _ _).trans (feq (by decide : ¬ ((1 : Int32) = (0 : Int32)))).1) rfl ?_
  refine own_aloadN (pc' := 49) B X3 d11_48 rfl rfl rfl ?_
  refine own_dup (pc' := 50) B X3 d11_49 rfl rfl ?_
  refine own_getfield (pc' := 53) B X3 (host := "") (Or.inl (own_w hw 157 rfl)) Via.refl F_w0_arrived d11_50 rfl ?_
  intro T14 X14
  refine own_iconst (pc' := 54) B X14 (z := (1 : Int32)) d11_53 rfl rfl ?_
  refine own_iadd (pc' := 55) B X14 (z := (2 : Int32)) d11_54 rfl (by decide) ?_
  refine own_putfield (pc' := 58) B X14 (host := "") (Or.inl (own_w hw 157 rfl)) Via.refl F_w0_arrived E_w0 g_w0 (Or.inl (own_w hw 158 rfl)) (own_w hw 1 rfl) (ty := .int) (by decide) rfl rfl d11_55 rfl ?_
  intro T15 h15 X15 W15 F_w0_arrived
  replace K := K.wr W15 (Or.inl (List.mem_of_getElem? (i := 1) rfl))
  refine own_iloadN (pc' := 59) B X15 d11_58 rfl rfl ?_
  exact own_retN B X15 (t := .boolean) (z' := (1 : Int32)) (by simp) (by decide) d11_59 (by decide) (by decide) (Or.inl ⟨y4, y5, y6, hy7, hy8, c9, hy10, rfl, K, (E_w0.wr W15), (F_w0_indexes.other W15 (Or.inr (slot_ne (Or.inr (own_w hw 26 rfl)) (Or.inl (own_w hw 158 rfl)) (by decide) (t := (.object "java/util/Map")) (t' := .int) (by decide) (by decide)))), (F_w0_arity.other W15 (Or.inr (slot_ne (Or.inr (own_w hw 30 rfl)) (Or.inl (own_w hw 158 rfl)) (by decide) (t := .int) (t' := .int) (by decide) (by decide)))), (F_w0_rows.other W15 (Or.inr (slot_ne (Or.inl (own_w hw 33 rfl)) (Or.inl (own_w hw 158 rfl)) (by decide) (t := (.array .int)) (t' := .int) (by decide) (by decide)))), (F_w0_members.other W15 (Or.inr (slot_ne (Or.inr (own_w hw 66 rfl)) (Or.inl (own_w hw 158 rfl)) (by decide) (t := (.object "com/example/ordal/ordal/Relation$PositionTable")) (t' := .int) (by decide) (by decide)))), (F_w0_size.other W15 (Or.inr (slot_ne (Or.inl (own_w hw 73 rfl)) (Or.inl (own_w hw 158 rfl)) (by decide) (t := .int) (t' := .int) (by decide) (by decide)))), (F_w0_spellings.other W15 (Or.inr (slot_ne (Or.inl (own_w hw 125 rfl)) (Or.inl (own_w hw 158 rfl)) (by decide) (t := (.array .int)) (t' := .int) (by decide) (by decide)))), F_w0_arrived, (V_w2.other W15 (Ne.symm ne_w0_w2)), (E_w7.wr W15), (F_w7_slots.other W15 (Or.inl (Ne.symm ne_w0_w7))), (F_w7_hashes.other W15 (Or.inl (Ne.symm ne_w0_w7))), (F_w7_keys.other W15 (Or.inl (Ne.symm ne_w0_w7))), (F_w7_count.other W15 (Or.inl (Ne.symm ne_w0_w7))), (F_w7_crowded.other W15 (Or.inl (Ne.symm ne_w0_w7))), (V_w8.other W15 (Ne.symm ne_w0_w8)), (V_w11.other W15 (Ne.symm ne_w0_w11))⟩)
  show own_Go p e below (T3.setTop (mkF m 43 #[.val (.ref w0), .val (.ref w16), .val (.ref w16), .unset] [(.int 0)])) _
  refine own_istoreN (pc' := 44) B X3 (Ls' := #[.val (.ref w0), .val (.ref w16), .val (.ref w16), .val (.int 0)]) d11_43 rfl rfl ?_
  refine own_iloadN (pc' := 45) B X3 d11_44 rfl rfl ?_
  refine own_ifYes (pc' := 58) B X3 d11_45 ((if0 _ _).trans (teq (by decide : (0 : Int32) = (0 : Int32))).1) (by decide) rfl ?_
  refine own_iloadN (pc' := 59) B X3 d11_58 rfl rfl ?_
  exact own_retN B X3 (t := .boolean) (z' := (0 : Int32)) (by simp) (by decide) d11_59 (by decide) (by decide) (Or.inr (⟨y11, hy12, c13, rfl, rfl⟩))
def Q_22 (Z : State) (w0 w1 w2 : Addr) (kw2 : ClassId) (p4 p5 : Int32) (w6 w7 w8 : Addr) (kw8 : ClassId) (p10 : Int32) (w11 : Addr) (kw11 : ClassId) (p13 : Int32) (w14 : Addr) (kw14 : ClassId) (w16 : Addr) (kw16 : ClassId) (p18 p19 : Int32) (h0 : Heap) (n0 : Nat) (v : Option Value) (h : Heap) : Prop :=
  (∃ (y2 : Int32) (y3 : Int32) (y4 : Int32), own_F_hash p18 p19 = y2 ∧ own_F_look1 p4 p5 p18 p19 = y3 ∧ y3 = (-1 : Int32) ∧ own_F_put2 p10 y2 = y4 ∧ v = some (.int 1) ∧ Keep h0 h [w2, w0, w11, w8, w7] ∧ Exa Z h w0 oC2 ∧ Fld Z h w0 oC2 "indexes" "Ljava/util/Map;" (.ref w1) ∧ Fld Z h w0 oC2 "arity" "I" (.int 2) ∧ Fld Z h w0 oC2 "rows" "[I" (.ref w2) ∧ Fld Z h w0 oC2 "members" "Lcom/example/ordal/ordal/Relation$PositionTable;" (.ref w6) ∧ Fld Z h w0 oC2 "size" "I" (.int 2) ∧ Fld Z h w0 oC2 "spellings" "[I" .null ∧ Fld Z h w0 oC2 "arrived" "I" (.int 2) ∧ Arv Z h w2 kw2 .int (16 : Int32) [(.int p4), (.int p5), (.int p18), (.int p19)] (.int 0) ∧ Exa Z h w7 oC1 ∧ Fld Z h w7 oC1 "slots" "[I" (.ref w8) ∧ Fld Z h w7 oC1 "hashes" "[I" (.ref w11) ∧ Fld Z h w7 oC1 "keys" "Lcom/example/ordal/ordal/NumberTable$Keys;" (.ref w6) ∧ Fld Z h w7 oC1 "count" "I" (.int 2) ∧ Fld Z h w7 oC1 "crowded" "Ljava/util/TreeMap;" .null ∧ Arh Z h w8 kw8 .int (16 : Int32) [(y4, (.int 2)), (p10, (.int 1))] [] (.int 0) ∧ Arv Z h w11 kw11 .int (8 : Int32) [(.int p13), (.int y2)] (.int 0)) ∨
  (∃ (y9 : Int32), own_F_look1 p4 p5 p18 p19 = y9 ∧ ¬ (y9 = (-1 : Int32)) ∧ v = some (.int 0) ∧ h0 = h)
theorem rm_22 (l : Launch) (Z : State) (a0 : Array Value) (hw : ∀ d ∈ tables_1, d.before a0 Z = true) (ws : List Jvm.Cond) (w0 w1 w2 : Addr) (kw2 : ClassId) (p4 p5 : Int32) (w6 w7 w8 : Addr) (kw8 : ClassId) (p10 : Int32) (w11 : Addr) (kw11 : ClassId) (p13 : Int32) (w14 : Addr) (kw14 : ClassId) (w16 : Addr) (kw16 : ClassId) (p18 p19 : Int32) (h0 : Heap) (n0 : Nat) (Z0 : n0 ≤ h0.size) (E_w0 : Exa Z h0 w0 oC2) (F_w0_indexes : Fld Z h0 w0 oC2 "indexes" "Ljava/util/Map;" (.ref w1)) (F_w0_arity : Fld Z h0 w0 oC2 "arity" "I" (.int 2)) (F_w0_rows : Fld Z h0 w0 oC2 "rows" "[I" (.ref w2)) (F_w0_members : Fld Z h0 w0 oC2 "members" "Lcom/example/ordal/ordal/Relation$PositionTable;" (.ref w6)) (F_w0_size : Fld Z h0 w0 oC2 "size" "I" (.int 1)) (F_w0_spellings : Fld Z h0 w0 oC2 "spellings" "[I" .null) (F_w0_arrived : Fld Z h0 w0 oC2 "arrived" "I" (.int 1)) (g_w0 : n0 ≤ w0) (E_w1 : Exa Z h0 w1 oC4) (F_w1_size : Fld Z h0 w1 oC4 "size" "I" (.int 0)) (g_w1 : n0 ≤ w1) (V_w2 : Arv Z h0 w2 kw2 .int (16 : Int32) [(.int p4), (.int p5)] (.int 0)) (g_w2 : n0 ≤ w2) (E_w6 : Exa Z h0 w6 oC3) (F_w6_table : Fld Z h0 w6 oC3 "table" "Lcom/example/ordal/ordal/NumberTable;" (.ref w7)) (F_w6_relation : Fld Z h0 w6 oC3 "relation" "Lcom/example/ordal/ordal/Relation;" (.ref w0)) (F_w6_columns : Fld Z h0 w6 oC3 "columns" "[I" (.ref w14)) (g_w6 : n0 ≤ w6) (E_w7 : Exa Z h0 w7 oC1) (F_w7_slots : Fld Z h0 w7 oC1 "slots" "[I" (.ref w8)) (F_w7_hashes : Fld Z h0 w7 oC1 "hashes" "[I" (.ref w11)) (F_w7_keys : Fld Z h0 w7 oC1 "keys" "Lcom/example/ordal/ordal/NumberTable$Keys;" (.ref w6)) (F_w7_count : Fld Z h0 w7 oC1 "count" "I" (.int 1)) (F_w7_crowded : Fld Z h0 w7 oC1 "crowded" "Ljava/util/TreeMap;" .null) (g_w7 : n0 ≤ w7) (V_w8 : Arh Z h0 w8 kw8 .int (16 : Int32) [(p10, (.int 1))] [] (.int 0)) (g_w8 : n0 ≤ w8) (V_w11 : Arv Z h0 w11 kw11 .int (8 : Int32) [(.int p13)] (.int 0)) (g_w11 : n0 ≤ w11) (V_w14 : Arv Z h0 w14 kw14 .int (2 : Int32) [(.int 0), (.int 1)] (.int 0)) (g_w14 : n0 ≤ w14) (E_w16 : Exa Z h0 w16 "[I") (V_w16 : Arv Z h0 w16 kw16 .int (2 : Int32) [(.int p18), (.int p19)] (.int 0)) (g_w16 : n0 ≤ w16) (ne_w0_w1 : w0 ≠ w1) (ne_w0_w2 : w0 ≠ w2) (ne_w0_w6 : w0 ≠ w6) (ne_w0_w7 : w0 ≠ w7) (ne_w0_w8 : w0 ≠ w8) (ne_w0_w11 : w0 ≠ w11) (ne_w0_w14 : w0 ≠ w14) (ne_w0_w16 : w0 ≠ w16) (ne_w1_w2 : w1 ≠ w2) (ne_w1_w6 : w1 ≠ w6) (ne_w1_w7 : w1 ≠ w7) (ne_w1_w8 : w1 ≠ w8) (ne_w1_w11 : w1 ≠ w11) (ne_w1_w14 : w1 ≠ w14) (ne_w1_w16 : w1 ≠ w16) (ne_w2_w6 : w2 ≠ w6) (ne_w2_w7 : w2 ≠ w7) (ne_w2_w8 : w2 ≠ w8) (ne_w2_w11 : w2 ≠ w11) (ne_w2_w14 : w2 ≠ w14) (ne_w2_w16 : w2 ≠ w16) (ne_w6_w7 : w6 ≠ w7) (ne_w6_w8 : w6 ≠ w8) (ne_w6_w11 : w6 ≠ w11) (ne_w6_w14 : w6 ≠ w14) (ne_w6_w16 : w6 ≠ w16) (ne_w7_w8 : w7 ≠ w8) (ne_w7_w11 : w7 ≠ w11) (ne_w7_w14 : w7 ≠ w14) (ne_w7_w16 : w7 ≠ w16) (ne_w8_w11 : w8 ≠ w11) (ne_w8_w14 : w8 ≠ w14) (ne_w8_w16 : w8 ≠ w16) (ne_w11_w14 : w11 ≠ w14) (ne_w11_w16 : w11 ≠ w16) (ne_w14_w16 : w14 ≠ w16) (hp0 : own_F_hash p4 p5 = p13) (hp1 : own_F_slot p13 = p10) :
    own_M l Z (⟨"com/example/ordal/ordal/Relation", "add", "([I)Z"⟩ : MethodName) prog_12_method_14_code 2 (some .boolean) ws ({ frames := 8, cells := 0, slots := 0, locals := 119 } : Room) #[(.ref w0), (.ref w16)] h0 n0 (Q_22 Z w0 w1 w2 kw2 p4 p5 w6 w7 w8 kw8 p10 w11 kw11 p13 w14 kw14 w16 kw16 p18 p19 h0 n0) := by
  refine own_enter' (Q := Q_22 Z w0 w1 w2 kw2 p4 p5 w6 w7 w8 kw8 p10 w11 kw11 p13 w14 kw14 w16 kw16 p18 p19 h0 n0) (F := fun m => mkF m 0 #[.val (.ref w0), .val (.ref w16)] []) (plainFor_of_name pn_2) ?_
  intro p e s m below meth c s₁ B X0
  have K : Keep h0 h0 [w2, w0, w11, w8, w7] := Keep.refl h0 _
  have lt_w0 := E_w0.lt
  have lt_w1 := E_w1.lt
  have lt_w2 := V_w2.lt
  have lt_w6 := E_w6.lt
  have lt_w7 := E_w7.lt
  have lt_w8 := V_w8.lt
  have lt_w11 := V_w11.lt
  have lt_w14 := V_w14.lt
  have lt_w16 := E_w16.lt
  refine own_aloadN (pc' := 1) B X0 d10_0 rfl rfl rfl ?_
  refine own_aloadN (pc' := 2) B X0 d10_1 rfl rfl rfl ?_
  refine own_aloadN (pc' := 3) B X0 d10_2 rfl rfl rfl ?_
  refine own_callV (pc' := 6) B X0 (own_w hw 83 rfl) (own_w hw 84 rfl) (own_w hw 86 rfl) (own_w hw 85 rfl) (own_w hw 2 rfl) (own_w hw 87 rfl) E_w0 (by decide) [(.ref w16), (.ref w16)] [] (rm_23 l Z a0 hw [] w0 w1 w2 kw2 (p4) (p5) w6 w7 w8 kw8 (p10) w11 kw11 (p13) w14 kw14 w16 kw16 (p18) (p19) h0 n0 (Nat.le_trans Z0 K.1) E_w0 F_w0_indexes F_w0_arity F_w0_rows F_w0_members F_w0_size F_w0_spellings F_w0_arrived g_w0 E_w1 F_w1_size g_w1 V_w2 g_w2 E_w6 F_w6_table F_w6_relation F_w6_columns g_w6 E_w7 F_w7_slots F_w7_hashes F_w7_keys F_w7_count F_w7_crowded g_w7 V_w8 g_w8 V_w11 g_w11 V_w14 g_w14 E_w16 V_w16 g_w16 ne_w0_w1 ne_w0_w2 ne_w0_w6 ne_w0_w7 ne_w0_w8 ne_w0_w11 ne_w0_w14 ne_w0_w16 ne_w1_w2 ne_w1_w6 ne_w1_w7 ne_w1_w8 ne_w1_w11 ne_w1_w14 ne_w1_w16 ne_w2_w6 ne_w2_w7 ne_w2_w8 ne_w2_w11 ne_w2_w14 ne_w2_w16 ne_w6_w7 ne_w6_w8 ne_w6_w11 ne_w6_w14 ne_w6_w16 ne_w7_w8 ne_w7_w11 ne_w7_w14 ne_w7_w16 ne_w8_w11 ne_w8_w14 ne_w8_w16 ne_w11_w14 ne_w11_w16 ne_w14_w16 hp0 hp1) 0 (by decide) (by decide) rfl pd_13 rfl rfl (Nat.le_of_eq rfl) d10_3 rfl (k' := 0) (n' := 0) rfl rfl (by decide) (by decide) ?_
  intro T1 v1 h1 X1 q1
  rcases q1 with ⟨y2, y3, y4, hy5, hy6, c7, hy8, rfl, K1, E_w0, F_w0_indexes, F_w0_arity, F_w0_rows, F_w0_members, F_w0_size, F_w0_spellings, F_w0_arrived, V_w2, E_w7, F_w7_slots, F_w7_hashes, F_w7_keys, F_w7_count, F_w7_crowded, V_w8, V_w11⟩ | ⟨y9, hy10, c11, rfl, rfl⟩
  replace K := K.trans K1 (allS (Or.inl (List.mem_of_getElem? (i := 0) rfl)) (allS (Or.inl (List.mem_of_getElem? (i := 1) rfl)) (allS (Or.inl (List.mem_of_getElem? (i := 2) rfl)) (allS (Or.inl (List.mem_of_getElem? (i := 3) rfl)) (allS (Or.inl (List.mem_of_getElem? (i := 4) rfl)) all0)))))
  show own_Go p e below (T1.setTop (mkF m 6 #[.val (.ref w0), .val (.ref w16)] [(.int 1)])) _
  exact own_retN B X1 (t := .boolean) (z' := (1 : Int32)) (by simp) (by decide) d10_6 (by decide) (by decide) (Or.inl ⟨y2, y3, y4, hy5, hy6, c7, hy8, rfl, K, E_w0, F_w0_indexes, F_w0_arity, F_w0_rows, F_w0_members, F_w0_size, F_w0_spellings, F_w0_arrived, V_w2, E_w7, F_w7_slots, F_w7_hashes, F_w7_keys, F_w7_count, F_w7_crowded, V_w8, V_w11⟩)
  show own_Go p e below (T1.setTop (mkF m 6 #[.val (.ref w0), .val (.ref w16)] [(.int 0)])) _
  exact own_retN B X1 (t := .boolean) (z' := (0 : Int32)) (by simp) (by decide) d10_6 (by decide) (by decide) (Or.inr (⟨y9, hy10, c11, rfl, rfl⟩))
def Q_37 (Z : State) (w0 : Addr) (kw0 : ClassId) (p2 : Int32) (w3 : Addr) (kw3 : ClassId) (p5 p6 p7 : Int32) (h0 : Heap) (n0 : Nat) (v : Option Value) (h : Heap) : Prop :=
  (∃ (yF : Int32), own_F_holds p2 p5 p6 p7 = yF ∧ v = some (.int yF) ∧ h0 = h)
theorem rm_37 (l : Launch) (Z : State) (a0 : Array Value) (hw : ∀ d ∈ tables_1, d.before a0 Z = true) (ws : List Jvm.Cond) (w0 : Addr) (kw0 : ClassId) (p2 : Int32) (w3 : Addr) (kw3 : ClassId) (p5 p6 p7 : Int32) (h0 : Heap) (n0 : Nat) (Z0 : n0 ≤ h0.size) (V_w0 : Arv Z h0 w0 kw0 .int (3 : Int32) [(.int p2)] (.int 0)) (g_w0 : n0 ≤ w0) (V_w3 : Arv Z h0 w3 kw3 .int (3 : Int32) [(.int p5)] (.int 0)) (g_w3 : n0 ≤ w3) (ne_w0_w3 : w0 ≠ w3) :
    own_M l Z (⟨"com/example/ordal/ordal/RelationFindPinLaw", "same", "([I[IIIII)Z"⟩ : MethodName) method_3_code 6 (some .boolean) ws ({ frames := 0, cells := 0, slots := 0, locals := 0 } : Room) #[(.ref w0), (.ref w3), (.int 1), (.int 0), (.int p6), (.int p7)] h0 n0 (Q_37 Z w0 kw0 p2 w3 kw3 p5 p6 p7 h0 n0) := by
  refine own_enter' (Q := Q_37 Z w0 kw0 p2 w3 kw3 p5 p6 p7 h0 n0) (F := fun m => mkF m 0 #[.val (.ref w0), .val (.ref w3), .val (.int 1), .val (.int 0), .val (.int p6), .val (.int p7)] []) (plainFor_of_name pn_5) ?_
  intro p e s m below meth c s₁ B X0
  have K : Keep h0 h0 [] := Keep.refl h0 _
  have lt_w0 := V_w0.lt
  have lt_w3 := V_w3.lt
  refine own_iloadN (pc' := 1) B X0 d24_0 rfl rfl ?_
  refine own_iloadN (pc' := 2) B X0 d24_1 rfl rfl ?_
  refine own_icmpNo (pc' := 5) B X0 d24_2 (tlt (by decide : (0 : Int32) < (1 : Int32))).2.1 rfl ?_
  refine own_aloadN (pc' := 6) B X0 d24_5 rfl rfl rfl ?_
  refine own_iloadN (pc' := 7) B X0 d24_6 rfl rfl ?_
  refine own_iaload (pc' := 8) B X0 V_w0 (v := (.int p2)) ⟨by decide, by decide⟩ rfl d24_7 rfl ?_
  refine own_iload (pc' := 10) B X0 d24_8 rfl rfl ?_
  by_cases c1 : p2 = p6
  refine own_icmpNo (pc' := 13) B X0 d24_10 (teq c1).2 rfl ?_
  refine own_aloadN (pc' := 14) B X0 d24_13 rfl rfl rfl ?_
  refine own_iloadN (pc' := 15) B X0 d24_14 rfl rfl ?_
  refine own_iaload (pc' := 16) B X0 V_w3 (v := (.int p5)) ⟨by decide, by decide⟩ rfl d24_15 rfl ?_
  refine own_iload (pc' := 18) B X0 d24_16 rfl rfl ?_
  by_cases c2 : p5 = p7
  refine own_icmpNo (pc' := 21) B X0 d24_18 (teq c2).2 rfl ?_
  refine own_iconst (pc' := 22) B X0 (z := (1 : Int32)) d24_21 rfl rfl ?_
  refine own_goto (pc' := 26) B X0 d24_22 (by decide) rfl ?_
  exact own_retN B X0 (t := .boolean) (z' := (1 : Int32)) (by simp) (by decide) d24_26 (by decide) (by decide) ⟨(1 : Int32), (by rw [own_F_holds, if_pos c1, if_pos c2]), rfl, rfl⟩
  refine own_icmpYes (pc' := 25) B X0 d24_18 (feq c2).2 (by decide) rfl ?_
  refine own_iconst (pc' := 26) B X0 (z := (0 : Int32)) d24_25 rfl rfl ?_
  exact own_retN B X0 (t := .boolean) (z' := (0 : Int32)) (by simp) (by decide) d24_26 (by decide) (by decide) ⟨(0 : Int32), (by rw [own_F_holds, if_pos c1, if_neg c2]), rfl, rfl⟩
  refine own_icmpYes (pc' := 25) B X0 d24_10 (feq c1).2 (by decide) rfl ?_
  refine own_iconst (pc' := 26) B X0 (z := (0 : Int32)) d24_25 rfl rfl ?_
  exact own_retN B X0 (t := .boolean) (z' := (0 : Int32)) (by simp) (by decide) d24_26 (by decide) (by decide) ⟨(0 : Int32), (by rw [own_F_holds, if_neg c1]), rfl, rfl⟩
theorem ax_9 {F N : Int32 → Int32} {H : Int32 → Int32 → Int32} (nn : ∀ x, ¬ N x = x) {a0 a1 a2 a3 a4 a5 : Int32} (e0 : own_F_look1 a1 a2 a3 a4 = a0) (e1 : a0 = (-1 : Int32)) (e2 : own_F_holds a1 a2 a3 a4 = a5) : a5 = (0 : Int32) := by grind [own_F_look1, own_F_look2, own_G_put2, own_F_holds]
def Q_43 (Z : State) (w0 w1 : Addr) (kw1 : ClassId) (p3 p4 p5 : Int32) (h0 : Heap) (n0 : Nat) (v : Option Value) (h : Heap) : Prop :=
  (∃ (yF : Int32), own_F_slot p5 = yF ∧ v = some (.int yF) ∧ h0 = h)
theorem rm_43 (l : Launch) (Z : State) (a0 : Array Value) (hw : ∀ d ∈ tables_1, d.before a0 Z = true) (ws : List Jvm.Cond) (w0 w1 : Addr) (kw1 : ClassId) (p3 p4 p5 : Int32) (h0 : Heap) (n0 : Nat) (Z0 : n0 ≤ h0.size) (E_w0 : Exa Z h0 w0 oC1) (F_w0_slots : Fld Z h0 w0 oC1 "slots" "[I" (.ref w1)) (g_w0 : n0 ≤ w0) (V_w1 : Arh Z h0 w1 kw1 .int (16 : Int32) [(p3, (.int 2)), (p4, (.int 1))] [] (.int 0)) (g_w1 : n0 ≤ w1) (ne_w0_w1 : w0 ≠ w1) :
    own_M l Z (⟨"com/example/ordal/ordal/NumberTable", "slot", "(I)I"⟩ : MethodName) prog_9_method_8_code 2 (some .int) ws ({ frames := 1, cells := 0, slots := 0, locals := 13 } : Room) #[(.ref w0), (.int p5)] h0 n0 (Q_43 Z w0 w1 kw1 p3 p4 p5 h0 n0) := by
  refine own_enter' (Q := Q_43 Z w0 w1 kw1 p3 p4 p5 h0 n0) (F := fun m => mkF m 0 #[.val (.ref w0), .val (.int p5)] []) (plainFor_of_name pn_3) ?_
  intro p e s m below meth c s₁ B X0
  have K : Keep h0 h0 [] := Keep.refl h0 _
  have lt_w0 := E_w0.lt
  have lt_w1 := V_w1.lt
  refine own_iloadN (pc' := 1) B X0 d17_0 rfl rfl ?_
  refine own_callS (pc' := 4) B X0 (own_w hw 115 rfl) (own_w hw 116 rfl) (own_w hw 46 rfl) (own_w hw 117 rfl) (by decide) [(.int p5)] [] (rm_16 l Z a0 hw [] (p5) h0 n0 (Nat.le_trans Z0 K.1) ) 0 (by decide) (by decide) rfl pd_7 rfl rfl (Nat.le_of_eq rfl) d17_1 rfl (k' := 0) (n' := 0) rfl rfl (by decide) (by decide) ?_
  intro T1 v1 h1 X1 q1
  obtain ⟨y2, y3, y4, y5, y6, y7, hy8, hy9, hy10, hy11, hy12, hy13, rfl, rfl⟩ := q1
  show own_Go p e below (T1.setTop (mkF m 4 #[.val (.ref w0), .val (.int p5)] [(.int y7)])) _
  refine own_aloadN (pc' := 5) B X1 d17_4 rfl rfl rfl ?_
  refine own_getfield (pc' := 8) B X1 (host := "") (Or.inl (own_w hw 51 rfl)) Via.refl F_w0_slots d17_5 rfl ?_
  intro T14 X14
  refine own_arraylengthH (pc' := 9) B X14 V_w1 d17_8 rfl ?_
  refine own_iconst (pc' := 10) B X14 (z := (1 : Int32)) d17_9 rfl rfl ?_
  refine own_isub (pc' := 11) B X14 (z := (15 : Int32)) d17_10 rfl (by decide) ?_
  obtain ⟨y15, hy15⟩ : ∃ z : Int32, y7 &&& (15 : Int32) = z := ⟨_, rfl⟩
  refine own_iand (pc' := 12) B X14 d17_11 rfl hy15 ?_
  exact own_retI B X14 d17_12 (by decide) (by decide) ⟨y15, (by subst hy8; subst hy9; subst hy10; subst hy11; subst hy12; subst hy13; subst hy15; rw [own_F_slot]), rfl, rfl⟩
def Q_46 (Z : State) (w0 w1 : Addr) (kw1 : ClassId) (p3 p4 p5 p6 : Int32) (h0 : Heap) (n0 : Nat) (v : Option Value) (h : Heap) : Prop :=
  (v = some (.int p5) ∧ h0 = h)
theorem rm_46 (l : Launch) (Z : State) (a0 : Array Value) (hw : ∀ d ∈ tables_1, d.before a0 Z = true) (ws : List Jvm.Cond) (w0 w1 : Addr) (kw1 : ClassId) (p3 p4 p5 p6 : Int32) (h0 : Heap) (n0 : Nat) (Z0 : n0 ≤ h0.size) (E_w0 : Exa Z h0 w0 oC2) (F_w0_arity : Fld Z h0 w0 oC2 "arity" "I" (.int 2)) (F_w0_rows : Fld Z h0 w0 oC2 "rows" "[I" (.ref w1)) (g_w0 : n0 ≤ w0) (V_w1 : Arv Z h0 w1 kw1 .int (16 : Int32) [(.int p3), (.int p4), (.int p5), (.int p6)] (.int 0)) (g_w1 : n0 ≤ w1) (ne_w0_w1 : w0 ≠ w1) :
    own_M l Z (⟨"com/example/ordal/ordal/Relation", "value", "(II)I"⟩ : MethodName) prog_12_method_5_code 3 (some .int) ws ({ frames := 0, cells := 0, slots := 0, locals := 0 } : Room) #[(.ref w0), (.int 1), (.int 0)] h0 n0 (Q_46 Z w0 w1 kw1 p3 p4 p5 p6 h0 n0) := by
  refine own_enter' (Q := Q_46 Z w0 w1 kw1 p3 p4 p5 p6 h0 n0) (F := fun m => mkF m 0 #[.val (.ref w0), .val (.int 1), .val (.int 0)] []) (plainFor_of_name pn_2) ?_
  intro p e s m below meth c s₁ B X0
  have K : Keep h0 h0 [] := Keep.refl h0 _
  have lt_w0 := E_w0.lt
  have lt_w1 := V_w1.lt
  refine own_aloadN (pc' := 1) B X0 d27_0 rfl rfl rfl ?_
  refine own_getfield (pc' := 4) B X0 (host := "") (Or.inl (own_w hw 32 rfl)) Via.refl F_w0_rows d27_1 rfl ?_
  intro T1 X1
  refine own_iloadN (pc' := 5) B X1 d27_4 rfl rfl ?_
  refine own_aloadN (pc' := 6) B X1 d27_5 rfl rfl rfl ?_
  refine own_getfield (pc' := 9) B X1 (host := "") (Or.inl (own_w hw 29 rfl)) Via.refl F_w0_arity d27_6 rfl ?_
  intro T2 X2
  refine own_imul (pc' := 10) B X2 (z := (2 : Int32)) d27_9 rfl (by decide) ?_
  refine own_iloadN (pc' := 11) B X2 d27_10 rfl rfl ?_
  refine own_iadd (pc' := 12) B X2 (z := (2 : Int32)) d27_11 rfl (by decide) ?_
  refine own_iaload (pc' := 13) B X2 V_w1 (v := (.int p5)) ⟨by decide, by decide⟩ rfl d27_12 rfl ?_
  exact own_retI B X2 d27_13 (by decide) (by decide) (⟨rfl, rfl⟩)
def Q_47 (Z : State) (w0 w1 : Addr) (kw1 : ClassId) (p3 p4 p5 p6 : Int32) (h0 : Heap) (n0 : Nat) (v : Option Value) (h : Heap) : Prop :=
  (v = some (.int p6) ∧ h0 = h)
theorem rm_47 (l : Launch) (Z : State) (a0 : Array Value) (hw : ∀ d ∈ tables_1, d.before a0 Z = true) (ws : List Jvm.Cond) (w0 w1 : Addr) (kw1 : ClassId) (p3 p4 p5 p6 : Int32) (h0 : Heap) (n0 : Nat) (Z0 : n0 ≤ h0.size) (E_w0 : Exa Z h0 w0 oC2) (F_w0_arity : Fld Z h0 w0 oC2 "arity" "I" (.int 2)) (F_w0_rows : Fld Z h0 w0 oC2 "rows" "[I" (.ref w1)) (g_w0 : n0 ≤ w0) (V_w1 : Arv Z h0 w1 kw1 .int (16 : Int32) [(.int p3), (.int p4), (.int p5), (.int p6)] (.int 0)) (g_w1 : n0 ≤ w1) (ne_w0_w1 : w0 ≠ w1) :
    own_M l Z (⟨"com/example/ordal/ordal/Relation", "value", "(II)I"⟩ : MethodName) prog_12_method_5_code 3 (some .int) ws ({ frames := 0, cells := 0, slots := 0, locals := 0 } : Room) #[(.ref w0), (.int 1), (.int 1)] h0 n0 (Q_47 Z w0 w1 kw1 p3 p4 p5 p6 h0 n0) := by
  refine own_enter' (Q := Q_47 Z w0 w1 kw1 p3 p4 p5 p6 h0 n0) (F := fun m => mkF m 0 #[.val (.ref w0), .val (.int 1), .val (.int 1)] []) (plainFor_of_name pn_2) ?_
  intro p e s m below meth c s₁ B X0
  have K : Keep h0 h0 [] := Keep.refl h0 _
  have lt_w0 := E_w0.lt
  have lt_w1 := V_w1.lt
  refine own_aloadN (pc' := 1) B X0 d27_0 rfl rfl rfl ?_
  refine own_getfield (pc' := 4) B X0 (host := "") (Or.inl (own_w hw 32 rfl)) Via.refl F_w0_rows d27_1 rfl ?_
  intro T1 X1
  refine own_iloadN (pc' := 5) B X1 d27_4 rfl rfl ?_
  refine own_aloadN (pc' := 6) B X1 d27_5 rfl rfl rfl ?_
  refine own_getfield (pc' := 9) B X1 (host := "") (Or.inl (own_w hw 29 rfl)) Via.refl F_w0_arity d27_6 rfl ?_
  intro T2 X2
  refine own_imul (pc' := 10) B X2 (z := (2 : Int32)) d27_9 rfl (by decide) ?_
  refine own_iloadN (pc' := 11) B X2 d27_10 rfl rfl ?_
  refine own_iadd (pc' := 12) B X2 (z := (3 : Int32)) d27_11 rfl (by decide) ?_
  refine own_iaload (pc' := 13) B X2 V_w1 (v := (.int p6)) ⟨by decide, by decide⟩ rfl d27_12 rfl ?_
  exact own_retI B X2 d27_13 (by decide) (by decide) (⟨rfl, rfl⟩)
def Q_45 (Z : State) (w0 w1 w2 : Addr) (kw2 : ClassId) (p4 p5 p6 p7 : Int32) (w8 : Addr) (kw8 : ClassId) (w10 : Addr) (kw10 : ClassId) (p12 p13 : Int32) (h0 : Heap) (n0 : Nat) (v : Option Value) (h : Heap) : Prop :=
  (∃ (yF : Int32), own_F_holds p6 p7 p12 p13 = yF ∧ v = some (.int yF) ∧ h0 = h)
theorem rm_45 (l : Launch) (Z : State) (a0 : Array Value) (hw : ∀ d ∈ tables_1, d.before a0 Z = true) (ws : List Jvm.Cond) (w0 w1 w2 : Addr) (kw2 : ClassId) (p4 p5 p6 p7 : Int32) (w8 : Addr) (kw8 : ClassId) (w10 : Addr) (kw10 : ClassId) (p12 p13 : Int32) (h0 : Heap) (n0 : Nat) (Z0 : n0 ≤ h0.size) (E_w0 : Exa Z h0 w0 oC3) (F_w0_relation : Fld Z h0 w0 oC3 "relation" "Lcom/example/ordal/ordal/Relation;" (.ref w1)) (F_w0_columns : Fld Z h0 w0 oC3 "columns" "[I" (.ref w8)) (g_w0 : n0 ≤ w0) (E_w1 : Exa Z h0 w1 oC2) (F_w1_arity : Fld Z h0 w1 oC2 "arity" "I" (.int 2)) (F_w1_rows : Fld Z h0 w1 oC2 "rows" "[I" (.ref w2)) (g_w1 : n0 ≤ w1) (V_w2 : Arv Z h0 w2 kw2 .int (16 : Int32) [(.int p4), (.int p5), (.int p6), (.int p7)] (.int 0)) (g_w2 : n0 ≤ w2) (V_w8 : Arv Z h0 w8 kw8 .int (2 : Int32) [(.int 0), (.int 1)] (.int 0)) (g_w8 : n0 ≤ w8) (E_w10 : Exa Z h0 w10 "[I") (V_w10 : Arv Z h0 w10 kw10 .int (2 : Int32) [(.int p12), (.int p13)] (.int 0)) (g_w10 : n0 ≤ w10) (ne_w0_w1 : w0 ≠ w1) (ne_w0_w2 : w0 ≠ w2) (ne_w0_w8 : w0 ≠ w8) (ne_w0_w10 : w0 ≠ w10) (ne_w1_w2 : w1 ≠ w2) (ne_w1_w8 : w1 ≠ w8) (ne_w1_w10 : w1 ≠ w10) (ne_w2_w8 : w2 ≠ w8) (ne_w2_w10 : w2 ≠ w10) (ne_w8_w10 : w8 ≠ w10) :
    own_M l Z (⟨"com/example/ordal/ordal/Relation$PositionTable", "holds", "(I[I)Z"⟩ : MethodName) prog_15_method_6_code 4 (some .boolean) ws ({ frames := 1, cells := 0, slots := 0, locals := 14 } : Room) #[(.ref w0), (.int 1), (.ref w10)] h0 n0 (Q_45 Z w0 w1 w2 kw2 p4 p5 p6 p7 w8 kw8 w10 kw10 p12 p13 h0 n0) := by
  refine own_enter' (Q := Q_45 Z w0 w1 w2 kw2 p4 p5 p6 p7 w8 kw8 w10 kw10 p12 p13 h0 n0) (F := fun m => mkF m 0 #[.val (.ref w0), .val (.int 1), .val (.ref w10), .unset] []) (plainFor_of_name pn_4) ?_
  intro p e s m below meth c s₁ B X0
  have K : Keep h0 h0 [] := Keep.refl h0 _
  have lt_w0 := E_w0.lt
  have lt_w1 := E_w1.lt
  have lt_w2 := V_w2.lt
  have lt_w8 := V_w8.lt
  have lt_w10 := E_w10.lt
  refine own_iconst (pc' := 1) B X0 (z := (0 : Int32)) d26_0 rfl rfl ?_
  refine own_istoreN (pc' := 2) B X0 (Ls' := #[.val (.ref w0), .val (.int 1), .val (.ref w10), .val (.int 0)]) d26_1 rfl rfl ?_
  refine own_iloadN (pc' := 3) B X0 d26_2 rfl rfl ?_
  refine own_aloadN (pc' := 4) B X0 d26_3 rfl rfl rfl ?_
  refine own_getfield (pc' := 7) B X0 (host := "") (Or.inl (own_w hw 61 rfl)) Via.refl F_w0_columns d26_4 rfl ?_
  intro T1 X1
  refine own_arraylength (pc' := 8) B X1 V_w8 d26_7 rfl ?_
  refine own_icmpNo (pc' := 11) B X1 d26_8 (tlt (by decide : (0 : Int32) < (2 : Int32))).2.1 rfl ?_
  refine own_aloadN (pc' := 12) B X1 d26_11 rfl rfl rfl ?_
  refine own_getfield (pc' := 15) B X1 (host := "") (Or.inl (own_w hw 59 rfl)) Via.refl F_w0_relation d26_12 rfl ?_
  intro T2 X2
  refine own_iloadN (pc' := 16) B X2 d26_15 rfl rfl ?_
  refine own_aloadN (pc' := 17) B X2 d26_16 rfl rfl rfl ?_
  refine own_getfield (pc' := 20) B X2 (host := "") (Or.inl (own_w hw 61 rfl)) Via.refl F_w0_columns d26_17 rfl ?_
  intro T3 X3
  refine own_iloadN (pc' := 21) B X3 d26_20 rfl rfl ?_
  refine own_iaload (pc' := 22) B X3 V_w8 (v := (.int 0)) ⟨by decide, by decide⟩ rfl d26_21 rfl ?_
  refine own_callV (pc' := 25) B X3 (own_w hw 178 rfl) (own_w hw 179 rfl) (own_w hw 181 rfl) (own_w hw 180 rfl) (own_w hw 2 rfl) (own_w hw 182 rfl) E_w1 (by decide) [(.int 1), (.int 0)] [] (rm_46 l Z a0 hw [] w1 w2 kw2 (p4) (p5) (p6) (p7) h0 n0 (Nat.le_trans Z0 K.1) E_w1 F_w1_arity F_w1_rows g_w1 V_w2 g_w2 ne_w1_w2) 0 (by decide) (by decide) rfl pd_5 rfl rfl (Nat.le_of_eq rfl) d26_22 rfl (k' := 0) (n' := 0) rfl rfl (by decide) (by decide) ?_
  intro T4 v4 h4 X4 q4
  obtain ⟨rfl, rfl⟩ := q4
  show own_Go p e below (T4.setTop (mkF m 25 #[.val (.ref w0), .val (.int 1), .val (.ref w10), .val (.int 0)] [(.int p6)])) _
  refine own_aloadN (pc' := 26) B X4 d26_25 rfl rfl rfl ?_
  refine own_iloadN (pc' := 27) B X4 d26_26 rfl rfl ?_
  refine own_iaload (pc' := 28) B X4 V_w10 (v := (.int p12)) ⟨by decide, by decide⟩ rfl d26_27 rfl ?_
  by_cases c5 : p6 = p12
  refine own_icmpYes (pc' := 33) B X4 d26_28 (teq c5).1 (by decide) rfl ?_
  refine own_iinc (pc' := 36) B X4 (Ls' := #[.val (.ref w0), .val (.int 1), .val (.ref w10), .val (.int 1)]) d26_33 rfl rfl (z := (1 : Int32)) (by decide) rfl ?_
  refine own_goto (pc' := 2) B X4 d26_36 (by decide) rfl ?_
  refine own_iloadN (pc' := 3) B X4 d26_2 rfl rfl ?_
  refine own_aloadN (pc' := 4) B X4 d26_3 rfl rfl rfl ?_
  refine own_getfield (pc' := 7) B X4 (host := "") (Or.inl (own_w hw 61 rfl)) Via.refl F_w0_columns d26_4 rfl ?_
  intro T6 X6
  refine own_arraylength (pc' := 8) B X6 V_w8 d26_7 rfl ?_
  refine own_icmpNo (pc' := 11) B X6 d26_8 (tlt (by decide : (1 : Int32) < (2 : Int32))).2.1 rfl ?_
  refine own_aloadN (pc' := 12) B X6 d26_11 rfl rfl rfl ?_
  refine own_getfield (pc' := 15) B X6 (host := "") (Or.inl (own_w hw 59 rfl)) Via.refl F_w0_relation d26_12 rfl ?_
  intro T7 X7
  refine own_iloadN (pc' := 16) B X7 d26_15 rfl rfl ?_
  refine own_aloadN (pc' := 17) B X7 d26_16 rfl rfl rfl ?_
  refine own_getfield (pc' := 20) B X7 (host := "") (Or.inl (own_w hw 61 rfl)) Via.refl F_w0_columns d26_17 rfl ?_
  intro T8 X8
  refine own_iloadN (pc' := 21) B X8 d26_20 rfl rfl ?_
  refine own_iaload (pc' := 22) B X8 V_w8 (v := (.int 1)) ⟨by decide, by decide⟩ rfl d26_21 rfl ?_
  refine own_callV (pc' := 25) B X8 (own_w hw 178 rfl) (own_w hw 179 rfl) (own_w hw 181 rfl) (own_w hw 180 rfl) (own_w hw 2 rfl) (own_w hw 182 rfl) E_w1 (by decide) [(.int 1), (.int 1)] [] (rm_47 l Z a0 hw [] w1 w2 kw2 (p4) (p5) (p6) (p7) h0 n0 (Nat.le_trans Z0 K.1) E_w1 F_w1_arity F_w1_rows g_w1 V_w2 g_w2 ne_w1_w2) 0 (by decide) (by decide) rfl pd_5 rfl rfl (Nat.le_of_eq rfl) d26_22 rfl (k' := 0) (n' := 0) rfl rfl (by decide) (by decide) ?_
  intro T9 v9 h9 X9 q9
  obtain ⟨rfl, rfl⟩ := q9
  show own_Go p e below (T9.setTop (mkF m 25 #[.val (.ref w0), .val (.int 1), .val (.ref w10), .val (.int 1)] [(.int p7)])) _
  refine own_aloadN (pc' := 26) B X9 d26_25 rfl rfl rfl ?_
  refine own_iloadN (pc' := 27) B X9 d26_26 rfl rfl ?_
  refine own_iaload (pc' := 28) B X9 V_w10 (v := (.int p13)) ⟨by decide, by decide⟩ rfl d26_27 rfl ?_
  by_cases c10 : p7 = p13
  refine own_icmpYes (pc' := 33) B X9 d26_28 (teq c10).1 (by decide) rfl ?_
  refine own_iinc (pc' := 36) B X9 (Ls' := #[.val (.ref w0), .val (.int 1), .val (.ref w10), .val (.int 2)]) d26_33 rfl rfl (z := (2 : Int32)) (by decide) rfl ?_
  refine own_goto (pc' := 2) B X9 d26_36 (by decide) rfl ?_
  refine own_iloadN (pc' := 3) B X9 d26_2 rfl rfl ?_
  refine own_aloadN (pc' := 4) B X9 d26_3 rfl rfl rfl ?_
  refine own_getfield (pc' := 7) B X9 (host := "") (Or.inl (own_w hw 61 rfl)) Via.refl F_w0_columns d26_4 rfl ?_
  intro T11 X11
  refine own_arraylength (pc' := 8) B X11 V_w8 d26_7 rfl ?_
  refine own_icmpYes (pc' := 39) B X11 d26_8 (flt (by decide : ¬ ((2 : Int32) < (2 : Int32)))).2.1 (by decide) rfl ?_
  refine own_iconst (pc' := 40) B X11 (z := (1 : Int32)) d26_39 rfl rfl ?_
  exact own_retN B X11 (t := .boolean) (z' := (1 : Int32)) (by simp) (by decide) d26_40 (by decide) (by decide) ⟨(1 : Int32), (by rw [own_F_holds, if_pos c5, if_pos c10]), rfl, rfl⟩
  refine own_icmpNo (pc' := 31) B X9 d26_28 (feq c10).1 rfl ?_
  refine own_iconst (pc' := 32) B X9 (z := (0 : Int32)) d26_31 rfl rfl ?_
  exact own_retN B X9 (t := .boolean) (z' := (0 : Int32)) (by simp) (by decide) d26_32 (by decide) (by decide) ⟨(0 : Int32), (by rw [own_F_holds, if_pos c5, if_neg c10]), rfl, rfl⟩
  refine own_icmpNo (pc' := 31) B X4 d26_28 (feq c5).1 rfl ?_
  refine own_iconst (pc' := 32) B X4 (z := (0 : Int32)) d26_31 rfl rfl ?_
  exact own_retN B X4 (t := .boolean) (z' := (0 : Int32)) (by simp) (by decide) d26_32 (by decide) (by decide) ⟨(0 : Int32), (by rw [own_F_holds, if_neg c5]), rfl, rfl⟩
def Q_44 (Z : State) (w0 w1 w2 : Addr) (kw2 : ClassId) (p4 p5 p6 p7 : Int32) (w8 : Addr) (kw8 : ClassId) (w10 : Addr) (kw10 : ClassId) (p12 p13 : Int32) (h0 : Heap) (n0 : Nat) (v : Option Value) (h : Heap) : Prop :=
  (∃ (y3 : Int32), own_F_holds p6 p7 p12 p13 = y3 ∧ v = some (.int y3) ∧ h0 = h)
theorem rm_44 (l : Launch) (Z : State) (a0 : Array Value) (hw : ∀ d ∈ tables_1, d.before a0 Z = true) (ws : List Jvm.Cond) (w0 w1 w2 : Addr) (kw2 : ClassId) (p4 p5 p6 p7 : Int32) (w8 : Addr) (kw8 : ClassId) (w10 : Addr) (kw10 : ClassId) (p12 p13 : Int32) (h0 : Heap) (n0 : Nat) (Z0 : n0 ≤ h0.size) (E_w0 : Exa Z h0 w0 oC3) (F_w0_relation : Fld Z h0 w0 oC3 "relation" "Lcom/example/ordal/ordal/Relation;" (.ref w1)) (F_w0_columns : Fld Z h0 w0 oC3 "columns" "[I" (.ref w8)) (g_w0 : n0 ≤ w0) (E_w1 : Exa Z h0 w1 oC2) (F_w1_arity : Fld Z h0 w1 oC2 "arity" "I" (.int 2)) (F_w1_rows : Fld Z h0 w1 oC2 "rows" "[I" (.ref w2)) (g_w1 : n0 ≤ w1) (V_w2 : Arv Z h0 w2 kw2 .int (16 : Int32) [(.int p4), (.int p5), (.int p6), (.int p7)] (.int 0)) (g_w2 : n0 ≤ w2) (V_w8 : Arv Z h0 w8 kw8 .int (2 : Int32) [(.int 0), (.int 1)] (.int 0)) (g_w8 : n0 ≤ w8) (E_w10 : Exa Z h0 w10 "[I") (V_w10 : Arv Z h0 w10 kw10 .int (2 : Int32) [(.int p12), (.int p13)] (.int 0)) (g_w10 : n0 ≤ w10) (ne_w0_w1 : w0 ≠ w1) (ne_w0_w2 : w0 ≠ w2) (ne_w0_w8 : w0 ≠ w8) (ne_w0_w10 : w0 ≠ w10) (ne_w1_w2 : w1 ≠ w2) (ne_w1_w8 : w1 ≠ w8) (ne_w1_w10 : w1 ≠ w10) (ne_w2_w8 : w2 ≠ w8) (ne_w2_w10 : w2 ≠ w10) (ne_w8_w10 : w8 ≠ w10) :
    own_M l Z (⟨"com/example/ordal/ordal/Relation$PositionTable", "holds", "(ILjava/lang/Object;)Z"⟩ : MethodName) prog_15_method_13_code 3 (some .boolean) ws ({ frames := 2, cells := 0, slots := 0, locals := 29 } : Room) #[(.ref w0), (.int 1), (.ref w10)] h0 n0 (Q_44 Z w0 w1 w2 kw2 p4 p5 p6 p7 w8 kw8 w10 kw10 p12 p13 h0 n0) := by
  refine own_enter' (Q := Q_44 Z w0 w1 w2 kw2 p4 p5 p6 p7 w8 kw8 w10 kw10 p12 p13 h0 n0) (F := fun m => mkF m 0 #[.val (.ref w0), .val (.int 1), .val (.ref w10)] []) (plainFor_of_name pn_4) ?_
  intro p e s m below meth c s₁ B X0
  have K : Keep h0 h0 [] := Keep.refl h0 _
  have lt_w0 := E_w0.lt
  have lt_w1 := E_w1.lt
  have lt_w2 := V_w2.lt
  have lt_w8 := V_w8.lt
  have lt_w10 := E_w10.lt
  refine own_aloadN (pc' := 1) B X0 d25_0 rfl rfl rfl ?_
  refine own_iloadN (pc' := 2) B X0 d25_1 rfl rfl ?_
  refine own_aloadN (pc' := 3) B X0 d25_2 rfl rfl rfl ?_
  refine own_checkcast (pc' := 6) B X0 (own_w hw 171 rfl) (Ins.self E_w10) d25_3 rfl ?_
  intro T1 X1
  refine own_callV (pc' := 9) B X1 (own_w hw 173 rfl) (own_w hw 174 rfl) (own_w hw 176 rfl) (own_w hw 175 rfl) (own_w hw 36 rfl) (own_w hw 177 rfl) E_w0 (by decide) [(.int 1), (.ref w10)] [] (rm_45 l Z a0 hw [] w0 w1 w2 kw2 (p4) (p5) (p6) (p7) w8 kw8 w10 kw10 (p12) (p13) h0 n0 (Nat.le_trans Z0 K.1) E_w0 F_w0_relation F_w0_columns g_w0 E_w1 F_w1_arity F_w1_rows g_w1 V_w2 g_w2 V_w8 g_w8 E_w10 V_w10 g_w10 ne_w0_w1 ne_w0_w2 ne_w0_w8 ne_w0_w10 ne_w1_w2 ne_w1_w8 ne_w1_w10 ne_w2_w8 ne_w2_w10 ne_w8_w10) 0 (by decide) (by decide) rfl pd_15 rfl rfl (Nat.le_of_eq rfl) d25_6 rfl (k' := 0) (n' := 0) rfl rfl (by decide) (by decide) ?_
  intro T2 v2 h2 X2 q2
  obtain ⟨y3, hy4, rfl, rfl⟩ := q2
  show own_Go p e below (T2.setTop (mkF m 9 #[.val (.ref w0), .val (.int 1), .val (.ref w10)] [(.int y3)])) _
  exact own_retN B X2 (t := .boolean) (z' := y3) (by simp) (b_own_F_holds hy4) d25_9 (by decide) (by decide) (⟨y3, hy4, rfl, rfl⟩)
def Q_48 (Z : State) (w0 w1 : Addr) (kw1 : ClassId) (p3 p4 p5 : Int32) (h0 : Heap) (n0 : Nat) (v : Option Value) (h : Heap) : Prop :=
  (∃ (yF : Int32), own_F_next p5 = yF ∧ v = some (.int yF) ∧ h0 = h)
theorem rm_48 (l : Launch) (Z : State) (a0 : Array Value) (hw : ∀ d ∈ tables_1, d.before a0 Z = true) (ws : List Jvm.Cond) (w0 w1 : Addr) (kw1 : ClassId) (p3 p4 p5 : Int32) (h0 : Heap) (n0 : Nat) (Z0 : n0 ≤ h0.size) (E_w0 : Exa Z h0 w0 oC1) (F_w0_slots : Fld Z h0 w0 oC1 "slots" "[I" (.ref w1)) (g_w0 : n0 ≤ w0) (V_w1 : Arh Z h0 w1 kw1 .int (16 : Int32) [(p3, (.int 2)), (p4, (.int 1))] [] (.int 0)) (g_w1 : n0 ≤ w1) (ne_w0_w1 : w0 ≠ w1) :
    own_M l Z (⟨"com/example/ordal/ordal/NumberTable", "next", "(I)I"⟩ : MethodName) prog_9_method_9_code 2 (some .int) ws ({ frames := 0, cells := 0, slots := 0, locals := 0 } : Room) #[(.ref w0), (.int p5)] h0 n0 (Q_48 Z w0 w1 kw1 p3 p4 p5 h0 n0) := by
  refine own_enter' (Q := Q_48 Z w0 w1 kw1 p3 p4 p5 h0 n0) (F := fun m => mkF m 0 #[.val (.ref w0), .val (.int p5)] []) (plainFor_of_name pn_3) ?_
  intro p e s m below meth c s₁ B X0
  have K : Keep h0 h0 [] := Keep.refl h0 _
  have lt_w0 := E_w0.lt
  have lt_w1 := V_w1.lt
  refine own_iloadN (pc' := 1) B X0 d28_0 rfl rfl ?_
  refine own_iconst (pc' := 2) B X0 (z := (1 : Int32)) d28_1 rfl rfl ?_
  obtain ⟨y1, hy1⟩ : ∃ z : Int32, p5 + (1 : Int32) = z := ⟨_, rfl⟩
  refine own_iadd (pc' := 3) B X0 d28_2 rfl hy1 ?_
  refine own_aloadN (pc' := 4) B X0 d28_3 rfl rfl rfl ?_
  refine own_getfield (pc' := 7) B X0 (host := "") (Or.inl (own_w hw 51 rfl)) Via.refl F_w0_slots d28_4 rfl ?_
  intro T2 X2
  refine own_arraylengthH (pc' := 8) B X2 V_w1 d28_7 rfl ?_
  refine own_iconst (pc' := 9) B X2 (z := (1 : Int32)) d28_8 rfl rfl ?_
  refine own_isub (pc' := 10) B X2 (z := (15 : Int32)) d28_9 rfl (by decide) ?_
  obtain ⟨y3, hy3⟩ : ∃ z : Int32, y1 &&& (15 : Int32) = z := ⟨_, rfl⟩
  refine own_iand (pc' := 11) B X2 d28_10 rfl hy3 ?_
  exact own_retI B X2 d28_11 (by decide) (by decide) ⟨y3, (by subst hy1; subst hy3; rw [own_F_next]), rfl, rfl⟩
theorem ax_10 {F N : Int32 → Int32} {H : Int32 → Int32 → Int32} (nn : ∀ x, ¬ N x = x) {a0 a1 a2 a3 a4 a5 a6 a7 a8 a9 a10 a11 a12 a13 : Int32} (e0 : H a1 a2 = a0) (e1 : F a0 = a3) (e2 : H a5 a6 = a4) (e3 : own_G_put2 F N a3 a4 = a7) (e4 : H a9 a10 = a8) (e5 : F a8 = a11) (e6 : a11 = a7) (e7 : a4 = a8) (e8 : own_F_holds a5 a6 a9 a10 = a12) (e9 : a12 = (0 : Int32)) (e10 : N a11 = a13) : ¬ (a13 = a7) := by grind [own_F_look1, own_F_look2, own_G_put2, own_F_holds]
theorem ax_11 {F N : Int32 → Int32} {H : Int32 → Int32 → Int32} (nn : ∀ x, ¬ N x = x) {a0 a1 a2 a3 a4 a5 a6 a7 a8 a9 a10 a11 a12 a13 : Int32} (e0 : H a1 a2 = a0) (e1 : F a0 = a3) (e2 : H a5 a6 = a4) (e3 : own_G_put2 F N a3 a4 = a7) (e4 : H a9 a10 = a8) (e5 : F a8 = a11) (e6 : a11 = a7) (e7 : a4 = a8) (e8 : own_F_holds a5 a6 a9 a10 = a12) (e9 : a12 = (0 : Int32)) (e10 : N a11 = a13) (e11 : ¬ (a13 = a7)) (e12 : a13 = a3) : ¬ (a0 = a8) := by grind [own_F_look1, own_F_look2, own_G_put2, own_F_holds]
theorem ax_12 {F N : Int32 → Int32} {H : Int32 → Int32 → Int32} (nn : ∀ x, ¬ N x = x) {a0 a1 a2 a3 a4 a5 a6 a7 a8 a9 a10 a11 a12 a13 a14 : Int32} (e0 : H a1 a2 = a0) (e1 : F a0 = a3) (e2 : H a5 a6 = a4) (e3 : own_G_put2 F N a3 a4 = a7) (e4 : H a9 a10 = a8) (e5 : F a8 = a11) (e6 : a11 = a7) (e7 : a4 = a8) (e8 : own_F_holds a5 a6 a9 a10 = a12) (e9 : a12 = (0 : Int32)) (e10 : N a11 = a13) (e11 : ¬ (a13 = a7)) (e12 : a13 = a3) (e13 : ¬ (a0 = a8)) (e14 : N a13 = a14) (f0 : ¬ a14 = a11) : ¬ (a14 = a7) := by grind [own_F_look1, own_F_look2, own_G_put2, own_F_holds]
theorem ax_13 {F N : Int32 → Int32} {H : Int32 → Int32 → Int32} (nn : ∀ x, ¬ N x = x) {a0 a1 a2 a3 a4 a5 a6 a7 a8 a9 a10 a11 a12 a13 a14 : Int32} (e0 : H a1 a2 = a0) (e1 : F a0 = a3) (e2 : H a5 a6 = a4) (e3 : own_G_put2 F N a3 a4 = a7) (e4 : H a9 a10 = a8) (e5 : F a8 = a11) (e6 : a11 = a7) (e7 : a4 = a8) (e8 : own_F_holds a5 a6 a9 a10 = a12) (e9 : a12 = (0 : Int32)) (e10 : N a11 = a13) (e11 : ¬ (a13 = a7)) (e12 : a13 = a3) (e13 : ¬ (a0 = a8)) (e14 : N a13 = a14) (e15 : ¬ (a14 = a7)) (f0 : ¬ a14 = a11) : ¬ (a14 = a3) := by grind [own_F_look1, own_F_look2, own_G_put2, own_F_holds]
theorem ax_14 {F N : Int32 → Int32} {H : Int32 → Int32 → Int32} (nn : ∀ x, ¬ N x = x) {a0 a1 a2 a3 a4 a5 a6 a7 a8 a9 a10 a11 a12 a13 a14 : Int32} (e0 : H a1 a2 = a0) (e1 : F a0 = a3) (e2 : H a5 a6 = a4) (e3 : own_G_put2 F N a3 a4 = a7) (e4 : H a9 a10 = a8) (e5 : F a8 = a11) (e6 : a11 = a7) (e7 : a4 = a8) (e8 : own_F_holds a5 a6 a9 a10 = a12) (e9 : a12 = (0 : Int32)) (e10 : N a11 = a13) (e11 : ¬ (a13 = a7)) (e12 : a13 = a3) (e13 : ¬ (a0 = a8)) (e14 : N a13 = a14) (e15 : ¬ (a14 = a7)) (e16 : ¬ (a14 = a3)) (f0 : ¬ a14 = a11) : own_F_look2 a1 a2 a5 a6 a9 a10 = (-1 : Int32) := by grind [own_F_look1, own_F_look2, own_G_put2, own_F_holds]
theorem ax_15 {F N : Int32 → Int32} {H : Int32 → Int32 → Int32} (nn : ∀ x, ¬ N x = x) {a0 a1 a2 a3 a4 a5 a6 a7 a8 a9 a10 a11 a12 a13 : Int32} (e0 : H a1 a2 = a0) (e1 : F a0 = a3) (e2 : H a5 a6 = a4) (e3 : own_G_put2 F N a3 a4 = a7) (e4 : H a9 a10 = a8) (e5 : F a8 = a11) (e6 : a11 = a7) (e7 : a4 = a8) (e8 : own_F_holds a5 a6 a9 a10 = a12) (e9 : a12 = (0 : Int32)) (e10 : N a11 = a13) (e11 : ¬ (a13 = a7)) (e12 : ¬ (a13 = a3)) : own_F_look2 a1 a2 a5 a6 a9 a10 = (-1 : Int32) := by grind [own_F_look1, own_F_look2, own_G_put2, own_F_holds]
theorem ax_16 {F N : Int32 → Int32} {H : Int32 → Int32 → Int32} (nn : ∀ x, ¬ N x = x) {a0 a1 a2 a3 a4 a5 a6 a7 a8 a9 a10 a11 a12 : Int32} (e0 : H a1 a2 = a0) (e1 : F a0 = a3) (e2 : H a5 a6 = a4) (e3 : own_G_put2 F N a3 a4 = a7) (e4 : H a9 a10 = a8) (e5 : F a8 = a11) (e6 : a11 = a7) (e7 : a4 = a8) (e8 : own_F_holds a5 a6 a9 a10 = a12) (e9 : ¬ (a12 = (0 : Int32))) : own_F_look2 a1 a2 a5 a6 a9 a10 = (1 : Int32) := by grind [own_F_look1, own_F_look2, own_G_put2, own_F_holds]
theorem ax_17 {F N : Int32 → Int32} {H : Int32 → Int32 → Int32} (nn : ∀ x, ¬ N x = x) {a0 a1 a2 a3 a4 a5 a6 a7 a8 a9 a10 a11 a12 : Int32} (e0 : H a1 a2 = a0) (e1 : F a0 = a3) (e2 : H a5 a6 = a4) (e3 : own_G_put2 F N a3 a4 = a7) (e4 : H a9 a10 = a8) (e5 : F a8 = a11) (e6 : a11 = a7) (e7 : ¬ (a4 = a8)) (e8 : N a11 = a12) : ¬ (a12 = a7) := by grind [own_F_look1, own_F_look2, own_G_put2, own_F_holds]
theorem ax_18 {F N : Int32 → Int32} {H : Int32 → Int32 → Int32} (nn : ∀ x, ¬ N x = x) {a0 a1 a2 a3 a4 a5 a6 a7 a8 a9 a10 a11 a12 : Int32} (e0 : H a1 a2 = a0) (e1 : F a0 = a3) (e2 : H a5 a6 = a4) (e3 : own_G_put2 F N a3 a4 = a7) (e4 : H a9 a10 = a8) (e5 : F a8 = a11) (e6 : a11 = a7) (e7 : ¬ (a4 = a8)) (e8 : N a11 = a12) (e9 : ¬ (a12 = a7)) (e10 : a12 = a3) : ¬ (a0 = a8) := by grind [own_F_look1, own_F_look2, own_G_put2, own_F_holds]
theorem ax_19 {F N : Int32 → Int32} {H : Int32 → Int32 → Int32} (nn : ∀ x, ¬ N x = x) {a0 a1 a2 a3 a4 a5 a6 a7 a8 a9 a10 a11 a12 a13 : Int32} (e0 : H a1 a2 = a0) (e1 : F a0 = a3) (e2 : H a5 a6 = a4) (e3 : own_G_put2 F N a3 a4 = a7) (e4 : H a9 a10 = a8) (e5 : F a8 = a11) (e6 : a11 = a7) (e7 : ¬ (a4 = a8)) (e8 : N a11 = a12) (e9 : ¬ (a12 = a7)) (e10 : a12 = a3) (e11 : ¬ (a0 = a8)) (e12 : N a12 = a13) (f0 : ¬ a13 = a11) : ¬ (a13 = a7) := by grind [own_F_look1, own_F_look2, own_G_put2, own_F_holds]
theorem ax_20 {F N : Int32 → Int32} {H : Int32 → Int32 → Int32} (nn : ∀ x, ¬ N x = x) {a0 a1 a2 a3 a4 a5 a6 a7 a8 a9 a10 a11 a12 a13 : Int32} (e0 : H a1 a2 = a0) (e1 : F a0 = a3) (e2 : H a5 a6 = a4) (e3 : own_G_put2 F N a3 a4 = a7) (e4 : H a9 a10 = a8) (e5 : F a8 = a11) (e6 : a11 = a7) (e7 : ¬ (a4 = a8)) (e8 : N a11 = a12) (e9 : ¬ (a12 = a7)) (e10 : a12 = a3) (e11 : ¬ (a0 = a8)) (e12 : N a12 = a13) (e13 : ¬ (a13 = a7)) (f0 : ¬ a13 = a11) : ¬ (a13 = a3) := by grind [own_F_look1, own_F_look2, own_G_put2, own_F_holds]
theorem ax_21 {F N : Int32 → Int32} {H : Int32 → Int32 → Int32} (nn : ∀ x, ¬ N x = x) {a0 a1 a2 a3 a4 a5 a6 a7 a8 a9 a10 a11 a12 a13 : Int32} (e0 : H a1 a2 = a0) (e1 : F a0 = a3) (e2 : H a5 a6 = a4) (e3 : own_G_put2 F N a3 a4 = a7) (e4 : H a9 a10 = a8) (e5 : F a8 = a11) (e6 : a11 = a7) (e7 : ¬ (a4 = a8)) (e8 : N a11 = a12) (e9 : ¬ (a12 = a7)) (e10 : a12 = a3) (e11 : ¬ (a0 = a8)) (e12 : N a12 = a13) (e13 : ¬ (a13 = a7)) (e14 : ¬ (a13 = a3)) (f0 : ¬ a13 = a11) : own_F_look2 a1 a2 a5 a6 a9 a10 = (-1 : Int32) := by grind [own_F_look1, own_F_look2, own_G_put2, own_F_holds]
theorem ax_22 {F N : Int32 → Int32} {H : Int32 → Int32 → Int32} (nn : ∀ x, ¬ N x = x) {a0 a1 a2 a3 a4 a5 a6 a7 a8 a9 a10 a11 a12 : Int32} (e0 : H a1 a2 = a0) (e1 : F a0 = a3) (e2 : H a5 a6 = a4) (e3 : own_G_put2 F N a3 a4 = a7) (e4 : H a9 a10 = a8) (e5 : F a8 = a11) (e6 : a11 = a7) (e7 : ¬ (a4 = a8)) (e8 : N a11 = a12) (e9 : ¬ (a12 = a7)) (e10 : ¬ (a12 = a3)) : own_F_look2 a1 a2 a5 a6 a9 a10 = (-1 : Int32) := by grind [own_F_look1, own_F_look2, own_G_put2, own_F_holds]
def Q_51 (Z : State) (w0 w1 : Addr) (kw1 : ClassId) (p3 p4 p5 p6 : Int32) (h0 : Heap) (n0 : Nat) (v : Option Value) (h : Heap) : Prop :=
  (v = some (.int p3) ∧ h0 = h)
theorem rm_51 (l : Launch) (Z : State) (a0 : Array Value) (hw : ∀ d ∈ tables_1, d.before a0 Z = true) (ws : List Jvm.Cond) (w0 w1 : Addr) (kw1 : ClassId) (p3 p4 p5 p6 : Int32) (h0 : Heap) (n0 : Nat) (Z0 : n0 ≤ h0.size) (E_w0 : Exa Z h0 w0 oC2) (F_w0_arity : Fld Z h0 w0 oC2 "arity" "I" (.int 2)) (F_w0_rows : Fld Z h0 w0 oC2 "rows" "[I" (.ref w1)) (g_w0 : n0 ≤ w0) (V_w1 : Arv Z h0 w1 kw1 .int (16 : Int32) [(.int p3), (.int p4), (.int p5), (.int p6)] (.int 0)) (g_w1 : n0 ≤ w1) (ne_w0_w1 : w0 ≠ w1) :
    own_M l Z (⟨"com/example/ordal/ordal/Relation", "value", "(II)I"⟩ : MethodName) prog_12_method_5_code 3 (some .int) ws ({ frames := 0, cells := 0, slots := 0, locals := 0 } : Room) #[(.ref w0), (.int 0), (.int 0)] h0 n0 (Q_51 Z w0 w1 kw1 p3 p4 p5 p6 h0 n0) := by
  refine own_enter' (Q := Q_51 Z w0 w1 kw1 p3 p4 p5 p6 h0 n0) (F := fun m => mkF m 0 #[.val (.ref w0), .val (.int 0), .val (.int 0)] []) (plainFor_of_name pn_2) ?_
  intro p e s m below meth c s₁ B X0
  have K : Keep h0 h0 [] := Keep.refl h0 _
  have lt_w0 := E_w0.lt
  have lt_w1 := V_w1.lt
  refine own_aloadN (pc' := 1) B X0 d27_0 rfl rfl rfl ?_
  refine own_getfield (pc' := 4) B X0 (host := "") (Or.inl (own_w hw 32 rfl)) Via.refl F_w0_rows d27_1 rfl ?_
  intro T1 X1
  refine own_iloadN (pc' := 5) B X1 d27_4 rfl rfl ?_
  refine own_aloadN (pc' := 6) B X1 d27_5 rfl rfl rfl ?_
  refine own_getfield (pc' := 9) B X1 (host := "") (Or.inl (own_w hw 29 rfl)) Via.refl F_w0_arity d27_6 rfl ?_
  intro T2 X2
  refine own_imul (pc' := 10) B X2 (z := (0 : Int32)) d27_9 rfl (by decide) ?_
  refine own_iloadN (pc' := 11) B X2 d27_10 rfl rfl ?_
  refine own_iadd (pc' := 12) B X2 (z := (0 : Int32)) d27_11 rfl (by decide) ?_
  refine own_iaload (pc' := 13) B X2 V_w1 (v := (.int p3)) ⟨by decide, by decide⟩ rfl d27_12 rfl ?_
  exact own_retI B X2 d27_13 (by decide) (by decide) (⟨rfl, rfl⟩)
def Q_52 (Z : State) (w0 w1 : Addr) (kw1 : ClassId) (p3 p4 p5 p6 : Int32) (h0 : Heap) (n0 : Nat) (v : Option Value) (h : Heap) : Prop :=
  (v = some (.int p4) ∧ h0 = h)
theorem rm_52 (l : Launch) (Z : State) (a0 : Array Value) (hw : ∀ d ∈ tables_1, d.before a0 Z = true) (ws : List Jvm.Cond) (w0 w1 : Addr) (kw1 : ClassId) (p3 p4 p5 p6 : Int32) (h0 : Heap) (n0 : Nat) (Z0 : n0 ≤ h0.size) (E_w0 : Exa Z h0 w0 oC2) (F_w0_arity : Fld Z h0 w0 oC2 "arity" "I" (.int 2)) (F_w0_rows : Fld Z h0 w0 oC2 "rows" "[I" (.ref w1)) (g_w0 : n0 ≤ w0) (V_w1 : Arv Z h0 w1 kw1 .int (16 : Int32) [(.int p3), (.int p4), (.int p5), (.int p6)] (.int 0)) (g_w1 : n0 ≤ w1) (ne_w0_w1 : w0 ≠ w1) :
    own_M l Z (⟨"com/example/ordal/ordal/Relation", "value", "(II)I"⟩ : MethodName) prog_12_method_5_code 3 (some .int) ws ({ frames := 0, cells := 0, slots := 0, locals := 0 } : Room) #[(.ref w0), (.int 0), (.int 1)] h0 n0 (Q_52 Z w0 w1 kw1 p3 p4 p5 p6 h0 n0) := by
  refine own_enter' (Q := Q_52 Z w0 w1 kw1 p3 p4 p5 p6 h0 n0) (F := fun m => mkF m 0 #[.val (.ref w0), .val (.int 0), .val (.int 1)] []) (plainFor_of_name pn_2) ?_
  intro p e s m below meth c s₁ B X0
  have K : Keep h0 h0 [] := Keep.refl h0 _
  have lt_w0 := E_w0.lt
  have lt_w1 := V_w1.lt
  refine own_aloadN (pc' := 1) B X0 d27_0 rfl rfl rfl ?_
  refine own_getfield (pc' := 4) B X0 (host := "") (Or.inl (own_w hw 32 rfl)) Via.refl F_w0_rows d27_1 rfl ?_
  intro T1 X1
  refine own_iloadN (pc' := 5) B X1 d27_4 rfl rfl ?_
  refine own_aloadN (pc' := 6) B X1 d27_5 rfl rfl rfl ?_
  refine own_getfield (pc' := 9) B X1 (host := "") (Or.inl (own_w hw 29 rfl)) Via.refl F_w0_arity d27_6 rfl ?_
  intro T2 X2
  refine own_imul (pc' := 10) B X2 (z := (0 : Int32)) d27_9 rfl (by decide) ?_
  refine own_iloadN (pc' := 11) B X2 d27_10 rfl rfl ?_
  refine own_iadd (pc' := 12) B X2 (z := (1 : Int32)) d27_11 rfl (by decide) ?_
  refine own_iaload (pc' := 13) B X2 V_w1 (v := (.int p4)) ⟨by decide, by decide⟩ rfl d27_12 rfl ?_
  exact own_retI B X2 d27_13 (by decide) (by decide) (⟨rfl, rfl⟩)
def Q_50 (Z : State) (w0 w1 w2 : Addr) (kw2 : ClassId) (p4 p5 p6 p7 : Int32) (w8 : Addr) (kw8 : ClassId) (w10 : Addr) (kw10 : ClassId) (p12 p13 : Int32) (h0 : Heap) (n0 : Nat) (v : Option Value) (h : Heap) : Prop :=
  (∃ (yF : Int32), own_F_holds p4 p5 p12 p13 = yF ∧ v = some (.int yF) ∧ h0 = h)
theorem rm_50 (l : Launch) (Z : State) (a0 : Array Value) (hw : ∀ d ∈ tables_1, d.before a0 Z = true) (ws : List Jvm.Cond) (w0 w1 w2 : Addr) (kw2 : ClassId) (p4 p5 p6 p7 : Int32) (w8 : Addr) (kw8 : ClassId) (w10 : Addr) (kw10 : ClassId) (p12 p13 : Int32) (h0 : Heap) (n0 : Nat) (Z0 : n0 ≤ h0.size) (E_w0 : Exa Z h0 w0 oC3) (F_w0_relation : Fld Z h0 w0 oC3 "relation" "Lcom/example/ordal/ordal/Relation;" (.ref w1)) (F_w0_columns : Fld Z h0 w0 oC3 "columns" "[I" (.ref w8)) (g_w0 : n0 ≤ w0) (E_w1 : Exa Z h0 w1 oC2) (F_w1_arity : Fld Z h0 w1 oC2 "arity" "I" (.int 2)) (F_w1_rows : Fld Z h0 w1 oC2 "rows" "[I" (.ref w2)) (g_w1 : n0 ≤ w1) (V_w2 : Arv Z h0 w2 kw2 .int (16 : Int32) [(.int p4), (.int p5), (.int p6), (.int p7)] (.int 0)) (g_w2 : n0 ≤ w2) (V_w8 : Arv Z h0 w8 kw8 .int (2 : Int32) [(.int 0), (.int 1)] (.int 0)) (g_w8 : n0 ≤ w8) (E_w10 : Exa Z h0 w10 "[I") (V_w10 : Arv Z h0 w10 kw10 .int (2 : Int32) [(.int p12), (.int p13)] (.int 0)) (g_w10 : n0 ≤ w10) (ne_w0_w1 : w0 ≠ w1) (ne_w0_w2 : w0 ≠ w2) (ne_w0_w8 : w0 ≠ w8) (ne_w0_w10 : w0 ≠ w10) (ne_w1_w2 : w1 ≠ w2) (ne_w1_w8 : w1 ≠ w8) (ne_w1_w10 : w1 ≠ w10) (ne_w2_w8 : w2 ≠ w8) (ne_w2_w10 : w2 ≠ w10) (ne_w8_w10 : w8 ≠ w10) :
    own_M l Z (⟨"com/example/ordal/ordal/Relation$PositionTable", "holds", "(I[I)Z"⟩ : MethodName) prog_15_method_6_code 4 (some .boolean) ws ({ frames := 1, cells := 0, slots := 0, locals := 14 } : Room) #[(.ref w0), (.int 0), (.ref w10)] h0 n0 (Q_50 Z w0 w1 w2 kw2 p4 p5 p6 p7 w8 kw8 w10 kw10 p12 p13 h0 n0) := by
  refine own_enter' (Q := Q_50 Z w0 w1 w2 kw2 p4 p5 p6 p7 w8 kw8 w10 kw10 p12 p13 h0 n0) (F := fun m => mkF m 0 #[.val (.ref w0), .val (.int 0), .val (.ref w10), .unset] []) (plainFor_of_name pn_4) ?_
  intro p e s m below meth c s₁ B X0
  have K : Keep h0 h0 [] := Keep.refl h0 _
  have lt_w0 := E_w0.lt
  have lt_w1 := E_w1.lt
  have lt_w2 := V_w2.lt
  have lt_w8 := V_w8.lt
  have lt_w10 := E_w10.lt
  refine own_iconst (pc' := 1) B X0 (z := (0 : Int32)) d26_0 rfl rfl ?_
  refine own_istoreN (pc' := 2) B X0 (Ls' := #[.val (.ref w0), .val (.int 0), .val (.ref w10), .val (.int 0)]) d26_1 rfl rfl ?_
  refine own_iloadN (pc' := 3) B X0 d26_2 rfl rfl ?_
  refine own_aloadN (pc' := 4) B X0 d26_3 rfl rfl rfl ?_
  refine own_getfield (pc' := 7) B X0 (host := "") (Or.inl (own_w hw 61 rfl)) Via.refl F_w0_columns d26_4 rfl ?_
  intro T1 X1
  refine own_arraylength (pc' := 8) B X1 V_w8 d26_7 rfl ?_
  refine own_icmpNo (pc' := 11) B X1 d26_8 (tlt (by decide : (0 : Int32) < (2 : Int32))).2.1 rfl ?_
  refine own_aloadN (pc' := 12) B X1 d26_11 rfl rfl rfl ?_
  refine own_getfield (pc' := 15) B X1 (host := "") (Or.inl (own_w hw 59 rfl)) Via.refl F_w0_relation d26_12 rfl ?_
  intro T2 X2
  refine own_iloadN (pc' := 16) B X2 d26_15 rfl rfl ?_
  refine own_aloadN (pc' := 17) B X2 d26_16 rfl rfl rfl ?_
  refine own_getfield (pc' := 20) B X2 (host := "") (Or.inl (own_w hw 61 rfl)) Via.refl F_w0_columns d26_17 rfl ?_
  intro T3 X3
  refine own_iloadN (pc' := 21) B X3 d26_20 rfl rfl ?_
  refine own_iaload (pc' := 22) B X3 V_w8 (v := (.int 0)) ⟨by decide, by decide⟩ rfl d26_21 rfl ?_
  refine own_callV (pc' := 25) B X3 (own_w hw 178 rfl) (own_w hw 179 rfl) (own_w hw 181 rfl) (own_w hw 180 rfl) (own_w hw 2 rfl) (own_w hw 182 rfl) E_w1 (by decide) [(.int 0), (.int 0)] [] (rm_51 l Z a0 hw [] w1 w2 kw2 (p4) (p5) (p6) (p7) h0 n0 (Nat.le_trans Z0 K.1) E_w1 F_w1_arity F_w1_rows g_w1 V_w2 g_w2 ne_w1_w2) 0 (by decide) (by decide) rfl pd_5 rfl rfl (Nat.le_of_eq rfl) d26_22 rfl (k' := 0) (n' := 0) rfl rfl (by decide) (by decide) ?_
  intro T4 v4 h4 X4 q4
  obtain ⟨rfl, rfl⟩ := q4
  show own_Go p e below (T4.setTop (mkF m 25 #[.val (.ref w0), .val (.int 0), .val (.ref w10), .val (.int 0)] [(.int p4)])) _
  refine own_aloadN (pc' := 26) B X4 d26_25 rfl rfl rfl ?_
  refine own_iloadN (pc' := 27) B X4 d26_26 rfl rfl ?_
  refine own_iaload (pc' := 28) B X4 V_w10 (v := (.int p12)) ⟨by decide, by decide⟩ rfl d26_27 rfl ?_
  by_cases c5 : p4 = p12
  refine own_icmpYes (pc' := 33) B X4 d26_28 (teq c5).1 (by decide) rfl ?_
  refine own_iinc (pc' := 36) B X4 (Ls' := #[.val (.ref w0), .val (.int 0), .val (.ref w10), .val (.int 1)]) d26_33 rfl rfl (z := (1 : Int32)) (by decide) rfl ?_
  refine own_goto (pc' := 2) B X4 d26_36 (by decide) rfl ?_
  refine own_iloadN (pc' := 3) B X4 d26_2 rfl rfl ?_
  refine own_aloadN (pc' := 4) B X4 d26_3 rfl rfl rfl ?_
  refine own_getfield (pc' := 7) B X4 (host := "") (Or.inl (own_w hw 61 rfl)) Via.refl F_w0_columns d26_4 rfl ?_
  intro T6 X6
  refine own_arraylength (pc' := 8) B X6 V_w8 d26_7 rfl ?_
  refine own_icmpNo (pc' := 11) B X6 d26_8 (tlt (by decide : (1 : Int32) < (2 : Int32))).2.1 rfl ?_
  refine own_aloadN (pc' := 12) B X6 d26_11 rfl rfl rfl ?_
  refine own_getfield (pc' := 15) B X6 (host := "") (Or.inl (own_w hw 59 rfl)) Via.refl F_w0_relation d26_12 rfl ?_
  intro T7 X7
  refine own_iloadN (pc' := 16) B X7 d26_15 rfl rfl ?_
  refine own_aloadN (pc' := 17) B X7 d26_16 rfl rfl rfl ?_
  refine own_getfield (pc' := 20) B X7 (host := "") (Or.inl (own_w hw 61 rfl)) Via.refl F_w0_columns d26_17 rfl ?_
  intro T8 X8
  refine own_iloadN (pc' := 21) B X8 d26_20 rfl rfl ?_
  refine own_iaload (pc' := 22) B X8 V_w8 (v := (.int 1)) ⟨by decide, by decide⟩ rfl d26_21 rfl ?_
  refine own_callV (pc' := 25) B X8 (own_w hw 178 rfl) (own_w hw 179 rfl) (own_w hw 181 rfl) (own_w hw 180 rfl) (own_w hw 2 rfl) (own_w hw 182 rfl) E_w1 (by decide) [(.int 0), (.int 1)] [] (rm_52 l Z a0 hw [] w1 w2 kw2 (p4) (p5) (p6) (p7) h0 n0 (Nat.le_trans Z0 K.1) E_w1 F_w1_arity F_w1_rows g_w1 V_w2 g_w2 ne_w1_w2) 0 (by decide) (by decide) rfl pd_5 rfl rfl (Nat.le_of_eq rfl) d26_22 rfl (k' := 0) (n' := 0) rfl rfl (by decide) (by decide) ?_
  intro T9 v9 h9 X9 q9
  obtain ⟨rfl, rfl⟩ := q9
  show own_Go p e below (T9.setTop (mkF m 25 #[.val (.ref w0), .val (.int 0), .val (.ref w10), .val (.int 1)] [(.int p5)])) _
  refine own_aloadN (pc' := 26) B X9 d26_25 rfl rfl rfl ?_
  refine own_iloadN (pc' := 27) B X9 d26_26 rfl rfl ?_
  refine own_iaload (pc' := 28) B X9 V_w10 (v := (.int p13)) ⟨by decide, by decide⟩ rfl d26_27 rfl ?_
  by_cases c10 : p5 = p13
  refine own_icmpYes (pc' := 33) B X9 d26_28 (teq c10).1 (by decide) rfl ?_
  refine own_iinc (pc' := 36) B X9 (Ls' := #[.val (.ref w0), .val (.int 0), .val (.ref w10), .val (.int 2)]) d26_33 rfl rfl (z := (2 : Int32)) (by decide) rfl ?_
  refine own_goto (pc' := 2) B X9 d26_36 (by decide) rfl ?_
  refine own_iloadN (pc' := 3) B X9 d26_2 rfl rfl ?_
  refine own_aloadN (pc' := 4) B X9 d26_3 rfl rfl rfl ?_
  refine own_getfield (pc' := 7) B X9 (host := "") (Or.inl (own_w hw 61 rfl)) Via.refl F_w0_columns d26_4 rfl ?_
  intro T11 X11
  refine own_arraylength (pc' := 8) B X11 V_w8 d26_7 rfl ?_
  refine own_icmpYes (pc' := 39) B X11 d26_8 (flt (by decide : ¬ ((2 : Int32) < (2 : Int32)))).2.1 (by decide) rfl ?_
  refine own_iconst (pc' := 40) B X11 (z := (1 : Int32)) d26_39 rfl rfl ?_
  exact own_retN B X11 (t := .boolean) (z' := (1 : Int32)) (by simp) (by decide) d26_40 (by decide) (by decide) ⟨(1 : Int32), (by rw [own_F_holds, if_pos c5, if_pos c10]), rfl, rfl⟩
  refine own_icmpNo (pc' := 31) B X9 d26_28 (feq c10).1 rfl ?_
  refine own_iconst (pc' := 32) B X9 (z := (0 : Int32)) d26_31 rfl rfl ?_
  exact own_retN B X9 (t := .boolean) (z' := (0 : Int32)) (by simp) (by decide) d26_32 (by decide) (by decide) ⟨(0 : Int32), (by rw [own_F_holds, if_pos c5, if_neg c10]), rfl, rfl⟩
  refine own_icmpNo (pc' := 31) B X4 d26_28 (feq c5).1 rfl ?_
  refine own_iconst (pc' := 32) B X4 (z := (0 : Int32)) d26_31 rfl rfl ?_
  exact own_retN B X4 (t := .boolean) (z' := (0 : Int32)) (by simp) (by decide) d26_32 (by decide) (by decide) ⟨(0 : Int32), (by rw [own_F_holds, if_neg c5]), rfl, rfl⟩
def Q_49 (Z : State) (w0 w1 w2 : Addr) (kw2 : ClassId) (p4 p5 p6 p7 : Int32) (w8 : Addr) (kw8 : ClassId) (w10 : Addr) (kw10 : ClassId) (p12 p13 : Int32) (h0 : Heap) (n0 : Nat) (v : Option Value) (h : Heap) : Prop :=
  (∃ (y3 : Int32), own_F_holds p4 p5 p12 p13 = y3 ∧ v = some (.int y3) ∧ h0 = h)
theorem rm_49 (l : Launch) (Z : State) (a0 : Array Value) (hw : ∀ d ∈ tables_1, d.before a0 Z = true) (ws : List Jvm.Cond) (w0 w1 w2 : Addr) (kw2 : ClassId) (p4 p5 p6 p7 : Int32) (w8 : Addr) (kw8 : ClassId) (w10 : Addr) (kw10 : ClassId) (p12 p13 : Int32) (h0 : Heap) (n0 : Nat) (Z0 : n0 ≤ h0.size) (E_w0 : Exa Z h0 w0 oC3) (F_w0_relation : Fld Z h0 w0 oC3 "relation" "Lcom/example/ordal/ordal/Relation;" (.ref w1)) (F_w0_columns : Fld Z h0 w0 oC3 "columns" "[I" (.ref w8)) (g_w0 : n0 ≤ w0) (E_w1 : Exa Z h0 w1 oC2) (F_w1_arity : Fld Z h0 w1 oC2 "arity" "I" (.int 2)) (F_w1_rows : Fld Z h0 w1 oC2 "rows" "[I" (.ref w2)) (g_w1 : n0 ≤ w1) (V_w2 : Arv Z h0 w2 kw2 .int (16 : Int32) [(.int p4), (.int p5), (.int p6), (.int p7)] (.int 0)) (g_w2 : n0 ≤ w2) (V_w8 : Arv Z h0 w8 kw8 .int (2 : Int32) [(.int 0), (.int 1)] (.int 0)) (g_w8 : n0 ≤ w8) (E_w10 : Exa Z h0 w10 "[I") (V_w10 : Arv Z h0 w10 kw10 .int (2 : Int32) [(.int p12), (.int p13)] (.int 0)) (g_w10 : n0 ≤ w10) (ne_w0_w1 : w0 ≠ w1) (ne_w0_w2 : w0 ≠ w2) (ne_w0_w8 : w0 ≠ w8) (ne_w0_w10 : w0 ≠ w10) (ne_w1_w2 : w1 ≠ w2) (ne_w1_w8 : w1 ≠ w8) (ne_w1_w10 : w1 ≠ w10) (ne_w2_w8 : w2 ≠ w8) (ne_w2_w10 : w2 ≠ w10) (ne_w8_w10 : w8 ≠ w10) :
    own_M l Z (⟨"com/example/ordal/ordal/Relation$PositionTable", "holds", "(ILjava/lang/Object;)Z"⟩ : MethodName) prog_15_method_13_code 3 (some .boolean) ws ({ frames := 2, cells := 0, slots := 0, locals := 29 } : Room) #[(.ref w0), (.int 0), (.ref w10)] h0 n0 (Q_49 Z w0 w1 w2 kw2 p4 p5 p6 p7 w8 kw8 w10 kw10 p12 p13 h0 n0) := by
  refine own_enter' (Q := Q_49 Z w0 w1 w2 kw2 p4 p5 p6 p7 w8 kw8 w10 kw10 p12 p13 h0 n0) (F := fun m => mkF m 0 #[.val (.ref w0), .val (.int 0), .val (.ref w10)] []) (plainFor_of_name pn_4) ?_
  intro p e s m below meth c s₁ B X0
  have K : Keep h0 h0 [] := Keep.refl h0 _
  have lt_w0 := E_w0.lt
  have lt_w1 := E_w1.lt
  have lt_w2 := V_w2.lt
  have lt_w8 := V_w8.lt
  have lt_w10 := E_w10.lt
  refine own_aloadN (pc' := 1) B X0 d25_0 rfl rfl rfl ?_
  refine own_iloadN (pc' := 2) B X0 d25_1 rfl rfl ?_
  refine own_aloadN (pc' := 3) B X0 d25_2 rfl rfl rfl ?_
  refine own_checkcast (pc' := 6) B X0 (own_w hw 171 rfl) (Ins.self E_w10) d25_3 rfl ?_
  intro T1 X1
  refine own_callV (pc' := 9) B X1 (own_w hw 173 rfl) (own_w hw 174 rfl) (own_w hw 176 rfl) (own_w hw 175 rfl) (own_w hw 36 rfl) (own_w hw 177 rfl) E_w0 (by decide) [(.int 0), (.ref w10)] [] (rm_50 l Z a0 hw [] w0 w1 w2 kw2 (p4) (p5) (p6) (p7) w8 kw8 w10 kw10 (p12) (p13) h0 n0 (Nat.le_trans Z0 K.1) E_w0 F_w0_relation F_w0_columns g_w0 E_w1 F_w1_arity F_w1_rows g_w1 V_w2 g_w2 V_w8 g_w8 E_w10 V_w10 g_w10 ne_w0_w1 ne_w0_w2 ne_w0_w8 ne_w0_w10 ne_w1_w2 ne_w1_w8 ne_w1_w10 ne_w2_w8 ne_w2_w10 ne_w8_w10) 0 (by decide) (by decide) rfl pd_15 rfl rfl (Nat.le_of_eq rfl) d25_6 rfl (k' := 0) (n' := 0) rfl rfl (by decide) (by decide) ?_
  intro T2 v2 h2 X2 q2
  obtain ⟨y3, hy4, rfl, rfl⟩ := q2
  show own_Go p e below (T2.setTop (mkF m 9 #[.val (.ref w0), .val (.int 0), .val (.ref w10)] [(.int y3)])) _
  exact own_retN B X2 (t := .boolean) (z' := y3) (by simp) (b_own_F_holds hy4) d25_9 (by decide) (by decide) (⟨y3, hy4, rfl, rfl⟩)
theorem ax_23 {F N : Int32 → Int32} {H : Int32 → Int32 → Int32} (nn : ∀ x, ¬ N x = x) {a0 a1 a2 a3 a4 a5 a6 a7 a8 a9 a10 a11 a12 a13 a14 a15 : Int32} (e0 : H a1 a2 = a0) (e1 : F a0 = a3) (e2 : H a5 a6 = a4) (e3 : own_G_put2 F N a3 a4 = a7) (e4 : H a9 a10 = a8) (e5 : F a8 = a11) (e6 : ¬ (a11 = a7)) (e7 : a11 = a3) (e8 : a0 = a8) (e9 : own_F_holds a1 a2 a9 a10 = a12) (e10 : a12 = (0 : Int32)) (e11 : N a11 = a13) (e12 : a13 = a7) (e13 : a4 = a8) (e14 : own_F_holds a5 a6 a9 a10 = a14) (e15 : a14 = (0 : Int32)) (e16 : N a13 = a15) (f0 : ¬ a15 = a11) : ¬ (a15 = a7) := by grind [own_F_look1, own_F_look2, own_G_put2, own_F_holds]
theorem ax_24 {F N : Int32 → Int32} {H : Int32 → Int32 → Int32} (nn : ∀ x, ¬ N x = x) {a0 a1 a2 a3 a4 a5 a6 a7 a8 a9 a10 a11 a12 a13 a14 a15 : Int32} (e0 : H a1 a2 = a0) (e1 : F a0 = a3) (e2 : H a5 a6 = a4) (e3 : own_G_put2 F N a3 a4 = a7) (e4 : H a9 a10 = a8) (e5 : F a8 = a11) (e6 : ¬ (a11 = a7)) (e7 : a11 = a3) (e8 : a0 = a8) (e9 : own_F_holds a1 a2 a9 a10 = a12) (e10 : a12 = (0 : Int32)) (e11 : N a11 = a13) (e12 : a13 = a7) (e13 : a4 = a8) (e14 : own_F_holds a5 a6 a9 a10 = a14) (e15 : a14 = (0 : Int32)) (e16 : N a13 = a15) (e17 : ¬ (a15 = a7)) (f0 : ¬ a15 = a11) : ¬ (a15 = a3) := by grind [own_F_look1, own_F_look2, own_G_put2, own_F_holds]
theorem ax_25 {F N : Int32 → Int32} {H : Int32 → Int32 → Int32} (nn : ∀ x, ¬ N x = x) {a0 a1 a2 a3 a4 a5 a6 a7 a8 a9 a10 a11 a12 a13 a14 a15 : Int32} (e0 : H a1 a2 = a0) (e1 : F a0 = a3) (e2 : H a5 a6 = a4) (e3 : own_G_put2 F N a3 a4 = a7) (e4 : H a9 a10 = a8) (e5 : F a8 = a11) (e6 : ¬ (a11 = a7)) (e7 : a11 = a3) (e8 : a0 = a8) (e9 : own_F_holds a1 a2 a9 a10 = a12) (e10 : a12 = (0 : Int32)) (e11 : N a11 = a13) (e12 : a13 = a7) (e13 : a4 = a8) (e14 : own_F_holds a5 a6 a9 a10 = a14) (e15 : a14 = (0 : Int32)) (e16 : N a13 = a15) (e17 : ¬ (a15 = a7)) (e18 : ¬ (a15 = a3)) (f0 : ¬ a15 = a11) : own_F_look2 a1 a2 a5 a6 a9 a10 = (-1 : Int32) := by grind [own_F_look1, own_F_look2, own_G_put2, own_F_holds]
theorem ax_26 {F N : Int32 → Int32} {H : Int32 → Int32 → Int32} (nn : ∀ x, ¬ N x = x) {a0 a1 a2 a3 a4 a5 a6 a7 a8 a9 a10 a11 a12 a13 a14 : Int32} (e0 : H a1 a2 = a0) (e1 : F a0 = a3) (e2 : H a5 a6 = a4) (e3 : own_G_put2 F N a3 a4 = a7) (e4 : H a9 a10 = a8) (e5 : F a8 = a11) (e6 : ¬ (a11 = a7)) (e7 : a11 = a3) (e8 : a0 = a8) (e9 : own_F_holds a1 a2 a9 a10 = a12) (e10 : a12 = (0 : Int32)) (e11 : N a11 = a13) (e12 : a13 = a7) (e13 : a4 = a8) (e14 : own_F_holds a5 a6 a9 a10 = a14) (e15 : ¬ (a14 = (0 : Int32))) : own_F_look2 a1 a2 a5 a6 a9 a10 = (1 : Int32) := by grind [own_F_look1, own_F_look2, own_G_put2, own_F_holds]
theorem ax_27 {F N : Int32 → Int32} {H : Int32 → Int32 → Int32} (nn : ∀ x, ¬ N x = x) {a0 a1 a2 a3 a4 a5 a6 a7 a8 a9 a10 a11 a12 a13 a14 : Int32} (e0 : H a1 a2 = a0) (e1 : F a0 = a3) (e2 : H a5 a6 = a4) (e3 : own_G_put2 F N a3 a4 = a7) (e4 : H a9 a10 = a8) (e5 : F a8 = a11) (e6 : ¬ (a11 = a7)) (e7 : a11 = a3) (e8 : a0 = a8) (e9 : own_F_holds a1 a2 a9 a10 = a12) (e10 : a12 = (0 : Int32)) (e11 : N a11 = a13) (e12 : a13 = a7) (e13 : ¬ (a4 = a8)) (e14 : N a13 = a14) (f0 : ¬ a14 = a11) : ¬ (a14 = a7) := by grind [own_F_look1, own_F_look2, own_G_put2, own_F_holds]
theorem ax_28 {F N : Int32 → Int32} {H : Int32 → Int32 → Int32} (nn : ∀ x, ¬ N x = x) {a0 a1 a2 a3 a4 a5 a6 a7 a8 a9 a10 a11 a12 a13 a14 : Int32} (e0 : H a1 a2 = a0) (e1 : F a0 = a3) (e2 : H a5 a6 = a4) (e3 : own_G_put2 F N a3 a4 = a7) (e4 : H a9 a10 = a8) (e5 : F a8 = a11) (e6 : ¬ (a11 = a7)) (e7 : a11 = a3) (e8 : a0 = a8) (e9 : own_F_holds a1 a2 a9 a10 = a12) (e10 : a12 = (0 : Int32)) (e11 : N a11 = a13) (e12 : a13 = a7) (e13 : ¬ (a4 = a8)) (e14 : N a13 = a14) (e15 : ¬ (a14 = a7)) (f0 : ¬ a14 = a11) : ¬ (a14 = a3) := by grind [own_F_look1, own_F_look2, own_G_put2, own_F_holds]
theorem ax_29 {F N : Int32 → Int32} {H : Int32 → Int32 → Int32} (nn : ∀ x, ¬ N x = x) {a0 a1 a2 a3 a4 a5 a6 a7 a8 a9 a10 a11 a12 a13 a14 : Int32} (e0 : H a1 a2 = a0) (e1 : F a0 = a3) (e2 : H a5 a6 = a4) (e3 : own_G_put2 F N a3 a4 = a7) (e4 : H a9 a10 = a8) (e5 : F a8 = a11) (e6 : ¬ (a11 = a7)) (e7 : a11 = a3) (e8 : a0 = a8) (e9 : own_F_holds a1 a2 a9 a10 = a12) (e10 : a12 = (0 : Int32)) (e11 : N a11 = a13) (e12 : a13 = a7) (e13 : ¬ (a4 = a8)) (e14 : N a13 = a14) (e15 : ¬ (a14 = a7)) (e16 : ¬ (a14 = a3)) (f0 : ¬ a14 = a11) : own_F_look2 a1 a2 a5 a6 a9 a10 = (-1 : Int32) := by grind [own_F_look1, own_F_look2, own_G_put2, own_F_holds]
theorem ax_30 {F N : Int32 → Int32} {H : Int32 → Int32 → Int32} (nn : ∀ x, ¬ N x = x) {a0 a1 a2 a3 a4 a5 a6 a7 a8 a9 a10 a11 a12 a13 : Int32} (e0 : H a1 a2 = a0) (e1 : F a0 = a3) (e2 : H a5 a6 = a4) (e3 : own_G_put2 F N a3 a4 = a7) (e4 : H a9 a10 = a8) (e5 : F a8 = a11) (e6 : ¬ (a11 = a7)) (e7 : a11 = a3) (e8 : a0 = a8) (e9 : own_F_holds a1 a2 a9 a10 = a12) (e10 : a12 = (0 : Int32)) (e11 : N a11 = a13) (e12 : ¬ (a13 = a7)) : ¬ (a13 = a3) := by grind [own_F_look1, own_F_look2, own_G_put2, own_F_holds]
theorem ax_31 {F N : Int32 → Int32} {H : Int32 → Int32 → Int32} (nn : ∀ x, ¬ N x = x) {a0 a1 a2 a3 a4 a5 a6 a7 a8 a9 a10 a11 a12 a13 : Int32} (e0 : H a1 a2 = a0) (e1 : F a0 = a3) (e2 : H a5 a6 = a4) (e3 : own_G_put2 F N a3 a4 = a7) (e4 : H a9 a10 = a8) (e5 : F a8 = a11) (e6 : ¬ (a11 = a7)) (e7 : a11 = a3) (e8 : a0 = a8) (e9 : own_F_holds a1 a2 a9 a10 = a12) (e10 : a12 = (0 : Int32)) (e11 : N a11 = a13) (e12 : ¬ (a13 = a7)) (e13 : ¬ (a13 = a3)) : own_F_look2 a1 a2 a5 a6 a9 a10 = (-1 : Int32) := by grind [own_F_look1, own_F_look2, own_G_put2, own_F_holds]
theorem ax_32 {F N : Int32 → Int32} {H : Int32 → Int32 → Int32} (nn : ∀ x, ¬ N x = x) {a0 a1 a2 a3 a4 a5 a6 a7 a8 a9 a10 a11 a12 : Int32} (e0 : H a1 a2 = a0) (e1 : F a0 = a3) (e2 : H a5 a6 = a4) (e3 : own_G_put2 F N a3 a4 = a7) (e4 : H a9 a10 = a8) (e5 : F a8 = a11) (e6 : ¬ (a11 = a7)) (e7 : a11 = a3) (e8 : a0 = a8) (e9 : own_F_holds a1 a2 a9 a10 = a12) (e10 : ¬ (a12 = (0 : Int32))) : own_F_look2 a1 a2 a5 a6 a9 a10 = (0 : Int32) := by grind [own_F_look1, own_F_look2, own_G_put2, own_F_holds]
theorem ax_33 {F N : Int32 → Int32} {H : Int32 → Int32 → Int32} (nn : ∀ x, ¬ N x = x) {a0 a1 a2 a3 a4 a5 a6 a7 a8 a9 a10 a11 a12 a13 a14 : Int32} (e0 : H a1 a2 = a0) (e1 : F a0 = a3) (e2 : H a5 a6 = a4) (e3 : own_G_put2 F N a3 a4 = a7) (e4 : H a9 a10 = a8) (e5 : F a8 = a11) (e6 : ¬ (a11 = a7)) (e7 : a11 = a3) (e8 : ¬ (a0 = a8)) (e9 : N a11 = a12) (e10 : a12 = a7) (e11 : a4 = a8) (e12 : own_F_holds a5 a6 a9 a10 = a13) (e13 : a13 = (0 : Int32)) (e14 : N a12 = a14) (f0 : ¬ a14 = a11) : ¬ (a14 = a7) := by grind [own_F_look1, own_F_look2, own_G_put2, own_F_holds]
theorem ax_34 {F N : Int32 → Int32} {H : Int32 → Int32 → Int32} (nn : ∀ x, ¬ N x = x) {a0 a1 a2 a3 a4 a5 a6 a7 a8 a9 a10 a11 a12 a13 a14 : Int32} (e0 : H a1 a2 = a0) (e1 : F a0 = a3) (e2 : H a5 a6 = a4) (e3 : own_G_put2 F N a3 a4 = a7) (e4 : H a9 a10 = a8) (e5 : F a8 = a11) (e6 : ¬ (a11 = a7)) (e7 : a11 = a3) (e8 : ¬ (a0 = a8)) (e9 : N a11 = a12) (e10 : a12 = a7) (e11 : a4 = a8) (e12 : own_F_holds a5 a6 a9 a10 = a13) (e13 : a13 = (0 : Int32)) (e14 : N a12 = a14) (e15 : ¬ (a14 = a7)) (f0 : ¬ a14 = a11) : ¬ (a14 = a3) := by grind [own_F_look1, own_F_look2, own_G_put2, own_F_holds]
theorem ax_35 {F N : Int32 → Int32} {H : Int32 → Int32 → Int32} (nn : ∀ x, ¬ N x = x) {a0 a1 a2 a3 a4 a5 a6 a7 a8 a9 a10 a11 a12 a13 a14 : Int32} (e0 : H a1 a2 = a0) (e1 : F a0 = a3) (e2 : H a5 a6 = a4) (e3 : own_G_put2 F N a3 a4 = a7) (e4 : H a9 a10 = a8) (e5 : F a8 = a11) (e6 : ¬ (a11 = a7)) (e7 : a11 = a3) (e8 : ¬ (a0 = a8)) (e9 : N a11 = a12) (e10 : a12 = a7) (e11 : a4 = a8) (e12 : own_F_holds a5 a6 a9 a10 = a13) (e13 : a13 = (0 : Int32)) (e14 : N a12 = a14) (e15 : ¬ (a14 = a7)) (e16 : ¬ (a14 = a3)) (f0 : ¬ a14 = a11) : own_F_look2 a1 a2 a5 a6 a9 a10 = (-1 : Int32) := by grind [own_F_look1, own_F_look2, own_G_put2, own_F_holds]
theorem ax_36 {F N : Int32 → Int32} {H : Int32 → Int32 → Int32} (nn : ∀ x, ¬ N x = x) {a0 a1 a2 a3 a4 a5 a6 a7 a8 a9 a10 a11 a12 a13 : Int32} (e0 : H a1 a2 = a0) (e1 : F a0 = a3) (e2 : H a5 a6 = a4) (e3 : own_G_put2 F N a3 a4 = a7) (e4 : H a9 a10 = a8) (e5 : F a8 = a11) (e6 : ¬ (a11 = a7)) (e7 : a11 = a3) (e8 : ¬ (a0 = a8)) (e9 : N a11 = a12) (e10 : a12 = a7) (e11 : a4 = a8) (e12 : own_F_holds a5 a6 a9 a10 = a13) (e13 : ¬ (a13 = (0 : Int32))) : own_F_look2 a1 a2 a5 a6 a9 a10 = (1 : Int32) := by grind [own_F_look1, own_F_look2, own_G_put2, own_F_holds]
theorem ax_37 {F N : Int32 → Int32} {H : Int32 → Int32 → Int32} (nn : ∀ x, ¬ N x = x) {a0 a1 a2 a3 a4 a5 a6 a7 a8 a9 a10 a11 a12 a13 : Int32} (e0 : H a1 a2 = a0) (e1 : F a0 = a3) (e2 : H a5 a6 = a4) (e3 : own_G_put2 F N a3 a4 = a7) (e4 : H a9 a10 = a8) (e5 : F a8 = a11) (e6 : ¬ (a11 = a7)) (e7 : a11 = a3) (e8 : ¬ (a0 = a8)) (e9 : N a11 = a12) (e10 : a12 = a7) (e11 : ¬ (a4 = a8)) (e12 : N a12 = a13) (f0 : ¬ a13 = a11) : ¬ (a13 = a7) := by grind [own_F_look1, own_F_look2, own_G_put2, own_F_holds]
theorem ax_38 {F N : Int32 → Int32} {H : Int32 → Int32 → Int32} (nn : ∀ x, ¬ N x = x) {a0 a1 a2 a3 a4 a5 a6 a7 a8 a9 a10 a11 a12 a13 : Int32} (e0 : H a1 a2 = a0) (e1 : F a0 = a3) (e2 : H a5 a6 = a4) (e3 : own_G_put2 F N a3 a4 = a7) (e4 : H a9 a10 = a8) (e5 : F a8 = a11) (e6 : ¬ (a11 = a7)) (e7 : a11 = a3) (e8 : ¬ (a0 = a8)) (e9 : N a11 = a12) (e10 : a12 = a7) (e11 : ¬ (a4 = a8)) (e12 : N a12 = a13) (e13 : ¬ (a13 = a7)) (f0 : ¬ a13 = a11) : ¬ (a13 = a3) := by grind [own_F_look1, own_F_look2, own_G_put2, own_F_holds]
theorem ax_39 {F N : Int32 → Int32} {H : Int32 → Int32 → Int32} (nn : ∀ x, ¬ N x = x) {a0 a1 a2 a3 a4 a5 a6 a7 a8 a9 a10 a11 a12 a13 : Int32} (e0 : H a1 a2 = a0) (e1 : F a0 = a3) (e2 : H a5 a6 = a4) (e3 : own_G_put2 F N a3 a4 = a7) (e4 : H a9 a10 = a8) (e5 : F a8 = a11) (e6 : ¬ (a11 = a7)) (e7 : a11 = a3) (e8 : ¬ (a0 = a8)) (e9 : N a11 = a12) (e10 : a12 = a7) (e11 : ¬ (a4 = a8)) (e12 : N a12 = a13) (e13 : ¬ (a13 = a7)) (e14 : ¬ (a13 = a3)) (f0 : ¬ a13 = a11) : own_F_look2 a1 a2 a5 a6 a9 a10 = (-1 : Int32) := by grind [own_F_look1, own_F_look2, own_G_put2, own_F_holds]
theorem ax_40 {F N : Int32 → Int32} {H : Int32 → Int32 → Int32} (nn : ∀ x, ¬ N x = x) {a0 a1 a2 a3 a4 a5 a6 a7 a8 a9 a10 a11 a12 : Int32} (e0 : H a1 a2 = a0) (e1 : F a0 = a3) (e2 : H a5 a6 = a4) (e3 : own_G_put2 F N a3 a4 = a7) (e4 : H a9 a10 = a8) (e5 : F a8 = a11) (e6 : ¬ (a11 = a7)) (e7 : a11 = a3) (e8 : ¬ (a0 = a8)) (e9 : N a11 = a12) (e10 : ¬ (a12 = a7)) : ¬ (a12 = a3) := by grind [own_F_look1, own_F_look2, own_G_put2, own_F_holds]
theorem ax_41 {F N : Int32 → Int32} {H : Int32 → Int32 → Int32} (nn : ∀ x, ¬ N x = x) {a0 a1 a2 a3 a4 a5 a6 a7 a8 a9 a10 a11 a12 : Int32} (e0 : H a1 a2 = a0) (e1 : F a0 = a3) (e2 : H a5 a6 = a4) (e3 : own_G_put2 F N a3 a4 = a7) (e4 : H a9 a10 = a8) (e5 : F a8 = a11) (e6 : ¬ (a11 = a7)) (e7 : a11 = a3) (e8 : ¬ (a0 = a8)) (e9 : N a11 = a12) (e10 : ¬ (a12 = a7)) (e11 : ¬ (a12 = a3)) : own_F_look2 a1 a2 a5 a6 a9 a10 = (-1 : Int32) := by grind [own_F_look1, own_F_look2, own_G_put2, own_F_holds]
theorem ax_42 {F N : Int32 → Int32} {H : Int32 → Int32 → Int32} (nn : ∀ x, ¬ N x = x) {a0 a1 a2 a3 a4 a5 a6 a7 a8 a9 a10 a11 : Int32} (e0 : H a1 a2 = a0) (e1 : F a0 = a3) (e2 : H a5 a6 = a4) (e3 : own_G_put2 F N a3 a4 = a7) (e4 : H a9 a10 = a8) (e5 : F a8 = a11) (e6 : ¬ (a11 = a7)) (e7 : ¬ (a11 = a3)) : own_F_look2 a1 a2 a5 a6 a9 a10 = (-1 : Int32) := by grind [own_F_look1, own_F_look2, own_G_put2, own_F_holds]
def Q_42 (Z : State) (w0 w1 : Addr) (kw1 : ClassId) (p3 p4 : Int32) (w5 : Addr) (kw5 : ClassId) (p7 p8 : Int32) (w9 w10 w11 : Addr) (kw11 : ClassId) (p13 p14 p15 p16 : Int32) (w17 : Addr) (kw17 : ClassId) (p19 : Int32) (w20 : Addr) (kw20 : ClassId) (p22 p23 : Int32) (h0 : Heap) (n0 : Nat) (v : Option Value) (h : Heap) : Prop :=
  (∃ (yF : Int32), own_F_look2 p13 p14 p15 p16 p22 p23 = yF ∧ v = some (.int yF) ∧ h0 = h)
theorem rm_42 (l : Launch) (Z : State) (a0 : Array Value) (hw : ∀ d ∈ tables_1, d.before a0 Z = true) (ws : List Jvm.Cond) (w0 w1 : Addr) (kw1 : ClassId) (p3 p4 : Int32) (w5 : Addr) (kw5 : ClassId) (p7 p8 : Int32) (w9 w10 w11 : Addr) (kw11 : ClassId) (p13 p14 p15 p16 : Int32) (w17 : Addr) (kw17 : ClassId) (p19 : Int32) (w20 : Addr) (kw20 : ClassId) (p22 p23 : Int32) (h0 : Heap) (n0 : Nat) (Z0 : n0 ≤ h0.size) (E_w0 : Exa Z h0 w0 oC1) (F_w0_slots : Fld Z h0 w0 oC1 "slots" "[I" (.ref w1)) (F_w0_hashes : Fld Z h0 w0 oC1 "hashes" "[I" (.ref w5)) (F_w0_keys : Fld Z h0 w0 oC1 "keys" "Lcom/example/ordal/ordal/NumberTable$Keys;" (.ref w9)) (F_w0_crowded : Fld Z h0 w0 oC1 "crowded" "Ljava/util/TreeMap;" .null) (g_w0 : n0 ≤ w0) (V_w1 : Arh Z h0 w1 kw1 .int (16 : Int32) [(p3, (.int 2)), (p4, (.int 1))] [] (.int 0)) (g_w1 : n0 ≤ w1) (V_w5 : Arv Z h0 w5 kw5 .int (8 : Int32) [(.int p7), (.int p8)] (.int 0)) (g_w5 : n0 ≤ w5) (E_w9 : Exa Z h0 w9 oC3) (F_w9_table : Fld Z h0 w9 oC3 "table" "Lcom/example/ordal/ordal/NumberTable;" (.ref w0)) (F_w9_relation : Fld Z h0 w9 oC3 "relation" "Lcom/example/ordal/ordal/Relation;" (.ref w10)) (F_w9_columns : Fld Z h0 w9 oC3 "columns" "[I" (.ref w17)) (g_w9 : n0 ≤ w9) (E_w10 : Exa Z h0 w10 oC2) (F_w10_arity : Fld Z h0 w10 oC2 "arity" "I" (.int 2)) (F_w10_rows : Fld Z h0 w10 oC2 "rows" "[I" (.ref w11)) (g_w10 : n0 ≤ w10) (V_w11 : Arv Z h0 w11 kw11 .int (16 : Int32) [(.int p13), (.int p14), (.int p15), (.int p16)] (.int 0)) (g_w11 : n0 ≤ w11) (V_w17 : Arv Z h0 w17 kw17 .int (2 : Int32) [(.int 0), (.int 1)] (.int 0)) (g_w17 : n0 ≤ w17) (E_w20 : Exa Z h0 w20 "[I") (V_w20 : Arv Z h0 w20 kw20 .int (2 : Int32) [(.int p22), (.int p23)] (.int 0)) (g_w20 : n0 ≤ w20) (ne_w0_w1 : w0 ≠ w1) (ne_w0_w5 : w0 ≠ w5) (ne_w0_w9 : w0 ≠ w9) (ne_w0_w10 : w0 ≠ w10) (ne_w0_w11 : w0 ≠ w11) (ne_w0_w17 : w0 ≠ w17) (ne_w0_w20 : w0 ≠ w20) (ne_w1_w5 : w1 ≠ w5) (ne_w1_w9 : w1 ≠ w9) (ne_w1_w10 : w1 ≠ w10) (ne_w1_w11 : w1 ≠ w11) (ne_w1_w17 : w1 ≠ w17) (ne_w1_w20 : w1 ≠ w20) (ne_w5_w9 : w5 ≠ w9) (ne_w5_w10 : w5 ≠ w10) (ne_w5_w11 : w5 ≠ w11) (ne_w5_w17 : w5 ≠ w17) (ne_w5_w20 : w5 ≠ w20) (ne_w9_w10 : w9 ≠ w10) (ne_w9_w11 : w9 ≠ w11) (ne_w9_w17 : w9 ≠ w17) (ne_w9_w20 : w9 ≠ w20) (ne_w10_w11 : w10 ≠ w11) (ne_w10_w17 : w10 ≠ w17) (ne_w10_w20 : w10 ≠ w20) (ne_w11_w17 : w11 ≠ w17) (ne_w11_w20 : w11 ≠ w20) (ne_w17_w20 : w17 ≠ w20) (hp0 : own_F_hash p13 p14 = p7) (hp1 : own_F_slot p7 = p4) (hp2 : own_F_hash p15 p16 = p8) (hp3 : own_F_put2 p4 p8 = p3) (hp4 : own_F_hash p22 p23 = p19) :
    own_M l Z (⟨"com/example/ordal/ordal/NumberTable", "find", "(ILjava/lang/Object;)I"⟩ : MethodName) prog_9_method_2_code 7 (some .int) ws ({ frames := 3, cells := 0, slots := 0, locals := 43 } : Room) #[(.ref w0), (.int p19), (.ref w20)] h0 n0 (Q_42 Z w0 w1 kw1 p3 p4 w5 kw5 p7 p8 w9 w10 w11 kw11 p13 p14 p15 p16 w17 kw17 p19 w20 kw20 p22 p23 h0 n0) := by
  refine own_enter' (Q := Q_42 Z w0 w1 kw1 p3 p4 w5 kw5 p7 p8 w9 w10 w11 kw11 p13 p14 p15 p16 w17 kw17 p19 w20 kw20 p22 p23 h0 n0) (F := fun m => mkF m 0 #[.val (.ref w0), .val (.int p19), .val (.ref w20), .unset, .unset, .unset, .unset] []) (plainFor_of_name pn_3) ?_
  intro p e s m below meth c s₁ B X0
  have K : Keep h0 h0 [] := Keep.refl h0 _
  have lt_w0 := E_w0.lt
  have lt_w1 := V_w1.lt
  have lt_w5 := V_w5.lt
  have lt_w9 := E_w9.lt
  have lt_w10 := E_w10.lt
  have lt_w11 := V_w11.lt
  have lt_w17 := V_w17.lt
  have lt_w20 := E_w20.lt
  refine own_aloadN (pc' := 1) B X0 d16_0 rfl rfl rfl ?_
  refine own_iloadN (pc' := 2) B X0 d16_1 rfl rfl ?_
  refine own_callP (pc' := 5) B X0 (own_w hw 111 rfl) (own_w hw 112 rfl) (own_w hw 113 rfl) (own_w hw 45 rfl) (own_w hw 46 rfl) (own_w hw 114 rfl) E_w0 (by decide) [(.int p19)] [] (rm_43 l Z a0 hw [] w0 w1 kw1 (p3) (p4) (p19) h0 n0 (Nat.le_trans Z0 K.1) E_w0 F_w0_slots g_w0 V_w1 g_w1 ne_w0_w1) 0 (by decide) (by decide) rfl pd_7 rfl rfl (Nat.le_of_eq rfl) d16_2 rfl (k' := 0) (n' := 0) rfl rfl (by decide) (by decide) ?_
  intro T1 v1 h1 X1 q1
  obtain ⟨y2, hy3, rfl, rfl⟩ := q1
  show own_Go p e below (T1.setTop (mkF m 5 #[.val (.ref w0), .val (.int p19), .val (.ref w20), .unset, .unset, .unset, .unset] [(.int y2)])) _
  refine own_istoreN (pc' := 6) B X1 (Ls' := #[.val (.ref w0), .val (.int p19), .val (.ref w20), .val (.int y2), .unset, .unset, .unset]) d16_5 rfl rfl ?_
  refine own_iconst (pc' := 7) B X1 (z := (0 : Int32)) d16_6 rfl rfl ?_
  refine own_istore (pc' := 9) B X1 (Ls' := #[.val (.ref w0), .val (.int p19), .val (.ref w20), .val (.int y2), .val (.int 0), .unset, .unset]) d16_7 rfl rfl ?_
  refine own_iconst (pc' := 10) B X1 (z := (0 : Int32)) d16_9 rfl rfl ?_
  refine own_istore (pc' := 12) B X1 (Ls' := #[.val (.ref w0), .val (.int p19), .val (.ref w20), .val (.int y2), .val (.int 0), .val (.int 0), .unset]) d16_10 rfl rfl ?_
  refine own_iload (pc' := 14) B X1 d16_12 rfl rfl ?_
  refine own_bipush (pc' := 16) B X1 (z := (32 : Int32)) d16_14 rfl (by decide) ?_
  refine own_icmpNo (pc' := 19) B X1 d16_16 (tlt (by decide : (0 : Int32) < (32 : Int32))).2.1 rfl ?_
  refine own_iload (pc' := 21) B X1 d16_19 rfl rfl ?_
  refine own_iconst (pc' := 22) B X1 (z := (4 : Int32)) d16_21 rfl rfl ?_
  refine own_icmpNo (pc' := 25) B X1 d16_22 (tlt (by decide : (0 : Int32) < (4 : Int32))).2.1 rfl ?_
  refine own_aloadN (pc' := 26) B X1 d16_25 rfl rfl rfl ?_
  refine own_getfield (pc' := 29) B X1 (host := "") (Or.inl (own_w hw 51 rfl)) Via.refl F_w0_slots d16_26 rfl ?_
  intro T4 X4
  refine own_iloadN (pc' := 30) B X4 d16_29 rfl rfl ?_
  by_cases c7 : y2 = p3
  refine own_ialoadH (pc' := 31) B X4 V_w1 (v := (.int 2)) ⟨(own_slot_ge hy3), (own_slot_lt hy3)⟩ (getH_hit (own_slot_ge hy3) c7) d16_30 rfl ?_
  refine own_iconst (pc' := 32) B X4 (z := (1 : Int32)) d16_31 rfl rfl ?_
  refine own_isub (pc' := 33) B X4 (z := (1 : Int32)) d16_32 rfl (by decide) ?_
  refine own_istore (pc' := 35) B X4 (Ls' := #[.val (.ref w0), .val (.int p19), .val (.ref w20), .val (.int y2), .val (.int 0), .val (.int 0), .val (.int 1)]) d16_33 rfl rfl ?_
  refine own_iload (pc' := 37) B X4 d16_35 rfl rfl ?_
  refine own_ifYes (pc' := 42) B X4 d16_37 ((if0 _ _).trans (flt (by decide : ¬ ((1 : Int32) < (0 : Int32)))).2.1) (by decide) rfl ?_
  refine own_aloadN (pc' := 43) B X4 d16_42 rfl rfl rfl ?_
  refine own_getfield (pc' := 46) B X4 (host := "") (Or.inl (own_w hw 53 rfl)) Via.refl F_w0_hashes d16_43 rfl ?_
  intro T8 X8
  refine own_iload (pc' := 48) B X8 d16_46 rfl rfl ?_
  refine own_iaload (pc' := 49) B X8 V_w5 (v := (.int p8)) ⟨by decide, by decide⟩ rfl d16_48 rfl ?_
  refine own_iloadN (pc' := 50) B X8 d16_49 rfl rfl ?_
  by_cases c9 : p8 = p19
  refine own_icmpNo (pc' := 53) B X8 d16_50 (teq c9).2 rfl ?_
  refine own_aloadN (pc' := 54) B X8 d16_53 rfl rfl rfl ?_
  refine own_getfield (pc' := 57) B X8 (host := "") (Or.inl (own_w hw 55 rfl)) Via.refl F_w0_keys d16_54 rfl ?_
  intro T10 X10
  refine own_iload (pc' := 59) B X10 d16_57 rfl rfl ?_
  refine own_aloadN (pc' := 60) B X10 d16_59 rfl rfl rfl ?_
  refine own_callF (pc' := 65) B X10 (xi := (⟨"com/example/ordal/ordal/NumberTable$Keys", "holds", "(ILjava/lang/Object;)Z"⟩ : MethodName)) (own_w hw 162 rfl) (own_w hw 163 rfl) (own_w hw 164 rfl) (own_w hw 165 rfl) (own_w hw 166 rfl) (own_w hw 167 rfl) (own_w hw 168 rfl) (own_w hw 169 rfl) (own_w hw 36 rfl) (own_w hw 170 rfl) E_w9 (by decide) [(.int 1), (.ref w20)] [] (rm_44 l Z a0 hw [] w9 w10 w11 kw11 (p13) (p14) (p15) (p16) w17 kw17 w20 kw20 (p22) (p23) h0 n0 (Nat.le_trans Z0 K.1) E_w9 F_w9_relation F_w9_columns g_w9 E_w10 F_w10_arity F_w10_rows g_w10 V_w11 g_w11 V_w17 g_w17 E_w20 V_w20 g_w20 ne_w9_w10 ne_w9_w11 ne_w9_w17 ne_w9_w20 ne_w10_w11 ne_w10_w17 ne_w10_w20 ne_w11_w17 ne_w11_w20 ne_w17_w20) 0 (by decide) (by decide) rfl pd_16 rfl rfl (Nat.le_of_eq rfl) d16_60 rfl (k' := 0) (n' := 0) rfl rfl (by decide) (by decide) ?_
  intro T11 v11 h11 X11 q11
  obtain ⟨y12, hy13, rfl, rfl⟩ := q11
  show own_Go p e below (T11.setTop (mkF m 65 #[.val (.ref w0), .val (.int p19), .val (.ref w20), .val (.int y2), .val (.int 0), .val (.int 0), .val (.int 1)] [(.int y12)])) _
  by_cases c14 : y12 = (0 : Int32)
  refine own_ifYes (pc' := 71) B X11 d16_65 ((if0 _ _).trans (teq c14).1) (by decide) rfl ?_
  refine own_iinc (pc' := 74) B X11 (Ls' := #[.val (.ref w0), .val (.int p19), .val (.ref w20), .val (.int y2), .val (.int 1), .val (.int 0), .val (.int 1)]) d16_71 rfl rfl (z := (1 : Int32)) (by decide) rfl ?_
  refine own_aloadN (pc' := 75) B X11 d16_74 rfl rfl rfl ?_
  refine own_iloadN (pc' := 76) B X11 d16_75 rfl rfl ?_
  refine own_callP (pc' := 79) B X11 (own_w hw 183 rfl) (own_w hw 184 rfl) (own_w hw 185 rfl) (own_w hw 45 rfl) (own_w hw 46 rfl) (own_w hw 186 rfl) E_w0 (by decide) [(.int y2)] [] (rm_48 l Z a0 hw [] w0 w1 kw1 (p3) (p4) (y2) h0 n0 (Nat.le_trans Z0 K.1) E_w0 F_w0_slots g_w0 V_w1 g_w1 ne_w0_w1) 0 (by decide) (by decide) rfl pd_7 rfl rfl (Nat.le_of_eq rfl) d16_76 rfl (k' := 0) (n' := 0) rfl rfl (by decide) (by decide) ?_
  intro T15 v15 h15 X15 q15
  obtain ⟨y16, hy17, rfl, rfl⟩ := q15
  show own_Go p e below (T15.setTop (mkF m 79 #[.val (.ref w0), .val (.int p19), .val (.ref w20), .val (.int y2), .val (.int 1), .val (.int 0), .val (.int 1)] [(.int y16)])) _
  refine own_istoreN (pc' := 80) B X15 (Ls' := #[.val (.ref w0), .val (.int p19), .val (.ref w20), .val (.int y16), .val (.int 1), .val (.int 0), .val (.int 1)]) d16_79 rfl rfl ?_
  refine own_iinc (pc' := 83) B X15 (Ls' := #[.val (.ref w0), .val (.int p19), .val (.ref w20), .val (.int y16), .val (.int 1), .val (.int 1), .val (.int 1)]) d16_80 rfl rfl (z := (1 : Int32)) (by decide) rfl ?_
  refine own_goto (pc' := 12) B X15 d16_83 (by decide) rfl ?_
  refine own_iload (pc' := 14) B X15 d16_12 rfl rfl ?_
  refine own_bipush (pc' := 16) B X15 (z := (32 : Int32)) d16_14 rfl (by decide) ?_
  refine own_icmpNo (pc' := 19) B X15 d16_16 (tlt (by decide : (1 : Int32) < (32 : Int32))).2.1 rfl ?_
  refine own_iload (pc' := 21) B X15 d16_19 rfl rfl ?_
  refine own_iconst (pc' := 22) B X15 (z := (4 : Int32)) d16_21 rfl rfl ?_
  refine own_icmpNo (pc' := 25) B X15 d16_22 (tlt (by decide : (1 : Int32) < (4 : Int32))).2.1 rfl ?_
  refine own_aloadN (pc' := 26) B X15 d16_25 rfl rfl rfl ?_
  refine own_getfield (pc' := 29) B X15 (host := "") (Or.inl (own_w hw 51 rfl)) Via.refl F_w0_slots d16_26 rfl ?_
  intro T18 X18
  refine own_iloadN (pc' := 30) B X18 d16_29 rfl rfl ?_
  have c21 : ¬ (y16 = p3) := by
    exact (ax_10 (F := own_F_slot) (H := own_F_hash) own_next_ne hp0 hp1 hp2 hp3 hp4 hy3 c7 c9 hy13 c14 hy17)
  by_cases c22 : y16 = p4
  refine own_ialoadH (pc' := 31) B X18 V_w1 (v := (.int 1)) ⟨(own_next_ge hy17), (own_next_lt hy17)⟩ (getH_miss (own_next_ge hy17) c21 (getH_hit (own_next_ge hy17) c22)) d16_30 rfl ?_
  refine own_iconst (pc' := 32) B X18 (z := (1 : Int32)) d16_31 rfl rfl ?_
  refine own_isub (pc' := 33) B X18 (z := (0 : Int32)) d16_32 rfl (by decide) ?_
  refine own_istore (pc' := 35) B X18 (Ls' := #[.val (.ref w0), .val (.int p19), .val (.ref w20), .val (.int y16), .val (.int 1), .val (.int 1), .val (.int 0)]) d16_33 rfl rfl ?_
  refine own_iload (pc' := 37) B X18 d16_35 rfl rfl ?_
  refine own_ifYes (pc' := 42) B X18 d16_37 ((if0 _ _).trans (flt (by decide : ¬ ((0 : Int32) < (0 : Int32)))).2.1) (by decide) rfl ?_
  refine own_aloadN (pc' := 43) B X18 d16_42 rfl rfl rfl ?_
  refine own_getfield (pc' := 46) B X18 (host := "") (Or.inl (own_w hw 53 rfl)) Via.refl F_w0_hashes d16_43 rfl ?_
  intro T23 X23
  refine own_iload (pc' := 48) B X23 d16_46 rfl rfl ?_
  refine own_iaload (pc' := 49) B X23 V_w5 (v := (.int p7)) ⟨by decide, by decide⟩ rfl d16_48 rfl ?_
  refine own_iloadN (pc' := 50) B X23 d16_49 rfl rfl ?_
  have c24 : ¬ (p7 = p19) := by
    exact (ax_11 (F := own_F_slot) (H := own_F_hash) own_next_ne hp0 hp1 hp2 hp3 hp4 hy3 c7 c9 hy13 c14 hy17 c21 c22)
  refine own_icmpYes (pc' := 74) B X23 d16_50 (feq c24).2 (by decide) rfl ?_
  refine own_aloadN (pc' := 75) B X23 d16_74 rfl rfl rfl ?_
  refine own_iloadN (pc' := 76) B X23 d16_75 rfl rfl ?_
  refine own_callP (pc' := 79) B X23 (own_w hw 183 rfl) (own_w hw 184 rfl) (own_w hw 185 rfl) (own_w hw 45 rfl) (own_w hw 46 rfl) (own_w hw 186 rfl) E_w0 (by decide) [(.int y16)] [] (rm_48 l Z a0 hw [] w0 w1 kw1 (p3) (p4) (y16) h0 n0 (Nat.le_trans Z0 K.1) E_w0 F_w0_slots g_w0 V_w1 g_w1 ne_w0_w1) 0 (by decide) (by decide) rfl pd_7 rfl rfl (Nat.le_of_eq rfl) d16_76 rfl (k' := 0) (n' := 0) rfl rfl (by decide) (by decide) ?_
  intro T25 v25 h25 X25 q25
  obtain ⟨y26, hy27, rfl, rfl⟩ := q25
  show own_Go p e below (T25.setTop (mkF m 79 #[.val (.ref w0), .val (.int p19), .val (.ref w20), .val (.int y16), .val (.int 1), .val (.int 1), .val (.int 0)] [(.int y26)])) _
  refine own_istoreN (pc' := 80) B X25 (Ls' := #[.val (.ref w0), .val (.int p19), .val (.ref w20), .val (.int y26), .val (.int 1), .val (.int 1), .val (.int 0)]) d16_79 rfl rfl ?_
  refine own_iinc (pc' := 83) B X25 (Ls' := #[.val (.ref w0), .val (.int p19), .val (.ref w20), .val (.int y26), .val (.int 1), .val (.int 2), .val (.int 0)]) d16_80 rfl rfl (z := (2 : Int32)) (by decide) rfl ?_
  refine own_goto (pc' := 12) B X25 d16_83 (by decide) rfl ?_
  refine own_iload (pc' := 14) B X25 d16_12 rfl rfl ?_
  refine own_bipush (pc' := 16) B X25 (z := (32 : Int32)) d16_14 rfl (by decide) ?_
  refine own_icmpNo (pc' := 19) B X25 d16_16 (tlt (by decide : (2 : Int32) < (32 : Int32))).2.1 rfl ?_
  refine own_iload (pc' := 21) B X25 d16_19 rfl rfl ?_
  refine own_iconst (pc' := 22) B X25 (z := (4 : Int32)) d16_21 rfl rfl ?_
  refine own_icmpNo (pc' := 25) B X25 d16_22 (tlt (by decide : (1 : Int32) < (4 : Int32))).2.1 rfl ?_
  refine own_aloadN (pc' := 26) B X25 d16_25 rfl rfl rfl ?_
  refine own_getfield (pc' := 29) B X25 (host := "") (Or.inl (own_w hw 51 rfl)) Via.refl F_w0_slots d16_26 rfl ?_
  intro T28 X28
  refine own_iloadN (pc' := 30) B X28 d16_29 rfl rfl ?_
  have c31 : ¬ (y26 = p3) := by
    exact (ax_12 (F := own_F_slot) (H := own_F_hash) own_next_ne hp0 hp1 hp2 hp3 hp4 hy3 c7 c9 hy13 c14 hy17 c21 c22 c24 hy27 (own_nn2 hy17 hy27))
  have c32 : ¬ (y26 = p4) := by
    exact (ax_13 (F := own_F_slot) (H := own_F_hash) own_next_ne hp0 hp1 hp2 hp3 hp4 hy3 c7 c9 hy13 c14 hy17 c21 c22 c24 hy27 c31 (own_nn2 hy17 hy27))
  refine own_ialoadH (pc' := 31) B X28 V_w1 (v := (.int 0)) ⟨(own_next_ge hy27), (own_next_lt hy27)⟩ (getH_miss (own_next_ge hy27) c31 (getH_miss (own_next_ge hy27) c32 (getH_all rfl _))) d16_30 rfl ?_
  refine own_iconst (pc' := 32) B X28 (z := (1 : Int32)) d16_31 rfl rfl ?_
  refine own_isub (pc' := 33) B X28 (z := (-1 : Int32)) d16_32 rfl (by decide) ?_
  refine own_istore (pc' := 35) B X28 (Ls' := #[.val (.ref w0), .val (.int p19), .val (.ref w20), .val (.int y26), .val (.int 1), .val (.int 2), .val (.int (-1))]) d16_33 rfl rfl ?_
  refine own_iload (pc' := 37) B X28 d16_35 rfl rfl ?_
  refine own_ifNo (pc' := 40) B X28 d16_37 ((if0 _ _).trans (tlt (by decide : (-1 : Int32) < (0 : Int32))).2.1) rfl ?_
  refine own_iconst (pc' := 41) B X28 (z := (-1 : Int32)) d16_40 rfl rfl ?_
  have g33 := (ax_14 (F := own_F_slot) (H := own_F_hash) own_next_ne hp0 hp1 hp2 hp3 hp4 hy3 c7 c9 hy13 c14 hy17 c21 c22 c24 hy27 c31 c32 (own_nn2 hy17 hy27))
  exact own_retI B X28 d16_41 (by decide) (by decide) (⟨(-1 : Int32), g33, rfl, rfl⟩)
  refine own_ialoadH (pc' := 31) B X18 V_w1 (v := (.int 0)) ⟨(own_next_ge hy17), (own_next_lt hy17)⟩ (getH_miss (own_next_ge hy17) c21 (getH_miss (own_next_ge hy17) c22 (getH_all rfl _))) d16_30 rfl ?_
  refine own_iconst (pc' := 32) B X18 (z := (1 : Int32)) d16_31 rfl rfl ?_
  refine own_isub (pc' := 33) B X18 (z := (-1 : Int32)) d16_32 rfl (by decide) ?_
  refine own_istore (pc' := 35) B X18 (Ls' := #[.val (.ref w0), .val (.int p19), .val (.ref w20), .val (.int y16), .val (.int 1), .val (.int 1), .val (.int (-1))]) d16_33 rfl rfl ?_
  refine own_iload (pc' := 37) B X18 d16_35 rfl rfl ?_
  refine own_ifNo (pc' := 40) B X18 d16_37 ((if0 _ _).trans (tlt (by decide : (-1 : Int32) < (0 : Int32))).2.1) rfl ?_
  refine own_iconst (pc' := 41) B X18 (z := (-1 : Int32)) d16_40 rfl rfl ?_
  have g34 := (ax_15 (F := own_F_slot) (H := own_F_hash) own_next_ne hp0 hp1 hp2 hp3 hp4 hy3 c7 c9 hy13 c14 hy17 c21 c22)
  exact own_retI B X18 d16_41 (by decide) (by decide) (⟨(-1 : Int32), g34, rfl, rfl⟩)
  refine own_ifNo (pc' := 68) B X11 d16_65 ((if0 _ _).trans (feq c14).1) rfl ?_
  refine own_iload (pc' := 70) B X11 d16_68 rfl rfl ?_
  have g35 := (ax_16 (F := own_F_slot) (H := own_F_hash) own_next_ne hp0 hp1 hp2 hp3 hp4 hy3 c7 c9 hy13 c14)
  exact own_retI B X11 d16_70 (by decide) (by decide) (⟨(1 : Int32), g35, rfl, rfl⟩)
  refine own_icmpYes (pc' := 74) B X8 d16_50 (feq c9).2 (by decide) rfl ?_
  refine own_aloadN (pc' := 75) B X8 d16_74 rfl rfl rfl ?_
  refine own_iloadN (pc' := 76) B X8 d16_75 rfl rfl ?_
  refine own_callP (pc' := 79) B X8 (own_w hw 183 rfl) (own_w hw 184 rfl) (own_w hw 185 rfl) (own_w hw 45 rfl) (own_w hw 46 rfl) (own_w hw 186 rfl) E_w0 (by decide) [(.int y2)] [] (rm_48 l Z a0 hw [] w0 w1 kw1 (p3) (p4) (y2) h0 n0 (Nat.le_trans Z0 K.1) E_w0 F_w0_slots g_w0 V_w1 g_w1 ne_w0_w1) 0 (by decide) (by decide) rfl pd_7 rfl rfl (Nat.le_of_eq rfl) d16_76 rfl (k' := 0) (n' := 0) rfl rfl (by decide) (by decide) ?_
  intro T36 v36 h36 X36 q36
  obtain ⟨y37, hy38, rfl, rfl⟩ := q36
  show own_Go p e below (T36.setTop (mkF m 79 #[.val (.ref w0), .val (.int p19), .val (.ref w20), .val (.int y2), .val (.int 0), .val (.int 0), .val (.int 1)] [(.int y37)])) _
  refine own_istoreN (pc' := 80) B X36 (Ls' := #[.val (.ref w0), .val (.int p19), .val (.ref w20), .val (.int y37), .val (.int 0), .val (.int 0), .val (.int 1)]) d16_79 rfl rfl ?_
  refine own_iinc (pc' := 83) B X36 (Ls' := #[.val (.ref w0), .val (.int p19), .val (.ref w20), .val (.int y37), .val (.int 0), .val (.int 1), .val (.int 1)]) d16_80 rfl rfl (z := (1 : Int32)) (by decide) rfl ?_
  refine own_goto (pc' := 12) B X36 d16_83 (by decide) rfl ?_
  refine own_iload (pc' := 14) B X36 d16_12 rfl rfl ?_
  refine own_bipush (pc' := 16) B X36 (z := (32 : Int32)) d16_14 rfl (by decide) ?_
  refine own_icmpNo (pc' := 19) B X36 d16_16 (tlt (by decide : (1 : Int32) < (32 : Int32))).2.1 rfl ?_
  refine own_iload (pc' := 21) B X36 d16_19 rfl rfl ?_
  refine own_iconst (pc' := 22) B X36 (z := (4 : Int32)) d16_21 rfl rfl ?_
  refine own_icmpNo (pc' := 25) B X36 d16_22 (tlt (by decide : (0 : Int32) < (4 : Int32))).2.1 rfl ?_
  refine own_aloadN (pc' := 26) B X36 d16_25 rfl rfl rfl ?_
  refine own_getfield (pc' := 29) B X36 (host := "") (Or.inl (own_w hw 51 rfl)) Via.refl F_w0_slots d16_26 rfl ?_
  intro T39 X39
  refine own_iloadN (pc' := 30) B X39 d16_29 rfl rfl ?_
  have c42 : ¬ (y37 = p3) := by
    exact (ax_17 (F := own_F_slot) (H := own_F_hash) own_next_ne hp0 hp1 hp2 hp3 hp4 hy3 c7 c9 hy38)
  by_cases c43 : y37 = p4
  refine own_ialoadH (pc' := 31) B X39 V_w1 (v := (.int 1)) ⟨(own_next_ge hy38), (own_next_lt hy38)⟩ (getH_miss (own_next_ge hy38) c42 (getH_hit (own_next_ge hy38) c43)) d16_30 rfl ?_
  refine own_iconst (pc' := 32) B X39 (z := (1 : Int32)) d16_31 rfl rfl ?_
  refine own_isub (pc' := 33) B X39 (z := (0 : Int32)) d16_32 rfl (by decide) ?_
  refine own_istore (pc' := 35) B X39 (Ls' := #[.val (.ref w0), .val (.int p19), .val (.ref w20), .val (.int y37), .val (.int 0), .val (.int 1), .val (.int 0)]) d16_33 rfl rfl ?_
  refine own_iload (pc' := 37) B X39 d16_35 rfl rfl ?_
  refine own_ifYes (pc' := 42) B X39 d16_37 ((if0 _ _).trans (flt (by decide : ¬ ((0 : Int32) < (0 : Int32)))).2.1) (by decide) rfl ?_
  refine own_aloadN (pc' := 43) B X39 d16_42 rfl rfl rfl ?_
  refine own_getfield (pc' := 46) B X39 (host := "") (Or.inl (own_w hw 53 rfl)) Via.refl F_w0_hashes d16_43 rfl ?_
  intro T44 X44
  refine own_iload (pc' := 48) B X44 d16_46 rfl rfl ?_
  refine own_iaload (pc' := 49) B X44 V_w5 (v := (.int p7)) ⟨by decide, by decide⟩ rfl d16_48 rfl ?_
  refine own_iloadN (pc' := 50) B X44 d16_49 rfl rfl ?_
  have c45 : ¬ (p7 = p19) := by
    exact (ax_18 (F := own_F_slot) (H := own_F_hash) own_next_ne hp0 hp1 hp2 hp3 hp4 hy3 c7 c9 hy38 c42 c43)
  refine own_icmpYes (pc' := 74) B X44 d16_50 (feq c45).2 (by decide) rfl ?_
  refine own_aloadN (pc' := 75) B X44 d16_74 rfl rfl rfl ?_
  refine own_iloadN (pc' := 76) B X44 d16_75 rfl rfl ?_
  refine own_callP (pc' := 79) B X44 (own_w hw 183 rfl) (own_w hw 184 rfl) (own_w hw 185 rfl) (own_w hw 45 rfl) (own_w hw 46 rfl) (own_w hw 186 rfl) E_w0 (by decide) [(.int y37)] [] (rm_48 l Z a0 hw [] w0 w1 kw1 (p3) (p4) (y37) h0 n0 (Nat.le_trans Z0 K.1) E_w0 F_w0_slots g_w0 V_w1 g_w1 ne_w0_w1) 0 (by decide) (by decide) rfl pd_7 rfl rfl (Nat.le_of_eq rfl) d16_76 rfl (k' := 0) (n' := 0) rfl rfl (by decide) (by decide) ?_
  intro T46 v46 h46 X46 q46
  obtain ⟨y47, hy48, rfl, rfl⟩ := q46
  show own_Go p e below (T46.setTop (mkF m 79 #[.val (.ref w0), .val (.int p19), .val (.ref w20), .val (.int y37), .val (.int 0), .val (.int 1), .val (.int 0)] [(.int y47)])) _
  refine own_istoreN (pc' := 80) B X46 (Ls' := #[.val (.ref w0), .val (.int p19), .val (.ref w20), .val (.int y47), .val (.int 0), .val (.int 1), .val (.int 0)]) d16_79 rfl rfl ?_
  refine own_iinc (pc' := 83) B X46 (Ls' := #[.val (.ref w0), .val (.int p19), .val (.ref w20), .val (.int y47), .val (.int 0), .val (.int 2), .val (.int 0)]) d16_80 rfl rfl (z := (2 : Int32)) (by decide) rfl ?_
  refine own_goto (pc' := 12) B X46 d16_83 (by decide) rfl ?_
  refine own_iload (pc' := 14) B X46 d16_12 rfl rfl ?_
  refine own_bipush (pc' := 16) B X46 (z := (32 : Int32)) d16_14 rfl (by decide) ?_
  refine own_icmpNo (pc' := 19) B X46 d16_16 (tlt (by decide : (2 : Int32) < (32 : Int32))).2.1 rfl ?_
  refine own_iload (pc' := 21) B X46 d16_19 rfl rfl ?_
  refine own_iconst (pc' := 22) B X46 (z := (4 : Int32)) d16_21 rfl rfl ?_
  refine own_icmpNo (pc' := 25) B X46 d16_22 (tlt (by decide : (0 : Int32) < (4 : Int32))).2.1 rfl ?_
  refine own_aloadN (pc' := 26) B X46 d16_25 rfl rfl rfl ?_
  refine own_getfield (pc' := 29) B X46 (host := "") (Or.inl (own_w hw 51 rfl)) Via.refl F_w0_slots d16_26 rfl ?_
  intro T49 X49
  refine own_iloadN (pc' := 30) B X49 d16_29 rfl rfl ?_
  have c52 : ¬ (y47 = p3) := by
    exact (ax_19 (F := own_F_slot) (H := own_F_hash) own_next_ne hp0 hp1 hp2 hp3 hp4 hy3 c7 c9 hy38 c42 c43 c45 hy48 (own_nn2 hy38 hy48))
  have c53 : ¬ (y47 = p4) := by
    exact (ax_20 (F := own_F_slot) (H := own_F_hash) own_next_ne hp0 hp1 hp2 hp3 hp4 hy3 c7 c9 hy38 c42 c43 c45 hy48 c52 (own_nn2 hy38 hy48))
  refine own_ialoadH (pc' := 31) B X49 V_w1 (v := (.int 0)) ⟨(own_next_ge hy48), (own_next_lt hy48)⟩ (getH_miss (own_next_ge hy48) c52 (getH_miss (own_next_ge hy48) c53 (getH_all rfl _))) d16_30 rfl ?_
  refine own_iconst (pc' := 32) B X49 (z := (1 : Int32)) d16_31 rfl rfl ?_
  refine own_isub (pc' := 33) B X49 (z := (-1 : Int32)) d16_32 rfl (by decide) ?_
  refine own_istore (pc' := 35) B X49 (Ls' := #[.val (.ref w0), .val (.int p19), .val (.ref w20), .val (.int y47), .val (.int 0), .val (.int 2), .val (.int (-1))]) d16_33 rfl rfl ?_
  refine own_iload (pc' := 37) B X49 d16_35 rfl rfl ?_
  refine own_ifNo (pc' := 40) B X49 d16_37 ((if0 _ _).trans (tlt (by decide : (-1 : Int32) < (0 : Int32))).2.1) rfl ?_
  refine own_iconst (pc' := 41) B X49 (z := (-1 : Int32)) d16_40 rfl rfl ?_
  have g54 := (ax_21 (F := own_F_slot) (H := own_F_hash) own_next_ne hp0 hp1 hp2 hp3 hp4 hy3 c7 c9 hy38 c42 c43 c45 hy48 c52 c53 (own_nn2 hy38 hy48))
  exact own_retI B X49 d16_41 (by decide) (by decide) (⟨(-1 : Int32), g54, rfl, rfl⟩)
  refine own_ialoadH (pc' := 31) B X39 V_w1 (v := (.int 0)) ⟨(own_next_ge hy38), (own_next_lt hy38)⟩ (getH_miss (own_next_ge hy38) c42 (getH_miss (own_next_ge hy38) c43 (getH_all rfl _))) d16_30 rfl ?_
  refine own_iconst (pc' := 32) B X39 (z := (1 : Int32)) d16_31 rfl rfl ?_
  refine own_isub (pc' := 33) B X39 (z := (-1 : Int32)) d16_32 rfl (by decide) ?_
  refine own_istore (pc' := 35) B X39 (Ls' := #[.val (.ref w0), .val (.int p19), .val (.ref w20), .val (.int y37), .val (.int 0), .val (.int 1), .val (.int (-1))]) d16_33 rfl rfl ?_
  refine own_iload (pc' := 37) B X39 d16_35 rfl rfl ?_
  refine own_ifNo (pc' := 40) B X39 d16_37 ((if0 _ _).trans (tlt (by decide : (-1 : Int32) < (0 : Int32))).2.1) rfl ?_
  refine own_iconst (pc' := 41) B X39 (z := (-1 : Int32)) d16_40 rfl rfl ?_
  have g55 := (ax_22 (F := own_F_slot) (H := own_F_hash) own_next_ne hp0 hp1 hp2 hp3 hp4 hy3 c7 c9 hy38 c42 c43)
  exact own_retI B X39 d16_41 (by decide) (by decide) (⟨(-1 : Int32), g55, rfl, rfl⟩)
  by_cases c56 : y2 = p4
  refine own_ialoadH (pc' := 31) B X4 V_w1 (v := (.int 1)) ⟨(own_slot_ge hy3), (own_slot_lt hy3)⟩ (getH_miss (own_slot_ge hy3) c7 (getH_hit (own_slot_ge hy3) c56)) d16_30 rfl ?_
  refine own_iconst (pc' := 32) B X4 (z := (1 : Int32)) d16_31 rfl rfl ?_
  refine own_isub (pc' := 33) B X4 (z := (0 : Int32)) d16_32 rfl (by decide) ?_
  refine own_istore (pc' := 35) B X4 (Ls' := #[.val (.ref w0), .val (.int p19), .val (.ref w20), .val (.int y2), .val (.int 0), .val (.int 0), .val (.int 0)]) d16_33 rfl rfl ?_
  refine own_iload (pc' := 37) B X4 d16_35 rfl rfl ?_
  refine own_ifYes (pc' := 42) B X4 d16_37 ((if0 _ _).trans (flt (by decide : ¬ ((0 : Int32) < (0 : Int32)))).2.1) (by decide) rfl ?_
  refine own_aloadN (pc' := 43) B X4 d16_42 rfl rfl rfl ?_
  refine own_getfield (pc' := 46) B X4 (host := "") (Or.inl (own_w hw 53 rfl)) Via.refl F_w0_hashes d16_43 rfl ?_
  intro T57 X57
  refine own_iload (pc' := 48) B X57 d16_46 rfl rfl ?_
  refine own_iaload (pc' := 49) B X57 V_w5 (v := (.int p7)) ⟨by decide, by decide⟩ rfl d16_48 rfl ?_
  refine own_iloadN (pc' := 50) B X57 d16_49 rfl rfl ?_
  by_cases c58 : p7 = p19
  refine own_icmpNo (pc' := 53) B X57 d16_50 (teq c58).2 rfl ?_
  refine own_aloadN (pc' := 54) B X57 d16_53 rfl rfl rfl ?_
  refine own_getfield (pc' := 57) B X57 (host := "") (Or.inl (own_w hw 55 rfl)) Via.refl F_w0_keys d16_54 rfl ?_
  intro T59 X59
  refine own_iload (pc' := 59) B X59 d16_57 rfl rfl ?_
  refine own_aloadN (pc' := 60) B X59 d16_59 rfl rfl rfl ?_
  refine own_callF (pc' := 65) B X59 (xi := (⟨"com/example/ordal/ordal/NumberTable$Keys", "holds", "(ILjava/lang/Object;)Z"⟩ : MethodName)) (own_w hw 162 rfl) (own_w hw 163 rfl) (own_w hw 164 rfl) (own_w hw 165 rfl) (own_w hw 166 rfl) (own_w hw 167 rfl) (own_w hw 168 rfl) (own_w hw 169 rfl) (own_w hw 36 rfl) (own_w hw 170 rfl) E_w9 (by decide) [(.int 0), (.ref w20)] [] (rm_49 l Z a0 hw [] w9 w10 w11 kw11 (p13) (p14) (p15) (p16) w17 kw17 w20 kw20 (p22) (p23) h0 n0 (Nat.le_trans Z0 K.1) E_w9 F_w9_relation F_w9_columns g_w9 E_w10 F_w10_arity F_w10_rows g_w10 V_w11 g_w11 V_w17 g_w17 E_w20 V_w20 g_w20 ne_w9_w10 ne_w9_w11 ne_w9_w17 ne_w9_w20 ne_w10_w11 ne_w10_w17 ne_w10_w20 ne_w11_w17 ne_w11_w20 ne_w17_w20) 0 (by decide) (by decide) rfl pd_16 rfl rfl (Nat.le_of_eq rfl) d16_60 rfl (k' := 0) (n' := 0) rfl rfl (by decide) (by decide) ?_
  intro T60 v60 h60 X60 q60
  obtain ⟨y61, hy62, rfl, rfl⟩ := q60
  show own_Go p e below (T60.setTop (mkF m 65 #[.val (.ref w0), .val (.int p19), .val (.ref w20), .val (.int y2), .val (.int 0), .val (.int 0), .val (.int 0)] [(.int y61)])) _
  by_cases c63 : y61 = (0 : Int32)
  refine own_ifYes (pc' := 71) B X60 d16_65 ((if0 _ _).trans (teq c63).1) (by decide) rfl ?_
  refine own_iinc (pc' := 74) B X60 (Ls' := #[.val (.ref w0), .val (.int p19), .val (.ref w20), .val (.int y2), .val (.int 1), .val (.int 0), .val (.int 0)]) d16_71 rfl rfl (z := (1 : Int32)) (by decide) rfl ?_
  refine own_aloadN (pc' := 75) B X60 d16_74 rfl rfl rfl ?_
  refine own_iloadN (pc' := 76) B X60 d16_75 rfl rfl ?_
  refine own_callP (pc' := 79) B X60 (own_w hw 183 rfl) (own_w hw 184 rfl) (own_w hw 185 rfl) (own_w hw 45 rfl) (own_w hw 46 rfl) (own_w hw 186 rfl) E_w0 (by decide) [(.int y2)] [] (rm_48 l Z a0 hw [] w0 w1 kw1 (p3) (p4) (y2) h0 n0 (Nat.le_trans Z0 K.1) E_w0 F_w0_slots g_w0 V_w1 g_w1 ne_w0_w1) 0 (by decide) (by decide) rfl pd_7 rfl rfl (Nat.le_of_eq rfl) d16_76 rfl (k' := 0) (n' := 0) rfl rfl (by decide) (by decide) ?_
  intro T64 v64 h64 X64 q64
  obtain ⟨y65, hy66, rfl, rfl⟩ := q64
  show own_Go p e below (T64.setTop (mkF m 79 #[.val (.ref w0), .val (.int p19), .val (.ref w20), .val (.int y2), .val (.int 1), .val (.int 0), .val (.int 0)] [(.int y65)])) _
  refine own_istoreN (pc' := 80) B X64 (Ls' := #[.val (.ref w0), .val (.int p19), .val (.ref w20), .val (.int y65), .val (.int 1), .val (.int 0), .val (.int 0)]) d16_79 rfl rfl ?_
  refine own_iinc (pc' := 83) B X64 (Ls' := #[.val (.ref w0), .val (.int p19), .val (.ref w20), .val (.int y65), .val (.int 1), .val (.int 1), .val (.int 0)]) d16_80 rfl rfl (z := (1 : Int32)) (by decide) rfl ?_
  refine own_goto (pc' := 12) B X64 d16_83 (by decide) rfl ?_
  refine own_iload (pc' := 14) B X64 d16_12 rfl rfl ?_
  refine own_bipush (pc' := 16) B X64 (z := (32 : Int32)) d16_14 rfl (by decide) ?_
  refine own_icmpNo (pc' := 19) B X64 d16_16 (tlt (by decide : (1 : Int32) < (32 : Int32))).2.1 rfl ?_
  refine own_iload (pc' := 21) B X64 d16_19 rfl rfl ?_
  refine own_iconst (pc' := 22) B X64 (z := (4 : Int32)) d16_21 rfl rfl ?_
  refine own_icmpNo (pc' := 25) B X64 d16_22 (tlt (by decide : (1 : Int32) < (4 : Int32))).2.1 rfl ?_
  refine own_aloadN (pc' := 26) B X64 d16_25 rfl rfl rfl ?_
  refine own_getfield (pc' := 29) B X64 (host := "") (Or.inl (own_w hw 51 rfl)) Via.refl F_w0_slots d16_26 rfl ?_
  intro T67 X67
  refine own_iloadN (pc' := 30) B X67 d16_29 rfl rfl ?_
  by_cases c70 : y65 = p3
  refine own_ialoadH (pc' := 31) B X67 V_w1 (v := (.int 2)) ⟨(own_next_ge hy66), (own_next_lt hy66)⟩ (getH_hit (own_next_ge hy66) c70) d16_30 rfl ?_
  refine own_iconst (pc' := 32) B X67 (z := (1 : Int32)) d16_31 rfl rfl ?_
  refine own_isub (pc' := 33) B X67 (z := (1 : Int32)) d16_32 rfl (by decide) ?_
  refine own_istore (pc' := 35) B X67 (Ls' := #[.val (.ref w0), .val (.int p19), .val (.ref w20), .val (.int y65), .val (.int 1), .val (.int 1), .val (.int 1)]) d16_33 rfl rfl ?_
  refine own_iload (pc' := 37) B X67 d16_35 rfl rfl ?_
  refine own_ifYes (pc' := 42) B X67 d16_37 ((if0 _ _).trans (flt (by decide : ¬ ((1 : Int32) < (0 : Int32)))).2.1) (by decide) rfl ?_
  refine own_aloadN (pc' := 43) B X67 d16_42 rfl rfl rfl ?_
  refine own_getfield (pc' := 46) B X67 (host := "") (Or.inl (own_w hw 53 rfl)) Via.refl F_w0_hashes d16_43 rfl ?_
  intro T71 X71
  refine own_iload (pc' := 48) B X71 d16_46 rfl rfl ?_
  refine own_iaload (pc' := 49) B X71 V_w5 (v := (.int p8)) ⟨by decide, by decide⟩ rfl d16_48 rfl ?_
  refine own_iloadN (pc' := 50) B X71 d16_49 rfl rfl ?_
  by_cases c72 : p8 = p19
  refine own_icmpNo (pc' := 53) B X71 d16_50 (teq c72).2 rfl ?_
  refine own_aloadN (pc' := 54) B X71 d16_53 rfl rfl rfl ?_
  refine own_getfield (pc' := 57) B X71 (host := "") (Or.inl (own_w hw 55 rfl)) Via.refl F_w0_keys d16_54 rfl ?_
  intro T73 X73
  refine own_iload (pc' := 59) B X73 d16_57 rfl rfl ?_
  refine own_aloadN (pc' := 60) B X73 d16_59 rfl rfl rfl ?_
  refine own_callF (pc' := 65) B X73 (xi := (⟨"com/example/ordal/ordal/NumberTable$Keys", "holds", "(ILjava/lang/Object;)Z"⟩ : MethodName)) (own_w hw 162 rfl) (own_w hw 163 rfl) (own_w hw 164 rfl) (own_w hw 165 rfl) (own_w hw 166 rfl) (own_w hw 167 rfl) (own_w hw 168 rfl) (own_w hw 169 rfl) (own_w hw 36 rfl) (own_w hw 170 rfl) E_w9 (by decide) [(.int 1), (.ref w20)] [] (rm_44 l Z a0 hw [] w9 w10 w11 kw11 (p13) (p14) (p15) (p16) w17 kw17 w20 kw20 (p22) (p23) h0 n0 (Nat.le_trans Z0 K.1) E_w9 F_w9_relation F_w9_columns g_w9 E_w10 F_w10_arity F_w10_rows g_w10 V_w11 g_w11 V_w17 g_w17 E_w20 V_w20 g_w20 ne_w9_w10 ne_w9_w11 ne_w9_w17 ne_w9_w20 ne_w10_w11 ne_w10_w17 ne_w10_w20 ne_w11_w17 ne_w11_w20 ne_w17_w20) 0 (by decide) (by decide) rfl pd_16 rfl rfl (Nat.le_of_eq rfl) d16_60 rfl (k' := 0) (n' := 0) rfl rfl (by decide) (by decide) ?_
  intro T74 v74 h74 X74 q74
  obtain ⟨y75, hy76, rfl, rfl⟩ := q74
  show own_Go p e below (T74.setTop (mkF m 65 #[.val (.ref w0), .val (.int p19), .val (.ref w20), .val (.int y65), .val (.int 1), .val (.int 1), .val (.int 1)] [(.int y75)])) _
  by_cases c77 : y75 = (0 : Int32)
  refine own_ifYes (pc' := 71) B X74 d16_65 ((if0 _ _).trans (teq c77).1) (by decide) rfl ?_
  refine own_iinc (pc' := 74) B X74 (Ls' := #[.val (.ref w0), .val (.int p19), .val (.ref w20), .val (.int y65), .val (.int 2), .val (.int 1), .val (.int 1)]) d16_71 rfl rfl (z := (2 : Int32)) (by decide) rfl ?_
  refine own_aloadN (pc' := 75) B X74 d16_74 rfl rfl rfl ?_
  refine own_iloadN (pc' := 76) B X74 d16_75 rfl rfl ?_
  refine own_callP (pc' := 79) B X74 (own_w hw 183 rfl) (own_w hw 184 rfl) (own_w hw 185 rfl) (own_w hw 45 rfl) (own_w hw 46 rfl) (own_w hw 186 rfl) E_w0 (by decide) [(.int y65)] [] (rm_48 l Z a0 hw [] w0 w1 kw1 (p3) (p4) (y65) h0 n0 (Nat.le_trans Z0 K.1) E_w0 F_w0_slots g_w0 V_w1 g_w1 ne_w0_w1) 0 (by decide) (by decide) rfl pd_7 rfl rfl (Nat.le_of_eq rfl) d16_76 rfl (k' := 0) (n' := 0) rfl rfl (by decide) (by decide) ?_
  intro T78 v78 h78 X78 q78
  obtain ⟨y79, hy80, rfl, rfl⟩ := q78
  show own_Go p e below (T78.setTop (mkF m 79 #[.val (.ref w0), .val (.int p19), .val (.ref w20), .val (.int y65), .val (.int 2), .val (.int 1), .val (.int 1)] [(.int y79)])) _
  refine own_istoreN (pc' := 80) B X78 (Ls' := #[.val (.ref w0), .val (.int p19), .val (.ref w20), .val (.int y79), .val (.int 2), .val (.int 1), .val (.int 1)]) d16_79 rfl rfl ?_
  refine own_iinc (pc' := 83) B X78 (Ls' := #[.val (.ref w0), .val (.int p19), .val (.ref w20), .val (.int y79), .val (.int 2), .val (.int 2), .val (.int 1)]) d16_80 rfl rfl (z := (2 : Int32)) (by decide) rfl ?_
  refine own_goto (pc' := 12) B X78 d16_83 (by decide) rfl ?_
  refine own_iload (pc' := 14) B X78 d16_12 rfl rfl ?_
  refine own_bipush (pc' := 16) B X78 (z := (32 : Int32)) d16_14 rfl (by decide) ?_
  refine own_icmpNo (pc' := 19) B X78 d16_16 (tlt (by decide : (2 : Int32) < (32 : Int32))).2.1 rfl ?_
  refine own_iload (pc' := 21) B X78 d16_19 rfl rfl ?_
  refine own_iconst (pc' := 22) B X78 (z := (4 : Int32)) d16_21 rfl rfl ?_
  refine own_icmpNo (pc' := 25) B X78 d16_22 (tlt (by decide : (2 : Int32) < (4 : Int32))).2.1 rfl ?_
  refine own_aloadN (pc' := 26) B X78 d16_25 rfl rfl rfl ?_
  refine own_getfield (pc' := 29) B X78 (host := "") (Or.inl (own_w hw 51 rfl)) Via.refl F_w0_slots d16_26 rfl ?_
  intro T81 X81
  refine own_iloadN (pc' := 30) B X81 d16_29 rfl rfl ?_
  have c84 : ¬ (y79 = p3) := by
    exact (ax_23 (F := own_F_slot) (H := own_F_hash) own_next_ne hp0 hp1 hp2 hp3 hp4 hy3 c7 c56 c58 hy62 c63 hy66 c70 c72 hy76 c77 hy80 (own_nn2 hy66 hy80))
  have c85 : ¬ (y79 = p4) := by
    exact (ax_24 (F := own_F_slot) (H := own_F_hash) own_next_ne hp0 hp1 hp2 hp3 hp4 hy3 c7 c56 c58 hy62 c63 hy66 c70 c72 hy76 c77 hy80 c84 (own_nn2 hy66 hy80))
  refine own_ialoadH (pc' := 31) B X81 V_w1 (v := (.int 0)) ⟨(own_next_ge hy80), (own_next_lt hy80)⟩ (getH_miss (own_next_ge hy80) c84 (getH_miss (own_next_ge hy80) c85 (getH_all rfl _))) d16_30 rfl ?_
  refine own_iconst (pc' := 32) B X81 (z := (1 : Int32)) d16_31 rfl rfl ?_
  refine own_isub (pc' := 33) B X81 (z := (-1 : Int32)) d16_32 rfl (by decide) ?_
  refine own_istore (pc' := 35) B X81 (Ls' := #[.val (.ref w0), .val (.int p19), .val (.ref w20), .val (.int y79), .val (.int 2), .val (.int 2), .val (.int (-1))]) d16_33 rfl rfl ?_
  refine own_iload (pc' := 37) B X81 d16_35 rfl rfl ?_
  refine own_ifNo (pc' := 40) B X81 d16_37 ((if0 _ _).trans (tlt (by decide : (-1 : Int32) < (0 : Int32))).2.1) rfl ?_
  refine own_iconst (pc' := 41) B X81 (z := (-1 : Int32)) d16_40 rfl rfl ?_
  have g86 := (ax_25 (F := own_F_slot) (H := own_F_hash) own_next_ne hp0 hp1 hp2 hp3 hp4 hy3 c7 c56 c58 hy62 c63 hy66 c70 c72 hy76 c77 hy80 c84 c85 (own_nn2 hy66 hy80))
  exact own_retI B X81 d16_41 (by decide) (by decide) (⟨(-1 : Int32), g86, rfl, rfl⟩)
  refine own_ifNo (pc' := 68) B X74 d16_65 ((if0 _ _).trans (feq c77).1) rfl ?_
  refine own_iload (pc' := 70) B X74 d16_68 rfl rfl ?_
  have g87 := (ax_26 (F := own_F_slot) (H := own_F_hash) own_next_ne hp0 hp1 hp2 hp3 hp4 hy3 c7 c56 c58 hy62 c63 hy66 c70 c72 hy76 c77)
  exact own_retI B X74 d16_70 (by decide) (by decide) (⟨(1 : Int32), g87, rfl, rfl⟩)
  refine own_icmpYes (pc' := 74) B X71 d16_50 (feq c72).2 (by decide) rfl ?_
  refine own_aloadN (pc' := 75) B X71 d16_74 rfl rfl rfl ?_
  refine own_iloadN (pc' := 76) B X71 d16_75 rfl rfl ?_
  refine own_callP (pc' := 79) B X71 (own_w hw 183 rfl) (own_w hw 184 rfl) (own_w hw 185 rfl) (own_w hw 45 rfl) (own_w hw 46 rfl) (own_w hw 186 rfl) E_w0 (by decide) [(.int y65)] [] (rm_48 l Z a0 hw [] w0 w1 kw1 (p3) (p4) (y65) h0 n0 (Nat.le_trans Z0 K.1) E_w0 F_w0_slots g_w0 V_w1 g_w1 ne_w0_w1) 0 (by decide) (by decide) rfl pd_7 rfl rfl (Nat.le_of_eq rfl) d16_76 rfl (k' := 0) (n' := 0) rfl rfl (by decide) (by decide) ?_
  intro T88 v88 h88 X88 q88
  obtain ⟨y89, hy90, rfl, rfl⟩ := q88
  show own_Go p e below (T88.setTop (mkF m 79 #[.val (.ref w0), .val (.int p19), .val (.ref w20), .val (.int y65), .val (.int 1), .val (.int 1), .val (.int 1)] [(.int y89)])) _
  refine own_istoreN (pc' := 80) B X88 (Ls' := #[.val (.ref w0), .val (.int p19), .val (.ref w20), .val (.int y89), .val (.int 1), .val (.int 1), .val (.int 1)]) d16_79 rfl rfl ?_
  refine own_iinc (pc' := 83) B X88 (Ls' := #[.val (.ref w0), .val (.int p19), .val (.ref w20), .val (.int y89), .val (.int 1), .val (.int 2), .val (.int 1)]) d16_80 rfl rfl (z := (2 : Int32)) (by decide) rfl ?_
  refine own_goto (pc' := 12) B X88 d16_83 (by decide) rfl ?_
  refine own_iload (pc' := 14) B X88 d16_12 rfl rfl ?_
  refine own_bipush (pc' := 16) B X88 (z := (32 : Int32)) d16_14 rfl (by decide) ?_
  refine own_icmpNo (pc' := 19) B X88 d16_16 (tlt (by decide : (2 : Int32) < (32 : Int32))).2.1 rfl ?_
  refine own_iload (pc' := 21) B X88 d16_19 rfl rfl ?_
  refine own_iconst (pc' := 22) B X88 (z := (4 : Int32)) d16_21 rfl rfl ?_
  refine own_icmpNo (pc' := 25) B X88 d16_22 (tlt (by decide : (1 : Int32) < (4 : Int32))).2.1 rfl ?_
  refine own_aloadN (pc' := 26) B X88 d16_25 rfl rfl rfl ?_
  refine own_getfield (pc' := 29) B X88 (host := "") (Or.inl (own_w hw 51 rfl)) Via.refl F_w0_slots d16_26 rfl ?_
  intro T91 X91
  refine own_iloadN (pc' := 30) B X91 d16_29 rfl rfl ?_
  have c94 : ¬ (y89 = p3) := by
    exact (ax_27 (F := own_F_slot) (H := own_F_hash) own_next_ne hp0 hp1 hp2 hp3 hp4 hy3 c7 c56 c58 hy62 c63 hy66 c70 c72 hy90 (own_nn2 hy66 hy90))
  have c95 : ¬ (y89 = p4) := by
    exact (ax_28 (F := own_F_slot) (H := own_F_hash) own_next_ne hp0 hp1 hp2 hp3 hp4 hy3 c7 c56 c58 hy62 c63 hy66 c70 c72 hy90 c94 (own_nn2 hy66 hy90))
  refine own_ialoadH (pc' := 31) B X91 V_w1 (v := (.int 0)) ⟨(own_next_ge hy90), (own_next_lt hy90)⟩ (getH_miss (own_next_ge hy90) c94 (getH_miss (own_next_ge hy90) c95 (getH_all rfl _))) d16_30 rfl ?_
  refine own_iconst (pc' := 32) B X91 (z := (1 : Int32)) d16_31 rfl rfl ?_
  refine own_isub (pc' := 33) B X91 (z := (-1 : Int32)) d16_32 rfl (by decide) ?_
  refine own_istore (pc' := 35) B X91 (Ls' := #[.val (.ref w0), .val (.int p19), .val (.ref w20), .val (.int y89), .val (.int 1), .val (.int 2), .val (.int (-1))]) d16_33 rfl rfl ?_
  refine own_iload (pc' := 37) B X91 d16_35 rfl rfl ?_
  refine own_ifNo (pc' := 40) B X91 d16_37 ((if0 _ _).trans (tlt (by decide : (-1 : Int32) < (0 : Int32))).2.1) rfl ?_
  refine own_iconst (pc' := 41) B X91 (z := (-1 : Int32)) d16_40 rfl rfl ?_
  have g96 := (ax_29 (F := own_F_slot) (H := own_F_hash) own_next_ne hp0 hp1 hp2 hp3 hp4 hy3 c7 c56 c58 hy62 c63 hy66 c70 c72 hy90 c94 c95 (own_nn2 hy66 hy90))
  exact own_retI B X91 d16_41 (by decide) (by decide) (⟨(-1 : Int32), g96, rfl, rfl⟩)
  have c97 : ¬ (y65 = p4) := by
    exact (ax_30 (F := own_F_slot) (H := own_F_hash) own_next_ne hp0 hp1 hp2 hp3 hp4 hy3 c7 c56 c58 hy62 c63 hy66 c70)
  refine own_ialoadH (pc' := 31) B X67 V_w1 (v := (.int 0)) ⟨(own_next_ge hy66), (own_next_lt hy66)⟩ (getH_miss (own_next_ge hy66) c70 (getH_miss (own_next_ge hy66) c97 (getH_all rfl _))) d16_30 rfl ?_
  refine own_iconst (pc' := 32) B X67 (z := (1 : Int32)) d16_31 rfl rfl ?_
  refine own_isub (pc' := 33) B X67 (z := (-1 : Int32)) d16_32 rfl (by decide) ?_
  refine own_istore (pc' := 35) B X67 (Ls' := #[.val (.ref w0), .val (.int p19), .val (.ref w20), .val (.int y65), .val (.int 1), .val (.int 1), .val (.int (-1))]) d16_33 rfl rfl ?_
  refine own_iload (pc' := 37) B X67 d16_35 rfl rfl ?_
  refine own_ifNo (pc' := 40) B X67 d16_37 ((if0 _ _).trans (tlt (by decide : (-1 : Int32) < (0 : Int32))).2.1) rfl ?_
  refine own_iconst (pc' := 41) B X67 (z := (-1 : Int32)) d16_40 rfl rfl ?_
  have g98 := (ax_31 (F := own_F_slot) (H := own_F_hash) own_next_ne hp0 hp1 hp2 hp3 hp4 hy3 c7 c56 c58 hy62 c63 hy66 c70 c97)
  exact own_retI B X67 d16_41 (by decide) (by decide) (⟨(-1 : Int32), g98, rfl, rfl⟩)
  refine own_ifNo (pc' := 68) B X60 d16_65 ((if0 _ _).trans (feq c63).1) rfl ?_
  refine own_iload (pc' := 70) B X60 d16_68 rfl rfl ?_
  have g99 := (ax_32 (F := own_F_slot) (H := own_F_hash) own_next_ne hp0 hp1 hp2 hp3 hp4 hy3 c7 c56 c58 hy62 c63)
  exact own_retI B X60 d16_70 (by decide) (by decide) (⟨(0 : Int32), g99, rfl, rfl⟩)
  refine own_icmpYes (pc' := 74) B X57 d16_50 (feq c58).2 (by decide) rfl ?_
  refine own_aloadN (pc' := 75) B X57 d16_74 rfl rfl rfl ?_
  refine own_iloadN (pc' := 76) B X57 d16_75 rfl rfl ?_
  refine own_callP (pc' := 79) B X57 (own_w hw 183 rfl) (own_w hw 184 rfl) (own_w hw 185 rfl) (own_w hw 45 rfl) (own_w hw 46 rfl) (own_w hw 186 rfl) E_w0 (by decide) [(.int y2)] [] (rm_48 l Z a0 hw [] w0 w1 kw1 (p3) (p4) (y2) h0 n0 (Nat.le_trans Z0 K.1) E_w0 F_w0_slots g_w0 V_w1 g_w1 ne_w0_w1) 0 (by decide) (by decide) rfl pd_7 rfl rfl (Nat.le_of_eq rfl) d16_76 rfl (k' := 0) (n' := 0) rfl rfl (by decide) (by decide) ?_
  intro T100 v100 h100 X100 q100
  obtain ⟨y101, hy102, rfl, rfl⟩ := q100
  show own_Go p e below (T100.setTop (mkF m 79 #[.val (.ref w0), .val (.int p19), .val (.ref w20), .val (.int y2), .val (.int 0), .val (.int 0), .val (.int 0)] [(.int y101)])) _
  refine own_istoreN (pc' := 80) B X100 (Ls' := #[.val (.ref w0), .val (.int p19), .val (.ref w20), .val (.int y101), .val (.int 0), .val (.int 0), .val (.int 0)]) d16_79 rfl rfl ?_
  refine own_iinc (pc' := 83) B X100 (Ls' := #[.val (.ref w0), .val (.int p19), .val (.ref w20), .val (.int y101), .val (.int 0), .val (.int 1), .val (.int 0)]) d16_80 rfl rfl (z := (1 : Int32)) (by decide) rfl ?_
  refine own_goto (pc' := 12) B X100 d16_83 (by decide) rfl ?_
  refine own_iload (pc' := 14) B X100 d16_12 rfl rfl ?_
  refine own_bipush (pc' := 16) B X100 (z := (32 : Int32)) d16_14 rfl (by decide) ?_
  refine own_icmpNo (pc' := 19) B X100 d16_16 (tlt (by decide : (1 : Int32) < (32 : Int32))).2.1 rfl ?_
  refine own_iload (pc' := 21) B X100 d16_19 rfl rfl ?_
  refine own_iconst (pc' := 22) B X100 (z := (4 : Int32)) d16_21 rfl rfl ?_
  refine own_icmpNo (pc' := 25) B X100 d16_22 (tlt (by decide : (0 : Int32) < (4 : Int32))).2.1 rfl ?_
  refine own_aloadN (pc' := 26) B X100 d16_25 rfl rfl rfl ?_
  refine own_getfield (pc' := 29) B X100 (host := "") (Or.inl (own_w hw 51 rfl)) Via.refl F_w0_slots d16_26 rfl ?_
  intro T103 X103
  refine own_iloadN (pc' := 30) B X103 d16_29 rfl rfl ?_
  by_cases c106 : y101 = p3
  refine own_ialoadH (pc' := 31) B X103 V_w1 (v := (.int 2)) ⟨(own_next_ge hy102), (own_next_lt hy102)⟩ (getH_hit (own_next_ge hy102) c106) d16_30 rfl ?_
  refine own_iconst (pc' := 32) B X103 (z := (1 : Int32)) d16_31 rfl rfl ?_
  refine own_isub (pc' := 33) B X103 (z := (1 : Int32)) d16_32 rfl (by decide) ?_
  refine own_istore (pc' := 35) B X103 (Ls' := #[.val (.ref w0), .val (.int p19), .val (.ref w20), .val (.int y101), .val (.int 0), .val (.int 1), .val (.int 1)]) d16_33 rfl rfl ?_
  refine own_iload (pc' := 37) B X103 d16_35 rfl rfl ?_
  refine own_ifYes (pc' := 42) B X103 d16_37 ((if0 _ _).trans (flt (by decide : ¬ ((1 : Int32) < (0 : Int32)))).2.1) (by decide) rfl ?_
  refine own_aloadN (pc' := 43) B X103 d16_42 rfl rfl rfl ?_
  refine own_getfield (pc' := 46) B X103 (host := "") (Or.inl (own_w hw 53 rfl)) Via.refl F_w0_hashes d16_43 rfl ?_
  intro T107 X107
  refine own_iload (pc' := 48) B X107 d16_46 rfl rfl ?_
  refine own_iaload (pc' := 49) B X107 V_w5 (v := (.int p8)) ⟨by decide, by decide⟩ rfl d16_48 rfl ?_
  refine own_iloadN (pc' := 50) B X107 d16_49 rfl rfl ?_
  by_cases c108 : p8 = p19
  refine own_icmpNo (pc' := 53) B X107 d16_50 (teq c108).2 rfl ?_
  refine own_aloadN (pc' := 54) B X107 d16_53 rfl rfl rfl ?_
  refine own_getfield (pc' := 57) B X107 (host := "") (Or.inl (own_w hw 55 rfl)) Via.refl F_w0_keys d16_54 rfl ?_
  intro T109 X109
  refine own_iload (pc' := 59) B X109 d16_57 rfl rfl ?_
  refine own_aloadN (pc' := 60) B X109 d16_59 rfl rfl rfl ?_
  refine own_callF (pc' := 65) B X109 (xi := (⟨"com/example/ordal/ordal/NumberTable$Keys", "holds", "(ILjava/lang/Object;)Z"⟩ : MethodName)) (own_w hw 162 rfl) (own_w hw 163 rfl) (own_w hw 164 rfl) (own_w hw 165 rfl) (own_w hw 166 rfl) (own_w hw 167 rfl) (own_w hw 168 rfl) (own_w hw 169 rfl) (own_w hw 36 rfl) (own_w hw 170 rfl) E_w9 (by decide) [(.int 1), (.ref w20)] [] (rm_44 l Z a0 hw [] w9 w10 w11 kw11 (p13) (p14) (p15) (p16) w17 kw17 w20 kw20 (p22) (p23) h0 n0 (Nat.le_trans Z0 K.1) E_w9 F_w9_relation F_w9_columns g_w9 E_w10 F_w10_arity F_w10_rows g_w10 V_w11 g_w11 V_w17 g_w17 E_w20 V_w20 g_w20 ne_w9_w10 ne_w9_w11 ne_w9_w17 ne_w9_w20 ne_w10_w11 ne_w10_w17 ne_w10_w20 ne_w11_w17 ne_w11_w20 ne_w17_w20) 0 (by decide) (by decide) rfl pd_16 rfl rfl (Nat.le_of_eq rfl) d16_60 rfl (k' := 0) (n' := 0) rfl rfl (by decide) (by decide) ?_
  intro T110 v110 h110 X110 q110
  obtain ⟨y111, hy112, rfl, rfl⟩ := q110
  show own_Go p e below (T110.setTop (mkF m 65 #[.val (.ref w0), .val (.int p19), .val (.ref w20), .val (.int y101), .val (.int 0), .val (.int 1), .val (.int 1)] [(.int y111)])) _
  by_cases c113 : y111 = (0 : Int32)
  refine own_ifYes (pc' := 71) B X110 d16_65 ((if0 _ _).trans (teq c113).1) (by decide) rfl ?_
  refine own_iinc (pc' := 74) B X110 (Ls' := #[.val (.ref w0), .val (.int p19), .val (.ref w20), .val (.int y101), .val (.int 1), .val (.int 1), .val (.int 1)]) d16_71 rfl rfl (z := (1 : Int32)) (by decide) rfl ?_
  refine own_aloadN (pc' := 75) B X110 d16_74 rfl rfl rfl ?_
  refine own_iloadN (pc' := 76) B X110 d16_75 rfl rfl ?_
  refine own_callP (pc' := 79) B X110 (own_w hw 183 rfl) (own_w hw 184 rfl) (own_w hw 185 rfl) (own_w hw 45 rfl) (own_w hw 46 rfl) (own_w hw 186 rfl) E_w0 (by decide) [(.int y101)] [] (rm_48 l Z a0 hw [] w0 w1 kw1 (p3) (p4) (y101) h0 n0 (Nat.le_trans Z0 K.1) E_w0 F_w0_slots g_w0 V_w1 g_w1 ne_w0_w1) 0 (by decide) (by decide) rfl pd_7 rfl rfl (Nat.le_of_eq rfl) d16_76 rfl (k' := 0) (n' := 0) rfl rfl (by decide) (by decide) ?_
  intro T114 v114 h114 X114 q114
  obtain ⟨y115, hy116, rfl, rfl⟩ := q114
  show own_Go p e below (T114.setTop (mkF m 79 #[.val (.ref w0), .val (.int p19), .val (.ref w20), .val (.int y101), .val (.int 1), .val (.int 1), .val (.int 1)] [(.int y115)])) _
  refine own_istoreN (pc' := 80) B X114 (Ls' := #[.val (.ref w0), .val (.int p19), .val (.ref w20), .val (.int y115), .val (.int 1), .val (.int 1), .val (.int 1)]) d16_79 rfl rfl ?_
  refine own_iinc (pc' := 83) B X114 (Ls' := #[.val (.ref w0), .val (.int p19), .val (.ref w20), .val (.int y115), .val (.int 1), .val (.int 2), .val (.int 1)]) d16_80 rfl rfl (z := (2 : Int32)) (by decide) rfl ?_
  refine own_goto (pc' := 12) B X114 d16_83 (by decide) rfl ?_
  refine own_iload (pc' := 14) B X114 d16_12 rfl rfl ?_
  refine own_bipush (pc' := 16) B X114 (z := (32 : Int32)) d16_14 rfl (by decide) ?_
  refine own_icmpNo (pc' := 19) B X114 d16_16 (tlt (by decide : (2 : Int32) < (32 : Int32))).2.1 rfl ?_
  refine own_iload (pc' := 21) B X114 d16_19 rfl rfl ?_
  refine own_iconst (pc' := 22) B X114 (z := (4 : Int32)) d16_21 rfl rfl ?_
  refine own_icmpNo (pc' := 25) B X114 d16_22 (tlt (by decide : (1 : Int32) < (4 : Int32))).2.1 rfl ?_
  refine own_aloadN (pc' := 26) B X114 d16_25 rfl rfl rfl ?_
  refine own_getfield (pc' := 29) B X114 (host := "") (Or.inl (own_w hw 51 rfl)) Via.refl F_w0_slots d16_26 rfl ?_
  intro T117 X117
  refine own_iloadN (pc' := 30) B X117 d16_29 rfl rfl ?_
  have c120 : ¬ (y115 = p3) := by
    exact (ax_33 (F := own_F_slot) (H := own_F_hash) own_next_ne hp0 hp1 hp2 hp3 hp4 hy3 c7 c56 c58 hy102 c106 c108 hy112 c113 hy116 (own_nn2 hy102 hy116))
  have c121 : ¬ (y115 = p4) := by
    exact (ax_34 (F := own_F_slot) (H := own_F_hash) own_next_ne hp0 hp1 hp2 hp3 hp4 hy3 c7 c56 c58 hy102 c106 c108 hy112 c113 hy116 c120 (own_nn2 hy102 hy116))
  refine own_ialoadH (pc' := 31) B X117 V_w1 (v := (.int 0)) ⟨(own_next_ge hy116), (own_next_lt hy116)⟩ (getH_miss (own_next_ge hy116) c120 (getH_miss (own_next_ge hy116) c121 (getH_all rfl _))) d16_30 rfl ?_
  refine own_iconst (pc' := 32) B X117 (z := (1 : Int32)) d16_31 rfl rfl ?_
  refine own_isub (pc' := 33) B X117 (z := (-1 : Int32)) d16_32 rfl (by decide) ?_
  refine own_istore (pc' := 35) B X117 (Ls' := #[.val (.ref w0), .val (.int p19), .val (.ref w20), .val (.int y115), .val (.int 1), .val (.int 2), .val (.int (-1))]) d16_33 rfl rfl ?_
  refine own_iload (pc' := 37) B X117 d16_35 rfl rfl ?_
  refine own_ifNo (pc' := 40) B X117 d16_37 ((if0 _ _).trans (tlt (by decide : (-1 : Int32) < (0 : Int32))).2.1) rfl ?_
  refine own_iconst (pc' := 41) B X117 (z := (-1 : Int32)) d16_40 rfl rfl ?_
  have g122 := (ax_35 (F := own_F_slot) (H := own_F_hash) own_next_ne hp0 hp1 hp2 hp3 hp4 hy3 c7 c56 c58 hy102 c106 c108 hy112 c113 hy116 c120 c121 (own_nn2 hy102 hy116))
  exact own_retI B X117 d16_41 (by decide) (by decide) (⟨(-1 : Int32), g122, rfl, rfl⟩)
  refine own_ifNo (pc' := 68) B X110 d16_65 ((if0 _ _).trans (feq c113).1) rfl ?_
  refine own_iload (pc' := 70) B X110 d16_68 rfl rfl ?_
  have g123 := (ax_36 (F := own_F_slot) (H := own_F_hash) own_next_ne hp0 hp1 hp2 hp3 hp4 hy3 c7 c56 c58 hy102 c106 c108 hy112 c113)
  exact own_retI B X110 d16_70 (by decide) (by decide) (⟨(1 : Int32), g123, rfl, rfl⟩)
  refine own_icmpYes (pc' := 74) B X107 d16_50 (feq c108).2 (by decide) rfl ?_
  refine own_aloadN (pc' := 75) B X107 d16_74 rfl rfl rfl ?_
  refine own_iloadN (pc' := 76) B X107 d16_75 rfl rfl ?_
  refine own_callP (pc' := 79) B X107 (own_w hw 183 rfl) (own_w hw 184 rfl) (own_w hw 185 rfl) (own_w hw 45 rfl) (own_w hw 46 rfl) (own_w hw 186 rfl) E_w0 (by decide) [(.int y101)] [] (rm_48 l Z a0 hw [] w0 w1 kw1 (p3) (p4) (y101) h0 n0 (Nat.le_trans Z0 K.1) E_w0 F_w0_slots g_w0 V_w1 g_w1 ne_w0_w1) 0 (by decide) (by decide) rfl pd_7 rfl rfl (Nat.le_of_eq rfl) d16_76 rfl (k' := 0) (n' := 0) rfl rfl (by decide) (by decide) ?_
  intro T124 v124 h124 X124 q124
  obtain ⟨y125, hy126, rfl, rfl⟩ := q124
  show own_Go p e below (T124.setTop (mkF m 79 #[.val (.ref w0), .val (.int p19), .val (.ref w20), .val (.int y101), .val (.int 0), .val (.int 1), .val (.int 1)] [(.int y125)])) _
  refine own_istoreN (pc' := 80) B X124 (Ls' := #[.val (.ref w0), .val (.int p19), .val (.ref w20), .val (.int y125), .val (.int 0), .val (.int 1), .val (.int 1)]) d16_79 rfl rfl ?_
  refine own_iinc (pc' := 83) B X124 (Ls' := #[.val (.ref w0), .val (.int p19), .val (.ref w20), .val (.int y125), .val (.int 0), .val (.int 2), .val (.int 1)]) d16_80 rfl rfl (z := (2 : Int32)) (by decide) rfl ?_
  refine own_goto (pc' := 12) B X124 d16_83 (by decide) rfl ?_
  refine own_iload (pc' := 14) B X124 d16_12 rfl rfl ?_
  refine own_bipush (pc' := 16) B X124 (z := (32 : Int32)) d16_14 rfl (by decide) ?_
  refine own_icmpNo (pc' := 19) B X124 d16_16 (tlt (by decide : (2 : Int32) < (32 : Int32))).2.1 rfl ?_
  refine own_iload (pc' := 21) B X124 d16_19 rfl rfl ?_
  refine own_iconst (pc' := 22) B X124 (z := (4 : Int32)) d16_21 rfl rfl ?_
  refine own_icmpNo (pc' := 25) B X124 d16_22 (tlt (by decide : (0 : Int32) < (4 : Int32))).2.1 rfl ?_
  refine own_aloadN (pc' := 26) B X124 d16_25 rfl rfl rfl ?_
  refine own_getfield (pc' := 29) B X124 (host := "") (Or.inl (own_w hw 51 rfl)) Via.refl F_w0_slots d16_26 rfl ?_
  intro T127 X127
  refine own_iloadN (pc' := 30) B X127 d16_29 rfl rfl ?_
  have c130 : ¬ (y125 = p3) := by
    exact (ax_37 (F := own_F_slot) (H := own_F_hash) own_next_ne hp0 hp1 hp2 hp3 hp4 hy3 c7 c56 c58 hy102 c106 c108 hy126 (own_nn2 hy102 hy126))
  have c131 : ¬ (y125 = p4) := by
    exact (ax_38 (F := own_F_slot) (H := own_F_hash) own_next_ne hp0 hp1 hp2 hp3 hp4 hy3 c7 c56 c58 hy102 c106 c108 hy126 c130 (own_nn2 hy102 hy126))
  refine own_ialoadH (pc' := 31) B X127 V_w1 (v := (.int 0)) ⟨(own_next_ge hy126), (own_next_lt hy126)⟩ (getH_miss (own_next_ge hy126) c130 (getH_miss (own_next_ge hy126) c131 (getH_all rfl _))) d16_30 rfl ?_
  refine own_iconst (pc' := 32) B X127 (z := (1 : Int32)) d16_31 rfl rfl ?_
  refine own_isub (pc' := 33) B X127 (z := (-1 : Int32)) d16_32 rfl (by decide) ?_
  refine own_istore (pc' := 35) B X127 (Ls' := #[.val (.ref w0), .val (.int p19), .val (.ref w20), .val (.int y125), .val (.int 0), .val (.int 2), .val (.int (-1))]) d16_33 rfl rfl ?_
  refine own_iload (pc' := 37) B X127 d16_35 rfl rfl ?_
  refine own_ifNo (pc' := 40) B X127 d16_37 ((if0 _ _).trans (tlt (by decide : (-1 : Int32) < (0 : Int32))).2.1) rfl ?_
  refine own_iconst (pc' := 41) B X127 (z := (-1 : Int32)) d16_40 rfl rfl ?_
  have g132 := (ax_39 (F := own_F_slot) (H := own_F_hash) own_next_ne hp0 hp1 hp2 hp3 hp4 hy3 c7 c56 c58 hy102 c106 c108 hy126 c130 c131 (own_nn2 hy102 hy126))
  exact own_retI B X127 d16_41 (by decide) (by decide) (⟨(-1 : Int32), g132, rfl, rfl⟩)
  have c133 : ¬ (y101 = p4) := by
    exact (ax_40 (F := own_F_slot) (H := own_F_hash) own_next_ne hp0 hp1 hp2 hp3 hp4 hy3 c7 c56 c58 hy102 c106)
  refine own_ialoadH (pc' := 31) B X103 V_w1 (v := (.int 0)) ⟨(own_next_ge hy102), (own_next_lt hy102)⟩ (getH_miss (own_next_ge hy102) c106 (getH_miss (own_next_ge hy102) c133 (getH_all rfl _))) d16_30 rfl ?_
  refine own_iconst (pc' := 32) B X103 (z := (1 : Int32)) d16_31 rfl rfl ?_
  refine own_isub (pc' := 33) B X103 (z := (-1 : Int32)) d16_32 rfl (by decide) ?_
  refine own_istore (pc' := 35) B X103 (Ls' := #[.val (.ref w0), .val (.int p19), .val (.ref w20), .val (.int y101), .val (.int 0), .val (.int 1), .val (.int (-1))]) d16_33 rfl rfl ?_
  refine own_iload (pc' := 37) B X103 d16_35 rfl rfl ?_
  refine own_ifNo (pc' := 40) B X103 d16_37 ((if0 _ _).trans (tlt (by decide : (-1 : Int32) < (0 : Int32))).2.1) rfl ?_
  refine own_iconst (pc' := 41) B X103 (z := (-1 : Int32)) d16_40 rfl rfl ?_
  have g134 := (ax_41 (F := own_F_slot) (H := own_F_hash) own_next_ne hp0 hp1 hp2 hp3 hp4 hy3 c7 c56 c58 hy102 c106 c133)
  exact own_retI B X103 d16_41 (by decide) (by decide) (⟨(-1 : Int32), g134, rfl, rfl⟩)
  refine own_ialoadH (pc' := 31) B X4 V_w1 (v := (.int 0)) ⟨(own_slot_ge hy3), (own_slot_lt hy3)⟩ (getH_miss (own_slot_ge hy3) c7 (getH_miss (own_slot_ge hy3) c56 (getH_all rfl _))) d16_30 rfl ?_
  refine own_iconst (pc' := 32) B X4 (z := (1 : Int32)) d16_31 rfl rfl ?_
  refine own_isub (pc' := 33) B X4 (z := (-1 : Int32)) d16_32 rfl (by decide) ?_
  refine own_istore (pc' := 35) B X4 (Ls' := #[.val (.ref w0), .val (.int p19), .val (.ref w20), .val (.int y2), .val (.int 0), .val (.int 0), .val (.int (-1))]) d16_33 rfl rfl ?_
  refine own_iload (pc' := 37) B X4 d16_35 rfl rfl ?_
  refine own_ifNo (pc' := 40) B X4 d16_37 ((if0 _ _).trans (tlt (by decide : (-1 : Int32) < (0 : Int32))).2.1) rfl ?_
  refine own_iconst (pc' := 41) B X4 (z := (-1 : Int32)) d16_40 rfl rfl ?_
  have g135 := (ax_42 (F := own_F_slot) (H := own_F_hash) own_next_ne hp0 hp1 hp2 hp3 hp4 hy3 c7 c56)
  exact own_retI B X4 d16_41 (by decide) (by decide) (⟨(-1 : Int32), g135, rfl, rfl⟩)
def Q_41 (Z : State) (w0 w1 w2 : Addr) (kw2 : ClassId) (p4 p5 : Int32) (w6 : Addr) (kw6 : ClassId) (p8 p9 : Int32) (w10 w11 : Addr) (kw11 : ClassId) (p13 p14 p15 p16 : Int32) (w17 : Addr) (kw17 : ClassId) (w19 : Addr) (kw19 : ClassId) (p21 p22 p23 : Int32) (h0 : Heap) (n0 : Nat) (v : Option Value) (h : Heap) : Prop :=
  (∃ (y3 : Int32), own_F_look2 p13 p14 p15 p16 p21 p22 = y3 ∧ v = some (.int y3) ∧ h0 = h)
theorem rm_41 (l : Launch) (Z : State) (a0 : Array Value) (hw : ∀ d ∈ tables_1, d.before a0 Z = true) (ws : List Jvm.Cond) (w0 w1 w2 : Addr) (kw2 : ClassId) (p4 p5 : Int32) (w6 : Addr) (kw6 : ClassId) (p8 p9 : Int32) (w10 w11 : Addr) (kw11 : ClassId) (p13 p14 p15 p16 : Int32) (w17 : Addr) (kw17 : ClassId) (w19 : Addr) (kw19 : ClassId) (p21 p22 p23 : Int32) (h0 : Heap) (n0 : Nat) (Z0 : n0 ≤ h0.size) (E_w0 : Exa Z h0 w0 oC3) (F_w0_table : Fld Z h0 w0 oC3 "table" "Lcom/example/ordal/ordal/NumberTable;" (.ref w1)) (F_w0_relation : Fld Z h0 w0 oC3 "relation" "Lcom/example/ordal/ordal/Relation;" (.ref w10)) (F_w0_columns : Fld Z h0 w0 oC3 "columns" "[I" (.ref w17)) (g_w0 : n0 ≤ w0) (E_w1 : Exa Z h0 w1 oC1) (F_w1_slots : Fld Z h0 w1 oC1 "slots" "[I" (.ref w2)) (F_w1_hashes : Fld Z h0 w1 oC1 "hashes" "[I" (.ref w6)) (F_w1_keys : Fld Z h0 w1 oC1 "keys" "Lcom/example/ordal/ordal/NumberTable$Keys;" (.ref w0)) (F_w1_crowded : Fld Z h0 w1 oC1 "crowded" "Ljava/util/TreeMap;" .null) (g_w1 : n0 ≤ w1) (V_w2 : Arh Z h0 w2 kw2 .int (16 : Int32) [(p4, (.int 2)), (p5, (.int 1))] [] (.int 0)) (g_w2 : n0 ≤ w2) (V_w6 : Arv Z h0 w6 kw6 .int (8 : Int32) [(.int p8), (.int p9)] (.int 0)) (g_w6 : n0 ≤ w6) (E_w10 : Exa Z h0 w10 oC2) (F_w10_arity : Fld Z h0 w10 oC2 "arity" "I" (.int 2)) (F_w10_rows : Fld Z h0 w10 oC2 "rows" "[I" (.ref w11)) (g_w10 : n0 ≤ w10) (V_w11 : Arv Z h0 w11 kw11 .int (16 : Int32) [(.int p13), (.int p14), (.int p15), (.int p16)] (.int 0)) (g_w11 : n0 ≤ w11) (V_w17 : Arv Z h0 w17 kw17 .int (2 : Int32) [(.int 0), (.int 1)] (.int 0)) (g_w17 : n0 ≤ w17) (E_w19 : Exa Z h0 w19 "[I") (V_w19 : Arv Z h0 w19 kw19 .int (2 : Int32) [(.int p21), (.int p22)] (.int 0)) (g_w19 : n0 ≤ w19) (ne_w0_w1 : w0 ≠ w1) (ne_w0_w2 : w0 ≠ w2) (ne_w0_w6 : w0 ≠ w6) (ne_w0_w10 : w0 ≠ w10) (ne_w0_w11 : w0 ≠ w11) (ne_w0_w17 : w0 ≠ w17) (ne_w0_w19 : w0 ≠ w19) (ne_w1_w2 : w1 ≠ w2) (ne_w1_w6 : w1 ≠ w6) (ne_w1_w10 : w1 ≠ w10) (ne_w1_w11 : w1 ≠ w11) (ne_w1_w17 : w1 ≠ w17) (ne_w1_w19 : w1 ≠ w19) (ne_w2_w6 : w2 ≠ w6) (ne_w2_w10 : w2 ≠ w10) (ne_w2_w11 : w2 ≠ w11) (ne_w2_w17 : w2 ≠ w17) (ne_w2_w19 : w2 ≠ w19) (ne_w6_w10 : w6 ≠ w10) (ne_w6_w11 : w6 ≠ w11) (ne_w6_w17 : w6 ≠ w17) (ne_w6_w19 : w6 ≠ w19) (ne_w10_w11 : w10 ≠ w11) (ne_w10_w17 : w10 ≠ w17) (ne_w10_w19 : w10 ≠ w19) (ne_w11_w17 : w11 ≠ w17) (ne_w11_w19 : w11 ≠ w19) (ne_w17_w19 : w17 ≠ w19) (hp0 : own_F_hash p13 p14 = p8) (hp1 : own_F_slot p8 = p5) (hp2 : own_F_hash p15 p16 = p9) (hp3 : own_F_put2 p5 p9 = p4) (hp4 : own_F_hash p21 p22 = p23) :
    own_M l Z (⟨"com/example/ordal/ordal/Relation$PositionTable", "find", "([II)I"⟩ : MethodName) prog_15_method_2_code 3 (some .int) ws ({ frames := 4, cells := 0, slots := 0, locals := 61 } : Room) #[(.ref w0), (.ref w19), (.int p23)] h0 n0 (Q_41 Z w0 w1 w2 kw2 p4 p5 w6 kw6 p8 p9 w10 w11 kw11 p13 p14 p15 p16 w17 kw17 w19 kw19 p21 p22 p23 h0 n0) := by
  refine own_enter' (Q := Q_41 Z w0 w1 w2 kw2 p4 p5 w6 kw6 p8 p9 w10 w11 kw11 p13 p14 p15 p16 w17 kw17 w19 kw19 p21 p22 p23 h0 n0) (F := fun m => mkF m 0 #[.val (.ref w0), .val (.ref w19), .val (.int p23)] []) (plainFor_of_name pn_4) ?_
  intro p e s m below meth c s₁ B X0
  have K : Keep h0 h0 [] := Keep.refl h0 _
  have lt_w0 := E_w0.lt
  have lt_w1 := E_w1.lt
  have lt_w2 := V_w2.lt
  have lt_w6 := V_w6.lt
  have lt_w10 := E_w10.lt
  have lt_w11 := V_w11.lt
  have lt_w17 := V_w17.lt
  have lt_w19 := E_w19.lt
  refine own_aloadN (pc' := 1) B X0 d15_0 rfl rfl rfl ?_
  refine own_getfield (pc' := 4) B X0 (host := "") (Or.inl (own_w hw 57 rfl)) Via.refl F_w0_table d15_1 rfl ?_
  intro T1 X1
  refine own_iloadN (pc' := 5) B X1 d15_4 rfl rfl ?_
  refine own_aloadN (pc' := 6) B X1 d15_5 rfl rfl rfl ?_
  refine own_callV (pc' := 9) B X1 (own_w hw 106 rfl) (own_w hw 107 rfl) (own_w hw 109 rfl) (own_w hw 108 rfl) (own_w hw 46 rfl) (own_w hw 110 rfl) E_w1 (by decide) [(.int p23), (.ref w19)] [] (rm_42 l Z a0 hw [] w1 w2 kw2 (p4) (p5) w6 kw6 (p8) (p9) w0 w10 w11 kw11 (p13) (p14) (p15) (p16) w17 kw17 (p23) w19 kw19 (p21) (p22) h0 n0 (Nat.le_trans Z0 K.1) E_w1 F_w1_slots F_w1_hashes F_w1_keys F_w1_crowded g_w1 V_w2 g_w2 V_w6 g_w6 E_w0 F_w0_table F_w0_relation F_w0_columns g_w0 E_w10 F_w10_arity F_w10_rows g_w10 V_w11 g_w11 V_w17 g_w17 E_w19 V_w19 g_w19 ne_w1_w2 ne_w1_w6 (Ne.symm ne_w0_w1) ne_w1_w10 ne_w1_w11 ne_w1_w17 ne_w1_w19 ne_w2_w6 (Ne.symm ne_w0_w2) ne_w2_w10 ne_w2_w11 ne_w2_w17 ne_w2_w19 (Ne.symm ne_w0_w6) ne_w6_w10 ne_w6_w11 ne_w6_w17 ne_w6_w19 ne_w0_w10 ne_w0_w11 ne_w0_w17 ne_w0_w19 ne_w10_w11 ne_w10_w17 ne_w10_w19 ne_w11_w17 ne_w11_w19 ne_w17_w19 hp0 hp1 hp2 hp3 hp4) 0 (by decide) (by decide) rfl pd_8 rfl rfl (Nat.le_of_eq rfl) d15_6 rfl (k' := 0) (n' := 0) rfl rfl (by decide) (by decide) ?_
  intro T2 v2 h2 X2 q2
  obtain ⟨y3, hy4, rfl, rfl⟩ := q2
  show own_Go p e below (T2.setTop (mkF m 9 #[.val (.ref w0), .val (.ref w19), .val (.int p23)] [(.int y3)])) _
  exact own_retI B X2 d15_9 (by decide) (by decide) (⟨y3, hy4, rfl, rfl⟩)
theorem ax_43 {F N : Int32 → Int32} {H : Int32 → Int32 → Int32} (nn : ∀ x, ¬ N x = x) {a0 a1 a2 a3 a4 : Int32} (e0 : F a1 = a0) (e1 : a0 = a2) (e2 : N a0 = a3) (e3 : ¬ (a3 = a2)) (e4 : N a3 = a4) (f0 : ¬ a4 = a0) : ¬ (a4 = a2) := by grind [own_F_look1, own_F_look2, own_G_put2, own_F_holds]
theorem ax_44 {F N : Int32 → Int32} {H : Int32 → Int32 → Int32} (nn : ∀ x, ¬ N x = x) {a0 a1 a2 a3 a4 : Int32} (e0 : F a1 = a0) (e1 : N a0 = a2) (e2 : a2 = a3) (e3 : N a2 = a4) (f0 : ¬ a4 = a0) : ¬ (a4 = a3) := by grind [own_F_look1, own_F_look2, own_G_put2, own_F_holds]
theorem ax_45 {F N : Int32 → Int32} {H : Int32 → Int32 → Int32} (nn : ∀ x, ¬ N x = x) {a0 a1 a2 a3 a4 : Int32} (e0 : F a1 = a0) (e1 : ¬ (a0 = a2)) (e2 : N a0 = a3) (e3 : a3 = a2) (e4 : N a3 = a4) (f0 : ¬ a4 = a0) : ¬ (a4 = a2) := by grind [own_F_look1, own_F_look2, own_G_put2, own_F_holds]
theorem ax_46 {F N : Int32 → Int32} {H : Int32 → Int32 → Int32} (nn : ∀ x, ¬ N x = x) {a0 a1 a2 a3 a4 : Int32} (e0 : F a1 = a0) (e1 : a0 = a2) (e2 : N a0 = a3) (e3 : N a3 = a4) (f0 : ¬ a4 = a0) : ¬ (a4 = a2) := by grind [own_F_look1, own_F_look2, own_G_put2, own_F_holds]
def Q_56 (Z : State) (w0 w1 : Addr) (kw1 : ClassId) (p3 p4 : Int32) (w5 : Addr) (kw5 : ClassId) (p7 p8 p9 : Int32) (w10 : Addr) (h0 : Heap) (n0 : Nat) (v : Option Value) (h : Heap) : Prop :=
  (v = some (.int 1) ∧ Keep h0 h [w1])
theorem rm_56 (l : Launch) (Z : State) (a0 : Array Value) (hw : ∀ d ∈ tables_1, d.before a0 Z = true) (ws : List Jvm.Cond) (w0 w1 : Addr) (kw1 : ClassId) (p3 p4 : Int32) (w5 : Addr) (kw5 : ClassId) (p7 p8 p9 : Int32) (w10 : Addr) (h0 : Heap) (n0 : Nat) (Z0 : n0 ≤ h0.size) (E_w0 : Exa Z h0 w0 oC1) (F_w0_slots : Fld Z h0 w0 oC1 "slots" "[I" (.ref w1)) (F_w0_hashes : Fld Z h0 w0 oC1 "hashes" "[I" (.ref w5)) (F_w0_keys : Fld Z h0 w0 oC1 "keys" "Lcom/example/ordal/ordal/NumberTable$Keys;" (.ref w10)) (F_w0_count : Fld Z h0 w0 oC1 "count" "I" (.int 2)) (F_w0_crowded : Fld Z h0 w0 oC1 "crowded" "Ljava/util/TreeMap;" .null) (g_w0 : n0 ≤ w0) (V_w1 : Arh Z h0 w1 kw1 .int (16 : Int32) [(p3, (.int 2)), (p4, (.int 1))] [] (.int 0)) (g_w1 : n0 ≤ w1) (V_w5 : Arv Z h0 w5 kw5 .int (8 : Int32) [(.int p7), (.int p8), (.int p9)] (.int 0)) (g_w5 : n0 ≤ w5) (ne_w0_w1 : w0 ≠ w1) (ne_w0_w5 : w0 ≠ w5) (ne_w1_w5 : w1 ≠ w5) :
    own_M l Z (⟨"com/example/ordal/ordal/NumberTable", "place", "(I)Z"⟩ : MethodName) prog_9_method_7_code 7 (some .boolean) ws ({ frames := 2, cells := 0, slots := 0, locals := 26 } : Room) #[(.ref w0), (.int 2)] h0 n0 (Q_56 Z w0 w1 kw1 p3 p4 w5 kw5 p7 p8 p9 w10 h0 n0) := by
  refine own_enter' (Q := Q_56 Z w0 w1 kw1 p3 p4 w5 kw5 p7 p8 p9 w10 h0 n0) (F := fun m => mkF m 0 #[.val (.ref w0), .val (.int 2), .unset, .unset, .unset, .unset, .unset] []) (plainFor_of_name pn_3) ?_
  intro p e s m below meth c s₁ B X0
  have K : Keep h0 h0 [w1] := Keep.refl h0 _
  have lt_w0 := E_w0.lt
  have lt_w1 := V_w1.lt
  have lt_w5 := V_w5.lt
  refine own_aloadN (pc' := 1) B X0 d22_0 rfl rfl rfl ?_
  refine own_getfield (pc' := 4) B X0 (host := "") (Or.inl (own_w hw 53 rfl)) Via.refl F_w0_hashes d22_1 rfl ?_
  intro T1 X1
  refine own_iloadN (pc' := 5) B X1 d22_4 rfl rfl ?_
  refine own_iaload (pc' := 6) B X1 V_w5 (v := (.int p9)) ⟨by decide, by decide⟩ rfl d22_5 rfl ?_
  refine own_istoreN (pc' := 7) B X1 (Ls' := #[.val (.ref w0), .val (.int 2), .val (.int p9), .unset, .unset, .unset, .unset]) d22_6 rfl rfl ?_
  refine own_aloadN (pc' := 8) B X1 d22_7 rfl rfl rfl ?_
  refine own_iloadN (pc' := 9) B X1 d22_8 rfl rfl ?_
  refine own_callP (pc' := 12) B X1 (own_w hw 111 rfl) (own_w hw 112 rfl) (own_w hw 113 rfl) (own_w hw 45 rfl) (own_w hw 46 rfl) (own_w hw 114 rfl) E_w0 (by decide) [(.int p9)] [] (rm_43 l Z a0 hw [] w0 w1 kw1 (p3) (p4) (p9) h0 n0 (Nat.le_trans Z0 K.1) E_w0 F_w0_slots g_w0 V_w1 g_w1 ne_w0_w1) 0 (by decide) (by decide) rfl pd_7 rfl rfl (Nat.le_of_eq rfl) d22_9 rfl (k' := 0) (n' := 0) rfl rfl (by decide) (by decide) ?_
  intro T2 v2 h2 X2 q2
  obtain ⟨y3, hy4, rfl, rfl⟩ := q2
  show own_Go p e below (T2.setTop (mkF m 12 #[.val (.ref w0), .val (.int 2), .val (.int p9), .unset, .unset, .unset, .unset] [(.int y3)])) _
  refine own_istoreN (pc' := 13) B X2 (Ls' := #[.val (.ref w0), .val (.int 2), .val (.int p9), .val (.int y3), .unset, .unset, .unset]) d22_12 rfl rfl ?_
  refine own_iconst (pc' := 14) B X2 (z := (0 : Int32)) d22_13 rfl rfl ?_
  refine own_istore (pc' := 16) B X2 (Ls' := #[.val (.ref w0), .val (.int 2), .val (.int p9), .val (.int y3), .val (.int 0), .unset, .unset]) d22_14 rfl rfl ?_
  refine own_iconst (pc' := 17) B X2 (z := (0 : Int32)) d22_16 rfl rfl ?_
  refine own_istore (pc' := 19) B X2 (Ls' := #[.val (.ref w0), .val (.int 2), .val (.int p9), .val (.int y3), .val (.int 0), .val (.int 0), .unset]) d22_17 rfl rfl ?_
  refine own_iload (pc' := 21) B X2 d22_19 rfl rfl ?_
  refine own_bipush (pc' := 23) B X2 (z := (32 : Int32)) d22_21 rfl (by decide) ?_
  refine own_icmpNo (pc' := 26) B X2 d22_23 (tlt (by decide : (0 : Int32) < (32 : Int32))).2.1 rfl ?_
  refine own_iload (pc' := 28) B X2 d22_26 rfl rfl ?_
  refine own_iconst (pc' := 29) B X2 (z := (4 : Int32)) d22_28 rfl rfl ?_
  refine own_icmpNo (pc' := 32) B X2 d22_29 (tlt (by decide : (0 : Int32) < (4 : Int32))).2.1 rfl ?_
  refine own_aloadN (pc' := 33) B X2 d22_32 rfl rfl rfl ?_
  refine own_getfield (pc' := 36) B X2 (host := "") (Or.inl (own_w hw 51 rfl)) Via.refl F_w0_slots d22_33 rfl ?_
  intro T5 X5
  refine own_iloadN (pc' := 37) B X5 d22_36 rfl rfl ?_
  by_cases c8 : y3 = p3
  refine own_ialoadH (pc' := 38) B X5 V_w1 (v := (.int 2)) ⟨(own_slot_ge hy4), (own_slot_lt hy4)⟩ (getH_hit (own_slot_ge hy4) c8) d22_37 rfl ?_
  refine own_iconst (pc' := 39) B X5 (z := (1 : Int32)) d22_38 rfl rfl ?_
  refine own_isub (pc' := 40) B X5 (z := (1 : Int32)) d22_39 rfl (by decide) ?_
  refine own_istore (pc' := 42) B X5 (Ls' := #[.val (.ref w0), .val (.int 2), .val (.int p9), .val (.int y3), .val (.int 0), .val (.int 0), .val (.int 1)]) d22_40 rfl rfl ?_
  refine own_iload (pc' := 44) B X5 d22_42 rfl rfl ?_
  refine own_ifYes (pc' := 58) B X5 d22_44 ((if0 _ _).trans (flt (by decide : ¬ ((1 : Int32) < (0 : Int32)))).2.1) (by decide) rfl ?_
  refine own_aloadN (pc' := 59) B X5 d22_58 rfl rfl rfl ?_
  refine own_getfield (pc' := 62) B X5 (host := "") (Or.inl (own_w hw 53 rfl)) Via.refl F_w0_hashes d22_59 rfl ?_
  intro T9 X9
  refine own_iload (pc' := 64) B X9 d22_62 rfl rfl ?_
  refine own_iaload (pc' := 65) B X9 V_w5 (v := (.int p8)) ⟨by decide, by decide⟩ rfl d22_64 rfl ?_
  refine own_iloadN (pc' := 66) B X9 d22_65 rfl rfl ?_
  by_cases c10 : p8 = p9
  refine own_icmpNo (pc' := 69) B X9 d22_66 (teq c10).2 rfl ?_
  refine own_iinc (pc' := 72) B X9 (Ls' := #[.val (.ref w0), .val (.int 2), .val (.int p9), .val (.int y3), .val (.int 1), .val (.int 0), .val (.int 1)]) d22_69 rfl rfl (z := (1 : Int32)) (by decide) rfl ?_
  refine own_aloadN (pc' := 73) B X9 d22_72 rfl rfl rfl ?_
  refine own_iloadN (pc' := 74) B X9 d22_73 rfl rfl ?_
  refine own_callP (pc' := 77) B X9 (own_w hw 183 rfl) (own_w hw 184 rfl) (own_w hw 185 rfl) (own_w hw 45 rfl) (own_w hw 46 rfl) (own_w hw 186 rfl) E_w0 (by decide) [(.int y3)] [] (rm_48 l Z a0 hw [] w0 w1 kw1 (p3) (p4) (y3) h0 n0 (Nat.le_trans Z0 K.1) E_w0 F_w0_slots g_w0 V_w1 g_w1 ne_w0_w1) 0 (by decide) (by decide) rfl pd_7 rfl rfl (Nat.le_of_eq rfl) d22_74 rfl (k' := 0) (n' := 0) rfl rfl (by decide) (by decide) ?_
  intro T11 v11 h11 X11 q11
  obtain ⟨y12, hy13, rfl, rfl⟩ := q11
  show own_Go p e below (T11.setTop (mkF m 77 #[.val (.ref w0), .val (.int 2), .val (.int p9), .val (.int y3), .val (.int 1), .val (.int 0), .val (.int 1)] [(.int y12)])) _
  refine own_istoreN (pc' := 78) B X11 (Ls' := #[.val (.ref w0), .val (.int 2), .val (.int p9), .val (.int y12), .val (.int 1), .val (.int 0), .val (.int 1)]) d22_77 rfl rfl ?_
  refine own_iinc (pc' := 81) B X11 (Ls' := #[.val (.ref w0), .val (.int 2), .val (.int p9), .val (.int y12), .val (.int 1), .val (.int 1), .val (.int 1)]) d22_78 rfl rfl (z := (1 : Int32)) (by decide) rfl ?_
  refine own_goto (pc' := 19) B X11 d22_81 (by decide) rfl ?_
  refine own_iload (pc' := 21) B X11 d22_19 rfl rfl ?_
  refine own_bipush (pc' := 23) B X11 (z := (32 : Int32)) d22_21 rfl (by decide) ?_
  refine own_icmpNo (pc' := 26) B X11 d22_23 (tlt (by decide : (1 : Int32) < (32 : Int32))).2.1 rfl ?_
  refine own_iload (pc' := 28) B X11 d22_26 rfl rfl ?_
  refine own_iconst (pc' := 29) B X11 (z := (4 : Int32)) d22_28 rfl rfl ?_
  refine own_icmpNo (pc' := 32) B X11 d22_29 (tlt (by decide : (1 : Int32) < (4 : Int32))).2.1 rfl ?_
  refine own_aloadN (pc' := 33) B X11 d22_32 rfl rfl rfl ?_
  refine own_getfield (pc' := 36) B X11 (host := "") (Or.inl (own_w hw 51 rfl)) Via.refl F_w0_slots d22_33 rfl ?_
  intro T14 X14
  refine own_iloadN (pc' := 37) B X14 d22_36 rfl rfl ?_
  have c17 : ¬ (y12 = p3) := by
    exact (ax_6 (F := own_F_slot) (H := own_F_hash) own_next_ne hy4 c8 hy13)
  by_cases c18 : y12 = p4
  refine own_ialoadH (pc' := 38) B X14 V_w1 (v := (.int 1)) ⟨(own_next_ge hy13), (own_next_lt hy13)⟩ (getH_miss (own_next_ge hy13) c17 (getH_hit (own_next_ge hy13) c18)) d22_37 rfl ?_
  refine own_iconst (pc' := 39) B X14 (z := (1 : Int32)) d22_38 rfl rfl ?_
  refine own_isub (pc' := 40) B X14 (z := (0 : Int32)) d22_39 rfl (by decide) ?_
  refine own_istore (pc' := 42) B X14 (Ls' := #[.val (.ref w0), .val (.int 2), .val (.int p9), .val (.int y12), .val (.int 1), .val (.int 1), .val (.int 0)]) d22_40 rfl rfl ?_
  refine own_iload (pc' := 44) B X14 d22_42 rfl rfl ?_
  refine own_ifYes (pc' := 58) B X14 d22_44 ((if0 _ _).trans (flt (by decide : ¬ ((0 : Int32) < (0 : Int32)))).2.1) (by decide) rfl ?_
  refine own_aloadN (pc' := 59) B X14 d22_58 rfl rfl rfl ?_
  refine own_getfield (pc' := 62) B X14 (host := "") (Or.inl (own_w hw 53 rfl)) Via.refl F_w0_hashes d22_59 rfl ?_
  intro T19 X19
  refine own_iload (pc' := 64) B X19 d22_62 rfl rfl ?_
  refine own_iaload (pc' := 65) B X19 V_w5 (v := (.int p7)) ⟨by decide, by decide⟩ rfl d22_64 rfl ?_
  refine own_iloadN (pc' := 66) B X19 d22_65 rfl rfl ?_
  by_cases c20 : p7 = p9
  refine own_icmpNo (pc' := 69) B X19 d22_66 (teq c20).2 rfl ?_
  refine own_iinc (pc' := 72) B X19 (Ls' := #[.val (.ref w0), .val (.int 2), .val (.int p9), .val (.int y12), .val (.int 2), .val (.int 1), .val (.int 0)]) d22_69 rfl rfl (z := (2 : Int32)) (by decide) rfl ?_
  refine own_aloadN (pc' := 73) B X19 d22_72 rfl rfl rfl ?_
  refine own_iloadN (pc' := 74) B X19 d22_73 rfl rfl ?_
  refine own_callP (pc' := 77) B X19 (own_w hw 183 rfl) (own_w hw 184 rfl) (own_w hw 185 rfl) (own_w hw 45 rfl) (own_w hw 46 rfl) (own_w hw 186 rfl) E_w0 (by decide) [(.int y12)] [] (rm_48 l Z a0 hw [] w0 w1 kw1 (p3) (p4) (y12) h0 n0 (Nat.le_trans Z0 K.1) E_w0 F_w0_slots g_w0 V_w1 g_w1 ne_w0_w1) 0 (by decide) (by decide) rfl pd_7 rfl rfl (Nat.le_of_eq rfl) d22_74 rfl (k' := 0) (n' := 0) rfl rfl (by decide) (by decide) ?_
  intro T21 v21 h21 X21 q21
  obtain ⟨y22, hy23, rfl, rfl⟩ := q21
  show own_Go p e below (T21.setTop (mkF m 77 #[.val (.ref w0), .val (.int 2), .val (.int p9), .val (.int y12), .val (.int 2), .val (.int 1), .val (.int 0)] [(.int y22)])) _
  refine own_istoreN (pc' := 78) B X21 (Ls' := #[.val (.ref w0), .val (.int 2), .val (.int p9), .val (.int y22), .val (.int 2), .val (.int 1), .val (.int 0)]) d22_77 rfl rfl ?_
  refine own_iinc (pc' := 81) B X21 (Ls' := #[.val (.ref w0), .val (.int 2), .val (.int p9), .val (.int y22), .val (.int 2), .val (.int 2), .val (.int 0)]) d22_78 rfl rfl (z := (2 : Int32)) (by decide) rfl ?_
  refine own_goto (pc' := 19) B X21 d22_81 (by decide) rfl ?_
  refine own_iload (pc' := 21) B X21 d22_19 rfl rfl ?_
  refine own_bipush (pc' := 23) B X21 (z := (32 : Int32)) d22_21 rfl (by decide) ?_
  refine own_icmpNo (pc' := 26) B X21 d22_23 (tlt (by decide : (2 : Int32) < (32 : Int32))).2.1 rfl ?_
  refine own_iload (pc' := 28) B X21 d22_26 rfl rfl ?_
  refine own_iconst (pc' := 29) B X21 (z := (4 : Int32)) d22_28 rfl rfl ?_
  refine own_icmpNo (pc' := 32) B X21 d22_29 (tlt (by decide : (2 : Int32) < (4 : Int32))).2.1 rfl ?_
  refine own_aloadN (pc' := 33) B X21 d22_32 rfl rfl rfl ?_
  refine own_getfield (pc' := 36) B X21 (host := "") (Or.inl (own_w hw 51 rfl)) Via.refl F_w0_slots d22_33 rfl ?_
  intro T24 X24
  refine own_iloadN (pc' := 37) B X24 d22_36 rfl rfl ?_
  have c27 : ¬ (y22 = p3) := by
    exact (ax_43 (F := own_F_slot) (H := own_F_hash) own_next_ne hy4 c8 hy13 c17 hy23 (own_nn2 hy13 hy23))
  have c28 : ¬ (y22 = p4) := by
    exact (ax_44 (F := own_F_slot) (H := own_F_hash) own_next_ne hy4 hy13 c18 hy23 (own_nn2 hy13 hy23))
  refine own_ialoadH (pc' := 38) B X24 V_w1 (v := (.int 0)) ⟨(own_next_ge hy23), (own_next_lt hy23)⟩ (getH_miss (own_next_ge hy23) c27 (getH_miss (own_next_ge hy23) c28 (getH_all rfl _))) d22_37 rfl ?_
  refine own_iconst (pc' := 39) B X24 (z := (1 : Int32)) d22_38 rfl rfl ?_
  refine own_isub (pc' := 40) B X24 (z := (-1 : Int32)) d22_39 rfl (by decide) ?_
  refine own_istore (pc' := 42) B X24 (Ls' := #[.val (.ref w0), .val (.int 2), .val (.int p9), .val (.int y22), .val (.int 2), .val (.int 2), .val (.int (-1))]) d22_40 rfl rfl ?_
  refine own_iload (pc' := 44) B X24 d22_42 rfl rfl ?_
  refine own_ifNo (pc' := 47) B X24 d22_44 ((if0 _ _).trans (tlt (by decide : (-1 : Int32) < (0 : Int32))).2.1) rfl ?_
  refine own_aloadN (pc' := 48) B X24 d22_47 rfl rfl rfl ?_
  refine own_getfield (pc' := 51) B X24 (host := "") (Or.inl (own_w hw 51 rfl)) Via.refl F_w0_slots d22_48 rfl ?_
  intro T29 X29
  refine own_iloadN (pc' := 52) B X29 d22_51 rfl rfl ?_
  refine own_iloadN (pc' := 53) B X29 d22_52 rfl rfl ?_
  refine own_iconst (pc' := 54) B X29 (z := (1 : Int32)) d22_53 rfl rfl ?_
  refine own_iadd (pc' := 55) B X29 (z := (3 : Int32)) d22_54 rfl (by decide) ?_
  refine own_iastoreH (pc' := 56) B X29 V_w1 g_w1 ⟨(own_next_ge hy23), (own_next_lt hy23)⟩ d22_55 rfl ?_
  intro T32 h32 X32 W32 V_w1
  replace K := K.wr W32 (Or.inl (List.mem_of_getElem? (i := 0) rfl))
  refine own_iconst (pc' := 57) B X32 (z := (1 : Int32)) d22_56 rfl rfl ?_
  exact own_retN B X32 (t := .boolean) (z' := (1 : Int32)) (by simp) (by decide) d22_57 (by decide) (by decide) (⟨rfl, K⟩)
  refine own_icmpYes (pc' := 72) B X19 d22_66 (feq c20).2 (by decide) rfl ?_
  refine own_aloadN (pc' := 73) B X19 d22_72 rfl rfl rfl ?_
  refine own_iloadN (pc' := 74) B X19 d22_73 rfl rfl ?_
  refine own_callP (pc' := 77) B X19 (own_w hw 183 rfl) (own_w hw 184 rfl) (own_w hw 185 rfl) (own_w hw 45 rfl) (own_w hw 46 rfl) (own_w hw 186 rfl) E_w0 (by decide) [(.int y12)] [] (rm_48 l Z a0 hw [] w0 w1 kw1 (p3) (p4) (y12) h0 n0 (Nat.le_trans Z0 K.1) E_w0 F_w0_slots g_w0 V_w1 g_w1 ne_w0_w1) 0 (by decide) (by decide) rfl pd_7 rfl rfl (Nat.le_of_eq rfl) d22_74 rfl (k' := 0) (n' := 0) rfl rfl (by decide) (by decide) ?_
  intro T35 v35 h35 X35 q35
  obtain ⟨y36, hy37, rfl, rfl⟩ := q35
  show own_Go p e below (T35.setTop (mkF m 77 #[.val (.ref w0), .val (.int 2), .val (.int p9), .val (.int y12), .val (.int 1), .val (.int 1), .val (.int 0)] [(.int y36)])) _
  refine own_istoreN (pc' := 78) B X35 (Ls' := #[.val (.ref w0), .val (.int 2), .val (.int p9), .val (.int y36), .val (.int 1), .val (.int 1), .val (.int 0)]) d22_77 rfl rfl ?_
  refine own_iinc (pc' := 81) B X35 (Ls' := #[.val (.ref w0), .val (.int 2), .val (.int p9), .val (.int y36), .val (.int 1), .val (.int 2), .val (.int 0)]) d22_78 rfl rfl (z := (2 : Int32)) (by decide) rfl ?_
  refine own_goto (pc' := 19) B X35 d22_81 (by decide) rfl ?_
  refine own_iload (pc' := 21) B X35 d22_19 rfl rfl ?_
  refine own_bipush (pc' := 23) B X35 (z := (32 : Int32)) d22_21 rfl (by decide) ?_
  refine own_icmpNo (pc' := 26) B X35 d22_23 (tlt (by decide : (2 : Int32) < (32 : Int32))).2.1 rfl ?_
  refine own_iload (pc' := 28) B X35 d22_26 rfl rfl ?_
  refine own_iconst (pc' := 29) B X35 (z := (4 : Int32)) d22_28 rfl rfl ?_
  refine own_icmpNo (pc' := 32) B X35 d22_29 (tlt (by decide : (1 : Int32) < (4 : Int32))).2.1 rfl ?_
  refine own_aloadN (pc' := 33) B X35 d22_32 rfl rfl rfl ?_
  refine own_getfield (pc' := 36) B X35 (host := "") (Or.inl (own_w hw 51 rfl)) Via.refl F_w0_slots d22_33 rfl ?_
  intro T38 X38
  refine own_iloadN (pc' := 37) B X38 d22_36 rfl rfl ?_
  have c41 : ¬ (y36 = p3) := by
    exact (ax_43 (F := own_F_slot) (H := own_F_hash) own_next_ne hy4 c8 hy13 c17 hy37 (own_nn2 hy13 hy37))
  have c42 : ¬ (y36 = p4) := by
    exact (ax_44 (F := own_F_slot) (H := own_F_hash) own_next_ne hy4 hy13 c18 hy37 (own_nn2 hy13 hy37))
  refine own_ialoadH (pc' := 38) B X38 V_w1 (v := (.int 0)) ⟨(own_next_ge hy37), (own_next_lt hy37)⟩ (getH_miss (own_next_ge hy37) c41 (getH_miss (own_next_ge hy37) c42 (getH_all rfl _))) d22_37 rfl ?_
  refine own_iconst (pc' := 39) B X38 (z := (1 : Int32)) d22_38 rfl rfl ?_
  refine own_isub (pc' := 40) B X38 (z := (-1 : Int32)) d22_39 rfl (by decide) ?_
  refine own_istore (pc' := 42) B X38 (Ls' := #[.val (.ref w0), .val (.int 2), .val (.int p9), .val (.int y36), .val (.int 1), .val (.int 2), .val (.int (-1))]) d22_40 rfl rfl ?_
  refine own_iload (pc' := 44) B X38 d22_42 rfl rfl ?_
  refine own_ifNo (pc' := 47) B X38 d22_44 ((if0 _ _).trans (tlt (by decide : (-1 : Int32) < (0 : Int32))).2.1) rfl ?_
  refine own_aloadN (pc' := 48) B X38 d22_47 rfl rfl rfl ?_
  refine own_getfield (pc' := 51) B X38 (host := "") (Or.inl (own_w hw 51 rfl)) Via.refl F_w0_slots d22_48 rfl ?_
  intro T43 X43
  refine own_iloadN (pc' := 52) B X43 d22_51 rfl rfl ?_
  refine own_iloadN (pc' := 53) B X43 d22_52 rfl rfl ?_
  refine own_iconst (pc' := 54) B X43 (z := (1 : Int32)) d22_53 rfl rfl ?_
  refine own_iadd (pc' := 55) B X43 (z := (3 : Int32)) d22_54 rfl (by decide) ?_
  refine own_iastoreH (pc' := 56) B X43 V_w1 g_w1 ⟨(own_next_ge hy37), (own_next_lt hy37)⟩ d22_55 rfl ?_
  intro T46 h46 X46 W46 V_w1
  replace K := K.wr W46 (Or.inl (List.mem_of_getElem? (i := 0) rfl))
  refine own_iconst (pc' := 57) B X46 (z := (1 : Int32)) d22_56 rfl rfl ?_
  exact own_retN B X46 (t := .boolean) (z' := (1 : Int32)) (by simp) (by decide) d22_57 (by decide) (by decide) (⟨rfl, K⟩)
  refine own_ialoadH (pc' := 38) B X14 V_w1 (v := (.int 0)) ⟨(own_next_ge hy13), (own_next_lt hy13)⟩ (getH_miss (own_next_ge hy13) c17 (getH_miss (own_next_ge hy13) c18 (getH_all rfl _))) d22_37 rfl ?_
  refine own_iconst (pc' := 39) B X14 (z := (1 : Int32)) d22_38 rfl rfl ?_
  refine own_isub (pc' := 40) B X14 (z := (-1 : Int32)) d22_39 rfl (by decide) ?_
  refine own_istore (pc' := 42) B X14 (Ls' := #[.val (.ref w0), .val (.int 2), .val (.int p9), .val (.int y12), .val (.int 1), .val (.int 1), .val (.int (-1))]) d22_40 rfl rfl ?_
  refine own_iload (pc' := 44) B X14 d22_42 rfl rfl ?_
  refine own_ifNo (pc' := 47) B X14 d22_44 ((if0 _ _).trans (tlt (by decide : (-1 : Int32) < (0 : Int32))).2.1) rfl ?_
  refine own_aloadN (pc' := 48) B X14 d22_47 rfl rfl rfl ?_
  refine own_getfield (pc' := 51) B X14 (host := "") (Or.inl (own_w hw 51 rfl)) Via.refl F_w0_slots d22_48 rfl ?_
  intro T49 X49
  refine own_iloadN (pc' := 52) B X49 d22_51 rfl rfl ?_
  refine own_iloadN (pc' := 53) B X49 d22_52 rfl rfl ?_
  refine own_iconst (pc' := 54) B X49 (z := (1 : Int32)) d22_53 rfl rfl ?_
  refine own_iadd (pc' := 55) B X49 (z := (3 : Int32)) d22_54 rfl (by decide) ?_
  refine own_iastoreH (pc' := 56) B X49 V_w1 g_w1 ⟨(own_next_ge hy13), (own_next_lt hy13)⟩ d22_55 rfl ?_
  intro T52 h52 X52 W52 V_w1
  replace K := K.wr W52 (Or.inl (List.mem_of_getElem? (i := 0) rfl))
  refine own_iconst (pc' := 57) B X52 (z := (1 : Int32)) d22_56 rfl rfl ?_
  exact own_retN B X52 (t := .boolean) (z' := (1 : Int32)) (by simp) (by decide) d22_57 (by decide) (by decide) (⟨rfl, K⟩)
  refine own_icmpYes (pc' := 72) B X9 d22_66 (feq c10).2 (by decide) rfl ?_
  refine own_aloadN (pc' := 73) B X9 d22_72 rfl rfl rfl ?_
  refine own_iloadN (pc' := 74) B X9 d22_73 rfl rfl ?_
  refine own_callP (pc' := 77) B X9 (own_w hw 183 rfl) (own_w hw 184 rfl) (own_w hw 185 rfl) (own_w hw 45 rfl) (own_w hw 46 rfl) (own_w hw 186 rfl) E_w0 (by decide) [(.int y3)] [] (rm_48 l Z a0 hw [] w0 w1 kw1 (p3) (p4) (y3) h0 n0 (Nat.le_trans Z0 K.1) E_w0 F_w0_slots g_w0 V_w1 g_w1 ne_w0_w1) 0 (by decide) (by decide) rfl pd_7 rfl rfl (Nat.le_of_eq rfl) d22_74 rfl (k' := 0) (n' := 0) rfl rfl (by decide) (by decide) ?_
  intro T55 v55 h55 X55 q55
  obtain ⟨y56, hy57, rfl, rfl⟩ := q55
  show own_Go p e below (T55.setTop (mkF m 77 #[.val (.ref w0), .val (.int 2), .val (.int p9), .val (.int y3), .val (.int 0), .val (.int 0), .val (.int 1)] [(.int y56)])) _
  refine own_istoreN (pc' := 78) B X55 (Ls' := #[.val (.ref w0), .val (.int 2), .val (.int p9), .val (.int y56), .val (.int 0), .val (.int 0), .val (.int 1)]) d22_77 rfl rfl ?_
  refine own_iinc (pc' := 81) B X55 (Ls' := #[.val (.ref w0), .val (.int 2), .val (.int p9), .val (.int y56), .val (.int 0), .val (.int 1), .val (.int 1)]) d22_78 rfl rfl (z := (1 : Int32)) (by decide) rfl ?_
  refine own_goto (pc' := 19) B X55 d22_81 (by decide) rfl ?_
  refine own_iload (pc' := 21) B X55 d22_19 rfl rfl ?_
  refine own_bipush (pc' := 23) B X55 (z := (32 : Int32)) d22_21 rfl (by decide) ?_
  refine own_icmpNo (pc' := 26) B X55 d22_23 (tlt (by decide : (1 : Int32) < (32 : Int32))).2.1 rfl ?_
  refine own_iload (pc' := 28) B X55 d22_26 rfl rfl ?_
  refine own_iconst (pc' := 29) B X55 (z := (4 : Int32)) d22_28 rfl rfl ?_
  refine own_icmpNo (pc' := 32) B X55 d22_29 (tlt (by decide : (0 : Int32) < (4 : Int32))).2.1 rfl ?_
  refine own_aloadN (pc' := 33) B X55 d22_32 rfl rfl rfl ?_
  refine own_getfield (pc' := 36) B X55 (host := "") (Or.inl (own_w hw 51 rfl)) Via.refl F_w0_slots d22_33 rfl ?_
  intro T58 X58
  refine own_iloadN (pc' := 37) B X58 d22_36 rfl rfl ?_
  have c61 : ¬ (y56 = p3) := by
    exact (ax_6 (F := own_F_slot) (H := own_F_hash) own_next_ne hy4 c8 hy57)
  by_cases c62 : y56 = p4
  refine own_ialoadH (pc' := 38) B X58 V_w1 (v := (.int 1)) ⟨(own_next_ge hy57), (own_next_lt hy57)⟩ (getH_miss (own_next_ge hy57) c61 (getH_hit (own_next_ge hy57) c62)) d22_37 rfl ?_
  refine own_iconst (pc' := 39) B X58 (z := (1 : Int32)) d22_38 rfl rfl ?_
  refine own_isub (pc' := 40) B X58 (z := (0 : Int32)) d22_39 rfl (by decide) ?_
  refine own_istore (pc' := 42) B X58 (Ls' := #[.val (.ref w0), .val (.int 2), .val (.int p9), .val (.int y56), .val (.int 0), .val (.int 1), .val (.int 0)]) d22_40 rfl rfl ?_
  refine own_iload (pc' := 44) B X58 d22_42 rfl rfl ?_
  refine own_ifYes (pc' := 58) B X58 d22_44 ((if0 _ _).trans (flt (by decide : ¬ ((0 : Int32) < (0 : Int32)))).2.1) (by decide) rfl ?_
  refine own_aloadN (pc' := 59) B X58 d22_58 rfl rfl rfl ?_
  refine own_getfield (pc' := 62) B X58 (host := "") (Or.inl (own_w hw 53 rfl)) Via.refl F_w0_hashes d22_59 rfl ?_
  intro T63 X63
  refine own_iload (pc' := 64) B X63 d22_62 rfl rfl ?_
  refine own_iaload (pc' := 65) B X63 V_w5 (v := (.int p7)) ⟨by decide, by decide⟩ rfl d22_64 rfl ?_
  refine own_iloadN (pc' := 66) B X63 d22_65 rfl rfl ?_
  by_cases c64 : p7 = p9
  refine own_icmpNo (pc' := 69) B X63 d22_66 (teq c64).2 rfl ?_
  refine own_iinc (pc' := 72) B X63 (Ls' := #[.val (.ref w0), .val (.int 2), .val (.int p9), .val (.int y56), .val (.int 1), .val (.int 1), .val (.int 0)]) d22_69 rfl rfl (z := (1 : Int32)) (by decide) rfl ?_
  refine own_aloadN (pc' := 73) B X63 d22_72 rfl rfl rfl ?_
  refine own_iloadN (pc' := 74) B X63 d22_73 rfl rfl ?_
  refine own_callP (pc' := 77) B X63 (own_w hw 183 rfl) (own_w hw 184 rfl) (own_w hw 185 rfl) (own_w hw 45 rfl) (own_w hw 46 rfl) (own_w hw 186 rfl) E_w0 (by decide) [(.int y56)] [] (rm_48 l Z a0 hw [] w0 w1 kw1 (p3) (p4) (y56) h0 n0 (Nat.le_trans Z0 K.1) E_w0 F_w0_slots g_w0 V_w1 g_w1 ne_w0_w1) 0 (by decide) (by decide) rfl pd_7 rfl rfl (Nat.le_of_eq rfl) d22_74 rfl (k' := 0) (n' := 0) rfl rfl (by decide) (by decide) ?_
  intro T65 v65 h65 X65 q65
  obtain ⟨y66, hy67, rfl, rfl⟩ := q65
  show own_Go p e below (T65.setTop (mkF m 77 #[.val (.ref w0), .val (.int 2), .val (.int p9), .val (.int y56), .val (.int 1), .val (.int 1), .val (.int 0)] [(.int y66)])) _
  refine own_istoreN (pc' := 78) B X65 (Ls' := #[.val (.ref w0), .val (.int 2), .val (.int p9), .val (.int y66), .val (.int 1), .val (.int 1), .val (.int 0)]) d22_77 rfl rfl ?_
  refine own_iinc (pc' := 81) B X65 (Ls' := #[.val (.ref w0), .val (.int 2), .val (.int p9), .val (.int y66), .val (.int 1), .val (.int 2), .val (.int 0)]) d22_78 rfl rfl (z := (2 : Int32)) (by decide) rfl ?_
  refine own_goto (pc' := 19) B X65 d22_81 (by decide) rfl ?_
  refine own_iload (pc' := 21) B X65 d22_19 rfl rfl ?_
  refine own_bipush (pc' := 23) B X65 (z := (32 : Int32)) d22_21 rfl (by decide) ?_
  refine own_icmpNo (pc' := 26) B X65 d22_23 (tlt (by decide : (2 : Int32) < (32 : Int32))).2.1 rfl ?_
  refine own_iload (pc' := 28) B X65 d22_26 rfl rfl ?_
  refine own_iconst (pc' := 29) B X65 (z := (4 : Int32)) d22_28 rfl rfl ?_
  refine own_icmpNo (pc' := 32) B X65 d22_29 (tlt (by decide : (1 : Int32) < (4 : Int32))).2.1 rfl ?_
  refine own_aloadN (pc' := 33) B X65 d22_32 rfl rfl rfl ?_
  refine own_getfield (pc' := 36) B X65 (host := "") (Or.inl (own_w hw 51 rfl)) Via.refl F_w0_slots d22_33 rfl ?_
  intro T68 X68
  refine own_iloadN (pc' := 37) B X68 d22_36 rfl rfl ?_
  have c71 : ¬ (y66 = p3) := by
    exact (ax_43 (F := own_F_slot) (H := own_F_hash) own_next_ne hy4 c8 hy57 c61 hy67 (own_nn2 hy57 hy67))
  have c72 : ¬ (y66 = p4) := by
    exact (ax_44 (F := own_F_slot) (H := own_F_hash) own_next_ne hy4 hy57 c62 hy67 (own_nn2 hy57 hy67))
  refine own_ialoadH (pc' := 38) B X68 V_w1 (v := (.int 0)) ⟨(own_next_ge hy67), (own_next_lt hy67)⟩ (getH_miss (own_next_ge hy67) c71 (getH_miss (own_next_ge hy67) c72 (getH_all rfl _))) d22_37 rfl ?_
  refine own_iconst (pc' := 39) B X68 (z := (1 : Int32)) d22_38 rfl rfl ?_
  refine own_isub (pc' := 40) B X68 (z := (-1 : Int32)) d22_39 rfl (by decide) ?_
  refine own_istore (pc' := 42) B X68 (Ls' := #[.val (.ref w0), .val (.int 2), .val (.int p9), .val (.int y66), .val (.int 1), .val (.int 2), .val (.int (-1))]) d22_40 rfl rfl ?_
  refine own_iload (pc' := 44) B X68 d22_42 rfl rfl ?_
  refine own_ifNo (pc' := 47) B X68 d22_44 ((if0 _ _).trans (tlt (by decide : (-1 : Int32) < (0 : Int32))).2.1) rfl ?_
  refine own_aloadN (pc' := 48) B X68 d22_47 rfl rfl rfl ?_
  refine own_getfield (pc' := 51) B X68 (host := "") (Or.inl (own_w hw 51 rfl)) Via.refl F_w0_slots d22_48 rfl ?_
  intro T73 X73
  refine own_iloadN (pc' := 52) B X73 d22_51 rfl rfl ?_
  refine own_iloadN (pc' := 53) B X73 d22_52 rfl rfl ?_
  refine own_iconst (pc' := 54) B X73 (z := (1 : Int32)) d22_53 rfl rfl ?_
  refine own_iadd (pc' := 55) B X73 (z := (3 : Int32)) d22_54 rfl (by decide) ?_
  refine own_iastoreH (pc' := 56) B X73 V_w1 g_w1 ⟨(own_next_ge hy67), (own_next_lt hy67)⟩ d22_55 rfl ?_
  intro T76 h76 X76 W76 V_w1
  replace K := K.wr W76 (Or.inl (List.mem_of_getElem? (i := 0) rfl))
  refine own_iconst (pc' := 57) B X76 (z := (1 : Int32)) d22_56 rfl rfl ?_
  exact own_retN B X76 (t := .boolean) (z' := (1 : Int32)) (by simp) (by decide) d22_57 (by decide) (by decide) (⟨rfl, K⟩)
  refine own_icmpYes (pc' := 72) B X63 d22_66 (feq c64).2 (by decide) rfl ?_
  refine own_aloadN (pc' := 73) B X63 d22_72 rfl rfl rfl ?_
  refine own_iloadN (pc' := 74) B X63 d22_73 rfl rfl ?_
  refine own_callP (pc' := 77) B X63 (own_w hw 183 rfl) (own_w hw 184 rfl) (own_w hw 185 rfl) (own_w hw 45 rfl) (own_w hw 46 rfl) (own_w hw 186 rfl) E_w0 (by decide) [(.int y56)] [] (rm_48 l Z a0 hw [] w0 w1 kw1 (p3) (p4) (y56) h0 n0 (Nat.le_trans Z0 K.1) E_w0 F_w0_slots g_w0 V_w1 g_w1 ne_w0_w1) 0 (by decide) (by decide) rfl pd_7 rfl rfl (Nat.le_of_eq rfl) d22_74 rfl (k' := 0) (n' := 0) rfl rfl (by decide) (by decide) ?_
  intro T79 v79 h79 X79 q79
  obtain ⟨y80, hy81, rfl, rfl⟩ := q79
  show own_Go p e below (T79.setTop (mkF m 77 #[.val (.ref w0), .val (.int 2), .val (.int p9), .val (.int y56), .val (.int 0), .val (.int 1), .val (.int 0)] [(.int y80)])) _
  refine own_istoreN (pc' := 78) B X79 (Ls' := #[.val (.ref w0), .val (.int 2), .val (.int p9), .val (.int y80), .val (.int 0), .val (.int 1), .val (.int 0)]) d22_77 rfl rfl ?_
  refine own_iinc (pc' := 81) B X79 (Ls' := #[.val (.ref w0), .val (.int 2), .val (.int p9), .val (.int y80), .val (.int 0), .val (.int 2), .val (.int 0)]) d22_78 rfl rfl (z := (2 : Int32)) (by decide) rfl ?_
  refine own_goto (pc' := 19) B X79 d22_81 (by decide) rfl ?_
  refine own_iload (pc' := 21) B X79 d22_19 rfl rfl ?_
  refine own_bipush (pc' := 23) B X79 (z := (32 : Int32)) d22_21 rfl (by decide) ?_
  refine own_icmpNo (pc' := 26) B X79 d22_23 (tlt (by decide : (2 : Int32) < (32 : Int32))).2.1 rfl ?_
  refine own_iload (pc' := 28) B X79 d22_26 rfl rfl ?_
  refine own_iconst (pc' := 29) B X79 (z := (4 : Int32)) d22_28 rfl rfl ?_
  refine own_icmpNo (pc' := 32) B X79 d22_29 (tlt (by decide : (0 : Int32) < (4 : Int32))).2.1 rfl ?_
  refine own_aloadN (pc' := 33) B X79 d22_32 rfl rfl rfl ?_
  refine own_getfield (pc' := 36) B X79 (host := "") (Or.inl (own_w hw 51 rfl)) Via.refl F_w0_slots d22_33 rfl ?_
  intro T82 X82
  refine own_iloadN (pc' := 37) B X82 d22_36 rfl rfl ?_
  have c85 : ¬ (y80 = p3) := by
    exact (ax_43 (F := own_F_slot) (H := own_F_hash) own_next_ne hy4 c8 hy57 c61 hy81 (own_nn2 hy57 hy81))
  have c86 : ¬ (y80 = p4) := by
    exact (ax_44 (F := own_F_slot) (H := own_F_hash) own_next_ne hy4 hy57 c62 hy81 (own_nn2 hy57 hy81))
  refine own_ialoadH (pc' := 38) B X82 V_w1 (v := (.int 0)) ⟨(own_next_ge hy81), (own_next_lt hy81)⟩ (getH_miss (own_next_ge hy81) c85 (getH_miss (own_next_ge hy81) c86 (getH_all rfl _))) d22_37 rfl ?_
  refine own_iconst (pc' := 39) B X82 (z := (1 : Int32)) d22_38 rfl rfl ?_
  refine own_isub (pc' := 40) B X82 (z := (-1 : Int32)) d22_39 rfl (by decide) ?_
  refine own_istore (pc' := 42) B X82 (Ls' := #[.val (.ref w0), .val (.int 2), .val (.int p9), .val (.int y80), .val (.int 0), .val (.int 2), .val (.int (-1))]) d22_40 rfl rfl ?_
  refine own_iload (pc' := 44) B X82 d22_42 rfl rfl ?_
  refine own_ifNo (pc' := 47) B X82 d22_44 ((if0 _ _).trans (tlt (by decide : (-1 : Int32) < (0 : Int32))).2.1) rfl ?_
  refine own_aloadN (pc' := 48) B X82 d22_47 rfl rfl rfl ?_
  refine own_getfield (pc' := 51) B X82 (host := "") (Or.inl (own_w hw 51 rfl)) Via.refl F_w0_slots d22_48 rfl ?_
  intro T87 X87
  refine own_iloadN (pc' := 52) B X87 d22_51 rfl rfl ?_
  refine own_iloadN (pc' := 53) B X87 d22_52 rfl rfl ?_
  refine own_iconst (pc' := 54) B X87 (z := (1 : Int32)) d22_53 rfl rfl ?_
  refine own_iadd (pc' := 55) B X87 (z := (3 : Int32)) d22_54 rfl (by decide) ?_
  refine own_iastoreH (pc' := 56) B X87 V_w1 g_w1 ⟨(own_next_ge hy81), (own_next_lt hy81)⟩ d22_55 rfl ?_
  intro T90 h90 X90 W90 V_w1
  replace K := K.wr W90 (Or.inl (List.mem_of_getElem? (i := 0) rfl))
  refine own_iconst (pc' := 57) B X90 (z := (1 : Int32)) d22_56 rfl rfl ?_
  exact own_retN B X90 (t := .boolean) (z' := (1 : Int32)) (by simp) (by decide) d22_57 (by decide) (by decide) (⟨rfl, K⟩)
  refine own_ialoadH (pc' := 38) B X58 V_w1 (v := (.int 0)) ⟨(own_next_ge hy57), (own_next_lt hy57)⟩ (getH_miss (own_next_ge hy57) c61 (getH_miss (own_next_ge hy57) c62 (getH_all rfl _))) d22_37 rfl ?_
  refine own_iconst (pc' := 39) B X58 (z := (1 : Int32)) d22_38 rfl rfl ?_
  refine own_isub (pc' := 40) B X58 (z := (-1 : Int32)) d22_39 rfl (by decide) ?_
  refine own_istore (pc' := 42) B X58 (Ls' := #[.val (.ref w0), .val (.int 2), .val (.int p9), .val (.int y56), .val (.int 0), .val (.int 1), .val (.int (-1))]) d22_40 rfl rfl ?_
  refine own_iload (pc' := 44) B X58 d22_42 rfl rfl ?_
  refine own_ifNo (pc' := 47) B X58 d22_44 ((if0 _ _).trans (tlt (by decide : (-1 : Int32) < (0 : Int32))).2.1) rfl ?_
  refine own_aloadN (pc' := 48) B X58 d22_47 rfl rfl rfl ?_
  refine own_getfield (pc' := 51) B X58 (host := "") (Or.inl (own_w hw 51 rfl)) Via.refl F_w0_slots d22_48 rfl ?_
  intro T93 X93
  refine own_iloadN (pc' := 52) B X93 d22_51 rfl rfl ?_
  refine own_iloadN (pc' := 53) B X93 d22_52 rfl rfl ?_
  refine own_iconst (pc' := 54) B X93 (z := (1 : Int32)) d22_53 rfl rfl ?_
  refine own_iadd (pc' := 55) B X93 (z := (3 : Int32)) d22_54 rfl (by decide) ?_
  refine own_iastoreH (pc' := 56) B X93 V_w1 g_w1 ⟨(own_next_ge hy57), (own_next_lt hy57)⟩ d22_55 rfl ?_
  intro T96 h96 X96 W96 V_w1
  replace K := K.wr W96 (Or.inl (List.mem_of_getElem? (i := 0) rfl))
  refine own_iconst (pc' := 57) B X96 (z := (1 : Int32)) d22_56 rfl rfl ?_
  exact own_retN B X96 (t := .boolean) (z' := (1 : Int32)) (by simp) (by decide) d22_57 (by decide) (by decide) (⟨rfl, K⟩)
  by_cases c99 : y3 = p4
  refine own_ialoadH (pc' := 38) B X5 V_w1 (v := (.int 1)) ⟨(own_slot_ge hy4), (own_slot_lt hy4)⟩ (getH_miss (own_slot_ge hy4) c8 (getH_hit (own_slot_ge hy4) c99)) d22_37 rfl ?_
  refine own_iconst (pc' := 39) B X5 (z := (1 : Int32)) d22_38 rfl rfl ?_
  refine own_isub (pc' := 40) B X5 (z := (0 : Int32)) d22_39 rfl (by decide) ?_
  refine own_istore (pc' := 42) B X5 (Ls' := #[.val (.ref w0), .val (.int 2), .val (.int p9), .val (.int y3), .val (.int 0), .val (.int 0), .val (.int 0)]) d22_40 rfl rfl ?_
  refine own_iload (pc' := 44) B X5 d22_42 rfl rfl ?_
  refine own_ifYes (pc' := 58) B X5 d22_44 ((if0 _ _).trans (flt (by decide : ¬ ((0 : Int32) < (0 : Int32)))).2.1) (by decide) rfl ?_
  refine own_aloadN (pc' := 59) B X5 d22_58 rfl rfl rfl ?_
  refine own_getfield (pc' := 62) B X5 (host := "") (Or.inl (own_w hw 53 rfl)) Via.refl F_w0_hashes d22_59 rfl ?_
  intro T100 X100
  refine own_iload (pc' := 64) B X100 d22_62 rfl rfl ?_
  refine own_iaload (pc' := 65) B X100 V_w5 (v := (.int p7)) ⟨by decide, by decide⟩ rfl d22_64 rfl ?_
  refine own_iloadN (pc' := 66) B X100 d22_65 rfl rfl ?_
  by_cases c101 : p7 = p9
  refine own_icmpNo (pc' := 69) B X100 d22_66 (teq c101).2 rfl ?_
  refine own_iinc (pc' := 72) B X100 (Ls' := #[.val (.ref w0), .val (.int 2), .val (.int p9), .val (.int y3), .val (.int 1), .val (.int 0), .val (.int 0)]) d22_69 rfl rfl (z := (1 : Int32)) (by decide) rfl ?_
  refine own_aloadN (pc' := 73) B X100 d22_72 rfl rfl rfl ?_
  refine own_iloadN (pc' := 74) B X100 d22_73 rfl rfl ?_
  refine own_callP (pc' := 77) B X100 (own_w hw 183 rfl) (own_w hw 184 rfl) (own_w hw 185 rfl) (own_w hw 45 rfl) (own_w hw 46 rfl) (own_w hw 186 rfl) E_w0 (by decide) [(.int y3)] [] (rm_48 l Z a0 hw [] w0 w1 kw1 (p3) (p4) (y3) h0 n0 (Nat.le_trans Z0 K.1) E_w0 F_w0_slots g_w0 V_w1 g_w1 ne_w0_w1) 0 (by decide) (by decide) rfl pd_7 rfl rfl (Nat.le_of_eq rfl) d22_74 rfl (k' := 0) (n' := 0) rfl rfl (by decide) (by decide) ?_
  intro T102 v102 h102 X102 q102
  obtain ⟨y103, hy104, rfl, rfl⟩ := q102
  show own_Go p e below (T102.setTop (mkF m 77 #[.val (.ref w0), .val (.int 2), .val (.int p9), .val (.int y3), .val (.int 1), .val (.int 0), .val (.int 0)] [(.int y103)])) _
  refine own_istoreN (pc' := 78) B X102 (Ls' := #[.val (.ref w0), .val (.int 2), .val (.int p9), .val (.int y103), .val (.int 1), .val (.int 0), .val (.int 0)]) d22_77 rfl rfl ?_
  refine own_iinc (pc' := 81) B X102 (Ls' := #[.val (.ref w0), .val (.int 2), .val (.int p9), .val (.int y103), .val (.int 1), .val (.int 1), .val (.int 0)]) d22_78 rfl rfl (z := (1 : Int32)) (by decide) rfl ?_
  refine own_goto (pc' := 19) B X102 d22_81 (by decide) rfl ?_
  refine own_iload (pc' := 21) B X102 d22_19 rfl rfl ?_
  refine own_bipush (pc' := 23) B X102 (z := (32 : Int32)) d22_21 rfl (by decide) ?_
  refine own_icmpNo (pc' := 26) B X102 d22_23 (tlt (by decide : (1 : Int32) < (32 : Int32))).2.1 rfl ?_
  refine own_iload (pc' := 28) B X102 d22_26 rfl rfl ?_
  refine own_iconst (pc' := 29) B X102 (z := (4 : Int32)) d22_28 rfl rfl ?_
  refine own_icmpNo (pc' := 32) B X102 d22_29 (tlt (by decide : (1 : Int32) < (4 : Int32))).2.1 rfl ?_
  refine own_aloadN (pc' := 33) B X102 d22_32 rfl rfl rfl ?_
  refine own_getfield (pc' := 36) B X102 (host := "") (Or.inl (own_w hw 51 rfl)) Via.refl F_w0_slots d22_33 rfl ?_
  intro T105 X105
  refine own_iloadN (pc' := 37) B X105 d22_36 rfl rfl ?_
  by_cases c108 : y103 = p3
  refine own_ialoadH (pc' := 38) B X105 V_w1 (v := (.int 2)) ⟨(own_next_ge hy104), (own_next_lt hy104)⟩ (getH_hit (own_next_ge hy104) c108) d22_37 rfl ?_
  refine own_iconst (pc' := 39) B X105 (z := (1 : Int32)) d22_38 rfl rfl ?_
  refine own_isub (pc' := 40) B X105 (z := (1 : Int32)) d22_39 rfl (by decide) ?_
  refine own_istore (pc' := 42) B X105 (Ls' := #[.val (.ref w0), .val (.int 2), .val (.int p9), .val (.int y103), .val (.int 1), .val (.int 1), .val (.int 1)]) d22_40 rfl rfl ?_
  refine own_iload (pc' := 44) B X105 d22_42 rfl rfl ?_
  refine own_ifYes (pc' := 58) B X105 d22_44 ((if0 _ _).trans (flt (by decide : ¬ ((1 : Int32) < (0 : Int32)))).2.1) (by decide) rfl ?_
  refine own_aloadN (pc' := 59) B X105 d22_58 rfl rfl rfl ?_
  refine own_getfield (pc' := 62) B X105 (host := "") (Or.inl (own_w hw 53 rfl)) Via.refl F_w0_hashes d22_59 rfl ?_
  intro T109 X109
  refine own_iload (pc' := 64) B X109 d22_62 rfl rfl ?_
  refine own_iaload (pc' := 65) B X109 V_w5 (v := (.int p8)) ⟨by decide, by decide⟩ rfl d22_64 rfl ?_
  refine own_iloadN (pc' := 66) B X109 d22_65 rfl rfl ?_
  by_cases c110 : p8 = p9
  refine own_icmpNo (pc' := 69) B X109 d22_66 (teq c110).2 rfl ?_
  refine own_iinc (pc' := 72) B X109 (Ls' := #[.val (.ref w0), .val (.int 2), .val (.int p9), .val (.int y103), .val (.int 2), .val (.int 1), .val (.int 1)]) d22_69 rfl rfl (z := (2 : Int32)) (by decide) rfl ?_
  refine own_aloadN (pc' := 73) B X109 d22_72 rfl rfl rfl ?_
  refine own_iloadN (pc' := 74) B X109 d22_73 rfl rfl ?_
  refine own_callP (pc' := 77) B X109 (own_w hw 183 rfl) (own_w hw 184 rfl) (own_w hw 185 rfl) (own_w hw 45 rfl) (own_w hw 46 rfl) (own_w hw 186 rfl) E_w0 (by decide) [(.int y103)] [] (rm_48 l Z a0 hw [] w0 w1 kw1 (p3) (p4) (y103) h0 n0 (Nat.le_trans Z0 K.1) E_w0 F_w0_slots g_w0 V_w1 g_w1 ne_w0_w1) 0 (by decide) (by decide) rfl pd_7 rfl rfl (Nat.le_of_eq rfl) d22_74 rfl (k' := 0) (n' := 0) rfl rfl (by decide) (by decide) ?_
  intro T111 v111 h111 X111 q111
  obtain ⟨y112, hy113, rfl, rfl⟩ := q111
  show own_Go p e below (T111.setTop (mkF m 77 #[.val (.ref w0), .val (.int 2), .val (.int p9), .val (.int y103), .val (.int 2), .val (.int 1), .val (.int 1)] [(.int y112)])) _
  refine own_istoreN (pc' := 78) B X111 (Ls' := #[.val (.ref w0), .val (.int 2), .val (.int p9), .val (.int y112), .val (.int 2), .val (.int 1), .val (.int 1)]) d22_77 rfl rfl ?_
  refine own_iinc (pc' := 81) B X111 (Ls' := #[.val (.ref w0), .val (.int 2), .val (.int p9), .val (.int y112), .val (.int 2), .val (.int 2), .val (.int 1)]) d22_78 rfl rfl (z := (2 : Int32)) (by decide) rfl ?_
  refine own_goto (pc' := 19) B X111 d22_81 (by decide) rfl ?_
  refine own_iload (pc' := 21) B X111 d22_19 rfl rfl ?_
  refine own_bipush (pc' := 23) B X111 (z := (32 : Int32)) d22_21 rfl (by decide) ?_
  refine own_icmpNo (pc' := 26) B X111 d22_23 (tlt (by decide : (2 : Int32) < (32 : Int32))).2.1 rfl ?_
  refine own_iload (pc' := 28) B X111 d22_26 rfl rfl ?_
  refine own_iconst (pc' := 29) B X111 (z := (4 : Int32)) d22_28 rfl rfl ?_
  refine own_icmpNo (pc' := 32) B X111 d22_29 (tlt (by decide : (2 : Int32) < (4 : Int32))).2.1 rfl ?_
  refine own_aloadN (pc' := 33) B X111 d22_32 rfl rfl rfl ?_
  refine own_getfield (pc' := 36) B X111 (host := "") (Or.inl (own_w hw 51 rfl)) Via.refl F_w0_slots d22_33 rfl ?_
  intro T114 X114
  refine own_iloadN (pc' := 37) B X114 d22_36 rfl rfl ?_
  have c117 : ¬ (y112 = p3) := by
    exact (ax_45 (F := own_F_slot) (H := own_F_hash) own_next_ne hy4 c8 hy104 c108 hy113 (own_nn2 hy104 hy113))
  have c118 : ¬ (y112 = p4) := by
    exact (ax_46 (F := own_F_slot) (H := own_F_hash) own_next_ne hy4 c99 hy104 hy113 (own_nn2 hy104 hy113))
  refine own_ialoadH (pc' := 38) B X114 V_w1 (v := (.int 0)) ⟨(own_next_ge hy113), (own_next_lt hy113)⟩ (getH_miss (own_next_ge hy113) c117 (getH_miss (own_next_ge hy113) c118 (getH_all rfl _))) d22_37 rfl ?_
  refine own_iconst (pc' := 39) B X114 (z := (1 : Int32)) d22_38 rfl rfl ?_
  refine own_isub (pc' := 40) B X114 (z := (-1 : Int32)) d22_39 rfl (by decide) ?_
  refine own_istore (pc' := 42) B X114 (Ls' := #[.val (.ref w0), .val (.int 2), .val (.int p9), .val (.int y112), .val (.int 2), .val (.int 2), .val (.int (-1))]) d22_40 rfl rfl ?_
  refine own_iload (pc' := 44) B X114 d22_42 rfl rfl ?_
  refine own_ifNo (pc' := 47) B X114 d22_44 ((if0 _ _).trans (tlt (by decide : (-1 : Int32) < (0 : Int32))).2.1) rfl ?_
  refine own_aloadN (pc' := 48) B X114 d22_47 rfl rfl rfl ?_
  refine own_getfield (pc' := 51) B X114 (host := "") (Or.inl (own_w hw 51 rfl)) Via.refl F_w0_slots d22_48 rfl ?_
  intro T119 X119
  refine own_iloadN (pc' := 52) B X119 d22_51 rfl rfl ?_
  refine own_iloadN (pc' := 53) B X119 d22_52 rfl rfl ?_
  refine own_iconst (pc' := 54) B X119 (z := (1 : Int32)) d22_53 rfl rfl ?_
  refine own_iadd (pc' := 55) B X119 (z := (3 : Int32)) d22_54 rfl (by decide) ?_
  refine own_iastoreH (pc' := 56) B X119 V_w1 g_w1 ⟨(own_next_ge hy113), (own_next_lt hy113)⟩ d22_55 rfl ?_
  intro T122 h122 X122 W122 V_w1
  replace K := K.wr W122 (Or.inl (List.mem_of_getElem? (i := 0) rfl))
  refine own_iconst (pc' := 57) B X122 (z := (1 : Int32)) d22_56 rfl rfl ?_
  exact own_retN B X122 (t := .boolean) (z' := (1 : Int32)) (by simp) (by decide) d22_57 (by decide) (by decide) (⟨rfl, K⟩)
  refine own_icmpYes (pc' := 72) B X109 d22_66 (feq c110).2 (by decide) rfl ?_
  refine own_aloadN (pc' := 73) B X109 d22_72 rfl rfl rfl ?_
  refine own_iloadN (pc' := 74) B X109 d22_73 rfl rfl ?_
  refine own_callP (pc' := 77) B X109 (own_w hw 183 rfl) (own_w hw 184 rfl) (own_w hw 185 rfl) (own_w hw 45 rfl) (own_w hw 46 rfl) (own_w hw 186 rfl) E_w0 (by decide) [(.int y103)] [] (rm_48 l Z a0 hw [] w0 w1 kw1 (p3) (p4) (y103) h0 n0 (Nat.le_trans Z0 K.1) E_w0 F_w0_slots g_w0 V_w1 g_w1 ne_w0_w1) 0 (by decide) (by decide) rfl pd_7 rfl rfl (Nat.le_of_eq rfl) d22_74 rfl (k' := 0) (n' := 0) rfl rfl (by decide) (by decide) ?_
  intro T125 v125 h125 X125 q125
  obtain ⟨y126, hy127, rfl, rfl⟩ := q125
  show own_Go p e below (T125.setTop (mkF m 77 #[.val (.ref w0), .val (.int 2), .val (.int p9), .val (.int y103), .val (.int 1), .val (.int 1), .val (.int 1)] [(.int y126)])) _
  refine own_istoreN (pc' := 78) B X125 (Ls' := #[.val (.ref w0), .val (.int 2), .val (.int p9), .val (.int y126), .val (.int 1), .val (.int 1), .val (.int 1)]) d22_77 rfl rfl ?_
  refine own_iinc (pc' := 81) B X125 (Ls' := #[.val (.ref w0), .val (.int 2), .val (.int p9), .val (.int y126), .val (.int 1), .val (.int 2), .val (.int 1)]) d22_78 rfl rfl (z := (2 : Int32)) (by decide) rfl ?_
  refine own_goto (pc' := 19) B X125 d22_81 (by decide) rfl ?_
  refine own_iload (pc' := 21) B X125 d22_19 rfl rfl ?_
  refine own_bipush (pc' := 23) B X125 (z := (32 : Int32)) d22_21 rfl (by decide) ?_
  refine own_icmpNo (pc' := 26) B X125 d22_23 (tlt (by decide : (2 : Int32) < (32 : Int32))).2.1 rfl ?_
  refine own_iload (pc' := 28) B X125 d22_26 rfl rfl ?_
  refine own_iconst (pc' := 29) B X125 (z := (4 : Int32)) d22_28 rfl rfl ?_
  refine own_icmpNo (pc' := 32) B X125 d22_29 (tlt (by decide : (1 : Int32) < (4 : Int32))).2.1 rfl ?_
  refine own_aloadN (pc' := 33) B X125 d22_32 rfl rfl rfl ?_
  refine own_getfield (pc' := 36) B X125 (host := "") (Or.inl (own_w hw 51 rfl)) Via.refl F_w0_slots d22_33 rfl ?_
  intro T128 X128
  refine own_iloadN (pc' := 37) B X128 d22_36 rfl rfl ?_
  have c131 : ¬ (y126 = p3) := by
    exact (ax_45 (F := own_F_slot) (H := own_F_hash) own_next_ne hy4 c8 hy104 c108 hy127 (own_nn2 hy104 hy127))
  have c132 : ¬ (y126 = p4) := by
    exact (ax_46 (F := own_F_slot) (H := own_F_hash) own_next_ne hy4 c99 hy104 hy127 (own_nn2 hy104 hy127))
  refine own_ialoadH (pc' := 38) B X128 V_w1 (v := (.int 0)) ⟨(own_next_ge hy127), (own_next_lt hy127)⟩ (getH_miss (own_next_ge hy127) c131 (getH_miss (own_next_ge hy127) c132 (getH_all rfl _))) d22_37 rfl ?_
  refine own_iconst (pc' := 39) B X128 (z := (1 : Int32)) d22_38 rfl rfl ?_
  refine own_isub (pc' := 40) B X128 (z := (-1 : Int32)) d22_39 rfl (by decide) ?_
  refine own_istore (pc' := 42) B X128 (Ls' := #[.val (.ref w0), .val (.int 2), .val (.int p9), .val (.int y126), .val (.int 1), .val (.int 2), .val (.int (-1))]) d22_40 rfl rfl ?_
  refine own_iload (pc' := 44) B X128 d22_42 rfl rfl ?_
  refine own_ifNo (pc' := 47) B X128 d22_44 ((if0 _ _).trans (tlt (by decide : (-1 : Int32) < (0 : Int32))).2.1) rfl ?_
  refine own_aloadN (pc' := 48) B X128 d22_47 rfl rfl rfl ?_
  refine own_getfield (pc' := 51) B X128 (host := "") (Or.inl (own_w hw 51 rfl)) Via.refl F_w0_slots d22_48 rfl ?_
  intro T133 X133
  refine own_iloadN (pc' := 52) B X133 d22_51 rfl rfl ?_
  refine own_iloadN (pc' := 53) B X133 d22_52 rfl rfl ?_
  refine own_iconst (pc' := 54) B X133 (z := (1 : Int32)) d22_53 rfl rfl ?_
  refine own_iadd (pc' := 55) B X133 (z := (3 : Int32)) d22_54 rfl (by decide) ?_
  refine own_iastoreH (pc' := 56) B X133 V_w1 g_w1 ⟨(own_next_ge hy127), (own_next_lt hy127)⟩ d22_55 rfl ?_
  intro T136 h136 X136 W136 V_w1
  replace K := K.wr W136 (Or.inl (List.mem_of_getElem? (i := 0) rfl))
  refine own_iconst (pc' := 57) B X136 (z := (1 : Int32)) d22_56 rfl rfl ?_
  exact own_retN B X136 (t := .boolean) (z' := (1 : Int32)) (by simp) (by decide) d22_57 (by decide) (by decide) (⟨rfl, K⟩)
  have c139 : ¬ (y103 = p4) := by
    exact (ax_6 (F := own_F_slot) (H := own_F_hash) own_next_ne hy4 c99 hy104)
  refine own_ialoadH (pc' := 38) B X105 V_w1 (v := (.int 0)) ⟨(own_next_ge hy104), (own_next_lt hy104)⟩ (getH_miss (own_next_ge hy104) c108 (getH_miss (own_next_ge hy104) c139 (getH_all rfl _))) d22_37 rfl ?_
  refine own_iconst (pc' := 39) B X105 (z := (1 : Int32)) d22_38 rfl rfl ?_
  refine own_isub (pc' := 40) B X105 (z := (-1 : Int32)) d22_39 rfl (by decide) ?_
  refine own_istore (pc' := 42) B X105 (Ls' := #[.val (.ref w0), .val (.int 2), .val (.int p9), .val (.int y103), .val (.int 1), .val (.int 1), .val (.int (-1))]) d22_40 rfl rfl ?_
  refine own_iload (pc' := 44) B X105 d22_42 rfl rfl ?_
  refine own_ifNo (pc' := 47) B X105 d22_44 ((if0 _ _).trans (tlt (by decide : (-1 : Int32) < (0 : Int32))).2.1) rfl ?_
  refine own_aloadN (pc' := 48) B X105 d22_47 rfl rfl rfl ?_
  refine own_getfield (pc' := 51) B X105 (host := "") (Or.inl (own_w hw 51 rfl)) Via.refl F_w0_slots d22_48 rfl ?_
  intro T140 X140
  refine own_iloadN (pc' := 52) B X140 d22_51 rfl rfl ?_
  refine own_iloadN (pc' := 53) B X140 d22_52 rfl rfl ?_
  refine own_iconst (pc' := 54) B X140 (z := (1 : Int32)) d22_53 rfl rfl ?_
  refine own_iadd (pc' := 55) B X140 (z := (3 : Int32)) d22_54 rfl (by decide) ?_
  refine own_iastoreH (pc' := 56) B X140 V_w1 g_w1 ⟨(own_next_ge hy104), (own_next_lt hy104)⟩ d22_55 rfl ?_
  intro T143 h143 X143 W143 V_w1
  replace K := K.wr W143 (Or.inl (List.mem_of_getElem? (i := 0) rfl))
  refine own_iconst (pc' := 57) B X143 (z := (1 : Int32)) d22_56 rfl rfl ?_
  exact own_retN B X143 (t := .boolean) (z' := (1 : Int32)) (by simp) (by decide) d22_57 (by decide) (by decide) (⟨rfl, K⟩)
  refine own_icmpYes (pc' := 72) B X100 d22_66 (feq c101).2 (by decide) rfl ?_
  refine own_aloadN (pc' := 73) B X100 d22_72 rfl rfl rfl ?_
  refine own_iloadN (pc' := 74) B X100 d22_73 rfl rfl ?_
  refine own_callP (pc' := 77) B X100 (own_w hw 183 rfl) (own_w hw 184 rfl) (own_w hw 185 rfl) (own_w hw 45 rfl) (own_w hw 46 rfl) (own_w hw 186 rfl) E_w0 (by decide) [(.int y3)] [] (rm_48 l Z a0 hw [] w0 w1 kw1 (p3) (p4) (y3) h0 n0 (Nat.le_trans Z0 K.1) E_w0 F_w0_slots g_w0 V_w1 g_w1 ne_w0_w1) 0 (by decide) (by decide) rfl pd_7 rfl rfl (Nat.le_of_eq rfl) d22_74 rfl (k' := 0) (n' := 0) rfl rfl (by decide) (by decide) ?_
  intro T146 v146 h146 X146 q146
  obtain ⟨y147, hy148, rfl, rfl⟩ := q146
  show own_Go p e below (T146.setTop (mkF m 77 #[.val (.ref w0), .val (.int 2), .val (.int p9), .val (.int y3), .val (.int 0), .val (.int 0), .val (.int 0)] [(.int y147)])) _
  refine own_istoreN (pc' := 78) B X146 (Ls' := #[.val (.ref w0), .val (.int 2), .val (.int p9), .val (.int y147), .val (.int 0), .val (.int 0), .val (.int 0)]) d22_77 rfl rfl ?_
  refine own_iinc (pc' := 81) B X146 (Ls' := #[.val (.ref w0), .val (.int 2), .val (.int p9), .val (.int y147), .val (.int 0), .val (.int 1), .val (.int 0)]) d22_78 rfl rfl (z := (1 : Int32)) (by decide) rfl ?_
  refine own_goto (pc' := 19) B X146 d22_81 (by decide) rfl ?_
  refine own_iload (pc' := 21) B X146 d22_19 rfl rfl ?_
  refine own_bipush (pc' := 23) B X146 (z := (32 : Int32)) d22_21 rfl (by decide) ?_
  refine own_icmpNo (pc' := 26) B X146 d22_23 (tlt (by decide : (1 : Int32) < (32 : Int32))).2.1 rfl ?_
  refine own_iload (pc' := 28) B X146 d22_26 rfl rfl ?_
  refine own_iconst (pc' := 29) B X146 (z := (4 : Int32)) d22_28 rfl rfl ?_
  refine own_icmpNo (pc' := 32) B X146 d22_29 (tlt (by decide : (0 : Int32) < (4 : Int32))).2.1 rfl ?_
  refine own_aloadN (pc' := 33) B X146 d22_32 rfl rfl rfl ?_
  refine own_getfield (pc' := 36) B X146 (host := "") (Or.inl (own_w hw 51 rfl)) Via.refl F_w0_slots d22_33 rfl ?_
  intro T149 X149
  refine own_iloadN (pc' := 37) B X149 d22_36 rfl rfl ?_
  by_cases c152 : y147 = p3
  refine own_ialoadH (pc' := 38) B X149 V_w1 (v := (.int 2)) ⟨(own_next_ge hy148), (own_next_lt hy148)⟩ (getH_hit (own_next_ge hy148) c152) d22_37 rfl ?_
  refine own_iconst (pc' := 39) B X149 (z := (1 : Int32)) d22_38 rfl rfl ?_
  refine own_isub (pc' := 40) B X149 (z := (1 : Int32)) d22_39 rfl (by decide) ?_
  refine own_istore (pc' := 42) B X149 (Ls' := #[.val (.ref w0), .val (.int 2), .val (.int p9), .val (.int y147), .val (.int 0), .val (.int 1), .val (.int 1)]) d22_40 rfl rfl ?_
  refine own_iload (pc' := 44) B X149 d22_42 rfl rfl ?_
  refine own_ifYes (pc' := 58) B X149 d22_44 ((if0 _ _).trans (flt (by decide : ¬ ((1 : Int32) < (0 : Int32)))).2.1) (by decide) rfl ?_
  refine own_aloadN (pc' := 59) B X149 d22_58 rfl rfl rfl ?_
  refine own_getfield (pc' := 62) B X149 (host := "") (Or.inl (own_w hw 53 rfl)) Via.refl F_w0_hashes d22_59 rfl ?_
  intro T153 X153
  refine own_iload (pc' := 64) B X153 d22_62 rfl rfl ?_
  refine own_iaload (pc' := 65) B X153 V_w5 (v := (.int p8)) ⟨by decide, by decide⟩ rfl d22_64 rfl ?_
  refine own_iloadN (pc' := 66) B X153 d22_65 rfl rfl ?_
  by_cases c154 : p8 = p9
  refine own_icmpNo (pc' := 69) B X153 d22_66 (teq c154).2 rfl ?_
  refine own_iinc (pc' := 72) B X153 (Ls' := #[.val (.ref w0), .val (.int 2), .val (.int p9), .val (.int y147), .val (.int 1), .val (.int 1), .val (.int 1)]) d22_69 rfl rfl (z := (1 : Int32)) (by decide) rfl ?_
  refine own_aloadN (pc' := 73) B X153 d22_72 rfl rfl rfl ?_
  refine own_iloadN (pc' := 74) B X153 d22_73 rfl rfl ?_
  refine own_callP (pc' := 77) B X153 (own_w hw 183 rfl) (own_w hw 184 rfl) (own_w hw 185 rfl) (own_w hw 45 rfl) (own_w hw 46 rfl) (own_w hw 186 rfl) E_w0 (by decide) [(.int y147)] [] (rm_48 l Z a0 hw [] w0 w1 kw1 (p3) (p4) (y147) h0 n0 (Nat.le_trans Z0 K.1) E_w0 F_w0_slots g_w0 V_w1 g_w1 ne_w0_w1) 0 (by decide) (by decide) rfl pd_7 rfl rfl (Nat.le_of_eq rfl) d22_74 rfl (k' := 0) (n' := 0) rfl rfl (by decide) (by decide) ?_
  intro T155 v155 h155 X155 q155
  obtain ⟨y156, hy157, rfl, rfl⟩ := q155
  show own_Go p e below (T155.setTop (mkF m 77 #[.val (.ref w0), .val (.int 2), .val (.int p9), .val (.int y147), .val (.int 1), .val (.int 1), .val (.int 1)] [(.int y156)])) _
  refine own_istoreN (pc' := 78) B X155 (Ls' := #[.val (.ref w0), .val (.int 2), .val (.int p9), .val (.int y156), .val (.int 1), .val (.int 1), .val (.int 1)]) d22_77 rfl rfl ?_
  refine own_iinc (pc' := 81) B X155 (Ls' := #[.val (.ref w0), .val (.int 2), .val (.int p9), .val (.int y156), .val (.int 1), .val (.int 2), .val (.int 1)]) d22_78 rfl rfl (z := (2 : Int32)) (by decide) rfl ?_
  refine own_goto (pc' := 19) B X155 d22_81 (by decide) rfl ?_
  refine own_iload (pc' := 21) B X155 d22_19 rfl rfl ?_
  refine own_bipush (pc' := 23) B X155 (z := (32 : Int32)) d22_21 rfl (by decide) ?_
  refine own_icmpNo (pc' := 26) B X155 d22_23 (tlt (by decide : (2 : Int32) < (32 : Int32))).2.1 rfl ?_
  refine own_iload (pc' := 28) B X155 d22_26 rfl rfl ?_
  refine own_iconst (pc' := 29) B X155 (z := (4 : Int32)) d22_28 rfl rfl ?_
  refine own_icmpNo (pc' := 32) B X155 d22_29 (tlt (by decide : (1 : Int32) < (4 : Int32))).2.1 rfl ?_
  refine own_aloadN (pc' := 33) B X155 d22_32 rfl rfl rfl ?_
  refine own_getfield (pc' := 36) B X155 (host := "") (Or.inl (own_w hw 51 rfl)) Via.refl F_w0_slots d22_33 rfl ?_
  intro T158 X158
  refine own_iloadN (pc' := 37) B X158 d22_36 rfl rfl ?_
  have c161 : ¬ (y156 = p3) := by
    exact (ax_45 (F := own_F_slot) (H := own_F_hash) own_next_ne hy4 c8 hy148 c152 hy157 (own_nn2 hy148 hy157))
  have c162 : ¬ (y156 = p4) := by
    exact (ax_46 (F := own_F_slot) (H := own_F_hash) own_next_ne hy4 c99 hy148 hy157 (own_nn2 hy148 hy157))
  refine own_ialoadH (pc' := 38) B X158 V_w1 (v := (.int 0)) ⟨(own_next_ge hy157), (own_next_lt hy157)⟩ (getH_miss (own_next_ge hy157) c161 (getH_miss (own_next_ge hy157) c162 (getH_all rfl _))) d22_37 rfl ?_
  refine own_iconst (pc' := 39) B X158 (z := (1 : Int32)) d22_38 rfl rfl ?_
  refine own_isub (pc' := 40) B X158 (z := (-1 : Int32)) d22_39 rfl (by decide) ?_
  refine own_istore (pc' := 42) B X158 (Ls' := #[.val (.ref w0), .val (.int 2), .val (.int p9), .val (.int y156), .val (.int 1), .val (.int 2), .val (.int (-1))]) d22_40 rfl rfl ?_
  refine own_iload (pc' := 44) B X158 d22_42 rfl rfl ?_
  refine own_ifNo (pc' := 47) B X158 d22_44 ((if0 _ _).trans (tlt (by decide : (-1 : Int32) < (0 : Int32))).2.1) rfl ?_
  refine own_aloadN (pc' := 48) B X158 d22_47 rfl rfl rfl ?_
  refine own_getfield (pc' := 51) B X158 (host := "") (Or.inl (own_w hw 51 rfl)) Via.refl F_w0_slots d22_48 rfl ?_
  intro T163 X163
  refine own_iloadN (pc' := 52) B X163 d22_51 rfl rfl ?_
  refine own_iloadN (pc' := 53) B X163 d22_52 rfl rfl ?_
  refine own_iconst (pc' := 54) B X163 (z := (1 : Int32)) d22_53 rfl rfl ?_
  refine own_iadd (pc' := 55) B X163 (z := (3 : Int32)) d22_54 rfl (by decide) ?_
  refine own_iastoreH (pc' := 56) B X163 V_w1 g_w1 ⟨(own_next_ge hy157), (own_next_lt hy157)⟩ d22_55 rfl ?_
  intro T166 h166 X166 W166 V_w1
  replace K := K.wr W166 (Or.inl (List.mem_of_getElem? (i := 0) rfl))
  refine own_iconst (pc' := 57) B X166 (z := (1 : Int32)) d22_56 rfl rfl ?_
  exact own_retN B X166 (t := .boolean) (z' := (1 : Int32)) (by simp) (by decide) d22_57 (by decide) (by decide) (⟨rfl, K⟩)
  refine own_icmpYes (pc' := 72) B X153 d22_66 (feq c154).2 (by decide) rfl ?_
  refine own_aloadN (pc' := 73) B X153 d22_72 rfl rfl rfl ?_
  refine own_iloadN (pc' := 74) B X153 d22_73 rfl rfl ?_
  refine own_callP (pc' := 77) B X153 (own_w hw 183 rfl) (own_w hw 184 rfl) (own_w hw 185 rfl) (own_w hw 45 rfl) (own_w hw 46 rfl) (own_w hw 186 rfl) E_w0 (by decide) [(.int y147)] [] (rm_48 l Z a0 hw [] w0 w1 kw1 (p3) (p4) (y147) h0 n0 (Nat.le_trans Z0 K.1) E_w0 F_w0_slots g_w0 V_w1 g_w1 ne_w0_w1) 0 (by decide) (by decide) rfl pd_7 rfl rfl (Nat.le_of_eq rfl) d22_74 rfl (k' := 0) (n' := 0) rfl rfl (by decide) (by decide) ?_
  intro T169 v169 h169 X169 q169
  obtain ⟨y170, hy171, rfl, rfl⟩ := q169
  show own_Go p e below (T169.setTop (mkF m 77 #[.val (.ref w0), .val (.int 2), .val (.int p9), .val (.int y147), .val (.int 0), .val (.int 1), .val (.int 1)] [(.int y170)])) _
  refine own_istoreN (pc' := 78) B X169 (Ls' := #[.val (.ref w0), .val (.int 2), .val (.int p9), .val (.int y170), .val (.int 0), .val (.int 1), .val (.int 1)]) d22_77 rfl rfl ?_
  refine own_iinc (pc' := 81) B X169 (Ls' := #[.val (.ref w0), .val (.int 2), .val (.int p9), .val (.int y170), .val (.int 0), .val (.int 2), .val (.int 1)]) d22_78 rfl rfl (z := (2 : Int32)) (by decide) rfl ?_
  refine own_goto (pc' := 19) B X169 d22_81 (by decide) rfl ?_
  refine own_iload (pc' := 21) B X169 d22_19 rfl rfl ?_
  refine own_bipush (pc' := 23) B X169 (z := (32 : Int32)) d22_21 rfl (by decide) ?_
  refine own_icmpNo (pc' := 26) B X169 d22_23 (tlt (by decide : (2 : Int32) < (32 : Int32))).2.1 rfl ?_
  refine own_iload (pc' := 28) B X169 d22_26 rfl rfl ?_
  refine own_iconst (pc' := 29) B X169 (z := (4 : Int32)) d22_28 rfl rfl ?_
  refine own_icmpNo (pc' := 32) B X169 d22_29 (tlt (by decide : (0 : Int32) < (4 : Int32))).2.1 rfl ?_
  refine own_aloadN (pc' := 33) B X169 d22_32 rfl rfl rfl ?_
  refine own_getfield (pc' := 36) B X169 (host := "") (Or.inl (own_w hw 51 rfl)) Via.refl F_w0_slots d22_33 rfl ?_
  intro T172 X172
  refine own_iloadN (pc' := 37) B X172 d22_36 rfl rfl ?_
  have c175 : ¬ (y170 = p3) := by
    exact (ax_45 (F := own_F_slot) (H := own_F_hash) own_next_ne hy4 c8 hy148 c152 hy171 (own_nn2 hy148 hy171))
  have c176 : ¬ (y170 = p4) := by
    exact (ax_46 (F := own_F_slot) (H := own_F_hash) own_next_ne hy4 c99 hy148 hy171 (own_nn2 hy148 hy171))
  refine own_ialoadH (pc' := 38) B X172 V_w1 (v := (.int 0)) ⟨(own_next_ge hy171), (own_next_lt hy171)⟩ (getH_miss (own_next_ge hy171) c175 (getH_miss (own_next_ge hy171) c176 (getH_all rfl _))) d22_37 rfl ?_
  refine own_iconst (pc' := 39) B X172 (z := (1 : Int32)) d22_38 rfl rfl ?_
  refine own_isub (pc' := 40) B X172 (z := (-1 : Int32)) d22_39 rfl (by decide) ?_
  refine own_istore (pc' := 42) B X172 (Ls' := #[.val (.ref w0), .val (.int 2), .val (.int p9), .val (.int y170), .val (.int 0), .val (.int 2), .val (.int (-1))]) d22_40 rfl rfl ?_
  refine own_iload (pc' := 44) B X172 d22_42 rfl rfl ?_
  refine own_ifNo (pc' := 47) B X172 d22_44 ((if0 _ _).trans (tlt (by decide : (-1 : Int32) < (0 : Int32))).2.1) rfl ?_
  refine own_aloadN (pc' := 48) B X172 d22_47 rfl rfl rfl ?_
  refine own_getfield (pc' := 51) B X172 (host := "") (Or.inl (own_w hw 51 rfl)) Via.refl F_w0_slots d22_48 rfl ?_
  intro T177 X177
  refine own_iloadN (pc' := 52) B X177 d22_51 rfl rfl ?_
  refine own_iloadN (pc' := 53) B X177 d22_52 rfl rfl ?_
  refine own_iconst (pc' := 54) B X177 (z := (1 : Int32)) d22_53 rfl rfl ?_
  refine own_iadd (pc' := 55) B X177 (z := (3 : Int32)) d22_54 rfl (by decide) ?_
  refine own_iastoreH (pc' := 56) B X177 V_w1 g_w1 ⟨(own_next_ge hy171), (own_next_lt hy171)⟩ d22_55 rfl ?_
  intro T180 h180 X180 W180 V_w1
  replace K := K.wr W180 (Or.inl (List.mem_of_getElem? (i := 0) rfl))
  refine own_iconst (pc' := 57) B X180 (z := (1 : Int32)) d22_56 rfl rfl ?_
  exact own_retN B X180 (t := .boolean) (z' := (1 : Int32)) (by simp) (by decide) d22_57 (by decide) (by decide) (⟨rfl, K⟩)
  have c183 : ¬ (y147 = p4) := by
    exact (ax_6 (F := own_F_slot) (H := own_F_hash) own_next_ne hy4 c99 hy148)
  refine own_ialoadH (pc' := 38) B X149 V_w1 (v := (.int 0)) ⟨(own_next_ge hy148), (own_next_lt hy148)⟩ (getH_miss (own_next_ge hy148) c152 (getH_miss (own_next_ge hy148) c183 (getH_all rfl _))) d22_37 rfl ?_
  refine own_iconst (pc' := 39) B X149 (z := (1 : Int32)) d22_38 rfl rfl ?_
  refine own_isub (pc' := 40) B X149 (z := (-1 : Int32)) d22_39 rfl (by decide) ?_
  refine own_istore (pc' := 42) B X149 (Ls' := #[.val (.ref w0), .val (.int 2), .val (.int p9), .val (.int y147), .val (.int 0), .val (.int 1), .val (.int (-1))]) d22_40 rfl rfl ?_
  refine own_iload (pc' := 44) B X149 d22_42 rfl rfl ?_
  refine own_ifNo (pc' := 47) B X149 d22_44 ((if0 _ _).trans (tlt (by decide : (-1 : Int32) < (0 : Int32))).2.1) rfl ?_
  refine own_aloadN (pc' := 48) B X149 d22_47 rfl rfl rfl ?_
  refine own_getfield (pc' := 51) B X149 (host := "") (Or.inl (own_w hw 51 rfl)) Via.refl F_w0_slots d22_48 rfl ?_
  intro T184 X184
  refine own_iloadN (pc' := 52) B X184 d22_51 rfl rfl ?_
  refine own_iloadN (pc' := 53) B X184 d22_52 rfl rfl ?_
  refine own_iconst (pc' := 54) B X184 (z := (1 : Int32)) d22_53 rfl rfl ?_
  refine own_iadd (pc' := 55) B X184 (z := (3 : Int32)) d22_54 rfl (by decide) ?_
  refine own_iastoreH (pc' := 56) B X184 V_w1 g_w1 ⟨(own_next_ge hy148), (own_next_lt hy148)⟩ d22_55 rfl ?_
  intro T187 h187 X187 W187 V_w1
  replace K := K.wr W187 (Or.inl (List.mem_of_getElem? (i := 0) rfl))
  refine own_iconst (pc' := 57) B X187 (z := (1 : Int32)) d22_56 rfl rfl ?_
  exact own_retN B X187 (t := .boolean) (z' := (1 : Int32)) (by simp) (by decide) d22_57 (by decide) (by decide) (⟨rfl, K⟩)
  refine own_ialoadH (pc' := 38) B X5 V_w1 (v := (.int 0)) ⟨(own_slot_ge hy4), (own_slot_lt hy4)⟩ (getH_miss (own_slot_ge hy4) c8 (getH_miss (own_slot_ge hy4) c99 (getH_all rfl _))) d22_37 rfl ?_
  refine own_iconst (pc' := 39) B X5 (z := (1 : Int32)) d22_38 rfl rfl ?_
  refine own_isub (pc' := 40) B X5 (z := (-1 : Int32)) d22_39 rfl (by decide) ?_
  refine own_istore (pc' := 42) B X5 (Ls' := #[.val (.ref w0), .val (.int 2), .val (.int p9), .val (.int y3), .val (.int 0), .val (.int 0), .val (.int (-1))]) d22_40 rfl rfl ?_
  refine own_iload (pc' := 44) B X5 d22_42 rfl rfl ?_
  refine own_ifNo (pc' := 47) B X5 d22_44 ((if0 _ _).trans (tlt (by decide : (-1 : Int32) < (0 : Int32))).2.1) rfl ?_
  refine own_aloadN (pc' := 48) B X5 d22_47 rfl rfl rfl ?_
  refine own_getfield (pc' := 51) B X5 (host := "") (Or.inl (own_w hw 51 rfl)) Via.refl F_w0_slots d22_48 rfl ?_
  intro T190 X190
  refine own_iloadN (pc' := 52) B X190 d22_51 rfl rfl ?_
  refine own_iloadN (pc' := 53) B X190 d22_52 rfl rfl ?_
  refine own_iconst (pc' := 54) B X190 (z := (1 : Int32)) d22_53 rfl rfl ?_
  refine own_iadd (pc' := 55) B X190 (z := (3 : Int32)) d22_54 rfl (by decide) ?_
  refine own_iastoreH (pc' := 56) B X190 V_w1 g_w1 ⟨(own_slot_ge hy4), (own_slot_lt hy4)⟩ d22_55 rfl ?_
  intro T193 h193 X193 W193 V_w1
  replace K := K.wr W193 (Or.inl (List.mem_of_getElem? (i := 0) rfl))
  refine own_iconst (pc' := 57) B X193 (z := (1 : Int32)) d22_56 rfl rfl ?_
  exact own_retN B X193 (t := .boolean) (z' := (1 : Int32)) (by simp) (by decide) d22_57 (by decide) (by decide) (⟨rfl, K⟩)
def Q_55 (Z : State) (w0 w1 : Addr) (kw1 : ClassId) (p3 p4 : Int32) (w5 : Addr) (kw5 : ClassId) (p7 p8 p9 : Int32) (w10 : Addr) (h0 : Heap) (n0 : Nat) (v : Option Value) (h : Heap) : Prop :=
  (v = none ∧ Keep h0 h [w1])
theorem rm_55 (l : Launch) (Z : State) (a0 : Array Value) (hw : ∀ d ∈ tables_1, d.before a0 Z = true) (ws : List Jvm.Cond) (w0 w1 : Addr) (kw1 : ClassId) (p3 p4 : Int32) (w5 : Addr) (kw5 : ClassId) (p7 p8 p9 : Int32) (w10 : Addr) (h0 : Heap) (n0 : Nat) (Z0 : n0 ≤ h0.size) (E_w0 : Exa Z h0 w0 oC1) (F_w0_slots : Fld Z h0 w0 oC1 "slots" "[I" (.ref w1)) (F_w0_hashes : Fld Z h0 w0 oC1 "hashes" "[I" (.ref w5)) (F_w0_keys : Fld Z h0 w0 oC1 "keys" "Lcom/example/ordal/ordal/NumberTable$Keys;" (.ref w10)) (F_w0_count : Fld Z h0 w0 oC1 "count" "I" (.int 2)) (F_w0_crowded : Fld Z h0 w0 oC1 "crowded" "Ljava/util/TreeMap;" .null) (g_w0 : n0 ≤ w0) (V_w1 : Arh Z h0 w1 kw1 .int (16 : Int32) [(p3, (.int 2)), (p4, (.int 1))] [] (.int 0)) (g_w1 : n0 ≤ w1) (V_w5 : Arv Z h0 w5 kw5 .int (8 : Int32) [(.int p7), (.int p8), (.int p9)] (.int 0)) (g_w5 : n0 ≤ w5) (ne_w0_w1 : w0 ≠ w1) (ne_w0_w5 : w0 ≠ w5) (ne_w1_w5 : w1 ≠ w5) :
    own_M l Z (⟨"com/example/ordal/ordal/NumberTable", "insert", "(I)V"⟩ : MethodName) prog_9_method_6_code 2 none ws ({ frames := 3, cells := 0, slots := 0, locals := 44 } : Room) #[(.ref w0), (.int 2)] h0 n0 (Q_55 Z w0 w1 kw1 p3 p4 w5 kw5 p7 p8 p9 w10 h0 n0) := by
  refine own_enter' (Q := Q_55 Z w0 w1 kw1 p3 p4 w5 kw5 p7 p8 p9 w10 h0 n0) (F := fun m => mkF m 0 #[.val (.ref w0), .val (.int 2)] []) (plainFor_of_name pn_3) ?_
  intro p e s m below meth c s₁ B X0
  have K : Keep h0 h0 [w1] := Keep.refl h0 _
  have lt_w0 := E_w0.lt
  have lt_w1 := V_w1.lt
  have lt_w5 := V_w5.lt
  refine own_aloadN (pc' := 1) B X0 d21_0 rfl rfl rfl ?_
  refine own_iloadN (pc' := 2) B X0 d21_1 rfl rfl ?_
  refine own_callP (pc' := 5) B X0 (own_w hw 142 rfl) (own_w hw 143 rfl) (own_w hw 144 rfl) (own_w hw 45 rfl) (own_w hw 46 rfl) (own_w hw 145 rfl) E_w0 (by decide) [(.int 2)] [] (rm_56 l Z a0 hw [] w0 w1 kw1 (p3) (p4) w5 kw5 (p7) (p8) (p9) w10 h0 n0 (Nat.le_trans Z0 K.1) E_w0 F_w0_slots F_w0_hashes F_w0_keys F_w0_count F_w0_crowded g_w0 V_w1 g_w1 V_w5 g_w5 ne_w0_w1 ne_w0_w5 ne_w1_w5) 0 (by decide) (by decide) rfl pd_10 rfl rfl (Nat.le_of_eq rfl) d21_2 rfl (k' := 0) (n' := 0) rfl rfl (by decide) (by decide) ?_
  intro T1 v1 h1 X1 q1
  obtain ⟨rfl, K1⟩ := q1
  replace K := K.trans K1 (allS (Or.inl (List.mem_of_getElem? (i := 0) rfl)) all0)
  show own_Go p e below (T1.setTop (mkF m 5 #[.val (.ref w0), .val (.int 2)] [(.int 1)])) _
  refine own_ifYes (pc' := 52) B X1 d21_5 ((if0 _ _).trans (feq (by decide : ¬ ((1 : Int32) = (0 : Int32)))).2) (by decide) rfl ?_
  exact own_ret B X1 d21_52 (by decide) (by decide) (⟨rfl, K⟩)
def Q_54 (Z : State) (w0 w1 : Addr) (kw1 : ClassId) (p3 p4 : Int32) (w5 : Addr) (kw5 : ClassId) (p7 p8 : Int32) (w9 : Addr) (p10 : Int32) (h0 : Heap) (n0 : Nat) (v : Option Value) (h : Heap) : Prop :=
  (v = none ∧ Keep h0 h [w5, w1, w0] ∧ Exa Z h w0 oC1 ∧ Fld Z h w0 oC1 "slots" "[I" (.ref w1) ∧ Fld Z h w0 oC1 "hashes" "[I" (.ref w5) ∧ Fld Z h w0 oC1 "keys" "Lcom/example/ordal/ordal/NumberTable$Keys;" (.ref w9) ∧ Fld Z h w0 oC1 "count" "I" (.int 3) ∧ Fld Z h w0 oC1 "crowded" "Ljava/util/TreeMap;" .null ∧ Arv Z h w5 kw5 .int (8 : Int32) [(.int p7), (.int p8), (.int p10)] (.int 0))
theorem rm_54 (l : Launch) (Z : State) (a0 : Array Value) (hw : ∀ d ∈ tables_1, d.before a0 Z = true) (ws : List Jvm.Cond) (w0 w1 : Addr) (kw1 : ClassId) (p3 p4 : Int32) (w5 : Addr) (kw5 : ClassId) (p7 p8 : Int32) (w9 : Addr) (p10 : Int32) (h0 : Heap) (n0 : Nat) (Z0 : n0 ≤ h0.size) (E_w0 : Exa Z h0 w0 oC1) (F_w0_slots : Fld Z h0 w0 oC1 "slots" "[I" (.ref w1)) (F_w0_hashes : Fld Z h0 w0 oC1 "hashes" "[I" (.ref w5)) (F_w0_keys : Fld Z h0 w0 oC1 "keys" "Lcom/example/ordal/ordal/NumberTable$Keys;" (.ref w9)) (F_w0_count : Fld Z h0 w0 oC1 "count" "I" (.int 2)) (F_w0_crowded : Fld Z h0 w0 oC1 "crowded" "Ljava/util/TreeMap;" .null) (g_w0 : n0 ≤ w0) (V_w1 : Arh Z h0 w1 kw1 .int (16 : Int32) [(p3, (.int 2)), (p4, (.int 1))] [] (.int 0)) (g_w1 : n0 ≤ w1) (V_w5 : Arv Z h0 w5 kw5 .int (8 : Int32) [(.int p7), (.int p8)] (.int 0)) (g_w5 : n0 ≤ w5) (ne_w0_w1 : w0 ≠ w1) (ne_w0_w5 : w0 ≠ w5) (ne_w1_w5 : w1 ≠ w5) :
    own_M l Z (⟨"com/example/ordal/ordal/NumberTable", "put", "(II)V"⟩ : MethodName) prog_9_method_3_code 3 none ws ({ frames := 4, cells := 0, slots := 0, locals := 57 } : Room) #[(.ref w0), (.int 2), (.int p10)] h0 n0 (Q_54 Z w0 w1 kw1 p3 p4 w5 kw5 p7 p8 w9 p10 h0 n0) := by
  refine own_enter' (Q := Q_54 Z w0 w1 kw1 p3 p4 w5 kw5 p7 p8 w9 p10 h0 n0) (F := fun m => mkF m 0 #[.val (.ref w0), .val (.int 2), .val (.int p10)] []) (plainFor_of_name pn_3) ?_
  intro p e s m below meth c s₁ B X0
  have K : Keep h0 h0 [w5, w1, w0] := Keep.refl h0 _
  have lt_w0 := E_w0.lt
  have lt_w1 := V_w1.lt
  have lt_w5 := V_w5.lt
  refine own_iloadN (pc' := 1) B X0 d20_0 rfl rfl ?_
  refine own_aloadN (pc' := 2) B X0 d20_1 rfl rfl rfl ?_
  refine own_getfield (pc' := 5) B X0 (host := "") (Or.inl (own_w hw 53 rfl)) Via.refl F_w0_hashes d20_2 rfl ?_
  intro T1 X1
  refine own_arraylength (pc' := 6) B X1 V_w5 d20_5 rfl ?_
  refine own_icmpYes (pc' := 33) B X1 d20_6 (tlt (by decide : (2 : Int32) < (8 : Int32))).1 (by decide) rfl ?_
  refine own_aloadN (pc' := 34) B X1 d20_33 rfl rfl rfl ?_
  refine own_getfield (pc' := 37) B X1 (host := "") (Or.inl (own_w hw 53 rfl)) Via.refl F_w0_hashes d20_34 rfl ?_
  intro T2 X2
  refine own_iloadN (pc' := 38) B X2 d20_37 rfl rfl ?_
  refine own_iloadN (pc' := 39) B X2 d20_38 rfl rfl ?_
  replace V_w5 : Arv Z h0 w5 kw5 .int (8 : Int32) [(.int p7), (.int p8), (.int 0)] (.int 0) := V_w5.pad (pad_rep [(.int p7), (.int p8)] (.int 0) 1)
  refine own_iastore (pc' := 40) B X2 (x' := p10) V_w5 g_w5 ⟨by decide, by decide⟩ 2 (by decide) (Nat.le_of_ble_eq_true rfl) rfl d20_39 rfl ?_
  intro T3 h3 X3 W3 V_w5
  replace V_w5 : Arv Z h3 w5 kw5 .int (8 : Int32) [(.int p7), (.int p8), (.int p10)] (.int 0) := V_w5
  replace K := K.wr W3 (Or.inl (List.mem_of_getElem? (i := 0) rfl))
  refine own_iconst (pc' := 41) B X3 (z := (2 : Int32)) d20_40 rfl rfl ?_
  refine own_aloadN (pc' := 42) B X3 d20_41 rfl rfl rfl ?_
  replace F_w0_count := (F_w0_count.other W3 (Or.inl ne_w0_w5))
  refine own_getfield (pc' := 45) B X3 (host := "") (Or.inl (own_w hw 136 rfl)) Via.refl F_w0_count d20_42 rfl ?_
  intro T4 X4
  refine own_iconst (pc' := 46) B X4 (z := (1 : Int32)) d20_45 rfl rfl ?_
  refine own_iadd (pc' := 47) B X4 (z := (3 : Int32)) d20_46 rfl (by decide) ?_
  refine own_imul (pc' := 48) B X4 (z := (6 : Int32)) d20_47 rfl (by decide) ?_
  refine own_aloadN (pc' := 49) B X4 d20_48 rfl rfl rfl ?_
  replace F_w0_slots := (F_w0_slots.other W3 (Or.inl ne_w0_w5))
  refine own_getfield (pc' := 52) B X4 (host := "") (Or.inl (own_w hw 51 rfl)) Via.refl F_w0_slots d20_49 rfl ?_
  intro T5 X5
  replace V_w1 := (V_w1.other W3 ne_w1_w5)
  refine own_arraylengthH (pc' := 53) B X5 V_w1 d20_52 rfl ?_
  refine own_icmpYes (pc' := 60) B X5 d20_53 (flt (by decide : ¬ ((16 : Int32) < (6 : Int32)))).2.2.2 (by decide) rfl ?_
  refine own_aloadN (pc' := 61) B X5 d20_60 rfl rfl rfl ?_
  refine own_iloadN (pc' := 62) B X5 d20_61 rfl rfl ?_
  replace E_w0 := (E_w0.wr W3)
  refine own_callP (pc' := 65) B X5 (own_w hw 138 rfl) (own_w hw 139 rfl) (own_w hw 140 rfl) (own_w hw 45 rfl) (own_w hw 46 rfl) (own_w hw 141 rfl) E_w0 (by decide) [(.int 2)] [] (rm_55 l Z a0 hw [] w0 w1 kw1 (p3) (p4) w5 kw5 (p7) (p8) (p10) w9 h3 n0 (Nat.le_trans Z0 K.1) E_w0 F_w0_slots (F_w0_hashes.other W3 (Or.inl ne_w0_w5)) (F_w0_keys.other W3 (Or.inl ne_w0_w5)) F_w0_count (F_w0_crowded.other W3 (Or.inl ne_w0_w5)) g_w0 V_w1 g_w1 V_w5 g_w5 ne_w0_w1 ne_w0_w5 ne_w1_w5) 0 (by decide) (by decide) rfl pd_4 rfl rfl (Nat.le_of_eq rfl) d20_62 rfl (k' := 0) (n' := 0) rfl rfl (by decide) (by decide) ?_
  intro T6 v6 h6 X6 q6
  obtain ⟨rfl, K6⟩ := q6
  replace K := K.trans K6 (allS (Or.inl (List.mem_of_getElem? (i := 1) rfl)) all0)
  show own_Go p e below (T6.setTop (mkF m 65 #[.val (.ref w0), .val (.int 2), .val (.int p10)] [])) _
  refine own_aloadN (pc' := 66) B X6 d20_65 rfl rfl rfl ?_
  refine own_dup (pc' := 67) B X6 d20_66 rfl rfl ?_
  replace F_w0_count := (F_w0_count.keep K6 (ninS ne_w0_w1 nin0))
  refine own_getfield (pc' := 70) B X6 (host := "") (Or.inl (own_w hw 136 rfl)) Via.refl F_w0_count d20_67 rfl ?_
  intro T7 X7
  refine own_iconst (pc' := 71) B X7 (z := (1 : Int32)) d20_70 rfl rfl ?_
  refine own_iadd (pc' := 72) B X7 (z := (3 : Int32)) d20_71 rfl (by decide) ?_
  replace E_w0 := (E_w0.keep K6)
  refine own_putfield (pc' := 75) B X7 (host := "") (Or.inl (own_w hw 136 rfl)) Via.refl F_w0_count E_w0 g_w0 (Or.inl (own_w hw 137 rfl)) (own_w hw 45 rfl) (ty := .int) (by decide) rfl rfl d20_72 rfl ?_
  intro T8 h8 X8 W8 F_w0_count
  replace K := K.wr W8 (Or.inl (List.mem_of_getElem? (i := 2) rfl))
  exact own_ret B X8 d20_75 (by decide) (by decide) (⟨rfl, K, (E_w0.wr W8), ((F_w0_slots.keep K6 (ninS ne_w0_w1 nin0)).other W8 (Or.inr (slot_ne (Or.inl (own_w hw 52 rfl)) (Or.inl (own_w hw 137 rfl)) (by decide) (t := (.array .int)) (t' := .int) (by decide) (by decide)))), (((F_w0_hashes.other W3 (Or.inl ne_w0_w5)).keep K6 (ninS ne_w0_w1 nin0)).other W8 (Or.inr (slot_ne (Or.inl (own_w hw 54 rfl)) (Or.inl (own_w hw 137 rfl)) (by decide) (t := (.array .int)) (t' := .int) (by decide) (by decide)))), (((F_w0_keys.other W3 (Or.inl ne_w0_w5)).keep K6 (ninS ne_w0_w1 nin0)).other W8 (Or.inr (slot_ne (Or.inr (own_w hw 56 rfl)) (Or.inl (own_w hw 137 rfl)) (by decide) (t := (.object "com/example/ordal/ordal/NumberTable$Keys")) (t' := .int) (by decide) (by decide)))), F_w0_count, (((F_w0_crowded.other W3 (Or.inl ne_w0_w5)).keep K6 (ninS ne_w0_w1 nin0)).other W8 (Or.inr (slot_ne (Or.inl (own_w hw 188 rfl)) (Or.inl (own_w hw 137 rfl)) (by decide) (t := (.object "java/util/TreeMap")) (t' := .int) (by decide) (by decide)))), ((V_w5.keep K6 (ninS (Ne.symm ne_w1_w5) nin0)).other W8 (Ne.symm ne_w0_w5))⟩)
def Q_53 (Z : State) (w0 w1 w2 : Addr) (kw2 : ClassId) (p4 p5 : Int32) (w6 : Addr) (kw6 : ClassId) (p8 p9 p10 : Int32) (h0 : Heap) (n0 : Nat) (v : Option Value) (h : Heap) : Prop :=
  (v = none ∧ Keep h0 h [w6, w2, w1] ∧ Exa Z h w1 oC1 ∧ Fld Z h w1 oC1 "slots" "[I" (.ref w2) ∧ Fld Z h w1 oC1 "hashes" "[I" (.ref w6) ∧ Fld Z h w1 oC1 "keys" "Lcom/example/ordal/ordal/NumberTable$Keys;" (.ref w0) ∧ Fld Z h w1 oC1 "count" "I" (.int 3) ∧ Fld Z h w1 oC1 "crowded" "Ljava/util/TreeMap;" .null ∧ Arv Z h w6 kw6 .int (8 : Int32) [(.int p8), (.int p9), (.int p10)] (.int 0))
theorem rm_53 (l : Launch) (Z : State) (a0 : Array Value) (hw : ∀ d ∈ tables_1, d.before a0 Z = true) (ws : List Jvm.Cond) (w0 w1 w2 : Addr) (kw2 : ClassId) (p4 p5 : Int32) (w6 : Addr) (kw6 : ClassId) (p8 p9 p10 : Int32) (h0 : Heap) (n0 : Nat) (Z0 : n0 ≤ h0.size) (E_w0 : Exa Z h0 w0 oC3) (F_w0_table : Fld Z h0 w0 oC3 "table" "Lcom/example/ordal/ordal/NumberTable;" (.ref w1)) (g_w0 : n0 ≤ w0) (E_w1 : Exa Z h0 w1 oC1) (F_w1_slots : Fld Z h0 w1 oC1 "slots" "[I" (.ref w2)) (F_w1_hashes : Fld Z h0 w1 oC1 "hashes" "[I" (.ref w6)) (F_w1_keys : Fld Z h0 w1 oC1 "keys" "Lcom/example/ordal/ordal/NumberTable$Keys;" (.ref w0)) (F_w1_count : Fld Z h0 w1 oC1 "count" "I" (.int 2)) (F_w1_crowded : Fld Z h0 w1 oC1 "crowded" "Ljava/util/TreeMap;" .null) (g_w1 : n0 ≤ w1) (V_w2 : Arh Z h0 w2 kw2 .int (16 : Int32) [(p4, (.int 2)), (p5, (.int 1))] [] (.int 0)) (g_w2 : n0 ≤ w2) (V_w6 : Arv Z h0 w6 kw6 .int (8 : Int32) [(.int p8), (.int p9)] (.int 0)) (g_w6 : n0 ≤ w6) (ne_w0_w1 : w0 ≠ w1) (ne_w0_w2 : w0 ≠ w2) (ne_w0_w6 : w0 ≠ w6) (ne_w1_w2 : w1 ≠ w2) (ne_w1_w6 : w1 ≠ w6) (ne_w2_w6 : w2 ≠ w6) :
    own_M l Z (⟨"com/example/ordal/ordal/Relation$PositionTable", "put", "(II)V"⟩ : MethodName) prog_15_method_4_code 3 none ws ({ frames := 5, cells := 0, slots := 0, locals := 71 } : Room) #[(.ref w0), (.int 2), (.int p10)] h0 n0 (Q_53 Z w0 w1 w2 kw2 p4 p5 w6 kw6 p8 p9 p10 h0 n0) := by
  refine own_enter' (Q := Q_53 Z w0 w1 w2 kw2 p4 p5 w6 kw6 p8 p9 p10 h0 n0) (F := fun m => mkF m 0 #[.val (.ref w0), .val (.int 2), .val (.int p10)] []) (plainFor_of_name pn_4) ?_
  intro p e s m below meth c s₁ B X0
  have K : Keep h0 h0 [w6, w2, w1] := Keep.refl h0 _
  have lt_w0 := E_w0.lt
  have lt_w1 := E_w1.lt
  have lt_w2 := V_w2.lt
  have lt_w6 := V_w6.lt
  refine own_aloadN (pc' := 1) B X0 d19_0 rfl rfl rfl ?_
  refine own_getfield (pc' := 4) B X0 (host := "") (Or.inl (own_w hw 57 rfl)) Via.refl F_w0_table d19_1 rfl ?_
  intro T1 X1
  refine own_iloadN (pc' := 5) B X1 d19_4 rfl rfl ?_
  refine own_iloadN (pc' := 6) B X1 d19_5 rfl rfl ?_
  refine own_callV (pc' := 9) B X1 (own_w hw 131 rfl) (own_w hw 132 rfl) (own_w hw 134 rfl) (own_w hw 133 rfl) (own_w hw 46 rfl) (own_w hw 135 rfl) E_w1 (by decide) [(.int 2), (.int p10)] [] (rm_54 l Z a0 hw [] w1 w2 kw2 (p4) (p5) w6 kw6 (p8) (p9) w0 (p10) h0 n0 (Nat.le_trans Z0 K.1) E_w1 F_w1_slots F_w1_hashes F_w1_keys F_w1_count F_w1_crowded g_w1 V_w2 g_w2 V_w6 g_w6 ne_w1_w2 ne_w1_w6 ne_w2_w6) 0 (by decide) (by decide) rfl pd_11 rfl rfl (Nat.le_of_eq rfl) d19_6 rfl (k' := 0) (n' := 0) rfl rfl (by decide) (by decide) ?_
  intro T2 v2 h2 X2 q2
  obtain ⟨rfl, K2, E_w1, F_w1_slots, F_w1_hashes, F_w1_keys, F_w1_count, F_w1_crowded, V_w6⟩ := q2
  replace K := K.trans K2 (allS (Or.inl (List.mem_of_getElem? (i := 0) rfl)) (allS (Or.inl (List.mem_of_getElem? (i := 1) rfl)) (allS (Or.inl (List.mem_of_getElem? (i := 2) rfl)) all0)))
  show own_Go p e below (T2.setTop (mkF m 9 #[.val (.ref w0), .val (.int 2), .val (.int p10)] [])) _
  exact own_ret B X2 d19_9 (by decide) (by decide) (⟨rfl, K, E_w1, F_w1_slots, F_w1_hashes, F_w1_keys, F_w1_count, F_w1_crowded, V_w6⟩)
def Q_40 (Z : State) (w0 w1 w2 : Addr) (kw2 : ClassId) (p4 p5 p6 p7 : Int32) (w8 w9 w10 : Addr) (kw10 : ClassId) (p12 p13 : Int32) (w14 : Addr) (kw14 : ClassId) (p16 p17 : Int32) (w18 : Addr) (kw18 : ClassId) (w20 : Addr) (kw20 : ClassId) (p22 p23 : Int32) (h0 : Heap) (n0 : Nat) (v : Option Value) (h : Heap) : Prop :=
  (∃ (y3 : Int32) (y7 : Int32), own_F_hash p22 p23 = y3 ∧ own_F_look2 p4 p5 p6 p7 p22 p23 = y7 ∧ y7 = (-1 : Int32) ∧ v = some (.int 1) ∧ Keep h0 h [w2, w0, w14, w10, w9] ∧ Exa Z h w0 oC2 ∧ Fld Z h w0 oC2 "indexes" "Ljava/util/Map;" (.ref w1) ∧ Fld Z h w0 oC2 "arity" "I" (.int 2) ∧ Fld Z h w0 oC2 "rows" "[I" (.ref w2) ∧ Fld Z h w0 oC2 "members" "Lcom/example/ordal/ordal/Relation$PositionTable;" (.ref w8) ∧ Fld Z h w0 oC2 "size" "I" (.int 3) ∧ Fld Z h w0 oC2 "spellings" "[I" .null ∧ Fld Z h w0 oC2 "arrived" "I" (.int 2) ∧ Arv Z h w2 kw2 .int (16 : Int32) [(.int p4), (.int p5), (.int p6), (.int p7), (.int p22), (.int p23)] (.int 0) ∧ Exa Z h w9 oC1 ∧ Fld Z h w9 oC1 "slots" "[I" (.ref w10) ∧ Fld Z h w9 oC1 "hashes" "[I" (.ref w14) ∧ Fld Z h w9 oC1 "keys" "Lcom/example/ordal/ordal/NumberTable$Keys;" (.ref w8) ∧ Fld Z h w9 oC1 "count" "I" (.int 3) ∧ Fld Z h w9 oC1 "crowded" "Ljava/util/TreeMap;" .null ∧ Arv Z h w14 kw14 .int (8 : Int32) [(.int p16), (.int p17), (.int y3)] (.int 0)) ∨
  (∃ (y7 : Int32), own_F_look2 p4 p5 p6 p7 p22 p23 = y7 ∧ ¬ (y7 = (-1 : Int32)) ∧ v = some (.int 0) ∧ h0 = h)
theorem rm_40 (l : Launch) (Z : State) (a0 : Array Value) (hw : ∀ d ∈ tables_1, d.before a0 Z = true) (ws : List Jvm.Cond) (w0 w1 w2 : Addr) (kw2 : ClassId) (p4 p5 p6 p7 : Int32) (w8 w9 w10 : Addr) (kw10 : ClassId) (p12 p13 : Int32) (w14 : Addr) (kw14 : ClassId) (p16 p17 : Int32) (w18 : Addr) (kw18 : ClassId) (w20 : Addr) (kw20 : ClassId) (p22 p23 : Int32) (h0 : Heap) (n0 : Nat) (Z0 : n0 ≤ h0.size) (E_w0 : Exa Z h0 w0 oC2) (F_w0_indexes : Fld Z h0 w0 oC2 "indexes" "Ljava/util/Map;" (.ref w1)) (F_w0_arity : Fld Z h0 w0 oC2 "arity" "I" (.int 2)) (F_w0_rows : Fld Z h0 w0 oC2 "rows" "[I" (.ref w2)) (F_w0_members : Fld Z h0 w0 oC2 "members" "Lcom/example/ordal/ordal/Relation$PositionTable;" (.ref w8)) (F_w0_size : Fld Z h0 w0 oC2 "size" "I" (.int 2)) (F_w0_spellings : Fld Z h0 w0 oC2 "spellings" "[I" .null) (F_w0_arrived : Fld Z h0 w0 oC2 "arrived" "I" (.int 2)) (g_w0 : n0 ≤ w0) (E_w1 : Exa Z h0 w1 oC4) (F_w1_size : Fld Z h0 w1 oC4 "size" "I" (.int 0)) (g_w1 : n0 ≤ w1) (V_w2 : Arv Z h0 w2 kw2 .int (16 : Int32) [(.int p4), (.int p5), (.int p6), (.int p7)] (.int 0)) (g_w2 : n0 ≤ w2) (E_w8 : Exa Z h0 w8 oC3) (F_w8_table : Fld Z h0 w8 oC3 "table" "Lcom/example/ordal/ordal/NumberTable;" (.ref w9)) (F_w8_relation : Fld Z h0 w8 oC3 "relation" "Lcom/example/ordal/ordal/Relation;" (.ref w0)) (F_w8_columns : Fld Z h0 w8 oC3 "columns" "[I" (.ref w18)) (g_w8 : n0 ≤ w8) (E_w9 : Exa Z h0 w9 oC1) (F_w9_slots : Fld Z h0 w9 oC1 "slots" "[I" (.ref w10)) (F_w9_hashes : Fld Z h0 w9 oC1 "hashes" "[I" (.ref w14)) (F_w9_keys : Fld Z h0 w9 oC1 "keys" "Lcom/example/ordal/ordal/NumberTable$Keys;" (.ref w8)) (F_w9_count : Fld Z h0 w9 oC1 "count" "I" (.int 2)) (F_w9_crowded : Fld Z h0 w9 oC1 "crowded" "Ljava/util/TreeMap;" .null) (g_w9 : n0 ≤ w9) (V_w10 : Arh Z h0 w10 kw10 .int (16 : Int32) [(p12, (.int 2)), (p13, (.int 1))] [] (.int 0)) (g_w10 : n0 ≤ w10) (V_w14 : Arv Z h0 w14 kw14 .int (8 : Int32) [(.int p16), (.int p17)] (.int 0)) (g_w14 : n0 ≤ w14) (V_w18 : Arv Z h0 w18 kw18 .int (2 : Int32) [(.int 0), (.int 1)] (.int 0)) (g_w18 : n0 ≤ w18) (E_w20 : Exa Z h0 w20 "[I") (V_w20 : Arv Z h0 w20 kw20 .int (2 : Int32) [(.int p22), (.int p23)] (.int 0)) (g_w20 : n0 ≤ w20) (ne_w0_w1 : w0 ≠ w1) (ne_w0_w2 : w0 ≠ w2) (ne_w0_w8 : w0 ≠ w8) (ne_w0_w9 : w0 ≠ w9) (ne_w0_w10 : w0 ≠ w10) (ne_w0_w14 : w0 ≠ w14) (ne_w0_w18 : w0 ≠ w18) (ne_w0_w20 : w0 ≠ w20) (ne_w1_w2 : w1 ≠ w2) (ne_w1_w8 : w1 ≠ w8) (ne_w1_w9 : w1 ≠ w9) (ne_w1_w10 : w1 ≠ w10) (ne_w1_w14 : w1 ≠ w14) (ne_w1_w18 : w1 ≠ w18) (ne_w1_w20 : w1 ≠ w20) (ne_w2_w8 : w2 ≠ w8) (ne_w2_w9 : w2 ≠ w9) (ne_w2_w10 : w2 ≠ w10) (ne_w2_w14 : w2 ≠ w14) (ne_w2_w18 : w2 ≠ w18) (ne_w2_w20 : w2 ≠ w20) (ne_w8_w9 : w8 ≠ w9) (ne_w8_w10 : w8 ≠ w10) (ne_w8_w14 : w8 ≠ w14) (ne_w8_w18 : w8 ≠ w18) (ne_w8_w20 : w8 ≠ w20) (ne_w9_w10 : w9 ≠ w10) (ne_w9_w14 : w9 ≠ w14) (ne_w9_w18 : w9 ≠ w18) (ne_w9_w20 : w9 ≠ w20) (ne_w10_w14 : w10 ≠ w14) (ne_w10_w18 : w10 ≠ w18) (ne_w10_w20 : w10 ≠ w20) (ne_w14_w18 : w14 ≠ w18) (ne_w14_w20 : w14 ≠ w20) (ne_w18_w20 : w18 ≠ w20) (hp0 : own_F_hash p4 p5 = p16) (hp1 : own_F_slot p16 = p13) (hp2 : own_F_hash p6 p7 = p17) (hp3 : own_F_put2 p13 p17 = p12) :
    own_M l Z (⟨"com/example/ordal/ordal/Relation", "put", "([I[I)Z"⟩ : MethodName) prog_12_method_16_code 8 (some .boolean) ws ({ frames := 6, cells := 0, slots := 0, locals := 85 } : Room) #[(.ref w0), (.ref w20), (.ref w20)] h0 n0 (Q_40 Z w0 w1 w2 kw2 p4 p5 p6 p7 w8 w9 w10 kw10 p12 p13 w14 kw14 p16 p17 w18 kw18 w20 kw20 p22 p23 h0 n0) := by
  refine own_enter' (Q := Q_40 Z w0 w1 w2 kw2 p4 p5 p6 p7 w8 w9 w10 kw10 p12 p13 w14 kw14 p16 p17 w18 kw18 w20 kw20 p22 p23 h0 n0) (F := fun m => mkF m 0 #[.val (.ref w0), .val (.ref w20), .val (.ref w20), .unset, .unset, .unset, .unset, .unset] []) (plainFor_of_name pn_2) ?_
  intro p e s m below meth c s₁ B X0
  have K : Keep h0 h0 [w2, w0, w14, w10, w9] := Keep.refl h0 _
  have lt_w0 := E_w0.lt
  have lt_w1 := E_w1.lt
  have lt_w2 := V_w2.lt
  have lt_w8 := E_w8.lt
  have lt_w9 := E_w9.lt
  have lt_w10 := V_w10.lt
  have lt_w14 := V_w14.lt
  have lt_w18 := V_w18.lt
  have lt_w20 := E_w20.lt
  refine own_aloadN (pc' := 1) B X0 d12_0 rfl rfl rfl ?_
  refine own_getfield (pc' := 4) B X0 (host := "") (Or.inl (own_w hw 65 rfl)) Via.refl F_w0_members d12_1 rfl ?_
  intro T1 X1
  refine own_aloadN (pc' := 5) B X1 d12_4 rfl rfl rfl ?_
  refine own_callV (pc' := 8) B X1 (own_w hw 92 rfl) (own_w hw 93 rfl) (own_w hw 95 rfl) (own_w hw 94 rfl) (own_w hw 36 rfl) (own_w hw 96 rfl) E_w8 (by decide) [(.ref w20)] [] (rm_10 l Z a0 hw [] w8 w20 kw20 (p22) (p23) h0 n0 (Nat.le_trans Z0 K.1) E_w8 g_w8 E_w20 V_w20 g_w20 ne_w8_w20) 0 (by decide) (by decide) rfl pd_6 rfl rfl (Nat.le_of_eq rfl) d12_5 rfl (k' := 0) (n' := 0) rfl rfl (by decide) (by decide) ?_
  intro T2 v2 h2 X2 q2
  obtain ⟨y3, hy4, rfl, rfl⟩ := q2
  show own_Go p e below (T2.setTop (mkF m 8 #[.val (.ref w0), .val (.ref w20), .val (.ref w20), .unset, .unset, .unset, .unset, .unset] [(.int y3)])) _
  refine own_istoreN (pc' := 9) B X2 (Ls' := #[.val (.ref w0), .val (.ref w20), .val (.ref w20), .val (.int y3), .unset, .unset, .unset, .unset]) d12_8 rfl rfl ?_
  refine own_aloadN (pc' := 10) B X2 d12_9 rfl rfl rfl ?_
  refine own_getfield (pc' := 13) B X2 (host := "") (Or.inl (own_w hw 65 rfl)) Via.refl F_w0_members d12_10 rfl ?_
  intro T5 X5
  refine own_aloadN (pc' := 14) B X5 d12_13 rfl rfl rfl ?_
  refine own_iloadN (pc' := 15) B X5 d12_14 rfl rfl ?_
  refine own_callV (pc' := 18) B X5 (own_w hw 101 rfl) (own_w hw 102 rfl) (own_w hw 104 rfl) (own_w hw 103 rfl) (own_w hw 36 rfl) (own_w hw 105 rfl) E_w8 (by decide) [(.ref w20), (.int y3)] [] (rm_41 l Z a0 hw [] w8 w9 w10 kw10 (p12) (p13) w14 kw14 (p16) (p17) w0 w2 kw2 (p4) (p5) (p6) (p7) w18 kw18 w20 kw20 (p22) (p23) (y3) h0 n0 (Nat.le_trans Z0 K.1) E_w8 F_w8_table F_w8_relation F_w8_columns g_w8 E_w9 F_w9_slots F_w9_hashes F_w9_keys F_w9_crowded g_w9 V_w10 g_w10 V_w14 g_w14 E_w0 F_w0_arity F_w0_rows g_w0 V_w2 g_w2 V_w18 g_w18 E_w20 V_w20 g_w20 ne_w8_w9 ne_w8_w10 ne_w8_w14 (Ne.symm ne_w0_w8) (Ne.symm ne_w2_w8) ne_w8_w18 ne_w8_w20 ne_w9_w10 ne_w9_w14 (Ne.symm ne_w0_w9) (Ne.symm ne_w2_w9) ne_w9_w18 ne_w9_w20 ne_w10_w14 (Ne.symm ne_w0_w10) (Ne.symm ne_w2_w10) ne_w10_w18 ne_w10_w20 (Ne.symm ne_w0_w14) (Ne.symm ne_w2_w14) ne_w14_w18 ne_w14_w20 ne_w0_w2 ne_w0_w18 ne_w0_w20 ne_w2_w18 ne_w2_w20 ne_w18_w20 hp0 hp1 hp2 hp3 hy4) 0 (by decide) (by decide) rfl pd_9 rfl rfl (Nat.le_of_eq rfl) d12_15 rfl (k' := 0) (n' := 0) rfl rfl (by decide) (by decide) ?_
  intro T6 v6 h6 X6 q6
  obtain ⟨y7, hy8, rfl, rfl⟩ := q6
  show own_Go p e below (T6.setTop (mkF m 18 #[.val (.ref w0), .val (.ref w20), .val (.ref w20), .val (.int y3), .unset, .unset, .unset, .unset] [(.int y7)])) _
  refine own_iconst (pc' := 19) B X6 (z := (-1 : Int32)) d12_18 rfl rfl ?_
  by_cases c9 : y7 = (-1 : Int32)
  refine own_icmpYes (pc' := 24) B X6 d12_19 (teq c9).1 (by decide) rfl ?_
  refine own_aloadN (pc' := 25) B X6 d12_24 rfl rfl rfl ?_
  refine own_getfield (pc' := 28) B X6 (host := "") (Or.inl (own_w hw 72 rfl)) Via.refl F_w0_size d12_25 rfl ?_
  intro T10 X10
  refine own_iconst (pc' := 29) B X10 (z := (1 : Int32)) d12_28 rfl rfl ?_
  refine own_iadd (pc' := 30) B X10 (z := (3 : Int32)) d12_29 rfl (by decide) ?_
  refine own_aloadN (pc' := 31) B X10 d12_30 rfl rfl rfl ?_
  refine own_getfield (pc' := 34) B X10 (host := "") (Or.inl (own_w hw 29 rfl)) Via.refl F_w0_arity d12_31 rfl ?_
  intro T11 X11
  refine own_imul (pc' := 35) B X11 (z := (6 : Int32)) d12_34 rfl (by decide) ?_
  refine own_aloadN (pc' := 36) B X11 d12_35 rfl rfl rfl ?_
  refine own_getfield (pc' := 39) B X11 (host := "") (Or.inl (own_w hw 32 rfl)) Via.refl F_w0_rows d12_36 rfl ?_
  intro T12 X12
  refine own_arraylength (pc' := 40) B X12 V_w2 d12_39 rfl ?_
  refine own_icmpYes (pc' := 98) B X12 d12_40 (flt (by decide : ¬ ((16 : Int32) < (6 : Int32)))).2.2.2 (by decide) rfl ?_
  refine own_aloadN (pc' := 99) B X12 d12_98 rfl rfl rfl ?_
  refine own_getfield (pc' := 102) B X12 (host := "") (Or.inl (own_w hw 72 rfl)) Via.refl F_w0_size d12_99 rfl ?_
  intro T13 X13
  refine own_aloadN (pc' := 103) B X13 d12_102 rfl rfl rfl ?_
  refine own_getfield (pc' := 106) B X13 (host := "") (Or.inl (own_w hw 29 rfl)) Via.refl F_w0_arity d12_103 rfl ?_
  intro T14 X14
  refine own_imul (pc' := 107) B X14 (z := (4 : Int32)) d12_106 rfl (by decide) ?_
  refine own_istore (pc' := 109) B X14 (Ls' := #[.val (.ref w0), .val (.ref w20), .val (.ref w20), .val (.int y3), .val (.int 4), .unset, .unset, .unset]) d12_107 rfl rfl ?_
  refine own_aloadN (pc' := 110) B X14 d12_109 rfl rfl rfl ?_
  refine own_iconst (pc' := 111) B X14 (z := (0 : Int32)) d12_110 rfl rfl ?_
  refine own_aloadN (pc' := 112) B X14 d12_111 rfl rfl rfl ?_
  refine own_getfield (pc' := 115) B X14 (host := "") (Or.inl (own_w hw 32 rfl)) Via.refl F_w0_rows d12_112 rfl ?_
  intro T15 X15
  refine own_iload (pc' := 117) B X15 d12_115 rfl rfl ?_
  refine own_aloadN (pc' := 118) B X15 d12_117 rfl rfl rfl ?_
  refine own_getfield (pc' := 121) B X15 (host := "") (Or.inl (own_w hw 29 rfl)) Via.refl F_w0_arity d12_118 rfl ?_
  intro T16 X16
  replace V_w2 : Arv Z h0 w2 kw2 .int (16 : Int32) [(.int p4), (.int p5), (.int p6), (.int p7), (.int 0), (.int 0)] (.int 0) := V_w2.pad (pad_rep [(.int p4), (.int p5), (.int p6), (.int p7)] (.int 0) 2)
  refine own_arraycopy (pc' := 124) B X16 (own_w hw 120 rfl) (own_w hw 123 rfl) (own_w hw 121 rfl) (own_w hw 122 rfl) V_w20 V_w2 rfl g_w2 (by decide) (by decide) (by decide) (by decide) (by decide) (us := [(.int p22), (.int p23)]) rfl (Nat.le_of_ble_eq_true rfl) (rs := [(.int p4), (.int p5), (.int p6), (.int p7), (.int p22), (.int p23)]) rfl d12_121 rfl rfl (by decide) 0 (Nat.le_of_eq rfl) (by decide) ?_
  intro T17 h17 X17 K17 V_w2
  replace K := K.trans K17 (allS (Or.inl (List.mem_of_getElem? (i := 0) rfl)) all0)
  refine own_aloadN (pc' := 125) B X17 d12_124 rfl rfl rfl ?_
  replace F_w0_spellings := (F_w0_spellings.keep K17 (ninS ne_w0_w2 nin0))
  refine own_getfield (pc' := 128) B X17 (host := "") (Or.inl (own_w hw 124 rfl)) Via.refl F_w0_spellings d12_125 rfl ?_
  intro T18 X18
  refine own_ifnonnullNo (pc' := 131) B X18 d12_128 rfl ?_
  refine own_aloadN (pc' := 132) B X18 d12_131 rfl rfl rfl ?_
  refine own_aloadN (pc' := 133) B X18 d12_132 rfl rfl rfl ?_
  refine own_acmp B X18 rfl rfl (same := true) d12_133 (decide_eq_true rfl) (by decide) (pc' := 158) (by decide) ?_
  refine own_aloadN (pc' := 159) B X18 d12_158 rfl rfl rfl ?_
  refine own_getfield (pc' := 162) B X18 (host := "") (Or.inl (own_w hw 124 rfl)) Via.refl F_w0_spellings d12_159 rfl ?_
  intro T19 X19
  refine own_ifnullYes (pc' := 180) B X19 d12_162 (by decide) rfl ?_
  refine own_aloadN (pc' := 181) B X19 d12_180 rfl rfl rfl ?_
  refine own_dup (pc' := 182) B X19 d12_181 rfl rfl ?_
  replace F_w0_size := (F_w0_size.keep K17 (ninS ne_w0_w2 nin0))
  refine own_getfield (pc' := 185) B X19 (host := "") (Or.inl (own_w hw 72 rfl)) Via.refl F_w0_size d12_182 rfl ?_
  intro T20 X20
  refine own_dup_x1 (pc' := 186) B X20 d12_185 rfl rfl rfl ?_
  refine own_iconst (pc' := 187) B X20 (z := (1 : Int32)) d12_186 rfl rfl ?_
  refine own_iadd (pc' := 188) B X20 (z := (3 : Int32)) d12_187 rfl (by decide) ?_
  replace E_w0 := (E_w0.keep K17)
  refine own_putfield (pc' := 191) B X20 (host := "") (Or.inl (own_w hw 72 rfl)) Via.refl F_w0_size E_w0 g_w0 (Or.inl (own_w hw 73 rfl)) (own_w hw 1 rfl) (ty := .int) (by decide) rfl rfl d12_188 rfl ?_
  intro T21 h21 X21 W21 F_w0_size
  replace K := K.wr W21 (Or.inl (List.mem_of_getElem? (i := 1) rfl))
  refine own_istore (pc' := 193) B X21 (Ls' := #[.val (.ref w0), .val (.ref w20), .val (.ref w20), .val (.int y3), .val (.int 4), .val (.int 2), .unset, .unset]) d12_191 rfl rfl ?_
  refine own_aloadN (pc' := 194) B X21 d12_193 rfl rfl rfl ?_
  replace F_w0_members := ((F_w0_members.keep K17 (ninS ne_w0_w2 nin0)).other W21 (Or.inr (slot_ne (Or.inr (own_w hw 66 rfl)) (Or.inl (own_w hw 73 rfl)) (by decide) (t := (.object "com/example/ordal/ordal/Relation$PositionTable")) (t' := .int) (by decide) (by decide))))
  refine own_getfield (pc' := 197) B X21 (host := "") (Or.inl (own_w hw 65 rfl)) Via.refl F_w0_members d12_194 rfl ?_
  intro T22 X22
  refine own_iload (pc' := 199) B X22 d12_197 rfl rfl ?_
  refine own_iloadN (pc' := 200) B X22 d12_199 rfl rfl ?_
  replace E_w8 := ((E_w8.keep K17).wr W21)
  replace F_w8_table := ((F_w8_table.keep K17 (ninS (Ne.symm ne_w2_w8) nin0)).other W21 (Or.inl (Ne.symm ne_w0_w8)))
  replace E_w9 := ((E_w9.keep K17).wr W21)
  replace F_w9_slots := ((F_w9_slots.keep K17 (ninS (Ne.symm ne_w2_w9) nin0)).other W21 (Or.inl (Ne.symm ne_w0_w9)))
  replace F_w9_hashes := ((F_w9_hashes.keep K17 (ninS (Ne.symm ne_w2_w9) nin0)).other W21 (Or.inl (Ne.symm ne_w0_w9)))
  replace F_w9_keys := ((F_w9_keys.keep K17 (ninS (Ne.symm ne_w2_w9) nin0)).other W21 (Or.inl (Ne.symm ne_w0_w9)))
  replace F_w9_count := ((F_w9_count.keep K17 (ninS (Ne.symm ne_w2_w9) nin0)).other W21 (Or.inl (Ne.symm ne_w0_w9)))
  replace F_w9_crowded := ((F_w9_crowded.keep K17 (ninS (Ne.symm ne_w2_w9) nin0)).other W21 (Or.inl (Ne.symm ne_w0_w9)))
  replace V_w10 := ((V_w10.keep K17 (ninS (Ne.symm ne_w2_w10) nin0)).other W21 (Ne.symm ne_w0_w10))
  replace V_w14 := ((V_w14.keep K17 (ninS (Ne.symm ne_w2_w14) nin0)).other W21 (Ne.symm ne_w0_w14))
  refine own_callV (pc' := 203) B X22 (own_w hw 126 rfl) (own_w hw 127 rfl) (own_w hw 129 rfl) (own_w hw 128 rfl) (own_w hw 36 rfl) (own_w hw 130 rfl) E_w8 (by decide) [(.int 2), (.int y3)] [] (rm_53 l Z a0 hw [] w8 w9 w10 kw10 (p12) (p13) w14 kw14 (p16) (p17) (y3) h21 n0 (Nat.le_trans Z0 K.1) E_w8 F_w8_table g_w8 E_w9 F_w9_slots F_w9_hashes F_w9_keys F_w9_count F_w9_crowded g_w9 V_w10 g_w10 V_w14 g_w14 ne_w8_w9 ne_w8_w10 ne_w8_w14 ne_w9_w10 ne_w9_w14 ne_w10_w14) 0 (by decide) (by decide) rfl pd_11 rfl rfl (Nat.le_of_eq rfl) d12_200 rfl (k' := 0) (n' := 0) rfl rfl (by decide) (by decide) ?_
  intro T23 v23 h23 X23 q23
  obtain ⟨rfl, K23, E_w9, F_w9_slots, F_w9_hashes, F_w9_keys, F_w9_count, F_w9_crowded, V_w14⟩ := q23
  replace K := K.trans K23 (allS (Or.inl (List.mem_of_getElem? (i := 2) rfl)) (allS (Or.inl (List.mem_of_getElem? (i := 3) rfl)) (allS (Or.inl (List.mem_of_getElem? (i := 4) rfl)) all0)))
  show own_Go p e below (T23.setTop (mkF m 203 #[.val (.ref w0), .val (.ref w20), .val (.ref w20), .val (.int y3), .val (.int 4), .val (.int 2), .unset, .unset] [])) _
  refine own_aloadN (pc' := 204) B X23 d12_203 rfl rfl rfl ?_
  replace F_w0_indexes := (((F_w0_indexes.keep K17 (ninS ne_w0_w2 nin0)).other W21 (Or.inr (slot_ne (Or.inr (own_w hw 26 rfl)) (Or.inl (own_w hw 73 rfl)) (by decide) (t := (.object "java/util/Map")) (t' := .int) (by decide) (by decide)))).keep K23 (ninS ne_w0_w14 (ninS ne_w0_w10 (ninS ne_w0_w9 nin0))))
  refine own_getfield (pc' := 207) B X23 (host := "") (Or.inl (own_w hw 25 rfl)) Via.refl F_w0_indexes d12_204 rfl ?_
  intro T24 X24
  replace E_w1 := (((E_w1.keep K17).wr W21).keep K23)
  replace F_w1_size := (((F_w1_size.keep K17 (ninS ne_w1_w2 nin0)).other W21 (Or.inl (Ne.symm ne_w0_w1))).keep K23 (ninS ne_w1_w14 (ninS ne_w1_w10 (ninS ne_w1_w9 nin0))))
  refine own_callF (pc' := 212) B X24 (xi := (⟨"java/util/Map", "isEmpty", "()Z"⟩ : MethodName)) (own_w hw 146 rfl) (own_w hw 147 rfl) (own_w hw 148 rfl) (own_w hw 149 rfl) (own_w hw 150 rfl) (own_w hw 151 rfl) (own_w hw 152 rfl) (own_w hw 153 rfl) (own_w hw 11 rfl) (own_w hw 154 rfl) E_w1 (by decide) [] [] (rm_21 l Z a0 hw [] w1 h23 n0 (Nat.le_trans Z0 K.1) E_w1 F_w1_size g_w1) 0 (by decide) (by decide) rfl pd_12 rfl rfl (Nat.le_of_eq rfl) d12_207 rfl (k' := 0) (n' := 0) rfl rfl (by decide) (by decide) ?_
  intro T25 v25 h25 X25 q25
  obtain ⟨rfl, rfl⟩ := q25
  show own_Go p e below (T25.setTop (mkF m 212 #[.val (.ref w0), .val (.ref w20), .val (.ref w20), .val (.int y3), .val (.int 4), .val (.int 2), .unset, .unset] [(.int 1)])) _
  refine own_ifYes (pc' := 263) B X25 d12_212 ((if0 _ _).trans (feq (by decide : ¬ ((1 : Int32) = (0 : Int32)))).2) (by decide) rfl ?_
  refine own_iconst (pc' := 264) B X25 (z := (1 : Int32)) d12_263 rfl rfl ?_
  exact own_retN B X25 (t := .boolean) (z' := (1 : Int32)) (by simp) (by decide) d12_264 (by decide) (by decide) (Or.inl ⟨y3, y7, hy4, hy8, c9, rfl, K, ((E_w0.wr W21).keep K23), F_w0_indexes, (((F_w0_arity.keep K17 (ninS ne_w0_w2 nin0)).other W21 (Or.inr (slot_ne (Or.inr (own_w hw 30 rfl)) (Or.inl (own_w hw 73 rfl)) (by decide) (t := .int) (t' := .int) (by decide) (by decide)))).keep K23 (ninS ne_w0_w14 (ninS ne_w0_w10 (ninS ne_w0_w9 nin0)))), (((F_w0_rows.keep K17 (ninS ne_w0_w2 nin0)).other W21 (Or.inr (slot_ne (Or.inl (own_w hw 33 rfl)) (Or.inl (own_w hw 73 rfl)) (by decide) (t := (.array .int)) (t' := .int) (by decide) (by decide)))).keep K23 (ninS ne_w0_w14 (ninS ne_w0_w10 (ninS ne_w0_w9 nin0)))), (F_w0_members.keep K23 (ninS ne_w0_w14 (ninS ne_w0_w10 (ninS ne_w0_w9 nin0)))), (F_w0_size.keep K23 (ninS ne_w0_w14 (ninS ne_w0_w10 (ninS ne_w0_w9 nin0)))), ((F_w0_spellings.other W21 (Or.inr (slot_ne (Or.inl (own_w hw 125 rfl)) (Or.inl (own_w hw 73 rfl)) (by decide) (t := (.array .int)) (t' := .int) (by decide) (by decide)))).keep K23 (ninS ne_w0_w14 (ninS ne_w0_w10 (ninS ne_w0_w9 nin0)))), (((F_w0_arrived.keep K17 (ninS ne_w0_w2 nin0)).other W21 (Or.inr (slot_ne (Or.inl (own_w hw 158 rfl)) (Or.inl (own_w hw 73 rfl)) (by decide) (t := .int) (t' := .int) (by decide) (by decide)))).keep K23 (ninS ne_w0_w14 (ninS ne_w0_w10 (ninS ne_w0_w9 nin0)))), ((V_w2.other W21 (Ne.symm ne_w0_w2)).keep K23 (ninS ne_w2_w14 (ninS ne_w2_w10 (ninS ne_w2_w9 nin0)))), E_w9, F_w9_slots, F_w9_hashes, F_w9_keys, F_w9_count, F_w9_crowded, V_w14⟩)
  refine own_icmpNo (pc' := 22) B X6 d12_19 (feq c9).1 rfl ?_
  refine own_iconst (pc' := 23) B X6 (z := (0 : Int32)) d12_22 rfl rfl ?_
  exact own_retN B X6 (t := .boolean) (z' := (0 : Int32)) (by simp) (by decide) d12_23 (by decide) (by decide) (Or.inr (⟨y7, hy8, c9, rfl, rfl⟩))
def Q_39 (Z : State) (w0 w1 w2 : Addr) (kw2 : ClassId) (p4 p5 p6 p7 : Int32) (w8 w9 w10 : Addr) (kw10 : ClassId) (p12 p13 : Int32) (w14 : Addr) (kw14 : ClassId) (p16 p17 : Int32) (w18 : Addr) (kw18 : ClassId) (w20 : Addr) (kw20 : ClassId) (p22 p23 : Int32) (h0 : Heap) (n0 : Nat) (v : Option Value) (h : Heap) : Prop :=
  (∃ (y4 : Int32) (y5 : Int32), own_F_hash p22 p23 = y4 ∧ own_F_look2 p4 p5 p6 p7 p22 p23 = y5 ∧ y5 = (-1 : Int32) ∧ v = some (.int 1) ∧ Keep h0 h [w2, w0, w14, w10, w9] ∧ Exa Z h w0 oC2 ∧ Fld Z h w0 oC2 "indexes" "Ljava/util/Map;" (.ref w1) ∧ Fld Z h w0 oC2 "arity" "I" (.int 2) ∧ Fld Z h w0 oC2 "rows" "[I" (.ref w2) ∧ Fld Z h w0 oC2 "members" "Lcom/example/ordal/ordal/Relation$PositionTable;" (.ref w8) ∧ Fld Z h w0 oC2 "size" "I" (.int 3) ∧ Fld Z h w0 oC2 "spellings" "[I" .null ∧ Fld Z h w0 oC2 "arrived" "I" (.int 3) ∧ Arv Z h w2 kw2 .int (16 : Int32) [(.int p4), (.int p5), (.int p6), (.int p7), (.int p22), (.int p23)] (.int 0) ∧ Exa Z h w9 oC1 ∧ Fld Z h w9 oC1 "slots" "[I" (.ref w10) ∧ Fld Z h w9 oC1 "hashes" "[I" (.ref w14) ∧ Fld Z h w9 oC1 "keys" "Lcom/example/ordal/ordal/NumberTable$Keys;" (.ref w8) ∧ Fld Z h w9 oC1 "count" "I" (.int 3) ∧ Fld Z h w9 oC1 "crowded" "Ljava/util/TreeMap;" .null ∧ Arv Z h w14 kw14 .int (8 : Int32) [(.int p16), (.int p17), (.int y4)] (.int 0)) ∨
  (∃ (y9 : Int32), own_F_look2 p4 p5 p6 p7 p22 p23 = y9 ∧ ¬ (y9 = (-1 : Int32)) ∧ v = some (.int 0) ∧ h0 = h)
theorem rm_39 (l : Launch) (Z : State) (a0 : Array Value) (hw : ∀ d ∈ tables_1, d.before a0 Z = true) (ws : List Jvm.Cond) (w0 w1 w2 : Addr) (kw2 : ClassId) (p4 p5 p6 p7 : Int32) (w8 w9 w10 : Addr) (kw10 : ClassId) (p12 p13 : Int32) (w14 : Addr) (kw14 : ClassId) (p16 p17 : Int32) (w18 : Addr) (kw18 : ClassId) (w20 : Addr) (kw20 : ClassId) (p22 p23 : Int32) (h0 : Heap) (n0 : Nat) (Z0 : n0 ≤ h0.size) (E_w0 : Exa Z h0 w0 oC2) (F_w0_indexes : Fld Z h0 w0 oC2 "indexes" "Ljava/util/Map;" (.ref w1)) (F_w0_arity : Fld Z h0 w0 oC2 "arity" "I" (.int 2)) (F_w0_rows : Fld Z h0 w0 oC2 "rows" "[I" (.ref w2)) (F_w0_members : Fld Z h0 w0 oC2 "members" "Lcom/example/ordal/ordal/Relation$PositionTable;" (.ref w8)) (F_w0_size : Fld Z h0 w0 oC2 "size" "I" (.int 2)) (F_w0_spellings : Fld Z h0 w0 oC2 "spellings" "[I" .null) (F_w0_arrived : Fld Z h0 w0 oC2 "arrived" "I" (.int 2)) (g_w0 : n0 ≤ w0) (E_w1 : Exa Z h0 w1 oC4) (F_w1_size : Fld Z h0 w1 oC4 "size" "I" (.int 0)) (g_w1 : n0 ≤ w1) (V_w2 : Arv Z h0 w2 kw2 .int (16 : Int32) [(.int p4), (.int p5), (.int p6), (.int p7)] (.int 0)) (g_w2 : n0 ≤ w2) (E_w8 : Exa Z h0 w8 oC3) (F_w8_table : Fld Z h0 w8 oC3 "table" "Lcom/example/ordal/ordal/NumberTable;" (.ref w9)) (F_w8_relation : Fld Z h0 w8 oC3 "relation" "Lcom/example/ordal/ordal/Relation;" (.ref w0)) (F_w8_columns : Fld Z h0 w8 oC3 "columns" "[I" (.ref w18)) (g_w8 : n0 ≤ w8) (E_w9 : Exa Z h0 w9 oC1) (F_w9_slots : Fld Z h0 w9 oC1 "slots" "[I" (.ref w10)) (F_w9_hashes : Fld Z h0 w9 oC1 "hashes" "[I" (.ref w14)) (F_w9_keys : Fld Z h0 w9 oC1 "keys" "Lcom/example/ordal/ordal/NumberTable$Keys;" (.ref w8)) (F_w9_count : Fld Z h0 w9 oC1 "count" "I" (.int 2)) (F_w9_crowded : Fld Z h0 w9 oC1 "crowded" "Ljava/util/TreeMap;" .null) (g_w9 : n0 ≤ w9) (V_w10 : Arh Z h0 w10 kw10 .int (16 : Int32) [(p12, (.int 2)), (p13, (.int 1))] [] (.int 0)) (g_w10 : n0 ≤ w10) (V_w14 : Arv Z h0 w14 kw14 .int (8 : Int32) [(.int p16), (.int p17)] (.int 0)) (g_w14 : n0 ≤ w14) (V_w18 : Arv Z h0 w18 kw18 .int (2 : Int32) [(.int 0), (.int 1)] (.int 0)) (g_w18 : n0 ≤ w18) (E_w20 : Exa Z h0 w20 "[I") (V_w20 : Arv Z h0 w20 kw20 .int (2 : Int32) [(.int p22), (.int p23)] (.int 0)) (g_w20 : n0 ≤ w20) (ne_w0_w1 : w0 ≠ w1) (ne_w0_w2 : w0 ≠ w2) (ne_w0_w8 : w0 ≠ w8) (ne_w0_w9 : w0 ≠ w9) (ne_w0_w10 : w0 ≠ w10) (ne_w0_w14 : w0 ≠ w14) (ne_w0_w18 : w0 ≠ w18) (ne_w0_w20 : w0 ≠ w20) (ne_w1_w2 : w1 ≠ w2) (ne_w1_w8 : w1 ≠ w8) (ne_w1_w9 : w1 ≠ w9) (ne_w1_w10 : w1 ≠ w10) (ne_w1_w14 : w1 ≠ w14) (ne_w1_w18 : w1 ≠ w18) (ne_w1_w20 : w1 ≠ w20) (ne_w2_w8 : w2 ≠ w8) (ne_w2_w9 : w2 ≠ w9) (ne_w2_w10 : w2 ≠ w10) (ne_w2_w14 : w2 ≠ w14) (ne_w2_w18 : w2 ≠ w18) (ne_w2_w20 : w2 ≠ w20) (ne_w8_w9 : w8 ≠ w9) (ne_w8_w10 : w8 ≠ w10) (ne_w8_w14 : w8 ≠ w14) (ne_w8_w18 : w8 ≠ w18) (ne_w8_w20 : w8 ≠ w20) (ne_w9_w10 : w9 ≠ w10) (ne_w9_w14 : w9 ≠ w14) (ne_w9_w18 : w9 ≠ w18) (ne_w9_w20 : w9 ≠ w20) (ne_w10_w14 : w10 ≠ w14) (ne_w10_w18 : w10 ≠ w18) (ne_w10_w20 : w10 ≠ w20) (ne_w14_w18 : w14 ≠ w18) (ne_w14_w20 : w14 ≠ w20) (ne_w18_w20 : w18 ≠ w20) (hp0 : own_F_hash p4 p5 = p16) (hp1 : own_F_slot p16 = p13) (hp2 : own_F_hash p6 p7 = p17) (hp3 : own_F_put2 p13 p17 = p12) :
    own_M l Z (⟨"com/example/ordal/ordal/Relation", "add", "([I[I)Z"⟩ : MethodName) prog_12_method_15_code 4 (some .boolean) ws ({ frames := 7, cells := 0, slots := 0, locals := 104 } : Room) #[(.ref w0), (.ref w20), (.ref w20)] h0 n0 (Q_39 Z w0 w1 w2 kw2 p4 p5 p6 p7 w8 w9 w10 kw10 p12 p13 w14 kw14 p16 p17 w18 kw18 w20 kw20 p22 p23 h0 n0) := by
  refine own_enter' (Q := Q_39 Z w0 w1 w2 kw2 p4 p5 p6 p7 w8 w9 w10 kw10 p12 p13 w14 kw14 p16 p17 w18 kw18 w20 kw20 p22 p23 h0 n0) (F := fun m => mkF m 0 #[.val (.ref w0), .val (.ref w20), .val (.ref w20), .unset] []) (plainFor_of_name pn_2) ?_
  intro p e s m below meth c s₁ B X0
  have K : Keep h0 h0 [w2, w0, w14, w10, w9] := Keep.refl h0 _
  have lt_w0 := E_w0.lt
  have lt_w1 := E_w1.lt
  have lt_w2 := V_w2.lt
  have lt_w8 := E_w8.lt
  have lt_w9 := E_w9.lt
  have lt_w10 := V_w10.lt
  have lt_w14 := V_w14.lt
  have lt_w18 := V_w18.lt
  have lt_w20 := E_w20.lt
  refine own_aloadN (pc' := 1) B X0 d11_0 rfl rfl rfl ?_
  refine own_arraylength (pc' := 2) B X0 V_w20 d11_1 rfl ?_
  refine own_aloadN (pc' := 3) B X0 d11_2 rfl rfl rfl ?_
  refine own_getfield (pc' := 6) B X0 (host := "") (Or.inl (own_w hw 29 rfl)) Via.refl F_w0_arity d11_3 rfl ?_
  intro T1 X1
  refine own_icmpNo (pc' := 9) B X1 d11_6 (teq (by decide : (2 : Int32) = (2 : Int32))).2 rfl ?_
  refine own_aloadN (pc' := 10) B X1 d11_9 rfl rfl rfl ?_
  refine own_arraylength (pc' := 11) B X1 V_w20 d11_10 rfl ?_
  refine own_aloadN (pc' := 12) B X1 d11_11 rfl rfl rfl ?_
  refine own_getfield (pc' := 15) B X1 (host := "") (Or.inl (own_w hw 29 rfl)) Via.refl F_w0_arity d11_12 rfl ?_
  intro T2 X2
  refine own_icmpYes (pc' := 37) B X2 d11_15 (teq (by decide : (2 : Int32) = (2 : Int32))).1 (by decide) rfl ?_
  refine own_aloadN (pc' := 38) B X2 d11_37 rfl rfl rfl ?_
  refine own_aloadN (pc' := 39) B X2 d11_38 rfl rfl rfl ?_
  refine own_aloadN (pc' := 40) B X2 d11_39 rfl rfl rfl ?_
  refine own_callP (pc' := 43) B X2 (own_w hw 88 rfl) (own_w hw 89 rfl) (own_w hw 90 rfl) (own_w hw 1 rfl) (own_w hw 2 rfl) (own_w hw 91 rfl) E_w0 (by decide) [(.ref w20), (.ref w20)] [] (rm_40 l Z a0 hw [] w0 w1 w2 kw2 (p4) (p5) (p6) (p7) w8 w9 w10 kw10 (p12) (p13) w14 kw14 (p16) (p17) w18 kw18 w20 kw20 (p22) (p23) h0 n0 (Nat.le_trans Z0 K.1) E_w0 F_w0_indexes F_w0_arity F_w0_rows F_w0_members F_w0_size F_w0_spellings F_w0_arrived g_w0 E_w1 F_w1_size g_w1 V_w2 g_w2 E_w8 F_w8_table F_w8_relation F_w8_columns g_w8 E_w9 F_w9_slots F_w9_hashes F_w9_keys F_w9_count F_w9_crowded g_w9 V_w10 g_w10 V_w14 g_w14 V_w18 g_w18 E_w20 V_w20 g_w20 ne_w0_w1 ne_w0_w2 ne_w0_w8 ne_w0_w9 ne_w0_w10 ne_w0_w14 ne_w0_w18 ne_w0_w20 ne_w1_w2 ne_w1_w8 ne_w1_w9 ne_w1_w10 ne_w1_w14 ne_w1_w18 ne_w1_w20 ne_w2_w8 ne_w2_w9 ne_w2_w10 ne_w2_w14 ne_w2_w18 ne_w2_w20 ne_w8_w9 ne_w8_w10 ne_w8_w14 ne_w8_w18 ne_w8_w20 ne_w9_w10 ne_w9_w14 ne_w9_w18 ne_w9_w20 ne_w10_w14 ne_w10_w18 ne_w10_w20 ne_w14_w18 ne_w14_w20 ne_w18_w20 hp0 hp1 hp2 hp3) 0 (by decide) (by decide) rfl pd_13 rfl rfl (Nat.le_of_eq rfl) d11_40 rfl (k' := 0) (n' := 0) rfl rfl (by decide) (by decide) ?_
  intro T3 v3 h3 X3 q3
  rcases q3 with ⟨y4, y5, hy6, hy7, c8, rfl, K3, E_w0, F_w0_indexes, F_w0_arity, F_w0_rows, F_w0_members, F_w0_size, F_w0_spellings, F_w0_arrived, V_w2, E_w9, F_w9_slots, F_w9_hashes, F_w9_keys, F_w9_count, F_w9_crowded, V_w14⟩ | ⟨y9, hy10, c11, rfl, rfl⟩
  replace K := K.trans K3 (allS (Or.inl (List.mem_of_getElem? (i := 0) rfl)) (allS (Or.inl (List.mem_of_getElem? (i := 1) rfl)) (allS (Or.inl (List.mem_of_getElem? (i := 2) rfl)) (allS (Or.inl (List.mem_of_getElem? (i := 3) rfl)) (allS (Or.inl (List.mem_of_getElem? (i := 4) rfl)) all0)))))
  show own_Go p e below (T3.setTop (mkF m 43 #[.val (.ref w0), .val (.ref w20), .val (.ref w20), .unset] [(.int 1)])) _
  refine own_istoreN (pc' := 44) B X3 (Ls' := #[.val (.ref w0), .val (.ref w20), .val (.ref w20), .val (.int 1)]) d11_43 rfl rfl ?_
  refine own_iloadN (pc' := 45) B X3 d11_44 rfl rfl ?_
  refine own_ifNo (pc' := 48) B X3 d11_45 ((if0 _ _).trans (feq (by decide : ¬ ((1 : Int32) = (0 : Int32)))).1) rfl ?_
  refine own_aloadN (pc' := 49) B X3 d11_48 rfl rfl rfl ?_
  refine own_dup (pc' := 50) B X3 d11_49 rfl rfl ?_
  refine own_getfield (pc' := 53) B X3 (host := "") (Or.inl (own_w hw 157 rfl)) Via.refl F_w0_arrived d11_50 rfl ?_
  intro T12 X12
  refine own_iconst (pc' := 54) B X12 (z := (1 : Int32)) d11_53 rfl rfl ?_
  refine own_iadd (pc' := 55) B X12 (z := (3 : Int32)) d11_54 rfl (by decide) ?_
  refine own_putfield (pc' := 58) B X12 (host := "") (Or.inl (own_w hw 157 rfl)) Via.refl F_w0_arrived E_w0 g_w0 (Or.inl (own_w hw 158 rfl)) (own_w hw 1 rfl) (ty := .int) (by decide) rfl rfl d11_55 rfl ?_
  intro T13 h13 X13 W13 F_w0_arrived
  replace K := K.wr W13 (Or.inl (List.mem_of_getElem? (i := 1) rfl))
  refine own_iloadN (pc' := 59) B X13 d11_58 rfl rfl ?_
  exact own_retN B X13 (t := .boolean) (z' := (1 : Int32)) (by simp) (by decide) d11_59 (by decide) (by decide) (Or.inl ⟨y4, y5, hy6, hy7, c8, rfl, K, (E_w0.wr W13), (F_w0_indexes.other W13 (Or.inr (slot_ne (Or.inr (own_w hw 26 rfl)) (Or.inl (own_w hw 158 rfl)) (by decide) (t := (.object "java/util/Map")) (t' := .int) (by decide) (by decide)))), (F_w0_arity.other W13 (Or.inr (slot_ne (Or.inr (own_w hw 30 rfl)) (Or.inl (own_w hw 158 rfl)) (by decide) (t := .int) (t' := .int) (by decide) (by decide)))), (F_w0_rows.other W13 (Or.inr (slot_ne (Or.inl (own_w hw 33 rfl)) (Or.inl (own_w hw 158 rfl)) (by decide) (t := (.array .int)) (t' := .int) (by decide) (by decide)))), (F_w0_members.other W13 (Or.inr (slot_ne (Or.inr (own_w hw 66 rfl)) (Or.inl (own_w hw 158 rfl)) (by decide) (t := (.object "com/example/ordal/ordal/Relation$PositionTable")) (t' := .int) (by decide) (by decide)))), (F_w0_size.other W13 (Or.inr (slot_ne (Or.inl (own_w hw 73 rfl)) (Or.inl (own_w hw 158 rfl)) (by decide) (t := .int) (t' := .int) (by decide) (by decide)))), (F_w0_spellings.other W13 (Or.inr (slot_ne (Or.inl (own_w hw 125 rfl)) (Or.inl (own_w hw 158 rfl)) (by decide) (t := (.array .int)) (t' := .int) (by decide) (by decide)))), F_w0_arrived, (V_w2.other W13 (Ne.symm ne_w0_w2)), (E_w9.wr W13), (F_w9_slots.other W13 (Or.inl (Ne.symm ne_w0_w9))), (F_w9_hashes.other W13 (Or.inl (Ne.symm ne_w0_w9))), (F_w9_keys.other W13 (Or.inl (Ne.symm ne_w0_w9))), (F_w9_count.other W13 (Or.inl (Ne.symm ne_w0_w9))), (F_w9_crowded.other W13 (Or.inl (Ne.symm ne_w0_w9))), (V_w14.other W13 (Ne.symm ne_w0_w14))⟩)
  show own_Go p e below (T3.setTop (mkF m 43 #[.val (.ref w0), .val (.ref w20), .val (.ref w20), .unset] [(.int 0)])) _
  refine own_istoreN (pc' := 44) B X3 (Ls' := #[.val (.ref w0), .val (.ref w20), .val (.ref w20), .val (.int 0)]) d11_43 rfl rfl ?_
  refine own_iloadN (pc' := 45) B X3 d11_44 rfl rfl ?_
  refine own_ifYes (pc' := 58) B X3 d11_45 ((if0 _ _).trans (teq (by decide : (0 : Int32) = (0 : Int32))).1) (by decide) rfl ?_
  refine own_iloadN (pc' := 59) B X3 d11_58 rfl rfl ?_
  exact own_retN B X3 (t := .boolean) (z' := (0 : Int32)) (by simp) (by decide) d11_59 (by decide) (by decide) (Or.inr (⟨y9, hy10, c11, rfl, rfl⟩))
def Q_38 (Z : State) (w0 w1 w2 : Addr) (kw2 : ClassId) (p4 p5 p6 p7 : Int32) (w8 w9 w10 : Addr) (kw10 : ClassId) (p12 p13 : Int32) (w14 : Addr) (kw14 : ClassId) (p16 p17 : Int32) (w18 : Addr) (kw18 : ClassId) (w20 : Addr) (kw20 : ClassId) (p22 p23 : Int32) (h0 : Heap) (n0 : Nat) (v : Option Value) (h : Heap) : Prop :=
  (∃ (y2 : Int32) (y3 : Int32), own_F_hash p22 p23 = y2 ∧ own_F_look2 p4 p5 p6 p7 p22 p23 = y3 ∧ y3 = (-1 : Int32) ∧ v = some (.int 1) ∧ Keep h0 h [w2, w0, w14, w10, w9] ∧ Exa Z h w0 oC2 ∧ Fld Z h w0 oC2 "indexes" "Ljava/util/Map;" (.ref w1) ∧ Fld Z h w0 oC2 "arity" "I" (.int 2) ∧ Fld Z h w0 oC2 "rows" "[I" (.ref w2) ∧ Fld Z h w0 oC2 "members" "Lcom/example/ordal/ordal/Relation$PositionTable;" (.ref w8) ∧ Fld Z h w0 oC2 "size" "I" (.int 3) ∧ Fld Z h w0 oC2 "spellings" "[I" .null ∧ Fld Z h w0 oC2 "arrived" "I" (.int 3) ∧ Arv Z h w2 kw2 .int (16 : Int32) [(.int p4), (.int p5), (.int p6), (.int p7), (.int p22), (.int p23)] (.int 0) ∧ Exa Z h w9 oC1 ∧ Fld Z h w9 oC1 "slots" "[I" (.ref w10) ∧ Fld Z h w9 oC1 "hashes" "[I" (.ref w14) ∧ Fld Z h w9 oC1 "keys" "Lcom/example/ordal/ordal/NumberTable$Keys;" (.ref w8) ∧ Fld Z h w9 oC1 "count" "I" (.int 3) ∧ Fld Z h w9 oC1 "crowded" "Ljava/util/TreeMap;" .null ∧ Arv Z h w14 kw14 .int (8 : Int32) [(.int p16), (.int p17), (.int y2)] (.int 0)) ∨
  (∃ (y7 : Int32), own_F_look2 p4 p5 p6 p7 p22 p23 = y7 ∧ ¬ (y7 = (-1 : Int32)) ∧ v = some (.int 0) ∧ h0 = h)
theorem rm_38 (l : Launch) (Z : State) (a0 : Array Value) (hw : ∀ d ∈ tables_1, d.before a0 Z = true) (ws : List Jvm.Cond) (w0 w1 w2 : Addr) (kw2 : ClassId) (p4 p5 p6 p7 : Int32) (w8 w9 w10 : Addr) (kw10 : ClassId) (p12 p13 : Int32) (w14 : Addr) (kw14 : ClassId) (p16 p17 : Int32) (w18 : Addr) (kw18 : ClassId) (w20 : Addr) (kw20 : ClassId) (p22 p23 : Int32) (h0 : Heap) (n0 : Nat) (Z0 : n0 ≤ h0.size) (E_w0 : Exa Z h0 w0 oC2) (F_w0_indexes : Fld Z h0 w0 oC2 "indexes" "Ljava/util/Map;" (.ref w1)) (F_w0_arity : Fld Z h0 w0 oC2 "arity" "I" (.int 2)) (F_w0_rows : Fld Z h0 w0 oC2 "rows" "[I" (.ref w2)) (F_w0_members : Fld Z h0 w0 oC2 "members" "Lcom/example/ordal/ordal/Relation$PositionTable;" (.ref w8)) (F_w0_size : Fld Z h0 w0 oC2 "size" "I" (.int 2)) (F_w0_spellings : Fld Z h0 w0 oC2 "spellings" "[I" .null) (F_w0_arrived : Fld Z h0 w0 oC2 "arrived" "I" (.int 2)) (g_w0 : n0 ≤ w0) (E_w1 : Exa Z h0 w1 oC4) (F_w1_size : Fld Z h0 w1 oC4 "size" "I" (.int 0)) (g_w1 : n0 ≤ w1) (V_w2 : Arv Z h0 w2 kw2 .int (16 : Int32) [(.int p4), (.int p5), (.int p6), (.int p7)] (.int 0)) (g_w2 : n0 ≤ w2) (E_w8 : Exa Z h0 w8 oC3) (F_w8_table : Fld Z h0 w8 oC3 "table" "Lcom/example/ordal/ordal/NumberTable;" (.ref w9)) (F_w8_relation : Fld Z h0 w8 oC3 "relation" "Lcom/example/ordal/ordal/Relation;" (.ref w0)) (F_w8_columns : Fld Z h0 w8 oC3 "columns" "[I" (.ref w18)) (g_w8 : n0 ≤ w8) (E_w9 : Exa Z h0 w9 oC1) (F_w9_slots : Fld Z h0 w9 oC1 "slots" "[I" (.ref w10)) (F_w9_hashes : Fld Z h0 w9 oC1 "hashes" "[I" (.ref w14)) (F_w9_keys : Fld Z h0 w9 oC1 "keys" "Lcom/example/ordal/ordal/NumberTable$Keys;" (.ref w8)) (F_w9_count : Fld Z h0 w9 oC1 "count" "I" (.int 2)) (F_w9_crowded : Fld Z h0 w9 oC1 "crowded" "Ljava/util/TreeMap;" .null) (g_w9 : n0 ≤ w9) (V_w10 : Arh Z h0 w10 kw10 .int (16 : Int32) [(p12, (.int 2)), (p13, (.int 1))] [] (.int 0)) (g_w10 : n0 ≤ w10) (V_w14 : Arv Z h0 w14 kw14 .int (8 : Int32) [(.int p16), (.int p17)] (.int 0)) (g_w14 : n0 ≤ w14) (V_w18 : Arv Z h0 w18 kw18 .int (2 : Int32) [(.int 0), (.int 1)] (.int 0)) (g_w18 : n0 ≤ w18) (E_w20 : Exa Z h0 w20 "[I") (V_w20 : Arv Z h0 w20 kw20 .int (2 : Int32) [(.int p22), (.int p23)] (.int 0)) (g_w20 : n0 ≤ w20) (ne_w0_w1 : w0 ≠ w1) (ne_w0_w2 : w0 ≠ w2) (ne_w0_w8 : w0 ≠ w8) (ne_w0_w9 : w0 ≠ w9) (ne_w0_w10 : w0 ≠ w10) (ne_w0_w14 : w0 ≠ w14) (ne_w0_w18 : w0 ≠ w18) (ne_w0_w20 : w0 ≠ w20) (ne_w1_w2 : w1 ≠ w2) (ne_w1_w8 : w1 ≠ w8) (ne_w1_w9 : w1 ≠ w9) (ne_w1_w10 : w1 ≠ w10) (ne_w1_w14 : w1 ≠ w14) (ne_w1_w18 : w1 ≠ w18) (ne_w1_w20 : w1 ≠ w20) (ne_w2_w8 : w2 ≠ w8) (ne_w2_w9 : w2 ≠ w9) (ne_w2_w10 : w2 ≠ w10) (ne_w2_w14 : w2 ≠ w14) (ne_w2_w18 : w2 ≠ w18) (ne_w2_w20 : w2 ≠ w20) (ne_w8_w9 : w8 ≠ w9) (ne_w8_w10 : w8 ≠ w10) (ne_w8_w14 : w8 ≠ w14) (ne_w8_w18 : w8 ≠ w18) (ne_w8_w20 : w8 ≠ w20) (ne_w9_w10 : w9 ≠ w10) (ne_w9_w14 : w9 ≠ w14) (ne_w9_w18 : w9 ≠ w18) (ne_w9_w20 : w9 ≠ w20) (ne_w10_w14 : w10 ≠ w14) (ne_w10_w18 : w10 ≠ w18) (ne_w10_w20 : w10 ≠ w20) (ne_w14_w18 : w14 ≠ w18) (ne_w14_w20 : w14 ≠ w20) (ne_w18_w20 : w18 ≠ w20) (hp0 : own_F_hash p4 p5 = p16) (hp1 : own_F_slot p16 = p13) (hp2 : own_F_hash p6 p7 = p17) (hp3 : own_F_put2 p13 p17 = p12) :
    own_M l Z (⟨"com/example/ordal/ordal/Relation", "add", "([I)Z"⟩ : MethodName) prog_12_method_14_code 2 (some .boolean) ws ({ frames := 8, cells := 0, slots := 0, locals := 119 } : Room) #[(.ref w0), (.ref w20)] h0 n0 (Q_38 Z w0 w1 w2 kw2 p4 p5 p6 p7 w8 w9 w10 kw10 p12 p13 w14 kw14 p16 p17 w18 kw18 w20 kw20 p22 p23 h0 n0) := by
  refine own_enter' (Q := Q_38 Z w0 w1 w2 kw2 p4 p5 p6 p7 w8 w9 w10 kw10 p12 p13 w14 kw14 p16 p17 w18 kw18 w20 kw20 p22 p23 h0 n0) (F := fun m => mkF m 0 #[.val (.ref w0), .val (.ref w20)] []) (plainFor_of_name pn_2) ?_
  intro p e s m below meth c s₁ B X0
  have K : Keep h0 h0 [w2, w0, w14, w10, w9] := Keep.refl h0 _
  have lt_w0 := E_w0.lt
  have lt_w1 := E_w1.lt
  have lt_w2 := V_w2.lt
  have lt_w8 := E_w8.lt
  have lt_w9 := E_w9.lt
  have lt_w10 := V_w10.lt
  have lt_w14 := V_w14.lt
  have lt_w18 := V_w18.lt
  have lt_w20 := E_w20.lt
  refine own_aloadN (pc' := 1) B X0 d10_0 rfl rfl rfl ?_
  refine own_aloadN (pc' := 2) B X0 d10_1 rfl rfl rfl ?_
  refine own_aloadN (pc' := 3) B X0 d10_2 rfl rfl rfl ?_
  refine own_callV (pc' := 6) B X0 (own_w hw 83 rfl) (own_w hw 84 rfl) (own_w hw 86 rfl) (own_w hw 85 rfl) (own_w hw 2 rfl) (own_w hw 87 rfl) E_w0 (by decide) [(.ref w20), (.ref w20)] [] (rm_39 l Z a0 hw [] w0 w1 w2 kw2 (p4) (p5) (p6) (p7) w8 w9 w10 kw10 (p12) (p13) w14 kw14 (p16) (p17) w18 kw18 w20 kw20 (p22) (p23) h0 n0 (Nat.le_trans Z0 K.1) E_w0 F_w0_indexes F_w0_arity F_w0_rows F_w0_members F_w0_size F_w0_spellings F_w0_arrived g_w0 E_w1 F_w1_size g_w1 V_w2 g_w2 E_w8 F_w8_table F_w8_relation F_w8_columns g_w8 E_w9 F_w9_slots F_w9_hashes F_w9_keys F_w9_count F_w9_crowded g_w9 V_w10 g_w10 V_w14 g_w14 V_w18 g_w18 E_w20 V_w20 g_w20 ne_w0_w1 ne_w0_w2 ne_w0_w8 ne_w0_w9 ne_w0_w10 ne_w0_w14 ne_w0_w18 ne_w0_w20 ne_w1_w2 ne_w1_w8 ne_w1_w9 ne_w1_w10 ne_w1_w14 ne_w1_w18 ne_w1_w20 ne_w2_w8 ne_w2_w9 ne_w2_w10 ne_w2_w14 ne_w2_w18 ne_w2_w20 ne_w8_w9 ne_w8_w10 ne_w8_w14 ne_w8_w18 ne_w8_w20 ne_w9_w10 ne_w9_w14 ne_w9_w18 ne_w9_w20 ne_w10_w14 ne_w10_w18 ne_w10_w20 ne_w14_w18 ne_w14_w20 ne_w18_w20 hp0 hp1 hp2 hp3) 0 (by decide) (by decide) rfl pd_13 rfl rfl (Nat.le_of_eq rfl) d10_3 rfl (k' := 0) (n' := 0) rfl rfl (by decide) (by decide) ?_
  intro T1 v1 h1 X1 q1
  rcases q1 with ⟨y2, y3, hy4, hy5, c6, rfl, K1, E_w0, F_w0_indexes, F_w0_arity, F_w0_rows, F_w0_members, F_w0_size, F_w0_spellings, F_w0_arrived, V_w2, E_w9, F_w9_slots, F_w9_hashes, F_w9_keys, F_w9_count, F_w9_crowded, V_w14⟩ | ⟨y7, hy8, c9, rfl, rfl⟩
  replace K := K.trans K1 (allS (Or.inl (List.mem_of_getElem? (i := 0) rfl)) (allS (Or.inl (List.mem_of_getElem? (i := 1) rfl)) (allS (Or.inl (List.mem_of_getElem? (i := 2) rfl)) (allS (Or.inl (List.mem_of_getElem? (i := 3) rfl)) (allS (Or.inl (List.mem_of_getElem? (i := 4) rfl)) all0)))))
  show own_Go p e below (T1.setTop (mkF m 6 #[.val (.ref w0), .val (.ref w20)] [(.int 1)])) _
  exact own_retN B X1 (t := .boolean) (z' := (1 : Int32)) (by simp) (by decide) d10_6 (by decide) (by decide) (Or.inl ⟨y2, y3, hy4, hy5, c6, rfl, K, E_w0, F_w0_indexes, F_w0_arity, F_w0_rows, F_w0_members, F_w0_size, F_w0_spellings, F_w0_arrived, V_w2, E_w9, F_w9_slots, F_w9_hashes, F_w9_keys, F_w9_count, F_w9_crowded, V_w14⟩)
  show own_Go p e below (T1.setTop (mkF m 6 #[.val (.ref w0), .val (.ref w20)] [(.int 0)])) _
  exact own_retN B X1 (t := .boolean) (z' := (0 : Int32)) (by simp) (by decide) d10_6 (by decide) (by decide) (Or.inr (⟨y7, hy8, c9, rfl, rfl⟩))
def Q_57 (Z : State) (w0 : Addr) (kw0 : ClassId) (p2 p3 : Int32) (w4 : Addr) (kw4 : ClassId) (p6 p7 p8 p9 : Int32) (h0 : Heap) (n0 : Nat) (v : Option Value) (h : Heap) : Prop :=
  (∃ (yF : Int32), own_F_holds p2 p6 p8 p9 = yF ∧ v = some (.int yF) ∧ h0 = h)
theorem rm_57 (l : Launch) (Z : State) (a0 : Array Value) (hw : ∀ d ∈ tables_1, d.before a0 Z = true) (ws : List Jvm.Cond) (w0 : Addr) (kw0 : ClassId) (p2 p3 : Int32) (w4 : Addr) (kw4 : ClassId) (p6 p7 p8 p9 : Int32) (h0 : Heap) (n0 : Nat) (Z0 : n0 ≤ h0.size) (V_w0 : Arv Z h0 w0 kw0 .int (3 : Int32) [(.int p2), (.int p3)] (.int 0)) (g_w0 : n0 ≤ w0) (V_w4 : Arv Z h0 w4 kw4 .int (3 : Int32) [(.int p6), (.int p7)] (.int 0)) (g_w4 : n0 ≤ w4) (ne_w0_w4 : w0 ≠ w4) :
    own_M l Z (⟨"com/example/ordal/ordal/RelationFindPinLaw", "same", "([I[IIIII)Z"⟩ : MethodName) method_3_code 6 (some .boolean) ws ({ frames := 0, cells := 0, slots := 0, locals := 0 } : Room) #[(.ref w0), (.ref w4), (.int 2), (.int 0), (.int p8), (.int p9)] h0 n0 (Q_57 Z w0 kw0 p2 p3 w4 kw4 p6 p7 p8 p9 h0 n0) := by
  refine own_enter' (Q := Q_57 Z w0 kw0 p2 p3 w4 kw4 p6 p7 p8 p9 h0 n0) (F := fun m => mkF m 0 #[.val (.ref w0), .val (.ref w4), .val (.int 2), .val (.int 0), .val (.int p8), .val (.int p9)] []) (plainFor_of_name pn_5) ?_
  intro p e s m below meth c s₁ B X0
  have K : Keep h0 h0 [] := Keep.refl h0 _
  have lt_w0 := V_w0.lt
  have lt_w4 := V_w4.lt
  refine own_iloadN (pc' := 1) B X0 d24_0 rfl rfl ?_
  refine own_iloadN (pc' := 2) B X0 d24_1 rfl rfl ?_
  refine own_icmpNo (pc' := 5) B X0 d24_2 (tlt (by decide : (0 : Int32) < (2 : Int32))).2.1 rfl ?_
  refine own_aloadN (pc' := 6) B X0 d24_5 rfl rfl rfl ?_
  refine own_iloadN (pc' := 7) B X0 d24_6 rfl rfl ?_
  refine own_iaload (pc' := 8) B X0 V_w0 (v := (.int p2)) ⟨by decide, by decide⟩ rfl d24_7 rfl ?_
  refine own_iload (pc' := 10) B X0 d24_8 rfl rfl ?_
  by_cases c1 : p2 = p8
  refine own_icmpNo (pc' := 13) B X0 d24_10 (teq c1).2 rfl ?_
  refine own_aloadN (pc' := 14) B X0 d24_13 rfl rfl rfl ?_
  refine own_iloadN (pc' := 15) B X0 d24_14 rfl rfl ?_
  refine own_iaload (pc' := 16) B X0 V_w4 (v := (.int p6)) ⟨by decide, by decide⟩ rfl d24_15 rfl ?_
  refine own_iload (pc' := 18) B X0 d24_16 rfl rfl ?_
  by_cases c2 : p6 = p9
  refine own_icmpNo (pc' := 21) B X0 d24_18 (teq c2).2 rfl ?_
  refine own_iconst (pc' := 22) B X0 (z := (1 : Int32)) d24_21 rfl rfl ?_
  refine own_goto (pc' := 26) B X0 d24_22 (by decide) rfl ?_
  exact own_retN B X0 (t := .boolean) (z' := (1 : Int32)) (by simp) (by decide) d24_26 (by decide) (by decide) ⟨(1 : Int32), (by rw [own_F_holds, if_pos c1, if_pos c2]), rfl, rfl⟩
  refine own_icmpYes (pc' := 25) B X0 d24_18 (feq c2).2 (by decide) rfl ?_
  refine own_iconst (pc' := 26) B X0 (z := (0 : Int32)) d24_25 rfl rfl ?_
  exact own_retN B X0 (t := .boolean) (z' := (0 : Int32)) (by simp) (by decide) d24_26 (by decide) (by decide) ⟨(0 : Int32), (by rw [own_F_holds, if_pos c1, if_neg c2]), rfl, rfl⟩
  refine own_icmpYes (pc' := 25) B X0 d24_10 (feq c1).2 (by decide) rfl ?_
  refine own_iconst (pc' := 26) B X0 (z := (0 : Int32)) d24_25 rfl rfl ?_
  exact own_retN B X0 (t := .boolean) (z' := (0 : Int32)) (by simp) (by decide) d24_26 (by decide) (by decide) ⟨(0 : Int32), (by rw [own_F_holds, if_neg c1]), rfl, rfl⟩
theorem ax_47 {F N : Int32 → Int32} {H : Int32 → Int32 → Int32} (nn : ∀ x, ¬ N x = x) {a0 a1 a2 a3 a4 a5 a6 a7 a8 a9 : Int32} (e0 : own_F_look1 a1 a2 a3 a4 = a0) (e1 : a0 = (-1 : Int32)) (e2 : own_F_holds a1 a2 a3 a4 = a5) (e3 : a5 = (0 : Int32)) (e4 : own_F_look2 a1 a2 a3 a4 a7 a8 = a6) (e5 : a6 = (-1 : Int32)) (e6 : own_F_holds a1 a2 a7 a8 = a9) : a9 = (0 : Int32) := by grind [own_F_look1, own_F_look2, own_G_put2, own_F_holds]
def Q_58 (Z : State) (w0 : Addr) (kw0 : ClassId) (p2 p3 : Int32) (w4 : Addr) (kw4 : ClassId) (p6 p7 p8 p9 : Int32) (h0 : Heap) (n0 : Nat) (v : Option Value) (h : Heap) : Prop :=
  (∃ (yF : Int32), own_F_holds p3 p7 p8 p9 = yF ∧ v = some (.int yF) ∧ h0 = h)
theorem rm_58 (l : Launch) (Z : State) (a0 : Array Value) (hw : ∀ d ∈ tables_1, d.before a0 Z = true) (ws : List Jvm.Cond) (w0 : Addr) (kw0 : ClassId) (p2 p3 : Int32) (w4 : Addr) (kw4 : ClassId) (p6 p7 p8 p9 : Int32) (h0 : Heap) (n0 : Nat) (Z0 : n0 ≤ h0.size) (V_w0 : Arv Z h0 w0 kw0 .int (3 : Int32) [(.int p2), (.int p3)] (.int 0)) (g_w0 : n0 ≤ w0) (V_w4 : Arv Z h0 w4 kw4 .int (3 : Int32) [(.int p6), (.int p7)] (.int 0)) (g_w4 : n0 ≤ w4) (ne_w0_w4 : w0 ≠ w4) :
    own_M l Z (⟨"com/example/ordal/ordal/RelationFindPinLaw", "same", "([I[IIIII)Z"⟩ : MethodName) method_3_code 6 (some .boolean) ws ({ frames := 0, cells := 0, slots := 0, locals := 0 } : Room) #[(.ref w0), (.ref w4), (.int 2), (.int 1), (.int p8), (.int p9)] h0 n0 (Q_58 Z w0 kw0 p2 p3 w4 kw4 p6 p7 p8 p9 h0 n0) := by
  refine own_enter' (Q := Q_58 Z w0 kw0 p2 p3 w4 kw4 p6 p7 p8 p9 h0 n0) (F := fun m => mkF m 0 #[.val (.ref w0), .val (.ref w4), .val (.int 2), .val (.int 1), .val (.int p8), .val (.int p9)] []) (plainFor_of_name pn_5) ?_
  intro p e s m below meth c s₁ B X0
  have K : Keep h0 h0 [] := Keep.refl h0 _
  have lt_w0 := V_w0.lt
  have lt_w4 := V_w4.lt
  refine own_iloadN (pc' := 1) B X0 d24_0 rfl rfl ?_
  refine own_iloadN (pc' := 2) B X0 d24_1 rfl rfl ?_
  refine own_icmpNo (pc' := 5) B X0 d24_2 (tlt (by decide : (1 : Int32) < (2 : Int32))).2.1 rfl ?_
  refine own_aloadN (pc' := 6) B X0 d24_5 rfl rfl rfl ?_
  refine own_iloadN (pc' := 7) B X0 d24_6 rfl rfl ?_
  refine own_iaload (pc' := 8) B X0 V_w0 (v := (.int p3)) ⟨by decide, by decide⟩ rfl d24_7 rfl ?_
  refine own_iload (pc' := 10) B X0 d24_8 rfl rfl ?_
  by_cases c1 : p3 = p8
  refine own_icmpNo (pc' := 13) B X0 d24_10 (teq c1).2 rfl ?_
  refine own_aloadN (pc' := 14) B X0 d24_13 rfl rfl rfl ?_
  refine own_iloadN (pc' := 15) B X0 d24_14 rfl rfl ?_
  refine own_iaload (pc' := 16) B X0 V_w4 (v := (.int p7)) ⟨by decide, by decide⟩ rfl d24_15 rfl ?_
  refine own_iload (pc' := 18) B X0 d24_16 rfl rfl ?_
  by_cases c2 : p7 = p9
  refine own_icmpNo (pc' := 21) B X0 d24_18 (teq c2).2 rfl ?_
  refine own_iconst (pc' := 22) B X0 (z := (1 : Int32)) d24_21 rfl rfl ?_
  refine own_goto (pc' := 26) B X0 d24_22 (by decide) rfl ?_
  exact own_retN B X0 (t := .boolean) (z' := (1 : Int32)) (by simp) (by decide) d24_26 (by decide) (by decide) ⟨(1 : Int32), (by rw [own_F_holds, if_pos c1, if_pos c2]), rfl, rfl⟩
  refine own_icmpYes (pc' := 25) B X0 d24_18 (feq c2).2 (by decide) rfl ?_
  refine own_iconst (pc' := 26) B X0 (z := (0 : Int32)) d24_25 rfl rfl ?_
  exact own_retN B X0 (t := .boolean) (z' := (0 : Int32)) (by simp) (by decide) d24_26 (by decide) (by decide) ⟨(0 : Int32), (by rw [own_F_holds, if_pos c1, if_neg c2]), rfl, rfl⟩
  refine own_icmpYes (pc' := 25) B X0 d24_10 (feq c1).2 (by decide) rfl ?_
  refine own_iconst (pc' := 26) B X0 (z := (0 : Int32)) d24_25 rfl rfl ?_
  exact own_retN B X0 (t := .boolean) (z' := (0 : Int32)) (by simp) (by decide) d24_26 (by decide) (by decide) ⟨(0 : Int32), (by rw [own_F_holds, if_neg c1]), rfl, rfl⟩
theorem ax_48 {F N : Int32 → Int32} {H : Int32 → Int32 → Int32} (nn : ∀ x, ¬ N x = x) {a0 a1 a2 a3 a4 a5 a6 a7 a8 a9 a10 : Int32} (e0 : own_F_look1 a1 a2 a3 a4 = a0) (e1 : a0 = (-1 : Int32)) (e2 : own_F_holds a1 a2 a3 a4 = a5) (e3 : a5 = (0 : Int32)) (e4 : own_F_look2 a1 a2 a3 a4 a7 a8 = a6) (e5 : a6 = (-1 : Int32)) (e6 : own_F_holds a1 a2 a7 a8 = a9) (e7 : a9 = (0 : Int32)) (e8 : own_F_holds a3 a4 a7 a8 = a10) : a10 = (0 : Int32) := by grind [own_F_look1, own_F_look2, own_G_put2, own_F_holds]
def Q_59 (Z : State) (w0 w1 : Addr) (kw1 : ClassId) (p3 p4 p5 p6 p7 p8 p9 p10 p11 p12 p13 : Int32) (h0 : Heap) (n0 : Nat) (v : Option Value) (h : Heap) : Prop :=
  (∃ (yF : Int32), own_F_find p3 p4 p5 p6 p7 p8 p9 p10 p11 = yF ∧ v = some (.int yF) ∧ h0 = h)
theorem rm_59 (l : Launch) (Z : State) (a0 : Array Value) (hw : ∀ d ∈ tables_1, d.before a0 Z = true) (ws : List Jvm.Cond) (w0 w1 : Addr) (kw1 : ClassId) (p3 p4 p5 p6 p7 p8 p9 p10 p11 p12 p13 : Int32) (h0 : Heap) (n0 : Nat) (Z0 : n0 ≤ h0.size) (E_w0 : Exa Z h0 w0 oC2) (F_w0_arity : Fld Z h0 w0 oC2 "arity" "I" (.int 2)) (F_w0_rows : Fld Z h0 w0 oC2 "rows" "[I" (.ref w1)) (F_w0_size : Fld Z h0 w0 oC2 "size" "I" (.int 3)) (g_w0 : n0 ≤ w0) (V_w1 : Arv Z h0 w1 kw1 .int (16 : Int32) [(.int p3), (.int p4), (.int p5), (.int p6), (.int p7), (.int p8)] (.int 0)) (g_w1 : n0 ≤ w1) (ne_w0_w1 : w0 ≠ w1) (hp0 : p12 &&& (1 : Int32) = p9) (hp1 : p13 &&& (7 : Int32) = p11) :
    own_M l Z (⟨"com/example/ordal/ordal/Relation", "find", "(III)I"⟩ : MethodName) prog_12_method_12_code 8 (some .int) ws ({ frames := 0, cells := 0, slots := 0, locals := 0 } : Room) #[(.ref w0), (.int p9), (.int p10), (.int p11)] h0 n0 (Q_59 Z w0 w1 kw1 p3 p4 p5 p6 p7 p8 p9 p10 p11 p12 p13 h0 n0) := by
  refine own_enter' (Q := Q_59 Z w0 w1 kw1 p3 p4 p5 p6 p7 p8 p9 p10 p11 p12 p13 h0 n0) (F := fun m => mkF m 0 #[.val (.ref w0), .val (.int p9), .val (.int p10), .val (.int p11), .unset, .unset, .unset, .unset] []) (plainFor_of_name pn_2) ?_
  intro p e s m below meth c s₁ B X0
  have K : Keep h0 h0 [] := Keep.refl h0 _
  have lt_w0 := E_w0.lt
  have lt_w1 := V_w1.lt
  refine own_aloadN (pc' := 1) B X0 d8_0 rfl rfl rfl ?_
  refine own_getfield (pc' := 4) B X0 (host := "") (Or.inl (own_w hw 32 rfl)) Via.refl F_w0_rows d8_1 rfl ?_
  intro T1 X1
  refine own_astore (pc' := 6) B X1 (Ls' := #[.val (.ref w0), .val (.int p9), .val (.int p10), .val (.int p11), .val (.ref w1), .unset, .unset, .unset]) d8_4 rfl rfl rfl ?_
  refine own_aloadN (pc' := 7) B X1 d8_6 rfl rfl rfl ?_
  refine own_getfield (pc' := 10) B X1 (host := "") (Or.inl (own_w hw 29 rfl)) Via.refl F_w0_arity d8_7 rfl ?_
  intro T2 X2
  refine own_istore (pc' := 12) B X2 (Ls' := #[.val (.ref w0), .val (.int p9), .val (.int p10), .val (.int p11), .val (.ref w1), .val (.int 2), .unset, .unset]) d8_10 rfl rfl ?_
  refine own_aloadN (pc' := 13) B X2 d8_12 rfl rfl rfl ?_
  refine own_getfield (pc' := 16) B X2 (host := "") (Or.inl (own_w hw 72 rfl)) Via.refl F_w0_size d8_13 rfl ?_
  intro T3 X3
  refine own_iload (pc' := 18) B X3 d8_16 rfl rfl ?_
  refine own_imul (pc' := 19) B X3 (z := (6 : Int32)) d8_18 rfl (by decide) ?_
  refine own_istore (pc' := 21) B X3 (Ls' := #[.val (.ref w0), .val (.int p9), .val (.int p10), .val (.int p11), .val (.ref w1), .val (.int 2), .val (.int 6), .unset]) d8_19 rfl rfl ?_
  refine own_iloadN (pc' := 22) B X3 d8_21 rfl rfl ?_
  refine own_iload (pc' := 24) B X3 d8_22 rfl rfl ?_
  obtain ⟨y4, hy4⟩ : ∃ z : Int32, p11 * (2 : Int32) = z := ⟨_, rfl⟩
  refine own_imul (pc' := 25) B X3 d8_24 rfl hy4 ?_
  refine own_iloadN (pc' := 26) B X3 d8_25 rfl rfl ?_
  obtain ⟨y5, hy5⟩ : ∃ z : Int32, y4 + p9 = z := ⟨_, rfl⟩
  refine own_iadd (pc' := 27) B X3 d8_26 rfl hy5 ?_
  refine own_istore (pc' := 29) B X3 (Ls' := #[.val (.ref w0), .val (.int p9), .val (.int p10), .val (.int p11), .val (.ref w1), .val (.int 2), .val (.int 6), .val (.int y5)]) d8_27 rfl rfl ?_
  refine own_iload (pc' := 31) B X3 d8_29 rfl rfl ?_
  refine own_iload (pc' := 33) B X3 d8_31 rfl rfl ?_
  by_cases c6 : y5 < (6 : Int32)
  refine own_icmpNo (pc' := 36) B X3 d8_33 (tlt c6).2.1 rfl ?_
  refine own_aload (pc' := 38) B X3 d8_36 rfl rfl rfl ?_
  refine own_iload (pc' := 40) B X3 d8_38 rfl rfl ?_
  have z7 : y5.toInt = 0 ∨ y5.toInt = 1 ∨ y5.toInt = 2 ∨ y5.toInt = 3 ∨ y5.toInt = 4 ∨ y5.toInt = 5 := by
    have o0 := own_o_mask hp0 1 (by decide) (by decide)
    have o1 := own_o_mask hp1 3 (by decide) (by decide)
    have o2 := own_o_imulR hy4 2 (by decide)
    have o3 := own_o_iadd hy5
    have o4 := own_lt c6
    have o5 := rng32 p11
    have o6 := rng32 p9
    have o7 := rng32 y4
    have o8 := rng32 y5
    have o9 : (1 : Int32).toInt = 1 := by decide
    have o10 : (7 : Int32).toInt = 7 := by decide
    have o11 : (2 : Int32).toInt = 2 := by decide
    have o12 : (6 : Int32).toInt = 6 := by decide
    omega
  rcases z7 with z7 | z7 | z7 | z7 | z7 | z7
  obtain rfl : y5 = (0 : Int32) := Int32.toInt_inj.mp (z7.trans (by decide))
  refine own_iaload (pc' := 41) B X3 V_w1 (v := (.int p3)) ⟨by decide, by decide⟩ rfl d8_40 rfl ?_
  refine own_iloadN (pc' := 42) B X3 d8_41 rfl rfl ?_
  by_cases c8 : p3 = p10
  refine own_icmpNo (pc' := 45) B X3 d8_42 (teq c8).2 rfl ?_
  refine own_iload (pc' := 47) B X3 d8_45 rfl rfl ?_
  refine own_iload (pc' := 49) B X3 d8_47 rfl rfl ?_
  refine own_idiv (pc' := 50) B X3 (z := (0 : Int32)) d8_49 rfl (by decide) (by decide) ?_
  exact own_retI B X3 d8_50 (by decide) (by decide) ⟨(0 : Int32), (by subst hy4; rw [own_F_find, if_pos (by first | exact c6 | (simp only [hy5]; exact c6)), if_pos hy5, if_pos (by first | exact c8 | (simp only [hy5]; exact c8))]), rfl, rfl⟩
  refine own_icmpYes (pc' := 51) B X3 d8_42 (feq c8).2 (by decide) rfl ?_
  refine own_iload (pc' := 53) B X3 d8_51 rfl rfl ?_
  refine own_iload (pc' := 55) B X3 d8_53 rfl rfl ?_
  refine own_iadd (pc' := 56) B X3 (z := (2 : Int32)) d8_55 rfl (by decide) ?_
  refine own_istore (pc' := 58) B X3 (Ls' := #[.val (.ref w0), .val (.int p9), .val (.int p10), .val (.int p11), .val (.ref w1), .val (.int 2), .val (.int 6), .val (.int 2)]) d8_56 rfl rfl ?_
  refine own_goto (pc' := 29) B X3 d8_58 (by decide) rfl ?_
  refine own_iload (pc' := 31) B X3 d8_29 rfl rfl ?_
  refine own_iload (pc' := 33) B X3 d8_31 rfl rfl ?_
  refine own_icmpNo (pc' := 36) B X3 d8_33 (tlt (by decide : (2 : Int32) < (6 : Int32))).2.1 rfl ?_
  refine own_aload (pc' := 38) B X3 d8_36 rfl rfl rfl ?_
  refine own_iload (pc' := 40) B X3 d8_38 rfl rfl ?_
  refine own_iaload (pc' := 41) B X3 V_w1 (v := (.int p5)) ⟨by decide, by decide⟩ rfl d8_40 rfl ?_
  refine own_iloadN (pc' := 42) B X3 d8_41 rfl rfl ?_
  by_cases c9 : p5 = p10
  refine own_icmpNo (pc' := 45) B X3 d8_42 (teq c9).2 rfl ?_
  refine own_iload (pc' := 47) B X3 d8_45 rfl rfl ?_
  refine own_iload (pc' := 49) B X3 d8_47 rfl rfl ?_
  refine own_idiv (pc' := 50) B X3 (z := (1 : Int32)) d8_49 rfl (by decide) (by decide) ?_
  exact own_retI B X3 d8_50 (by decide) (by decide) ⟨(1 : Int32), (by subst hy4; rw [own_F_find, if_pos (by first | exact c6 | (simp only [hy5]; exact c6)), if_pos hy5, if_neg (by first | exact c8 | (simp only [hy5]; exact c8)), if_pos (by first | exact c9 | (simp only [hy5]; exact c9))]), rfl, rfl⟩
  refine own_icmpYes (pc' := 51) B X3 d8_42 (feq c9).2 (by decide) rfl ?_
  refine own_iload (pc' := 53) B X3 d8_51 rfl rfl ?_
  refine own_iload (pc' := 55) B X3 d8_53 rfl rfl ?_
  refine own_iadd (pc' := 56) B X3 (z := (4 : Int32)) d8_55 rfl (by decide) ?_
  refine own_istore (pc' := 58) B X3 (Ls' := #[.val (.ref w0), .val (.int p9), .val (.int p10), .val (.int p11), .val (.ref w1), .val (.int 2), .val (.int 6), .val (.int 4)]) d8_56 rfl rfl ?_
  refine own_goto (pc' := 29) B X3 d8_58 (by decide) rfl ?_
  refine own_iload (pc' := 31) B X3 d8_29 rfl rfl ?_
  refine own_iload (pc' := 33) B X3 d8_31 rfl rfl ?_
  refine own_icmpNo (pc' := 36) B X3 d8_33 (tlt (by decide : (4 : Int32) < (6 : Int32))).2.1 rfl ?_
  refine own_aload (pc' := 38) B X3 d8_36 rfl rfl rfl ?_
  refine own_iload (pc' := 40) B X3 d8_38 rfl rfl ?_
  refine own_iaload (pc' := 41) B X3 V_w1 (v := (.int p7)) ⟨by decide, by decide⟩ rfl d8_40 rfl ?_
  refine own_iloadN (pc' := 42) B X3 d8_41 rfl rfl ?_
  by_cases c10 : p7 = p10
  refine own_icmpNo (pc' := 45) B X3 d8_42 (teq c10).2 rfl ?_
  refine own_iload (pc' := 47) B X3 d8_45 rfl rfl ?_
  refine own_iload (pc' := 49) B X3 d8_47 rfl rfl ?_
  refine own_idiv (pc' := 50) B X3 (z := (2 : Int32)) d8_49 rfl (by decide) (by decide) ?_
  exact own_retI B X3 d8_50 (by decide) (by decide) ⟨(2 : Int32), (by subst hy4; rw [own_F_find, if_pos (by first | exact c6 | (simp only [hy5]; exact c6)), if_pos hy5, if_neg (by first | exact c8 | (simp only [hy5]; exact c8)), if_neg (by first | exact c9 | (simp only [hy5]; exact c9)), if_pos (by first | exact c10 | (simp only [hy5]; exact c10))]), rfl, rfl⟩
  refine own_icmpYes (pc' := 51) B X3 d8_42 (feq c10).2 (by decide) rfl ?_
  refine own_iload (pc' := 53) B X3 d8_51 rfl rfl ?_
  refine own_iload (pc' := 55) B X3 d8_53 rfl rfl ?_
  refine own_iadd (pc' := 56) B X3 (z := (6 : Int32)) d8_55 rfl (by decide) ?_
  refine own_istore (pc' := 58) B X3 (Ls' := #[.val (.ref w0), .val (.int p9), .val (.int p10), .val (.int p11), .val (.ref w1), .val (.int 2), .val (.int 6), .val (.int 6)]) d8_56 rfl rfl ?_
  refine own_goto (pc' := 29) B X3 d8_58 (by decide) rfl ?_
  refine own_iload (pc' := 31) B X3 d8_29 rfl rfl ?_
  refine own_iload (pc' := 33) B X3 d8_31 rfl rfl ?_
  refine own_icmpYes (pc' := 61) B X3 d8_33 (flt (by decide : ¬ ((6 : Int32) < (6 : Int32)))).2.1 (by decide) rfl ?_
  refine own_iconst (pc' := 62) B X3 (z := (-1 : Int32)) d8_61 rfl rfl ?_
  exact own_retI B X3 d8_62 (by decide) (by decide) ⟨(-1 : Int32), (by subst hy4; rw [own_F_find, if_pos (by first | exact c6 | (simp only [hy5]; exact c6)), if_pos hy5, if_neg (by first | exact c8 | (simp only [hy5]; exact c8)), if_neg (by first | exact c9 | (simp only [hy5]; exact c9)), if_neg (by first | exact c10 | (simp only [hy5]; exact c10))]), rfl, rfl⟩
  obtain rfl : y5 = (1 : Int32) := Int32.toInt_inj.mp (z7.trans (by decide))
  refine own_iaload (pc' := 41) B X3 V_w1 (v := (.int p4)) ⟨by decide, by decide⟩ rfl d8_40 rfl ?_
  refine own_iloadN (pc' := 42) B X3 d8_41 rfl rfl ?_
  by_cases c11 : p4 = p10
  refine own_icmpNo (pc' := 45) B X3 d8_42 (teq c11).2 rfl ?_
  refine own_iload (pc' := 47) B X3 d8_45 rfl rfl ?_
  refine own_iload (pc' := 49) B X3 d8_47 rfl rfl ?_
  refine own_idiv (pc' := 50) B X3 (z := (0 : Int32)) d8_49 rfl (by decide) (by decide) ?_
  exact own_retI B X3 d8_50 (by decide) (by decide) ⟨(0 : Int32), (by subst hy4; rw [own_F_find, if_pos (by first | exact c6 | (simp only [hy5]; exact c6)), if_neg (by rw [hy5]; decide), if_pos hy5, if_pos (by first | exact c11 | (simp only [hy5]; exact c11))]), rfl, rfl⟩
  refine own_icmpYes (pc' := 51) B X3 d8_42 (feq c11).2 (by decide) rfl ?_
  refine own_iload (pc' := 53) B X3 d8_51 rfl rfl ?_
  refine own_iload (pc' := 55) B X3 d8_53 rfl rfl ?_
  refine own_iadd (pc' := 56) B X3 (z := (3 : Int32)) d8_55 rfl (by decide) ?_
  refine own_istore (pc' := 58) B X3 (Ls' := #[.val (.ref w0), .val (.int p9), .val (.int p10), .val (.int p11), .val (.ref w1), .val (.int 2), .val (.int 6), .val (.int 3)]) d8_56 rfl rfl ?_
  refine own_goto (pc' := 29) B X3 d8_58 (by decide) rfl ?_
  refine own_iload (pc' := 31) B X3 d8_29 rfl rfl ?_
  refine own_iload (pc' := 33) B X3 d8_31 rfl rfl ?_
  refine own_icmpNo (pc' := 36) B X3 d8_33 (tlt (by decide : (3 : Int32) < (6 : Int32))).2.1 rfl ?_
  refine own_aload (pc' := 38) B X3 d8_36 rfl rfl rfl ?_
  refine own_iload (pc' := 40) B X3 d8_38 rfl rfl ?_
  refine own_iaload (pc' := 41) B X3 V_w1 (v := (.int p6)) ⟨by decide, by decide⟩ rfl d8_40 rfl ?_
  refine own_iloadN (pc' := 42) B X3 d8_41 rfl rfl ?_
  by_cases c12 : p6 = p10
  refine own_icmpNo (pc' := 45) B X3 d8_42 (teq c12).2 rfl ?_
  refine own_iload (pc' := 47) B X3 d8_45 rfl rfl ?_
  refine own_iload (pc' := 49) B X3 d8_47 rfl rfl ?_
  refine own_idiv (pc' := 50) B X3 (z := (1 : Int32)) d8_49 rfl (by decide) (by decide) ?_
  exact own_retI B X3 d8_50 (by decide) (by decide) ⟨(1 : Int32), (by subst hy4; rw [own_F_find, if_pos (by first | exact c6 | (simp only [hy5]; exact c6)), if_neg (by rw [hy5]; decide), if_pos hy5, if_neg (by first | exact c11 | (simp only [hy5]; exact c11)), if_pos (by first | exact c12 | (simp only [hy5]; exact c12))]), rfl, rfl⟩
  refine own_icmpYes (pc' := 51) B X3 d8_42 (feq c12).2 (by decide) rfl ?_
  refine own_iload (pc' := 53) B X3 d8_51 rfl rfl ?_
  refine own_iload (pc' := 55) B X3 d8_53 rfl rfl ?_
  refine own_iadd (pc' := 56) B X3 (z := (5 : Int32)) d8_55 rfl (by decide) ?_
  refine own_istore (pc' := 58) B X3 (Ls' := #[.val (.ref w0), .val (.int p9), .val (.int p10), .val (.int p11), .val (.ref w1), .val (.int 2), .val (.int 6), .val (.int 5)]) d8_56 rfl rfl ?_
  refine own_goto (pc' := 29) B X3 d8_58 (by decide) rfl ?_
  refine own_iload (pc' := 31) B X3 d8_29 rfl rfl ?_
  refine own_iload (pc' := 33) B X3 d8_31 rfl rfl ?_
  refine own_icmpNo (pc' := 36) B X3 d8_33 (tlt (by decide : (5 : Int32) < (6 : Int32))).2.1 rfl ?_
  refine own_aload (pc' := 38) B X3 d8_36 rfl rfl rfl ?_
  refine own_iload (pc' := 40) B X3 d8_38 rfl rfl ?_
  refine own_iaload (pc' := 41) B X3 V_w1 (v := (.int p8)) ⟨by decide, by decide⟩ rfl d8_40 rfl ?_
  refine own_iloadN (pc' := 42) B X3 d8_41 rfl rfl ?_
  by_cases c13 : p8 = p10
  refine own_icmpNo (pc' := 45) B X3 d8_42 (teq c13).2 rfl ?_
  refine own_iload (pc' := 47) B X3 d8_45 rfl rfl ?_
  refine own_iload (pc' := 49) B X3 d8_47 rfl rfl ?_
  refine own_idiv (pc' := 50) B X3 (z := (2 : Int32)) d8_49 rfl (by decide) (by decide) ?_
  exact own_retI B X3 d8_50 (by decide) (by decide) ⟨(2 : Int32), (by subst hy4; rw [own_F_find, if_pos (by first | exact c6 | (simp only [hy5]; exact c6)), if_neg (by rw [hy5]; decide), if_pos hy5, if_neg (by first | exact c11 | (simp only [hy5]; exact c11)), if_neg (by first | exact c12 | (simp only [hy5]; exact c12)), if_pos (by first | exact c13 | (simp only [hy5]; exact c13))]), rfl, rfl⟩
  refine own_icmpYes (pc' := 51) B X3 d8_42 (feq c13).2 (by decide) rfl ?_
  refine own_iload (pc' := 53) B X3 d8_51 rfl rfl ?_
  refine own_iload (pc' := 55) B X3 d8_53 rfl rfl ?_
  refine own_iadd (pc' := 56) B X3 (z := (7 : Int32)) d8_55 rfl (by decide) ?_
  refine own_istore (pc' := 58) B X3 (Ls' := #[.val (.ref w0), .val (.int p9), .val (.int p10), .val (.int p11), .val (.ref w1), .val (.int 2), .val (.int 6), .val (.int 7)]) d8_56 rfl rfl ?_
  refine own_goto (pc' := 29) B X3 d8_58 (by decide) rfl ?_
  refine own_iload (pc' := 31) B X3 d8_29 rfl rfl ?_
  refine own_iload (pc' := 33) B X3 d8_31 rfl rfl ?_
  refine own_icmpYes (pc' := 61) B X3 d8_33 (flt (by decide : ¬ ((7 : Int32) < (6 : Int32)))).2.1 (by decide) rfl ?_
  refine own_iconst (pc' := 62) B X3 (z := (-1 : Int32)) d8_61 rfl rfl ?_
  exact own_retI B X3 d8_62 (by decide) (by decide) ⟨(-1 : Int32), (by subst hy4; rw [own_F_find, if_pos (by first | exact c6 | (simp only [hy5]; exact c6)), if_neg (by rw [hy5]; decide), if_pos hy5, if_neg (by first | exact c11 | (simp only [hy5]; exact c11)), if_neg (by first | exact c12 | (simp only [hy5]; exact c12)), if_neg (by first | exact c13 | (simp only [hy5]; exact c13))]), rfl, rfl⟩
  obtain rfl : y5 = (2 : Int32) := Int32.toInt_inj.mp (z7.trans (by decide))
  refine own_iaload (pc' := 41) B X3 V_w1 (v := (.int p5)) ⟨by decide, by decide⟩ rfl d8_40 rfl ?_
  refine own_iloadN (pc' := 42) B X3 d8_41 rfl rfl ?_
  by_cases c14 : p5 = p10
  refine own_icmpNo (pc' := 45) B X3 d8_42 (teq c14).2 rfl ?_
  refine own_iload (pc' := 47) B X3 d8_45 rfl rfl ?_
  refine own_iload (pc' := 49) B X3 d8_47 rfl rfl ?_
  refine own_idiv (pc' := 50) B X3 (z := (1 : Int32)) d8_49 rfl (by decide) (by decide) ?_
  exact own_retI B X3 d8_50 (by decide) (by decide) ⟨(1 : Int32), (by subst hy4; rw [own_F_find, if_pos (by first | exact c6 | (simp only [hy5]; exact c6)), if_neg (by rw [hy5]; decide), if_neg (by rw [hy5]; decide), if_pos hy5, if_pos (by first | exact c14 | (simp only [hy5]; exact c14))]), rfl, rfl⟩
  refine own_icmpYes (pc' := 51) B X3 d8_42 (feq c14).2 (by decide) rfl ?_
  refine own_iload (pc' := 53) B X3 d8_51 rfl rfl ?_
  refine own_iload (pc' := 55) B X3 d8_53 rfl rfl ?_
  refine own_iadd (pc' := 56) B X3 (z := (4 : Int32)) d8_55 rfl (by decide) ?_
  refine own_istore (pc' := 58) B X3 (Ls' := #[.val (.ref w0), .val (.int p9), .val (.int p10), .val (.int p11), .val (.ref w1), .val (.int 2), .val (.int 6), .val (.int 4)]) d8_56 rfl rfl ?_
  refine own_goto (pc' := 29) B X3 d8_58 (by decide) rfl ?_
  refine own_iload (pc' := 31) B X3 d8_29 rfl rfl ?_
  refine own_iload (pc' := 33) B X3 d8_31 rfl rfl ?_
  refine own_icmpNo (pc' := 36) B X3 d8_33 (tlt (by decide : (4 : Int32) < (6 : Int32))).2.1 rfl ?_
  refine own_aload (pc' := 38) B X3 d8_36 rfl rfl rfl ?_
  refine own_iload (pc' := 40) B X3 d8_38 rfl rfl ?_
  refine own_iaload (pc' := 41) B X3 V_w1 (v := (.int p7)) ⟨by decide, by decide⟩ rfl d8_40 rfl ?_
  refine own_iloadN (pc' := 42) B X3 d8_41 rfl rfl ?_
  by_cases c15 : p7 = p10
  refine own_icmpNo (pc' := 45) B X3 d8_42 (teq c15).2 rfl ?_
  refine own_iload (pc' := 47) B X3 d8_45 rfl rfl ?_
  refine own_iload (pc' := 49) B X3 d8_47 rfl rfl ?_
  refine own_idiv (pc' := 50) B X3 (z := (2 : Int32)) d8_49 rfl (by decide) (by decide) ?_
  exact own_retI B X3 d8_50 (by decide) (by decide) ⟨(2 : Int32), (by subst hy4; rw [own_F_find, if_pos (by first | exact c6 | (simp only [hy5]; exact c6)), if_neg (by rw [hy5]; decide), if_neg (by rw [hy5]; decide), if_pos hy5, if_neg (by first | exact c14 | (simp only [hy5]; exact c14)), if_pos (by first | exact c15 | (simp only [hy5]; exact c15))]), rfl, rfl⟩
  refine own_icmpYes (pc' := 51) B X3 d8_42 (feq c15).2 (by decide) rfl ?_
  refine own_iload (pc' := 53) B X3 d8_51 rfl rfl ?_
  refine own_iload (pc' := 55) B X3 d8_53 rfl rfl ?_
  refine own_iadd (pc' := 56) B X3 (z := (6 : Int32)) d8_55 rfl (by decide) ?_
  refine own_istore (pc' := 58) B X3 (Ls' := #[.val (.ref w0), .val (.int p9), .val (.int p10), .val (.int p11), .val (.ref w1), .val (.int 2), .val (.int 6), .val (.int 6)]) d8_56 rfl rfl ?_
  refine own_goto (pc' := 29) B X3 d8_58 (by decide) rfl ?_
  refine own_iload (pc' := 31) B X3 d8_29 rfl rfl ?_
  refine own_iload (pc' := 33) B X3 d8_31 rfl rfl ?_
  refine own_icmpYes (pc' := 61) B X3 d8_33 (flt (by decide : ¬ ((6 : Int32) < (6 : Int32)))).2.1 (by decide) rfl ?_
  refine own_iconst (pc' := 62) B X3 (z := (-1 : Int32)) d8_61 rfl rfl ?_
  exact own_retI B X3 d8_62 (by decide) (by decide) ⟨(-1 : Int32), (by subst hy4; rw [own_F_find, if_pos (by first | exact c6 | (simp only [hy5]; exact c6)), if_neg (by rw [hy5]; decide), if_neg (by rw [hy5]; decide), if_pos hy5, if_neg (by first | exact c14 | (simp only [hy5]; exact c14)), if_neg (by first | exact c15 | (simp only [hy5]; exact c15))]), rfl, rfl⟩
  obtain rfl : y5 = (3 : Int32) := Int32.toInt_inj.mp (z7.trans (by decide))
  refine own_iaload (pc' := 41) B X3 V_w1 (v := (.int p6)) ⟨by decide, by decide⟩ rfl d8_40 rfl ?_
  refine own_iloadN (pc' := 42) B X3 d8_41 rfl rfl ?_
  by_cases c16 : p6 = p10
  refine own_icmpNo (pc' := 45) B X3 d8_42 (teq c16).2 rfl ?_
  refine own_iload (pc' := 47) B X3 d8_45 rfl rfl ?_
  refine own_iload (pc' := 49) B X3 d8_47 rfl rfl ?_
  refine own_idiv (pc' := 50) B X3 (z := (1 : Int32)) d8_49 rfl (by decide) (by decide) ?_
  exact own_retI B X3 d8_50 (by decide) (by decide) ⟨(1 : Int32), (by subst hy4; rw [own_F_find, if_pos (by first | exact c6 | (simp only [hy5]; exact c6)), if_neg (by rw [hy5]; decide), if_neg (by rw [hy5]; decide), if_neg (by rw [hy5]; decide), if_pos hy5, if_pos (by first | exact c16 | (simp only [hy5]; exact c16))]), rfl, rfl⟩
  refine own_icmpYes (pc' := 51) B X3 d8_42 (feq c16).2 (by decide) rfl ?_
  refine own_iload (pc' := 53) B X3 d8_51 rfl rfl ?_
  refine own_iload (pc' := 55) B X3 d8_53 rfl rfl ?_
  refine own_iadd (pc' := 56) B X3 (z := (5 : Int32)) d8_55 rfl (by decide) ?_
  refine own_istore (pc' := 58) B X3 (Ls' := #[.val (.ref w0), .val (.int p9), .val (.int p10), .val (.int p11), .val (.ref w1), .val (.int 2), .val (.int 6), .val (.int 5)]) d8_56 rfl rfl ?_
  refine own_goto (pc' := 29) B X3 d8_58 (by decide) rfl ?_
  refine own_iload (pc' := 31) B X3 d8_29 rfl rfl ?_
  refine own_iload (pc' := 33) B X3 d8_31 rfl rfl ?_
  refine own_icmpNo (pc' := 36) B X3 d8_33 (tlt (by decide : (5 : Int32) < (6 : Int32))).2.1 rfl ?_
  refine own_aload (pc' := 38) B X3 d8_36 rfl rfl rfl ?_
  refine own_iload (pc' := 40) B X3 d8_38 rfl rfl ?_
  refine own_iaload (pc' := 41) B X3 V_w1 (v := (.int p8)) ⟨by decide, by decide⟩ rfl d8_40 rfl ?_
  refine own_iloadN (pc' := 42) B X3 d8_41 rfl rfl ?_
  by_cases c17 : p8 = p10
  refine own_icmpNo (pc' := 45) B X3 d8_42 (teq c17).2 rfl ?_
  refine own_iload (pc' := 47) B X3 d8_45 rfl rfl ?_
  refine own_iload (pc' := 49) B X3 d8_47 rfl rfl ?_
  refine own_idiv (pc' := 50) B X3 (z := (2 : Int32)) d8_49 rfl (by decide) (by decide) ?_
  exact own_retI B X3 d8_50 (by decide) (by decide) ⟨(2 : Int32), (by subst hy4; rw [own_F_find, if_pos (by first | exact c6 | (simp only [hy5]; exact c6)), if_neg (by rw [hy5]; decide), if_neg (by rw [hy5]; decide), if_neg (by rw [hy5]; decide), if_pos hy5, if_neg (by first | exact c16 | (simp only [hy5]; exact c16)), if_pos (by first | exact c17 | (simp only [hy5]; exact c17))]), rfl, rfl⟩
  refine own_icmpYes (pc' := 51) B X3 d8_42 (feq c17).2 (by decide) rfl ?_
  refine own_iload (pc' := 53) B X3 d8_51 rfl rfl ?_
  refine own_iload (pc' := 55) B X3 d8_53 rfl rfl ?_
  refine own_iadd (pc' := 56) B X3 (z := (7 : Int32)) d8_55 rfl (by decide) ?_
  refine own_istore (pc' := 58) B X3 (Ls' := #[.val (.ref w0), .val (.int p9), .val (.int p10), .val (.int p11), .val (.ref w1), .val (.int 2), .val (.int 6), .val (.int 7)]) d8_56 rfl rfl ?_
  refine own_goto (pc' := 29) B X3 d8_58 (by decide) rfl ?_
  refine own_iload (pc' := 31) B X3 d8_29 rfl rfl ?_
  refine own_iload (pc' := 33) B X3 d8_31 rfl rfl ?_
  refine own_icmpYes (pc' := 61) B X3 d8_33 (flt (by decide : ¬ ((7 : Int32) < (6 : Int32)))).2.1 (by decide) rfl ?_
  refine own_iconst (pc' := 62) B X3 (z := (-1 : Int32)) d8_61 rfl rfl ?_
  exact own_retI B X3 d8_62 (by decide) (by decide) ⟨(-1 : Int32), (by subst hy4; rw [own_F_find, if_pos (by first | exact c6 | (simp only [hy5]; exact c6)), if_neg (by rw [hy5]; decide), if_neg (by rw [hy5]; decide), if_neg (by rw [hy5]; decide), if_pos hy5, if_neg (by first | exact c16 | (simp only [hy5]; exact c16)), if_neg (by first | exact c17 | (simp only [hy5]; exact c17))]), rfl, rfl⟩
  obtain rfl : y5 = (4 : Int32) := Int32.toInt_inj.mp (z7.trans (by decide))
  refine own_iaload (pc' := 41) B X3 V_w1 (v := (.int p7)) ⟨by decide, by decide⟩ rfl d8_40 rfl ?_
  refine own_iloadN (pc' := 42) B X3 d8_41 rfl rfl ?_
  by_cases c18 : p7 = p10
  refine own_icmpNo (pc' := 45) B X3 d8_42 (teq c18).2 rfl ?_
  refine own_iload (pc' := 47) B X3 d8_45 rfl rfl ?_
  refine own_iload (pc' := 49) B X3 d8_47 rfl rfl ?_
  refine own_idiv (pc' := 50) B X3 (z := (2 : Int32)) d8_49 rfl (by decide) (by decide) ?_
  exact own_retI B X3 d8_50 (by decide) (by decide) ⟨(2 : Int32), (by subst hy4; rw [own_F_find, if_pos (by first | exact c6 | (simp only [hy5]; exact c6)), if_neg (by rw [hy5]; decide), if_neg (by rw [hy5]; decide), if_neg (by rw [hy5]; decide), if_neg (by rw [hy5]; decide), if_pos hy5, if_pos (by first | exact c18 | (simp only [hy5]; exact c18))]), rfl, rfl⟩
  refine own_icmpYes (pc' := 51) B X3 d8_42 (feq c18).2 (by decide) rfl ?_
  refine own_iload (pc' := 53) B X3 d8_51 rfl rfl ?_
  refine own_iload (pc' := 55) B X3 d8_53 rfl rfl ?_
  refine own_iadd (pc' := 56) B X3 (z := (6 : Int32)) d8_55 rfl (by decide) ?_
  refine own_istore (pc' := 58) B X3 (Ls' := #[.val (.ref w0), .val (.int p9), .val (.int p10), .val (.int p11), .val (.ref w1), .val (.int 2), .val (.int 6), .val (.int 6)]) d8_56 rfl rfl ?_
  refine own_goto (pc' := 29) B X3 d8_58 (by decide) rfl ?_
  refine own_iload (pc' := 31) B X3 d8_29 rfl rfl ?_
  refine own_iload (pc' := 33) B X3 d8_31 rfl rfl ?_
  refine own_icmpYes (pc' := 61) B X3 d8_33 (flt (by decide : ¬ ((6 : Int32) < (6 : Int32)))).2.1 (by decide) rfl ?_
  refine own_iconst (pc' := 62) B X3 (z := (-1 : Int32)) d8_61 rfl rfl ?_
  exact own_retI B X3 d8_62 (by decide) (by decide) ⟨(-1 : Int32), (by subst hy4; rw [own_F_find, if_pos (by first | exact c6 | (simp only [hy5]; exact c6)), if_neg (by rw [hy5]; decide), if_neg (by rw [hy5]; decide), if_neg (by rw [hy5]; decide), if_neg (by rw [hy5]; decide), if_pos hy5, if_neg (by first | exact c18 | (simp only [hy5]; exact c18))]), rfl, rfl⟩
  obtain rfl : y5 = (5 : Int32) := Int32.toInt_inj.mp (z7.trans (by decide))
  refine own_iaload (pc' := 41) B X3 V_w1 (v := (.int p8)) ⟨by decide, by decide⟩ rfl d8_40 rfl ?_
  refine own_iloadN (pc' := 42) B X3 d8_41 rfl rfl ?_
  by_cases c19 : p8 = p10
  refine own_icmpNo (pc' := 45) B X3 d8_42 (teq c19).2 rfl ?_
  refine own_iload (pc' := 47) B X3 d8_45 rfl rfl ?_
  refine own_iload (pc' := 49) B X3 d8_47 rfl rfl ?_
  refine own_idiv (pc' := 50) B X3 (z := (2 : Int32)) d8_49 rfl (by decide) (by decide) ?_
  exact own_retI B X3 d8_50 (by decide) (by decide) ⟨(2 : Int32), (by subst hy4; rw [own_F_find, if_pos (by first | exact c6 | (simp only [hy5]; exact c6)), if_neg (by rw [hy5]; decide), if_neg (by rw [hy5]; decide), if_neg (by rw [hy5]; decide), if_neg (by rw [hy5]; decide), if_neg (by rw [hy5]; decide), if_pos (by first | exact c19 | (simp only [hy5]; exact c19))]), rfl, rfl⟩
  refine own_icmpYes (pc' := 51) B X3 d8_42 (feq c19).2 (by decide) rfl ?_
  refine own_iload (pc' := 53) B X3 d8_51 rfl rfl ?_
  refine own_iload (pc' := 55) B X3 d8_53 rfl rfl ?_
  refine own_iadd (pc' := 56) B X3 (z := (7 : Int32)) d8_55 rfl (by decide) ?_
  refine own_istore (pc' := 58) B X3 (Ls' := #[.val (.ref w0), .val (.int p9), .val (.int p10), .val (.int p11), .val (.ref w1), .val (.int 2), .val (.int 6), .val (.int 7)]) d8_56 rfl rfl ?_
  refine own_goto (pc' := 29) B X3 d8_58 (by decide) rfl ?_
  refine own_iload (pc' := 31) B X3 d8_29 rfl rfl ?_
  refine own_iload (pc' := 33) B X3 d8_31 rfl rfl ?_
  refine own_icmpYes (pc' := 61) B X3 d8_33 (flt (by decide : ¬ ((7 : Int32) < (6 : Int32)))).2.1 (by decide) rfl ?_
  refine own_iconst (pc' := 62) B X3 (z := (-1 : Int32)) d8_61 rfl rfl ?_
  exact own_retI B X3 d8_62 (by decide) (by decide) ⟨(-1 : Int32), (by subst hy4; rw [own_F_find, if_pos (by first | exact c6 | (simp only [hy5]; exact c6)), if_neg (by rw [hy5]; decide), if_neg (by rw [hy5]; decide), if_neg (by rw [hy5]; decide), if_neg (by rw [hy5]; decide), if_neg (by rw [hy5]; decide), if_neg (by first | exact c19 | (simp only [hy5]; exact c19))]), rfl, rfl⟩
  refine own_icmpYes (pc' := 61) B X3 d8_33 (flt c6).2.1 (by decide) rfl ?_
  refine own_iconst (pc' := 62) B X3 (z := (-1 : Int32)) d8_61 rfl rfl ?_
  exact own_retI B X3 d8_62 (by decide) (by decide) ⟨(-1 : Int32), (by subst hy4; subst hy5; rw [own_F_find, if_neg c6]), rfl, rfl⟩
theorem b_own_F_hit {a0 a1 a2 a3 a4 z : Int32} (h : own_F_hit a0 a1 a2 a3 a4 = z) : z &&& (1 : Int32) = z := by subst h; unfold own_F_hit; (repeat' split) <;> decide
def Q_60 (Z : State) (w0 : Addr) (kw0 : ClassId) (p2 p3 p4 : Int32) (w5 : Addr) (kw5 : ClassId) (p7 p8 p9 p10 p11 p12 : Int32) (h0 : Heap) (n0 : Nat) (v : Option Value) (h : Heap) : Prop :=
  (∃ (yF : Int32), own_F_hit p4 p9 p10 p11 p12 = yF ∧ v = some (.int yF) ∧ h0 = h)
theorem rm_60 (l : Launch) (Z : State) (a0 : Array Value) (hw : ∀ d ∈ tables_1, d.before a0 Z = true) (ws : List Jvm.Cond) (w0 : Addr) (kw0 : ClassId) (p2 p3 p4 : Int32) (w5 : Addr) (kw5 : ClassId) (p7 p8 p9 p10 p11 p12 : Int32) (h0 : Heap) (n0 : Nat) (Z0 : n0 ≤ h0.size) (V_w0 : Arv Z h0 w0 kw0 .int (3 : Int32) [(.int p2), (.int p3), (.int p4)] (.int 0)) (g_w0 : n0 ≤ w0) (V_w5 : Arv Z h0 w5 kw5 .int (3 : Int32) [(.int p7), (.int p8), (.int p9)] (.int 0)) (g_w5 : n0 ≤ w5) (ne_w0_w5 : w0 ≠ w5) :
    own_M l Z (⟨"com/example/ordal/ordal/RelationFindPinLaw", "hit", "([I[IIIIII)Z"⟩ : MethodName) method_4_code 8 (some .boolean) ws ({ frames := 0, cells := 0, slots := 0, locals := 0 } : Room) #[(.ref w0), (.ref w5), (.int 3), (.int 2), (.int p10), (.int p11), (.int p12)] h0 n0 (Q_60 Z w0 kw0 p2 p3 p4 w5 kw5 p7 p8 p9 p10 p11 p12 h0 n0) := by
  refine own_enter' (Q := Q_60 Z w0 kw0 p2 p3 p4 w5 kw5 p7 p8 p9 p10 p11 p12 h0 n0) (F := fun m => mkF m 0 #[.val (.ref w0), .val (.ref w5), .val (.int 3), .val (.int 2), .val (.int p10), .val (.int p11), .val (.int p12), .unset] []) (plainFor_of_name pn_5) ?_
  intro p e s m below meth c s₁ B X0
  have K : Keep h0 h0 [] := Keep.refl h0 _
  have lt_w0 := V_w0.lt
  have lt_w5 := V_w5.lt
  refine own_iloadN (pc' := 1) B X0 d9_0 rfl rfl ?_
  refine own_iload (pc' := 3) B X0 d9_1 rfl rfl ?_
  by_cases c1 : (2 : Int32) < p12
  refine own_icmpYes (pc' := 11) B X0 d9_3 (tlt c1).1 (by decide) rfl ?_
  refine own_iconst (pc' := 12) B X0 (z := (0 : Int32)) d9_11 rfl rfl ?_
  exact own_retN B X0 (t := .boolean) (z' := (0 : Int32)) (by simp) (by decide) d9_12 (by decide) (by decide) ⟨(0 : Int32), (by rw [own_F_hit, if_pos c1]), rfl, rfl⟩
  refine own_icmpNo (pc' := 6) B X0 d9_3 (flt c1).1 rfl ?_
  refine own_iloadN (pc' := 7) B X0 d9_6 rfl rfl ?_
  refine own_iloadN (pc' := 8) B X0 d9_7 rfl rfl ?_
  refine own_icmpYes (pc' := 13) B X0 d9_8 (tlt (by decide : (2 : Int32) < (3 : Int32))).1 (by decide) rfl ?_
  refine own_iload (pc' := 15) B X0 d9_13 rfl rfl ?_
  by_cases c2 : p10 = (0 : Int32)
  refine own_ifNo (pc' := 18) B X0 d9_15 ((if0 _ _).trans (teq c2).2) rfl ?_
  refine own_aloadN (pc' := 19) B X0 d9_18 rfl rfl rfl ?_
  refine own_iloadN (pc' := 20) B X0 d9_19 rfl rfl ?_
  refine own_iaload (pc' := 21) B X0 V_w0 (v := (.int p4)) ⟨by decide, by decide⟩ rfl d9_20 rfl ?_
  refine own_goto (pc' := 27) B X0 d9_21 (by decide) rfl ?_
  refine own_istore (pc' := 29) B X0 (Ls' := #[.val (.ref w0), .val (.ref w5), .val (.int 3), .val (.int 2), .val (.int p10), .val (.int p11), .val (.int p12), .val (.int p4)]) d9_27 rfl rfl ?_
  refine own_iload (pc' := 31) B X0 d9_29 rfl rfl ?_
  refine own_iload (pc' := 33) B X0 d9_31 rfl rfl ?_
  by_cases c3 : p4 = p11
  refine own_icmpNo (pc' := 36) B X0 d9_33 (teq c3).2 rfl ?_
  refine own_iconst (pc' := 37) B X0 (z := (1 : Int32)) d9_36 rfl rfl ?_
  refine own_goto (pc' := 41) B X0 d9_37 (by decide) rfl ?_
  exact own_retN B X0 (t := .boolean) (z' := (1 : Int32)) (by simp) (by decide) d9_41 (by decide) (by decide) ⟨(1 : Int32), (by rw [own_F_hit, if_neg c1, if_pos c2, if_pos c3]), rfl, rfl⟩
  refine own_icmpYes (pc' := 40) B X0 d9_33 (feq c3).2 (by decide) rfl ?_
  refine own_iconst (pc' := 41) B X0 (z := (0 : Int32)) d9_40 rfl rfl ?_
  exact own_retN B X0 (t := .boolean) (z' := (0 : Int32)) (by simp) (by decide) d9_41 (by decide) (by decide) ⟨(0 : Int32), (by rw [own_F_hit, if_neg c1, if_pos c2, if_neg c3]), rfl, rfl⟩
  refine own_ifYes (pc' := 24) B X0 d9_15 ((if0 _ _).trans (feq c2).2) (by decide) rfl ?_
  refine own_aloadN (pc' := 25) B X0 d9_24 rfl rfl rfl ?_
  refine own_iloadN (pc' := 26) B X0 d9_25 rfl rfl ?_
  refine own_iaload (pc' := 27) B X0 V_w5 (v := (.int p9)) ⟨by decide, by decide⟩ rfl d9_26 rfl ?_
  refine own_istore (pc' := 29) B X0 (Ls' := #[.val (.ref w0), .val (.ref w5), .val (.int 3), .val (.int 2), .val (.int p10), .val (.int p11), .val (.int p12), .val (.int p9)]) d9_27 rfl rfl ?_
  refine own_iload (pc' := 31) B X0 d9_29 rfl rfl ?_
  refine own_iload (pc' := 33) B X0 d9_31 rfl rfl ?_
  by_cases c4 : p9 = p11
  refine own_icmpNo (pc' := 36) B X0 d9_33 (teq c4).2 rfl ?_
  refine own_iconst (pc' := 37) B X0 (z := (1 : Int32)) d9_36 rfl rfl ?_
  refine own_goto (pc' := 41) B X0 d9_37 (by decide) rfl ?_
  exact own_retN B X0 (t := .boolean) (z' := (1 : Int32)) (by simp) (by decide) d9_41 (by decide) (by decide) ⟨(1 : Int32), (by rw [own_F_hit, if_neg c1, if_neg c2, if_pos c4]), rfl, rfl⟩
  refine own_icmpYes (pc' := 40) B X0 d9_33 (feq c4).2 (by decide) rfl ?_
  refine own_iconst (pc' := 41) B X0 (z := (0 : Int32)) d9_40 rfl rfl ?_
  exact own_retN B X0 (t := .boolean) (z' := (0 : Int32)) (by simp) (by decide) d9_41 (by decide) (by decide) ⟨(0 : Int32), (by rw [own_F_hit, if_neg c1, if_neg c2, if_neg c4]), rfl, rfl⟩
theorem b_own_F_hit_2 {a0 a1 a2 a3 a4 z : Int32} (h : own_F_hit_2 a0 a1 a2 a3 a4 = z) : z &&& (1 : Int32) = z := by subst h; unfold own_F_hit_2; (repeat' split) <;> decide
def Q_61 (Z : State) (w0 : Addr) (kw0 : ClassId) (p2 p3 p4 : Int32) (w5 : Addr) (kw5 : ClassId) (p7 p8 p9 p10 p11 p12 : Int32) (h0 : Heap) (n0 : Nat) (v : Option Value) (h : Heap) : Prop :=
  (∃ (yF : Int32), own_F_hit_2 p3 p8 p10 p11 p12 = yF ∧ v = some (.int yF) ∧ h0 = h)
theorem rm_61 (l : Launch) (Z : State) (a0 : Array Value) (hw : ∀ d ∈ tables_1, d.before a0 Z = true) (ws : List Jvm.Cond) (w0 : Addr) (kw0 : ClassId) (p2 p3 p4 : Int32) (w5 : Addr) (kw5 : ClassId) (p7 p8 p9 p10 p11 p12 : Int32) (h0 : Heap) (n0 : Nat) (Z0 : n0 ≤ h0.size) (V_w0 : Arv Z h0 w0 kw0 .int (3 : Int32) [(.int p2), (.int p3), (.int p4)] (.int 0)) (g_w0 : n0 ≤ w0) (V_w5 : Arv Z h0 w5 kw5 .int (3 : Int32) [(.int p7), (.int p8), (.int p9)] (.int 0)) (g_w5 : n0 ≤ w5) (ne_w0_w5 : w0 ≠ w5) :
    own_M l Z (⟨"com/example/ordal/ordal/RelationFindPinLaw", "hit", "([I[IIIIII)Z"⟩ : MethodName) method_4_code 8 (some .boolean) ws ({ frames := 0, cells := 0, slots := 0, locals := 0 } : Room) #[(.ref w0), (.ref w5), (.int 3), (.int 1), (.int p10), (.int p11), (.int p12)] h0 n0 (Q_61 Z w0 kw0 p2 p3 p4 w5 kw5 p7 p8 p9 p10 p11 p12 h0 n0) := by
  refine own_enter' (Q := Q_61 Z w0 kw0 p2 p3 p4 w5 kw5 p7 p8 p9 p10 p11 p12 h0 n0) (F := fun m => mkF m 0 #[.val (.ref w0), .val (.ref w5), .val (.int 3), .val (.int 1), .val (.int p10), .val (.int p11), .val (.int p12), .unset] []) (plainFor_of_name pn_5) ?_
  intro p e s m below meth c s₁ B X0
  have K : Keep h0 h0 [] := Keep.refl h0 _
  have lt_w0 := V_w0.lt
  have lt_w5 := V_w5.lt
  refine own_iloadN (pc' := 1) B X0 d9_0 rfl rfl ?_
  refine own_iload (pc' := 3) B X0 d9_1 rfl rfl ?_
  by_cases c1 : (1 : Int32) < p12
  refine own_icmpYes (pc' := 11) B X0 d9_3 (tlt c1).1 (by decide) rfl ?_
  refine own_iconst (pc' := 12) B X0 (z := (0 : Int32)) d9_11 rfl rfl ?_
  exact own_retN B X0 (t := .boolean) (z' := (0 : Int32)) (by simp) (by decide) d9_12 (by decide) (by decide) ⟨(0 : Int32), (by rw [own_F_hit_2, if_pos c1]), rfl, rfl⟩
  refine own_icmpNo (pc' := 6) B X0 d9_3 (flt c1).1 rfl ?_
  refine own_iloadN (pc' := 7) B X0 d9_6 rfl rfl ?_
  refine own_iloadN (pc' := 8) B X0 d9_7 rfl rfl ?_
  refine own_icmpYes (pc' := 13) B X0 d9_8 (tlt (by decide : (1 : Int32) < (3 : Int32))).1 (by decide) rfl ?_
  refine own_iload (pc' := 15) B X0 d9_13 rfl rfl ?_
  by_cases c2 : p10 = (0 : Int32)
  refine own_ifNo (pc' := 18) B X0 d9_15 ((if0 _ _).trans (teq c2).2) rfl ?_
  refine own_aloadN (pc' := 19) B X0 d9_18 rfl rfl rfl ?_
  refine own_iloadN (pc' := 20) B X0 d9_19 rfl rfl ?_
  refine own_iaload (pc' := 21) B X0 V_w0 (v := (.int p3)) ⟨by decide, by decide⟩ rfl d9_20 rfl ?_
  refine own_goto (pc' := 27) B X0 d9_21 (by decide) rfl ?_
  refine own_istore (pc' := 29) B X0 (Ls' := #[.val (.ref w0), .val (.ref w5), .val (.int 3), .val (.int 1), .val (.int p10), .val (.int p11), .val (.int p12), .val (.int p3)]) d9_27 rfl rfl ?_
  refine own_iload (pc' := 31) B X0 d9_29 rfl rfl ?_
  refine own_iload (pc' := 33) B X0 d9_31 rfl rfl ?_
  by_cases c3 : p3 = p11
  refine own_icmpNo (pc' := 36) B X0 d9_33 (teq c3).2 rfl ?_
  refine own_iconst (pc' := 37) B X0 (z := (1 : Int32)) d9_36 rfl rfl ?_
  refine own_goto (pc' := 41) B X0 d9_37 (by decide) rfl ?_
  exact own_retN B X0 (t := .boolean) (z' := (1 : Int32)) (by simp) (by decide) d9_41 (by decide) (by decide) ⟨(1 : Int32), (by rw [own_F_hit_2, if_neg c1, if_pos c2, if_pos c3]), rfl, rfl⟩
  refine own_icmpYes (pc' := 40) B X0 d9_33 (feq c3).2 (by decide) rfl ?_
  refine own_iconst (pc' := 41) B X0 (z := (0 : Int32)) d9_40 rfl rfl ?_
  exact own_retN B X0 (t := .boolean) (z' := (0 : Int32)) (by simp) (by decide) d9_41 (by decide) (by decide) ⟨(0 : Int32), (by rw [own_F_hit_2, if_neg c1, if_pos c2, if_neg c3]), rfl, rfl⟩
  refine own_ifYes (pc' := 24) B X0 d9_15 ((if0 _ _).trans (feq c2).2) (by decide) rfl ?_
  refine own_aloadN (pc' := 25) B X0 d9_24 rfl rfl rfl ?_
  refine own_iloadN (pc' := 26) B X0 d9_25 rfl rfl ?_
  refine own_iaload (pc' := 27) B X0 V_w5 (v := (.int p8)) ⟨by decide, by decide⟩ rfl d9_26 rfl ?_
  refine own_istore (pc' := 29) B X0 (Ls' := #[.val (.ref w0), .val (.ref w5), .val (.int 3), .val (.int 1), .val (.int p10), .val (.int p11), .val (.int p12), .val (.int p8)]) d9_27 rfl rfl ?_
  refine own_iload (pc' := 31) B X0 d9_29 rfl rfl ?_
  refine own_iload (pc' := 33) B X0 d9_31 rfl rfl ?_
  by_cases c4 : p8 = p11
  refine own_icmpNo (pc' := 36) B X0 d9_33 (teq c4).2 rfl ?_
  refine own_iconst (pc' := 37) B X0 (z := (1 : Int32)) d9_36 rfl rfl ?_
  refine own_goto (pc' := 41) B X0 d9_37 (by decide) rfl ?_
  exact own_retN B X0 (t := .boolean) (z' := (1 : Int32)) (by simp) (by decide) d9_41 (by decide) (by decide) ⟨(1 : Int32), (by rw [own_F_hit_2, if_neg c1, if_neg c2, if_pos c4]), rfl, rfl⟩
  refine own_icmpYes (pc' := 40) B X0 d9_33 (feq c4).2 (by decide) rfl ?_
  refine own_iconst (pc' := 41) B X0 (z := (0 : Int32)) d9_40 rfl rfl ?_
  exact own_retN B X0 (t := .boolean) (z' := (0 : Int32)) (by simp) (by decide) d9_41 (by decide) (by decide) ⟨(0 : Int32), (by rw [own_F_hit_2, if_neg c1, if_neg c2, if_neg c4]), rfl, rfl⟩
theorem b_own_F_hit_3 {a0 a1 a2 a3 a4 z : Int32} (h : own_F_hit_3 a0 a1 a2 a3 a4 = z) : z &&& (1 : Int32) = z := by subst h; unfold own_F_hit_3; (repeat' split) <;> decide
def Q_62 (Z : State) (w0 : Addr) (kw0 : ClassId) (p2 p3 p4 : Int32) (w5 : Addr) (kw5 : ClassId) (p7 p8 p9 p10 p11 p12 : Int32) (h0 : Heap) (n0 : Nat) (v : Option Value) (h : Heap) : Prop :=
  (∃ (yF : Int32), own_F_hit_3 p2 p7 p10 p11 p12 = yF ∧ v = some (.int yF) ∧ h0 = h)
theorem rm_62 (l : Launch) (Z : State) (a0 : Array Value) (hw : ∀ d ∈ tables_1, d.before a0 Z = true) (ws : List Jvm.Cond) (w0 : Addr) (kw0 : ClassId) (p2 p3 p4 : Int32) (w5 : Addr) (kw5 : ClassId) (p7 p8 p9 p10 p11 p12 : Int32) (h0 : Heap) (n0 : Nat) (Z0 : n0 ≤ h0.size) (V_w0 : Arv Z h0 w0 kw0 .int (3 : Int32) [(.int p2), (.int p3), (.int p4)] (.int 0)) (g_w0 : n0 ≤ w0) (V_w5 : Arv Z h0 w5 kw5 .int (3 : Int32) [(.int p7), (.int p8), (.int p9)] (.int 0)) (g_w5 : n0 ≤ w5) (ne_w0_w5 : w0 ≠ w5) :
    own_M l Z (⟨"com/example/ordal/ordal/RelationFindPinLaw", "hit", "([I[IIIIII)Z"⟩ : MethodName) method_4_code 8 (some .boolean) ws ({ frames := 0, cells := 0, slots := 0, locals := 0 } : Room) #[(.ref w0), (.ref w5), (.int 3), (.int 0), (.int p10), (.int p11), (.int p12)] h0 n0 (Q_62 Z w0 kw0 p2 p3 p4 w5 kw5 p7 p8 p9 p10 p11 p12 h0 n0) := by
  refine own_enter' (Q := Q_62 Z w0 kw0 p2 p3 p4 w5 kw5 p7 p8 p9 p10 p11 p12 h0 n0) (F := fun m => mkF m 0 #[.val (.ref w0), .val (.ref w5), .val (.int 3), .val (.int 0), .val (.int p10), .val (.int p11), .val (.int p12), .unset] []) (plainFor_of_name pn_5) ?_
  intro p e s m below meth c s₁ B X0
  have K : Keep h0 h0 [] := Keep.refl h0 _
  have lt_w0 := V_w0.lt
  have lt_w5 := V_w5.lt
  refine own_iloadN (pc' := 1) B X0 d9_0 rfl rfl ?_
  refine own_iload (pc' := 3) B X0 d9_1 rfl rfl ?_
  by_cases c1 : (0 : Int32) < p12
  refine own_icmpYes (pc' := 11) B X0 d9_3 (tlt c1).1 (by decide) rfl ?_
  refine own_iconst (pc' := 12) B X0 (z := (0 : Int32)) d9_11 rfl rfl ?_
  exact own_retN B X0 (t := .boolean) (z' := (0 : Int32)) (by simp) (by decide) d9_12 (by decide) (by decide) ⟨(0 : Int32), (by rw [own_F_hit_3, if_pos c1]), rfl, rfl⟩
  refine own_icmpNo (pc' := 6) B X0 d9_3 (flt c1).1 rfl ?_
  refine own_iloadN (pc' := 7) B X0 d9_6 rfl rfl ?_
  refine own_iloadN (pc' := 8) B X0 d9_7 rfl rfl ?_
  refine own_icmpYes (pc' := 13) B X0 d9_8 (tlt (by decide : (0 : Int32) < (3 : Int32))).1 (by decide) rfl ?_
  refine own_iload (pc' := 15) B X0 d9_13 rfl rfl ?_
  by_cases c2 : p10 = (0 : Int32)
  refine own_ifNo (pc' := 18) B X0 d9_15 ((if0 _ _).trans (teq c2).2) rfl ?_
  refine own_aloadN (pc' := 19) B X0 d9_18 rfl rfl rfl ?_
  refine own_iloadN (pc' := 20) B X0 d9_19 rfl rfl ?_
  refine own_iaload (pc' := 21) B X0 V_w0 (v := (.int p2)) ⟨by decide, by decide⟩ rfl d9_20 rfl ?_
  refine own_goto (pc' := 27) B X0 d9_21 (by decide) rfl ?_
  refine own_istore (pc' := 29) B X0 (Ls' := #[.val (.ref w0), .val (.ref w5), .val (.int 3), .val (.int 0), .val (.int p10), .val (.int p11), .val (.int p12), .val (.int p2)]) d9_27 rfl rfl ?_
  refine own_iload (pc' := 31) B X0 d9_29 rfl rfl ?_
  refine own_iload (pc' := 33) B X0 d9_31 rfl rfl ?_
  by_cases c3 : p2 = p11
  refine own_icmpNo (pc' := 36) B X0 d9_33 (teq c3).2 rfl ?_
  refine own_iconst (pc' := 37) B X0 (z := (1 : Int32)) d9_36 rfl rfl ?_
  refine own_goto (pc' := 41) B X0 d9_37 (by decide) rfl ?_
  exact own_retN B X0 (t := .boolean) (z' := (1 : Int32)) (by simp) (by decide) d9_41 (by decide) (by decide) ⟨(1 : Int32), (by rw [own_F_hit_3, if_neg c1, if_pos c2, if_pos c3]), rfl, rfl⟩
  refine own_icmpYes (pc' := 40) B X0 d9_33 (feq c3).2 (by decide) rfl ?_
  refine own_iconst (pc' := 41) B X0 (z := (0 : Int32)) d9_40 rfl rfl ?_
  exact own_retN B X0 (t := .boolean) (z' := (0 : Int32)) (by simp) (by decide) d9_41 (by decide) (by decide) ⟨(0 : Int32), (by rw [own_F_hit_3, if_neg c1, if_pos c2, if_neg c3]), rfl, rfl⟩
  refine own_ifYes (pc' := 24) B X0 d9_15 ((if0 _ _).trans (feq c2).2) (by decide) rfl ?_
  refine own_aloadN (pc' := 25) B X0 d9_24 rfl rfl rfl ?_
  refine own_iloadN (pc' := 26) B X0 d9_25 rfl rfl ?_
  refine own_iaload (pc' := 27) B X0 V_w5 (v := (.int p7)) ⟨by decide, by decide⟩ rfl d9_26 rfl ?_
  refine own_istore (pc' := 29) B X0 (Ls' := #[.val (.ref w0), .val (.ref w5), .val (.int 3), .val (.int 0), .val (.int p10), .val (.int p11), .val (.int p12), .val (.int p7)]) d9_27 rfl rfl ?_
  refine own_iload (pc' := 31) B X0 d9_29 rfl rfl ?_
  refine own_iload (pc' := 33) B X0 d9_31 rfl rfl ?_
  by_cases c4 : p7 = p11
  refine own_icmpNo (pc' := 36) B X0 d9_33 (teq c4).2 rfl ?_
  refine own_iconst (pc' := 37) B X0 (z := (1 : Int32)) d9_36 rfl rfl ?_
  refine own_goto (pc' := 41) B X0 d9_37 (by decide) rfl ?_
  exact own_retN B X0 (t := .boolean) (z' := (1 : Int32)) (by simp) (by decide) d9_41 (by decide) (by decide) ⟨(1 : Int32), (by rw [own_F_hit_3, if_neg c1, if_neg c2, if_pos c4]), rfl, rfl⟩
  refine own_icmpYes (pc' := 40) B X0 d9_33 (feq c4).2 (by decide) rfl ?_
  refine own_iconst (pc' := 41) B X0 (z := (0 : Int32)) d9_40 rfl rfl ?_
  exact own_retN B X0 (t := .boolean) (z' := (0 : Int32)) (by simp) (by decide) d9_41 (by decide) (by decide) ⟨(0 : Int32), (by rw [own_F_hit_3, if_neg c1, if_neg c2, if_neg c4]), rfl, rfl⟩
def Q_0 (Z : State) (i0 i1 i2 i3 : Int32) (h0 : Heap) (n0 : Nat) (v : Option Value) (h : Heap) : Prop :=
  (v = some (.int (1 : Int32)))
theorem tl_0 (l : Launch) (Z : State) (a0 : Array Value) (hw : ∀ d ∈ tables_1, d.before a0 Z = true) (i0 i1 i2 i3 : Int32) (p0 p1 p2 p3 p4 p5 p6 p7 p8 p9 p10 p11 p12 p13 : Int32) (w14 w15 : Addr) (kw15 : ClassId) (w17 : Addr) (kw17 : ClassId) (w19 : Addr) (kw19 : ClassId) (p21 p22 : Int32) (h0 h : Heap) (n0 : Nat) (Z0 : n0 ≤ h0.size) (E_w14 : Exa Z h w14 oC2) (F_w14_arity : Fld Z h w14 oC2 "arity" "I" (.int 2)) (F_w14_rows : Fld Z h w14 oC2 "rows" "[I" (.ref w15)) (F_w14_size : Fld Z h w14 oC2 "size" "I" (.int 3)) (g_w14 : n0 ≤ w14) (V_w15 : Arv Z h w15 kw15 .int (16 : Int32) [(.int p8), (.int p9), (.int p10), (.int p11), (.int p12), (.int p13)] (.int 0)) (g_w15 : n0 ≤ w15) (V_w17 : Arv Z h w17 kw17 .int (3 : Int32) [(.int p8), (.int p10), (.int p12)] (.int 0)) (g_w17 : n0 ≤ w17) (V_w19 : Arv Z h w19 kw19 .int (3 : Int32) [(.int p9), (.int p11), (.int p13)] (.int 0)) (g_w19 : n0 ≤ w19) (ne_w14_w15 : w14 ≠ w15) (ne_w14_w17 : w14 ≠ w17) (ne_w14_w19 : w14 ≠ w19) (ne_w15_w17 : w15 ≠ w17) (ne_w15_w19 : w15 ≠ w19) (ne_w17_w19 : w17 ≠ w19) (hp0 : p2 &&& (1 : Int32) = p4) (hp1 : p21 &&& (7 : Int32) = p6) (hp2 : p22 &&& (3 : Int32) = p7) {p : Program} {e : Env} {s : State} {m : MethodId} {args : Array Value} {below : List Frame} {meth : Method} {c : Code} {T0 : State} (K : Keep h0 h []) (B : own_B p s m meth c Z x.cls x.name code maxLocals ret) (X0 : own_S p l e room_1 s m args below meth c n0 T0 h 40 256) :
    own_Go p e below (T0.setTop (mkF m 298 #[.val (.int p0), .val (.int p1), .val (.int p2), .val (.int p3), .val (.int p4), .val (.int p5), .val (.int p6), .val (.int p7), .val (.int p8), .val (.int p9), .val (.int p10), .val (.int p11), .val (.int p12), .val (.int p13), .val (.ref w14), .val (.ref w17), .val (.ref w19), .val (.int 3), .unset, .unset] [])) (own_P s below n0 (Q_0 Z i0 i1 i2 i3 h0 n0) room_1.cells room_1.slots) := by
  refine own_aload (pc' := 300) B X0 at_298 rfl rfl rfl ?_
  refine own_iload (pc' := 302) B X0 at_300 rfl rfl ?_
  refine own_iload (pc' := 304) B X0 at_302 rfl rfl ?_
  refine own_iload (pc' := 306) B X0 at_304 rfl rfl ?_
  refine own_callV (pc' := 309) B X0 (own_w hw 67 rfl) (own_w hw 68 rfl) (own_w hw 70 rfl) (own_w hw 69 rfl) (own_w hw 2 rfl) (own_w hw 71 rfl) E_w14 (by decide) [(.int p4), (.int p5), (.int p6)] [] (rm_59 l Z a0 hw [] w14 w15 kw15 (p8) (p9) (p10) (p11) (p12) (p13) (p4) (p5) (p6) (p2) (p21) h n0 (Nat.le_trans Z0 K.1) E_w14 F_w14_arity F_w14_rows F_w14_size g_w14 V_w15 g_w15 ne_w14_w15 hp0 hp1) 0 (by decide) (by decide) rfl pd_18 rfl rfl (Nat.le_of_eq rfl) at_306 rfl (k' := 40) (n' := 256) rfl rfl (by decide) (by decide) ?_
  intro T1 v1 h1 X1 q1
  obtain ⟨y2, hy3, rfl, rfl⟩ := q1
  show own_Go p e below (T1.setTop (mkF m 309 #[.val (.int p0), .val (.int p1), .val (.int p2), .val (.int p3), .val (.int p4), .val (.int p5), .val (.int p6), .val (.int p7), .val (.int p8), .val (.int p9), .val (.int p10), .val (.int p11), .val (.int p12), .val (.int p13), .val (.ref w14), .val (.ref w17), .val (.ref w19), .val (.int 3), .unset, .unset] [(.int y2)])) _
  refine own_istore (pc' := 311) B X1 (Ls' := #[.val (.int p0), .val (.int p1), .val (.int p2), .val (.int p3), .val (.int p4), .val (.int p5), .val (.int p6), .val (.int p7), .val (.int p8), .val (.int p9), .val (.int p10), .val (.int p11), .val (.int p12), .val (.int p13), .val (.ref w14), .val (.ref w17), .val (.ref w19), .val (.int 3), .val (.int y2), .unset]) at_309 rfl rfl ?_
  refine own_iconst (pc' := 312) B X1 (z := (-1 : Int32)) at_311 rfl rfl ?_
  refine own_istore (pc' := 314) B X1 (Ls' := #[.val (.int p0), .val (.int p1), .val (.int p2), .val (.int p3), .val (.int p4), .val (.int p5), .val (.int p6), .val (.int p7), .val (.int p8), .val (.int p9), .val (.int p10), .val (.int p11), .val (.int p12), .val (.int p13), .val (.ref w14), .val (.ref w17), .val (.ref w19), .val (.int 3), .val (.int y2), .val (.int (-1))]) at_312 rfl rfl ?_
  refine own_aload (pc' := 316) B X1 at_314 rfl rfl rfl ?_
  refine own_aload (pc' := 318) B X1 at_316 rfl rfl rfl ?_
  refine own_iload (pc' := 320) B X1 at_318 rfl rfl ?_
  refine own_iconst (pc' := 321) B X1 (z := (2 : Int32)) at_320 rfl rfl ?_
  refine own_iload (pc' := 323) B X1 at_321 rfl rfl ?_
  refine own_iload (pc' := 325) B X1 at_323 rfl rfl ?_
  refine own_iload (pc' := 327) B X1 at_325 rfl rfl ?_
  refine own_callS (pc' := 330) B X1 (own_w hw 74 rfl) (own_w hw 75 rfl) (own_w hw 76 rfl) (own_w hw 77 rfl) (by decide) [(.ref w17), (.ref w19), (.int 3), (.int 2), (.int p4), (.int p5), (.int p6)] [] (rm_60 l Z a0 hw [] w17 kw17 (p8) (p10) (p12) w19 kw19 (p9) (p11) (p13) (p4) (p5) (p6) h n0 (Nat.le_trans Z0 K.1) V_w17 g_w17 V_w19 g_w19 ne_w17_w19) 0 (by decide) (by decide) rfl pd_19 rfl rfl (Nat.le_of_eq rfl) at_327 rfl (k' := 40) (n' := 256) rfl rfl (by decide) (by decide) ?_
  intro T4 v4 h4 X4 q4
  obtain ⟨y5, hy6, rfl, rfl⟩ := q4
  show own_Go p e below (T4.setTop (mkF m 330 #[.val (.int p0), .val (.int p1), .val (.int p2), .val (.int p3), .val (.int p4), .val (.int p5), .val (.int p6), .val (.int p7), .val (.int p8), .val (.int p9), .val (.int p10), .val (.int p11), .val (.int p12), .val (.int p13), .val (.ref w14), .val (.ref w17), .val (.ref w19), .val (.int 3), .val (.int y2), .val (.int (-1))] [(.int y5)])) _
  by_cases c7 : y5 = (0 : Int32)
  refine own_ifYes (pc' := 336) B X4 at_330 ((if0 _ _).trans (teq c7).1) (by decide) rfl ?_
  refine own_aload (pc' := 338) B X4 at_336 rfl rfl rfl ?_
  refine own_aload (pc' := 340) B X4 at_338 rfl rfl rfl ?_
  refine own_iload (pc' := 342) B X4 at_340 rfl rfl ?_
  refine own_iconst (pc' := 343) B X4 (z := (1 : Int32)) at_342 rfl rfl ?_
  refine own_iload (pc' := 345) B X4 at_343 rfl rfl ?_
  refine own_iload (pc' := 347) B X4 at_345 rfl rfl ?_
  refine own_iload (pc' := 349) B X4 at_347 rfl rfl ?_
  refine own_callS (pc' := 352) B X4 (own_w hw 74 rfl) (own_w hw 75 rfl) (own_w hw 76 rfl) (own_w hw 77 rfl) (by decide) [(.ref w17), (.ref w19), (.int 3), (.int 1), (.int p4), (.int p5), (.int p6)] [] (rm_61 l Z a0 hw [] w17 kw17 (p8) (p10) (p12) w19 kw19 (p9) (p11) (p13) (p4) (p5) (p6) h n0 (Nat.le_trans Z0 K.1) V_w17 g_w17 V_w19 g_w19 ne_w17_w19) 0 (by decide) (by decide) rfl pd_19 rfl rfl (Nat.le_of_eq rfl) at_349 rfl (k' := 40) (n' := 256) rfl rfl (by decide) (by decide) ?_
  intro T8 v8 h8 X8 q8
  obtain ⟨y9, hy10, rfl, rfl⟩ := q8
  show own_Go p e below (T8.setTop (mkF m 352 #[.val (.int p0), .val (.int p1), .val (.int p2), .val (.int p3), .val (.int p4), .val (.int p5), .val (.int p6), .val (.int p7), .val (.int p8), .val (.int p9), .val (.int p10), .val (.int p11), .val (.int p12), .val (.int p13), .val (.ref w14), .val (.ref w17), .val (.ref w19), .val (.int 3), .val (.int y2), .val (.int (-1))] [(.int y9)])) _
  by_cases c11 : y9 = (0 : Int32)
  refine own_ifYes (pc' := 358) B X8 at_352 ((if0 _ _).trans (teq c11).1) (by decide) rfl ?_
  refine own_aload (pc' := 360) B X8 at_358 rfl rfl rfl ?_
  refine own_aload (pc' := 362) B X8 at_360 rfl rfl rfl ?_
  refine own_iload (pc' := 364) B X8 at_362 rfl rfl ?_
  refine own_iconst (pc' := 365) B X8 (z := (0 : Int32)) at_364 rfl rfl ?_
  refine own_iload (pc' := 367) B X8 at_365 rfl rfl ?_
  refine own_iload (pc' := 369) B X8 at_367 rfl rfl ?_
  refine own_iload (pc' := 371) B X8 at_369 rfl rfl ?_
  refine own_callS (pc' := 374) B X8 (own_w hw 74 rfl) (own_w hw 75 rfl) (own_w hw 76 rfl) (own_w hw 77 rfl) (by decide) [(.ref w17), (.ref w19), (.int 3), (.int 0), (.int p4), (.int p5), (.int p6)] [] (rm_62 l Z a0 hw [] w17 kw17 (p8) (p10) (p12) w19 kw19 (p9) (p11) (p13) (p4) (p5) (p6) h n0 (Nat.le_trans Z0 K.1) V_w17 g_w17 V_w19 g_w19 ne_w17_w19) 0 (by decide) (by decide) rfl pd_19 rfl rfl (Nat.le_of_eq rfl) at_371 rfl (k' := 40) (n' := 256) rfl rfl (by decide) (by decide) ?_
  intro T12 v12 h12 X12 q12
  obtain ⟨y13, hy14, rfl, rfl⟩ := q12
  show own_Go p e below (T12.setTop (mkF m 374 #[.val (.int p0), .val (.int p1), .val (.int p2), .val (.int p3), .val (.int p4), .val (.int p5), .val (.int p6), .val (.int p7), .val (.int p8), .val (.int p9), .val (.int p10), .val (.int p11), .val (.int p12), .val (.int p13), .val (.ref w14), .val (.ref w17), .val (.ref w19), .val (.int 3), .val (.int y2), .val (.int (-1))] [(.int y13)])) _
  by_cases c15 : y13 = (0 : Int32)
  refine own_ifYes (pc' := 380) B X12 at_374 ((if0 _ _).trans (teq c15).1) (by decide) rfl ?_
  refine own_iload (pc' := 382) B X12 at_380 rfl rfl ?_
  refine own_ifNo (pc' := 385) B X12 at_382 ((if0 _ _).trans (tlt (by decide : (-1 : Int32) < (0 : Int32))).2.1) rfl ?_
  refine own_iload (pc' := 387) B X12 at_385 rfl rfl ?_
  have c16 : y2 < (0 : Int32) := by
    have u := (own_tail3 p8 p9 p10 p11 p12 p13 p4 p5 p6 (own_bit hp0) (own_oct hp1)).symm.trans hy3
    rw [hy14, if_pos c15] at u
    rw [hy10, if_pos c11] at u
    rw [hy6, if_pos c7] at u
    rw [← u]; decide
  refine own_ifNo (pc' := 390) B X12 at_387 ((if0 _ _).trans (tlt c16).2.1) rfl ?_
  refine own_iconst (pc' := 391) B X12 (z := (1 : Int32)) at_390 rfl rfl ?_
  refine own_goto (pc' := 410) B X12 at_391 (by decide) rfl ?_
  exact own_retN B X12 (t := .boolean) (z' := (1 : Int32)) (by simp) (by decide) at_410 (by decide) (by decide) rfl
  refine own_ifNo (pc' := 377) B X12 at_374 ((if0 _ _).trans (feq c15).1) rfl ?_
  refine own_iconst (pc' := 378) B X12 (z := (0 : Int32)) at_377 rfl rfl ?_
  refine own_istore (pc' := 380) B X12 (Ls' := #[.val (.int p0), .val (.int p1), .val (.int p2), .val (.int p3), .val (.int p4), .val (.int p5), .val (.int p6), .val (.int p7), .val (.int p8), .val (.int p9), .val (.int p10), .val (.int p11), .val (.int p12), .val (.int p13), .val (.ref w14), .val (.ref w17), .val (.ref w19), .val (.int 3), .val (.int y2), .val (.int 0)]) at_378 rfl rfl ?_
  refine own_iload (pc' := 382) B X12 at_380 rfl rfl ?_
  refine own_ifYes (pc' := 398) B X12 at_382 ((if0 _ _).trans (flt (by decide : ¬ ((0 : Int32) < (0 : Int32)))).2.1) (by decide) rfl ?_
  refine own_iload (pc' := 400) B X12 at_398 rfl rfl ?_
  refine own_iload (pc' := 402) B X12 at_400 rfl rfl ?_
  have c17 : y2 = (0 : Int32) := by
    have u := (own_tail3 p8 p9 p10 p11 p12 p13 p4 p5 p6 (own_bit hp0) (own_oct hp1)).symm.trans hy3
    rw [hy14, if_neg c15] at u
    exact u.symm
  refine own_icmpNo (pc' := 405) B X12 at_402 (teq c17).2 rfl ?_
  refine own_iconst (pc' := 406) B X12 (z := (1 : Int32)) at_405 rfl rfl ?_
  refine own_goto (pc' := 410) B X12 at_406 (by decide) rfl ?_
  exact own_retN B X12 (t := .boolean) (z' := (1 : Int32)) (by simp) (by decide) at_410 (by decide) (by decide) rfl
  refine own_ifNo (pc' := 355) B X8 at_352 ((if0 _ _).trans (feq c11).1) rfl ?_
  refine own_iconst (pc' := 356) B X8 (z := (1 : Int32)) at_355 rfl rfl ?_
  refine own_istore (pc' := 358) B X8 (Ls' := #[.val (.int p0), .val (.int p1), .val (.int p2), .val (.int p3), .val (.int p4), .val (.int p5), .val (.int p6), .val (.int p7), .val (.int p8), .val (.int p9), .val (.int p10), .val (.int p11), .val (.int p12), .val (.int p13), .val (.ref w14), .val (.ref w17), .val (.ref w19), .val (.int 3), .val (.int y2), .val (.int 1)]) at_356 rfl rfl ?_
  refine own_aload (pc' := 360) B X8 at_358 rfl rfl rfl ?_
  refine own_aload (pc' := 362) B X8 at_360 rfl rfl rfl ?_
  refine own_iload (pc' := 364) B X8 at_362 rfl rfl ?_
  refine own_iconst (pc' := 365) B X8 (z := (0 : Int32)) at_364 rfl rfl ?_
  refine own_iload (pc' := 367) B X8 at_365 rfl rfl ?_
  refine own_iload (pc' := 369) B X8 at_367 rfl rfl ?_
  refine own_iload (pc' := 371) B X8 at_369 rfl rfl ?_
  refine own_callS (pc' := 374) B X8 (own_w hw 74 rfl) (own_w hw 75 rfl) (own_w hw 76 rfl) (own_w hw 77 rfl) (by decide) [(.ref w17), (.ref w19), (.int 3), (.int 0), (.int p4), (.int p5), (.int p6)] [] (rm_62 l Z a0 hw [] w17 kw17 (p8) (p10) (p12) w19 kw19 (p9) (p11) (p13) (p4) (p5) (p6) h n0 (Nat.le_trans Z0 K.1) V_w17 g_w17 V_w19 g_w19 ne_w17_w19) 0 (by decide) (by decide) rfl pd_19 rfl rfl (Nat.le_of_eq rfl) at_371 rfl (k' := 40) (n' := 256) rfl rfl (by decide) (by decide) ?_
  intro T18 v18 h18 X18 q18
  obtain ⟨y19, hy20, rfl, rfl⟩ := q18
  show own_Go p e below (T18.setTop (mkF m 374 #[.val (.int p0), .val (.int p1), .val (.int p2), .val (.int p3), .val (.int p4), .val (.int p5), .val (.int p6), .val (.int p7), .val (.int p8), .val (.int p9), .val (.int p10), .val (.int p11), .val (.int p12), .val (.int p13), .val (.ref w14), .val (.ref w17), .val (.ref w19), .val (.int 3), .val (.int y2), .val (.int 1)] [(.int y19)])) _
  by_cases c21 : y19 = (0 : Int32)
  refine own_ifYes (pc' := 380) B X18 at_374 ((if0 _ _).trans (teq c21).1) (by decide) rfl ?_
  refine own_iload (pc' := 382) B X18 at_380 rfl rfl ?_
  refine own_ifYes (pc' := 398) B X18 at_382 ((if0 _ _).trans (flt (by decide : ¬ ((1 : Int32) < (0 : Int32)))).2.1) (by decide) rfl ?_
  refine own_iload (pc' := 400) B X18 at_398 rfl rfl ?_
  refine own_iload (pc' := 402) B X18 at_400 rfl rfl ?_
  have c22 : y2 = (1 : Int32) := by
    have u := (own_tail3 p8 p9 p10 p11 p12 p13 p4 p5 p6 (own_bit hp0) (own_oct hp1)).symm.trans hy3
    rw [hy20, if_pos c21] at u
    rw [hy10, if_neg c11] at u
    exact u.symm
  refine own_icmpNo (pc' := 405) B X18 at_402 (teq c22).2 rfl ?_
  refine own_iconst (pc' := 406) B X18 (z := (1 : Int32)) at_405 rfl rfl ?_
  refine own_goto (pc' := 410) B X18 at_406 (by decide) rfl ?_
  exact own_retN B X18 (t := .boolean) (z' := (1 : Int32)) (by simp) (by decide) at_410 (by decide) (by decide) rfl
  refine own_ifNo (pc' := 377) B X18 at_374 ((if0 _ _).trans (feq c21).1) rfl ?_
  refine own_iconst (pc' := 378) B X18 (z := (0 : Int32)) at_377 rfl rfl ?_
  refine own_istore (pc' := 380) B X18 (Ls' := #[.val (.int p0), .val (.int p1), .val (.int p2), .val (.int p3), .val (.int p4), .val (.int p5), .val (.int p6), .val (.int p7), .val (.int p8), .val (.int p9), .val (.int p10), .val (.int p11), .val (.int p12), .val (.int p13), .val (.ref w14), .val (.ref w17), .val (.ref w19), .val (.int 3), .val (.int y2), .val (.int 0)]) at_378 rfl rfl ?_
  refine own_iload (pc' := 382) B X18 at_380 rfl rfl ?_
  refine own_ifYes (pc' := 398) B X18 at_382 ((if0 _ _).trans (flt (by decide : ¬ ((0 : Int32) < (0 : Int32)))).2.1) (by decide) rfl ?_
  refine own_iload (pc' := 400) B X18 at_398 rfl rfl ?_
  refine own_iload (pc' := 402) B X18 at_400 rfl rfl ?_
  have c23 : y2 = (0 : Int32) := by
    have u := (own_tail3 p8 p9 p10 p11 p12 p13 p4 p5 p6 (own_bit hp0) (own_oct hp1)).symm.trans hy3
    rw [hy20, if_neg c21] at u
    exact u.symm
  refine own_icmpNo (pc' := 405) B X18 at_402 (teq c23).2 rfl ?_
  refine own_iconst (pc' := 406) B X18 (z := (1 : Int32)) at_405 rfl rfl ?_
  refine own_goto (pc' := 410) B X18 at_406 (by decide) rfl ?_
  exact own_retN B X18 (t := .boolean) (z' := (1 : Int32)) (by simp) (by decide) at_410 (by decide) (by decide) rfl
  refine own_ifNo (pc' := 333) B X4 at_330 ((if0 _ _).trans (feq c7).1) rfl ?_
  refine own_iconst (pc' := 334) B X4 (z := (2 : Int32)) at_333 rfl rfl ?_
  refine own_istore (pc' := 336) B X4 (Ls' := #[.val (.int p0), .val (.int p1), .val (.int p2), .val (.int p3), .val (.int p4), .val (.int p5), .val (.int p6), .val (.int p7), .val (.int p8), .val (.int p9), .val (.int p10), .val (.int p11), .val (.int p12), .val (.int p13), .val (.ref w14), .val (.ref w17), .val (.ref w19), .val (.int 3), .val (.int y2), .val (.int 2)]) at_334 rfl rfl ?_
  refine own_aload (pc' := 338) B X4 at_336 rfl rfl rfl ?_
  refine own_aload (pc' := 340) B X4 at_338 rfl rfl rfl ?_
  refine own_iload (pc' := 342) B X4 at_340 rfl rfl ?_
  refine own_iconst (pc' := 343) B X4 (z := (1 : Int32)) at_342 rfl rfl ?_
  refine own_iload (pc' := 345) B X4 at_343 rfl rfl ?_
  refine own_iload (pc' := 347) B X4 at_345 rfl rfl ?_
  refine own_iload (pc' := 349) B X4 at_347 rfl rfl ?_
  refine own_callS (pc' := 352) B X4 (own_w hw 74 rfl) (own_w hw 75 rfl) (own_w hw 76 rfl) (own_w hw 77 rfl) (by decide) [(.ref w17), (.ref w19), (.int 3), (.int 1), (.int p4), (.int p5), (.int p6)] [] (rm_61 l Z a0 hw [] w17 kw17 (p8) (p10) (p12) w19 kw19 (p9) (p11) (p13) (p4) (p5) (p6) h n0 (Nat.le_trans Z0 K.1) V_w17 g_w17 V_w19 g_w19 ne_w17_w19) 0 (by decide) (by decide) rfl pd_19 rfl rfl (Nat.le_of_eq rfl) at_349 rfl (k' := 40) (n' := 256) rfl rfl (by decide) (by decide) ?_
  intro T24 v24 h24 X24 q24
  obtain ⟨y25, hy26, rfl, rfl⟩ := q24
  show own_Go p e below (T24.setTop (mkF m 352 #[.val (.int p0), .val (.int p1), .val (.int p2), .val (.int p3), .val (.int p4), .val (.int p5), .val (.int p6), .val (.int p7), .val (.int p8), .val (.int p9), .val (.int p10), .val (.int p11), .val (.int p12), .val (.int p13), .val (.ref w14), .val (.ref w17), .val (.ref w19), .val (.int 3), .val (.int y2), .val (.int 2)] [(.int y25)])) _
  by_cases c27 : y25 = (0 : Int32)
  refine own_ifYes (pc' := 358) B X24 at_352 ((if0 _ _).trans (teq c27).1) (by decide) rfl ?_
  refine own_aload (pc' := 360) B X24 at_358 rfl rfl rfl ?_
  refine own_aload (pc' := 362) B X24 at_360 rfl rfl rfl ?_
  refine own_iload (pc' := 364) B X24 at_362 rfl rfl ?_
  refine own_iconst (pc' := 365) B X24 (z := (0 : Int32)) at_364 rfl rfl ?_
  refine own_iload (pc' := 367) B X24 at_365 rfl rfl ?_
  refine own_iload (pc' := 369) B X24 at_367 rfl rfl ?_
  refine own_iload (pc' := 371) B X24 at_369 rfl rfl ?_
  refine own_callS (pc' := 374) B X24 (own_w hw 74 rfl) (own_w hw 75 rfl) (own_w hw 76 rfl) (own_w hw 77 rfl) (by decide) [(.ref w17), (.ref w19), (.int 3), (.int 0), (.int p4), (.int p5), (.int p6)] [] (rm_62 l Z a0 hw [] w17 kw17 (p8) (p10) (p12) w19 kw19 (p9) (p11) (p13) (p4) (p5) (p6) h n0 (Nat.le_trans Z0 K.1) V_w17 g_w17 V_w19 g_w19 ne_w17_w19) 0 (by decide) (by decide) rfl pd_19 rfl rfl (Nat.le_of_eq rfl) at_371 rfl (k' := 40) (n' := 256) rfl rfl (by decide) (by decide) ?_
  intro T28 v28 h28 X28 q28
  obtain ⟨y29, hy30, rfl, rfl⟩ := q28
  show own_Go p e below (T28.setTop (mkF m 374 #[.val (.int p0), .val (.int p1), .val (.int p2), .val (.int p3), .val (.int p4), .val (.int p5), .val (.int p6), .val (.int p7), .val (.int p8), .val (.int p9), .val (.int p10), .val (.int p11), .val (.int p12), .val (.int p13), .val (.ref w14), .val (.ref w17), .val (.ref w19), .val (.int 3), .val (.int y2), .val (.int 2)] [(.int y29)])) _
  by_cases c31 : y29 = (0 : Int32)
  refine own_ifYes (pc' := 380) B X28 at_374 ((if0 _ _).trans (teq c31).1) (by decide) rfl ?_
  refine own_iload (pc' := 382) B X28 at_380 rfl rfl ?_
  refine own_ifYes (pc' := 398) B X28 at_382 ((if0 _ _).trans (flt (by decide : ¬ ((2 : Int32) < (0 : Int32)))).2.1) (by decide) rfl ?_
  refine own_iload (pc' := 400) B X28 at_398 rfl rfl ?_
  refine own_iload (pc' := 402) B X28 at_400 rfl rfl ?_
  have c32 : y2 = (2 : Int32) := by
    have u := (own_tail3 p8 p9 p10 p11 p12 p13 p4 p5 p6 (own_bit hp0) (own_oct hp1)).symm.trans hy3
    rw [hy30, if_pos c31] at u
    rw [hy26, if_pos c27] at u
    rw [hy6, if_neg c7] at u
    exact u.symm
  refine own_icmpNo (pc' := 405) B X28 at_402 (teq c32).2 rfl ?_
  refine own_iconst (pc' := 406) B X28 (z := (1 : Int32)) at_405 rfl rfl ?_
  refine own_goto (pc' := 410) B X28 at_406 (by decide) rfl ?_
  exact own_retN B X28 (t := .boolean) (z' := (1 : Int32)) (by simp) (by decide) at_410 (by decide) (by decide) rfl
  refine own_ifNo (pc' := 377) B X28 at_374 ((if0 _ _).trans (feq c31).1) rfl ?_
  refine own_iconst (pc' := 378) B X28 (z := (0 : Int32)) at_377 rfl rfl ?_
  refine own_istore (pc' := 380) B X28 (Ls' := #[.val (.int p0), .val (.int p1), .val (.int p2), .val (.int p3), .val (.int p4), .val (.int p5), .val (.int p6), .val (.int p7), .val (.int p8), .val (.int p9), .val (.int p10), .val (.int p11), .val (.int p12), .val (.int p13), .val (.ref w14), .val (.ref w17), .val (.ref w19), .val (.int 3), .val (.int y2), .val (.int 0)]) at_378 rfl rfl ?_
  refine own_iload (pc' := 382) B X28 at_380 rfl rfl ?_
  refine own_ifYes (pc' := 398) B X28 at_382 ((if0 _ _).trans (flt (by decide : ¬ ((0 : Int32) < (0 : Int32)))).2.1) (by decide) rfl ?_
  refine own_iload (pc' := 400) B X28 at_398 rfl rfl ?_
  refine own_iload (pc' := 402) B X28 at_400 rfl rfl ?_
  have c33 : y2 = (0 : Int32) := by
    have u := (own_tail3 p8 p9 p10 p11 p12 p13 p4 p5 p6 (own_bit hp0) (own_oct hp1)).symm.trans hy3
    rw [hy30, if_neg c31] at u
    exact u.symm
  refine own_icmpNo (pc' := 405) B X28 at_402 (teq c33).2 rfl ?_
  refine own_iconst (pc' := 406) B X28 (z := (1 : Int32)) at_405 rfl rfl ?_
  refine own_goto (pc' := 410) B X28 at_406 (by decide) rfl ?_
  exact own_retN B X28 (t := .boolean) (z' := (1 : Int32)) (by simp) (by decide) at_410 (by decide) (by decide) rfl
  refine own_ifNo (pc' := 355) B X24 at_352 ((if0 _ _).trans (feq c27).1) rfl ?_
  refine own_iconst (pc' := 356) B X24 (z := (1 : Int32)) at_355 rfl rfl ?_
  refine own_istore (pc' := 358) B X24 (Ls' := #[.val (.int p0), .val (.int p1), .val (.int p2), .val (.int p3), .val (.int p4), .val (.int p5), .val (.int p6), .val (.int p7), .val (.int p8), .val (.int p9), .val (.int p10), .val (.int p11), .val (.int p12), .val (.int p13), .val (.ref w14), .val (.ref w17), .val (.ref w19), .val (.int 3), .val (.int y2), .val (.int 1)]) at_356 rfl rfl ?_
  refine own_aload (pc' := 360) B X24 at_358 rfl rfl rfl ?_
  refine own_aload (pc' := 362) B X24 at_360 rfl rfl rfl ?_
  refine own_iload (pc' := 364) B X24 at_362 rfl rfl ?_
  refine own_iconst (pc' := 365) B X24 (z := (0 : Int32)) at_364 rfl rfl ?_
  refine own_iload (pc' := 367) B X24 at_365 rfl rfl ?_
  refine own_iload (pc' := 369) B X24 at_367 rfl rfl ?_
  refine own_iload (pc' := 371) B X24 at_369 rfl rfl ?_
  refine own_callS (pc' := 374) B X24 (own_w hw 74 rfl) (own_w hw 75 rfl) (own_w hw 76 rfl) (own_w hw 77 rfl) (by decide) [(.ref w17), (.ref w19), (.int 3), (.int 0), (.int p4), (.int p5), (.int p6)] [] (rm_62 l Z a0 hw [] w17 kw17 (p8) (p10) (p12) w19 kw19 (p9) (p11) (p13) (p4) (p5) (p6) h n0 (Nat.le_trans Z0 K.1) V_w17 g_w17 V_w19 g_w19 ne_w17_w19) 0 (by decide) (by decide) rfl pd_19 rfl rfl (Nat.le_of_eq rfl) at_371 rfl (k' := 40) (n' := 256) rfl rfl (by decide) (by decide) ?_
  intro T34 v34 h34 X34 q34
  obtain ⟨y35, hy36, rfl, rfl⟩ := q34
  show own_Go p e below (T34.setTop (mkF m 374 #[.val (.int p0), .val (.int p1), .val (.int p2), .val (.int p3), .val (.int p4), .val (.int p5), .val (.int p6), .val (.int p7), .val (.int p8), .val (.int p9), .val (.int p10), .val (.int p11), .val (.int p12), .val (.int p13), .val (.ref w14), .val (.ref w17), .val (.ref w19), .val (.int 3), .val (.int y2), .val (.int 1)] [(.int y35)])) _
  by_cases c37 : y35 = (0 : Int32)
  refine own_ifYes (pc' := 380) B X34 at_374 ((if0 _ _).trans (teq c37).1) (by decide) rfl ?_
  refine own_iload (pc' := 382) B X34 at_380 rfl rfl ?_
  refine own_ifYes (pc' := 398) B X34 at_382 ((if0 _ _).trans (flt (by decide : ¬ ((1 : Int32) < (0 : Int32)))).2.1) (by decide) rfl ?_
  refine own_iload (pc' := 400) B X34 at_398 rfl rfl ?_
  refine own_iload (pc' := 402) B X34 at_400 rfl rfl ?_
  have c38 : y2 = (1 : Int32) := by
    have u := (own_tail3 p8 p9 p10 p11 p12 p13 p4 p5 p6 (own_bit hp0) (own_oct hp1)).symm.trans hy3
    rw [hy36, if_pos c37] at u
    rw [hy26, if_neg c27] at u
    exact u.symm
  refine own_icmpNo (pc' := 405) B X34 at_402 (teq c38).2 rfl ?_
  refine own_iconst (pc' := 406) B X34 (z := (1 : Int32)) at_405 rfl rfl ?_
  refine own_goto (pc' := 410) B X34 at_406 (by decide) rfl ?_
  exact own_retN B X34 (t := .boolean) (z' := (1 : Int32)) (by simp) (by decide) at_410 (by decide) (by decide) rfl
  refine own_ifNo (pc' := 377) B X34 at_374 ((if0 _ _).trans (feq c37).1) rfl ?_
  refine own_iconst (pc' := 378) B X34 (z := (0 : Int32)) at_377 rfl rfl ?_
  refine own_istore (pc' := 380) B X34 (Ls' := #[.val (.int p0), .val (.int p1), .val (.int p2), .val (.int p3), .val (.int p4), .val (.int p5), .val (.int p6), .val (.int p7), .val (.int p8), .val (.int p9), .val (.int p10), .val (.int p11), .val (.int p12), .val (.int p13), .val (.ref w14), .val (.ref w17), .val (.ref w19), .val (.int 3), .val (.int y2), .val (.int 0)]) at_378 rfl rfl ?_
  refine own_iload (pc' := 382) B X34 at_380 rfl rfl ?_
  refine own_ifYes (pc' := 398) B X34 at_382 ((if0 _ _).trans (flt (by decide : ¬ ((0 : Int32) < (0 : Int32)))).2.1) (by decide) rfl ?_
  refine own_iload (pc' := 400) B X34 at_398 rfl rfl ?_
  refine own_iload (pc' := 402) B X34 at_400 rfl rfl ?_
  have c39 : y2 = (0 : Int32) := by
    have u := (own_tail3 p8 p9 p10 p11 p12 p13 p4 p5 p6 (own_bit hp0) (own_oct hp1)).symm.trans hy3
    rw [hy36, if_neg c37] at u
    exact u.symm
  refine own_icmpNo (pc' := 405) B X34 at_402 (teq c39).2 rfl ?_
  refine own_iconst (pc' := 406) B X34 (z := (1 : Int32)) at_405 rfl rfl ?_
  refine own_goto (pc' := 410) B X34 at_406 (by decide) rfl ?_
  exact own_retN B X34 (t := .boolean) (z' := (1 : Int32)) (by simp) (by decide) at_410 (by decide) (by decide) rfl
theorem ax_49 {F N : Int32 → Int32} {H : Int32 → Int32 → Int32} (nn : ∀ x, ¬ N x = x) {a0 a1 a2 a3 a4 a5 a6 a7 a8 a9 a10 : Int32} (e0 : own_F_look1 a1 a2 a3 a4 = a0) (e1 : a0 = (-1 : Int32)) (e2 : own_F_holds a1 a2 a3 a4 = a5) (e3 : a5 = (0 : Int32)) (e4 : own_F_look2 a1 a2 a3 a4 a7 a8 = a6) (e5 : ¬ (a6 = (-1 : Int32))) (e6 : own_F_holds a1 a2 a7 a8 = a9) (e7 : a9 = (0 : Int32)) (e8 : own_F_holds a3 a4 a7 a8 = a10) : ¬ (a10 = (0 : Int32)) := by grind [own_F_look1, own_F_look2, own_G_put2, own_F_holds]
def Q_63 (Z : State) (w0 w1 : Addr) (kw1 : ClassId) (p3 p4 p5 p6 p7 p8 p9 p10 p11 : Int32) (h0 : Heap) (n0 : Nat) (v : Option Value) (h : Heap) : Prop :=
  (∃ (yF : Int32), own_F_find_2 p3 p4 p5 p6 p7 p8 p9 = yF ∧ v = some (.int yF) ∧ h0 = h)
theorem rm_63 (l : Launch) (Z : State) (a0 : Array Value) (hw : ∀ d ∈ tables_1, d.before a0 Z = true) (ws : List Jvm.Cond) (w0 w1 : Addr) (kw1 : ClassId) (p3 p4 p5 p6 p7 p8 p9 p10 p11 : Int32) (h0 : Heap) (n0 : Nat) (Z0 : n0 ≤ h0.size) (E_w0 : Exa Z h0 w0 oC2) (F_w0_arity : Fld Z h0 w0 oC2 "arity" "I" (.int 2)) (F_w0_rows : Fld Z h0 w0 oC2 "rows" "[I" (.ref w1)) (F_w0_size : Fld Z h0 w0 oC2 "size" "I" (.int 2)) (g_w0 : n0 ≤ w0) (V_w1 : Arv Z h0 w1 kw1 .int (16 : Int32) [(.int p3), (.int p4), (.int p5), (.int p6)] (.int 0)) (g_w1 : n0 ≤ w1) (ne_w0_w1 : w0 ≠ w1) (hp0 : p10 &&& (1 : Int32) = p7) (hp1 : p11 &&& (7 : Int32) = p9) :
    own_M l Z (⟨"com/example/ordal/ordal/Relation", "find", "(III)I"⟩ : MethodName) prog_12_method_12_code 8 (some .int) ws ({ frames := 0, cells := 0, slots := 0, locals := 0 } : Room) #[(.ref w0), (.int p7), (.int p8), (.int p9)] h0 n0 (Q_63 Z w0 w1 kw1 p3 p4 p5 p6 p7 p8 p9 p10 p11 h0 n0) := by
  refine own_enter' (Q := Q_63 Z w0 w1 kw1 p3 p4 p5 p6 p7 p8 p9 p10 p11 h0 n0) (F := fun m => mkF m 0 #[.val (.ref w0), .val (.int p7), .val (.int p8), .val (.int p9), .unset, .unset, .unset, .unset] []) (plainFor_of_name pn_2) ?_
  intro p e s m below meth c s₁ B X0
  have K : Keep h0 h0 [] := Keep.refl h0 _
  have lt_w0 := E_w0.lt
  have lt_w1 := V_w1.lt
  refine own_aloadN (pc' := 1) B X0 d8_0 rfl rfl rfl ?_
  refine own_getfield (pc' := 4) B X0 (host := "") (Or.inl (own_w hw 32 rfl)) Via.refl F_w0_rows d8_1 rfl ?_
  intro T1 X1
  refine own_astore (pc' := 6) B X1 (Ls' := #[.val (.ref w0), .val (.int p7), .val (.int p8), .val (.int p9), .val (.ref w1), .unset, .unset, .unset]) d8_4 rfl rfl rfl ?_
  refine own_aloadN (pc' := 7) B X1 d8_6 rfl rfl rfl ?_
  refine own_getfield (pc' := 10) B X1 (host := "") (Or.inl (own_w hw 29 rfl)) Via.refl F_w0_arity d8_7 rfl ?_
  intro T2 X2
  refine own_istore (pc' := 12) B X2 (Ls' := #[.val (.ref w0), .val (.int p7), .val (.int p8), .val (.int p9), .val (.ref w1), .val (.int 2), .unset, .unset]) d8_10 rfl rfl ?_
  refine own_aloadN (pc' := 13) B X2 d8_12 rfl rfl rfl ?_
  refine own_getfield (pc' := 16) B X2 (host := "") (Or.inl (own_w hw 72 rfl)) Via.refl F_w0_size d8_13 rfl ?_
  intro T3 X3
  refine own_iload (pc' := 18) B X3 d8_16 rfl rfl ?_
  refine own_imul (pc' := 19) B X3 (z := (4 : Int32)) d8_18 rfl (by decide) ?_
  refine own_istore (pc' := 21) B X3 (Ls' := #[.val (.ref w0), .val (.int p7), .val (.int p8), .val (.int p9), .val (.ref w1), .val (.int 2), .val (.int 4), .unset]) d8_19 rfl rfl ?_
  refine own_iloadN (pc' := 22) B X3 d8_21 rfl rfl ?_
  refine own_iload (pc' := 24) B X3 d8_22 rfl rfl ?_
  obtain ⟨y4, hy4⟩ : ∃ z : Int32, p9 * (2 : Int32) = z := ⟨_, rfl⟩
  refine own_imul (pc' := 25) B X3 d8_24 rfl hy4 ?_
  refine own_iloadN (pc' := 26) B X3 d8_25 rfl rfl ?_
  obtain ⟨y5, hy5⟩ : ∃ z : Int32, y4 + p7 = z := ⟨_, rfl⟩
  refine own_iadd (pc' := 27) B X3 d8_26 rfl hy5 ?_
  refine own_istore (pc' := 29) B X3 (Ls' := #[.val (.ref w0), .val (.int p7), .val (.int p8), .val (.int p9), .val (.ref w1), .val (.int 2), .val (.int 4), .val (.int y5)]) d8_27 rfl rfl ?_
  refine own_iload (pc' := 31) B X3 d8_29 rfl rfl ?_
  refine own_iload (pc' := 33) B X3 d8_31 rfl rfl ?_
  by_cases c6 : y5 < (4 : Int32)
  refine own_icmpNo (pc' := 36) B X3 d8_33 (tlt c6).2.1 rfl ?_
  refine own_aload (pc' := 38) B X3 d8_36 rfl rfl rfl ?_
  refine own_iload (pc' := 40) B X3 d8_38 rfl rfl ?_
  have z7 : y5.toInt = 0 ∨ y5.toInt = 1 ∨ y5.toInt = 2 ∨ y5.toInt = 3 := by
    have o0 := own_o_mask hp0 1 (by decide) (by decide)
    have o1 := own_o_mask hp1 3 (by decide) (by decide)
    have o2 := own_o_imulR hy4 2 (by decide)
    have o3 := own_o_iadd hy5
    have o4 := own_lt c6
    have o5 := rng32 p7
    have o6 := rng32 p9
    have o7 := rng32 y4
    have o8 := rng32 y5
    have o9 : (1 : Int32).toInt = 1 := by decide
    have o10 : (7 : Int32).toInt = 7 := by decide
    have o11 : (2 : Int32).toInt = 2 := by decide
    have o12 : (4 : Int32).toInt = 4 := by decide
    omega
  rcases z7 with z7 | z7 | z7 | z7
  obtain rfl : y5 = (0 : Int32) := Int32.toInt_inj.mp (z7.trans (by decide))
  refine own_iaload (pc' := 41) B X3 V_w1 (v := (.int p3)) ⟨by decide, by decide⟩ rfl d8_40 rfl ?_
  refine own_iloadN (pc' := 42) B X3 d8_41 rfl rfl ?_
  by_cases c8 : p3 = p8
  refine own_icmpNo (pc' := 45) B X3 d8_42 (teq c8).2 rfl ?_
  refine own_iload (pc' := 47) B X3 d8_45 rfl rfl ?_
  refine own_iload (pc' := 49) B X3 d8_47 rfl rfl ?_
  refine own_idiv (pc' := 50) B X3 (z := (0 : Int32)) d8_49 rfl (by decide) (by decide) ?_
  exact own_retI B X3 d8_50 (by decide) (by decide) ⟨(0 : Int32), (by subst hy4; rw [own_F_find_2, if_pos (by first | exact c6 | (simp only [hy5]; exact c6)), if_pos hy5, if_pos (by first | exact c8 | (simp only [hy5]; exact c8))]), rfl, rfl⟩
  refine own_icmpYes (pc' := 51) B X3 d8_42 (feq c8).2 (by decide) rfl ?_
  refine own_iload (pc' := 53) B X3 d8_51 rfl rfl ?_
  refine own_iload (pc' := 55) B X3 d8_53 rfl rfl ?_
  refine own_iadd (pc' := 56) B X3 (z := (2 : Int32)) d8_55 rfl (by decide) ?_
  refine own_istore (pc' := 58) B X3 (Ls' := #[.val (.ref w0), .val (.int p7), .val (.int p8), .val (.int p9), .val (.ref w1), .val (.int 2), .val (.int 4), .val (.int 2)]) d8_56 rfl rfl ?_
  refine own_goto (pc' := 29) B X3 d8_58 (by decide) rfl ?_
  refine own_iload (pc' := 31) B X3 d8_29 rfl rfl ?_
  refine own_iload (pc' := 33) B X3 d8_31 rfl rfl ?_
  refine own_icmpNo (pc' := 36) B X3 d8_33 (tlt (by decide : (2 : Int32) < (4 : Int32))).2.1 rfl ?_
  refine own_aload (pc' := 38) B X3 d8_36 rfl rfl rfl ?_
  refine own_iload (pc' := 40) B X3 d8_38 rfl rfl ?_
  refine own_iaload (pc' := 41) B X3 V_w1 (v := (.int p5)) ⟨by decide, by decide⟩ rfl d8_40 rfl ?_
  refine own_iloadN (pc' := 42) B X3 d8_41 rfl rfl ?_
  by_cases c9 : p5 = p8
  refine own_icmpNo (pc' := 45) B X3 d8_42 (teq c9).2 rfl ?_
  refine own_iload (pc' := 47) B X3 d8_45 rfl rfl ?_
  refine own_iload (pc' := 49) B X3 d8_47 rfl rfl ?_
  refine own_idiv (pc' := 50) B X3 (z := (1 : Int32)) d8_49 rfl (by decide) (by decide) ?_
  exact own_retI B X3 d8_50 (by decide) (by decide) ⟨(1 : Int32), (by subst hy4; rw [own_F_find_2, if_pos (by first | exact c6 | (simp only [hy5]; exact c6)), if_pos hy5, if_neg (by first | exact c8 | (simp only [hy5]; exact c8)), if_pos (by first | exact c9 | (simp only [hy5]; exact c9))]), rfl, rfl⟩
  refine own_icmpYes (pc' := 51) B X3 d8_42 (feq c9).2 (by decide) rfl ?_
  refine own_iload (pc' := 53) B X3 d8_51 rfl rfl ?_
  refine own_iload (pc' := 55) B X3 d8_53 rfl rfl ?_
  refine own_iadd (pc' := 56) B X3 (z := (4 : Int32)) d8_55 rfl (by decide) ?_
  refine own_istore (pc' := 58) B X3 (Ls' := #[.val (.ref w0), .val (.int p7), .val (.int p8), .val (.int p9), .val (.ref w1), .val (.int 2), .val (.int 4), .val (.int 4)]) d8_56 rfl rfl ?_
  refine own_goto (pc' := 29) B X3 d8_58 (by decide) rfl ?_
  refine own_iload (pc' := 31) B X3 d8_29 rfl rfl ?_
  refine own_iload (pc' := 33) B X3 d8_31 rfl rfl ?_
  refine own_icmpYes (pc' := 61) B X3 d8_33 (flt (by decide : ¬ ((4 : Int32) < (4 : Int32)))).2.1 (by decide) rfl ?_
  refine own_iconst (pc' := 62) B X3 (z := (-1 : Int32)) d8_61 rfl rfl ?_
  exact own_retI B X3 d8_62 (by decide) (by decide) ⟨(-1 : Int32), (by subst hy4; rw [own_F_find_2, if_pos (by first | exact c6 | (simp only [hy5]; exact c6)), if_pos hy5, if_neg (by first | exact c8 | (simp only [hy5]; exact c8)), if_neg (by first | exact c9 | (simp only [hy5]; exact c9))]), rfl, rfl⟩
  obtain rfl : y5 = (1 : Int32) := Int32.toInt_inj.mp (z7.trans (by decide))
  refine own_iaload (pc' := 41) B X3 V_w1 (v := (.int p4)) ⟨by decide, by decide⟩ rfl d8_40 rfl ?_
  refine own_iloadN (pc' := 42) B X3 d8_41 rfl rfl ?_
  by_cases c10 : p4 = p8
  refine own_icmpNo (pc' := 45) B X3 d8_42 (teq c10).2 rfl ?_
  refine own_iload (pc' := 47) B X3 d8_45 rfl rfl ?_
  refine own_iload (pc' := 49) B X3 d8_47 rfl rfl ?_
  refine own_idiv (pc' := 50) B X3 (z := (0 : Int32)) d8_49 rfl (by decide) (by decide) ?_
  exact own_retI B X3 d8_50 (by decide) (by decide) ⟨(0 : Int32), (by subst hy4; rw [own_F_find_2, if_pos (by first | exact c6 | (simp only [hy5]; exact c6)), if_neg (by rw [hy5]; decide), if_pos hy5, if_pos (by first | exact c10 | (simp only [hy5]; exact c10))]), rfl, rfl⟩
  refine own_icmpYes (pc' := 51) B X3 d8_42 (feq c10).2 (by decide) rfl ?_
  refine own_iload (pc' := 53) B X3 d8_51 rfl rfl ?_
  refine own_iload (pc' := 55) B X3 d8_53 rfl rfl ?_
  refine own_iadd (pc' := 56) B X3 (z := (3 : Int32)) d8_55 rfl (by decide) ?_
  refine own_istore (pc' := 58) B X3 (Ls' := #[.val (.ref w0), .val (.int p7), .val (.int p8), .val (.int p9), .val (.ref w1), .val (.int 2), .val (.int 4), .val (.int 3)]) d8_56 rfl rfl ?_
  refine own_goto (pc' := 29) B X3 d8_58 (by decide) rfl ?_
  refine own_iload (pc' := 31) B X3 d8_29 rfl rfl ?_
  refine own_iload (pc' := 33) B X3 d8_31 rfl rfl ?_
  refine own_icmpNo (pc' := 36) B X3 d8_33 (tlt (by decide : (3 : Int32) < (4 : Int32))).2.1 rfl ?_
  refine own_aload (pc' := 38) B X3 d8_36 rfl rfl rfl ?_
  refine own_iload (pc' := 40) B X3 d8_38 rfl rfl ?_
  refine own_iaload (pc' := 41) B X3 V_w1 (v := (.int p6)) ⟨by decide, by decide⟩ rfl d8_40 rfl ?_
  refine own_iloadN (pc' := 42) B X3 d8_41 rfl rfl ?_
  by_cases c11 : p6 = p8
  refine own_icmpNo (pc' := 45) B X3 d8_42 (teq c11).2 rfl ?_
  refine own_iload (pc' := 47) B X3 d8_45 rfl rfl ?_
  refine own_iload (pc' := 49) B X3 d8_47 rfl rfl ?_
  refine own_idiv (pc' := 50) B X3 (z := (1 : Int32)) d8_49 rfl (by decide) (by decide) ?_
  exact own_retI B X3 d8_50 (by decide) (by decide) ⟨(1 : Int32), (by subst hy4; rw [own_F_find_2, if_pos (by first | exact c6 | (simp only [hy5]; exact c6)), if_neg (by rw [hy5]; decide), if_pos hy5, if_neg (by first | exact c10 | (simp only [hy5]; exact c10)), if_pos (by first | exact c11 | (simp only [hy5]; exact c11))]), rfl, rfl⟩
  refine own_icmpYes (pc' := 51) B X3 d8_42 (feq c11).2 (by decide) rfl ?_
  refine own_iload (pc' := 53) B X3 d8_51 rfl rfl ?_
  refine own_iload (pc' := 55) B X3 d8_53 rfl rfl ?_
  refine own_iadd (pc' := 56) B X3 (z := (5 : Int32)) d8_55 rfl (by decide) ?_
  refine own_istore (pc' := 58) B X3 (Ls' := #[.val (.ref w0), .val (.int p7), .val (.int p8), .val (.int p9), .val (.ref w1), .val (.int 2), .val (.int 4), .val (.int 5)]) d8_56 rfl rfl ?_
  refine own_goto (pc' := 29) B X3 d8_58 (by decide) rfl ?_
  refine own_iload (pc' := 31) B X3 d8_29 rfl rfl ?_
  refine own_iload (pc' := 33) B X3 d8_31 rfl rfl ?_
  refine own_icmpYes (pc' := 61) B X3 d8_33 (flt (by decide : ¬ ((5 : Int32) < (4 : Int32)))).2.1 (by decide) rfl ?_
  refine own_iconst (pc' := 62) B X3 (z := (-1 : Int32)) d8_61 rfl rfl ?_
  exact own_retI B X3 d8_62 (by decide) (by decide) ⟨(-1 : Int32), (by subst hy4; rw [own_F_find_2, if_pos (by first | exact c6 | (simp only [hy5]; exact c6)), if_neg (by rw [hy5]; decide), if_pos hy5, if_neg (by first | exact c10 | (simp only [hy5]; exact c10)), if_neg (by first | exact c11 | (simp only [hy5]; exact c11))]), rfl, rfl⟩
  obtain rfl : y5 = (2 : Int32) := Int32.toInt_inj.mp (z7.trans (by decide))
  refine own_iaload (pc' := 41) B X3 V_w1 (v := (.int p5)) ⟨by decide, by decide⟩ rfl d8_40 rfl ?_
  refine own_iloadN (pc' := 42) B X3 d8_41 rfl rfl ?_
  by_cases c12 : p5 = p8
  refine own_icmpNo (pc' := 45) B X3 d8_42 (teq c12).2 rfl ?_
  refine own_iload (pc' := 47) B X3 d8_45 rfl rfl ?_
  refine own_iload (pc' := 49) B X3 d8_47 rfl rfl ?_
  refine own_idiv (pc' := 50) B X3 (z := (1 : Int32)) d8_49 rfl (by decide) (by decide) ?_
  exact own_retI B X3 d8_50 (by decide) (by decide) ⟨(1 : Int32), (by subst hy4; rw [own_F_find_2, if_pos (by first | exact c6 | (simp only [hy5]; exact c6)), if_neg (by rw [hy5]; decide), if_neg (by rw [hy5]; decide), if_pos hy5, if_pos (by first | exact c12 | (simp only [hy5]; exact c12))]), rfl, rfl⟩
  refine own_icmpYes (pc' := 51) B X3 d8_42 (feq c12).2 (by decide) rfl ?_
  refine own_iload (pc' := 53) B X3 d8_51 rfl rfl ?_
  refine own_iload (pc' := 55) B X3 d8_53 rfl rfl ?_
  refine own_iadd (pc' := 56) B X3 (z := (4 : Int32)) d8_55 rfl (by decide) ?_
  refine own_istore (pc' := 58) B X3 (Ls' := #[.val (.ref w0), .val (.int p7), .val (.int p8), .val (.int p9), .val (.ref w1), .val (.int 2), .val (.int 4), .val (.int 4)]) d8_56 rfl rfl ?_
  refine own_goto (pc' := 29) B X3 d8_58 (by decide) rfl ?_
  refine own_iload (pc' := 31) B X3 d8_29 rfl rfl ?_
  refine own_iload (pc' := 33) B X3 d8_31 rfl rfl ?_
  refine own_icmpYes (pc' := 61) B X3 d8_33 (flt (by decide : ¬ ((4 : Int32) < (4 : Int32)))).2.1 (by decide) rfl ?_
  refine own_iconst (pc' := 62) B X3 (z := (-1 : Int32)) d8_61 rfl rfl ?_
  exact own_retI B X3 d8_62 (by decide) (by decide) ⟨(-1 : Int32), (by subst hy4; rw [own_F_find_2, if_pos (by first | exact c6 | (simp only [hy5]; exact c6)), if_neg (by rw [hy5]; decide), if_neg (by rw [hy5]; decide), if_pos hy5, if_neg (by first | exact c12 | (simp only [hy5]; exact c12))]), rfl, rfl⟩
  obtain rfl : y5 = (3 : Int32) := Int32.toInt_inj.mp (z7.trans (by decide))
  refine own_iaload (pc' := 41) B X3 V_w1 (v := (.int p6)) ⟨by decide, by decide⟩ rfl d8_40 rfl ?_
  refine own_iloadN (pc' := 42) B X3 d8_41 rfl rfl ?_
  by_cases c13 : p6 = p8
  refine own_icmpNo (pc' := 45) B X3 d8_42 (teq c13).2 rfl ?_
  refine own_iload (pc' := 47) B X3 d8_45 rfl rfl ?_
  refine own_iload (pc' := 49) B X3 d8_47 rfl rfl ?_
  refine own_idiv (pc' := 50) B X3 (z := (1 : Int32)) d8_49 rfl (by decide) (by decide) ?_
  exact own_retI B X3 d8_50 (by decide) (by decide) ⟨(1 : Int32), (by subst hy4; rw [own_F_find_2, if_pos (by first | exact c6 | (simp only [hy5]; exact c6)), if_neg (by rw [hy5]; decide), if_neg (by rw [hy5]; decide), if_neg (by rw [hy5]; decide), if_pos (by first | exact c13 | (simp only [hy5]; exact c13))]), rfl, rfl⟩
  refine own_icmpYes (pc' := 51) B X3 d8_42 (feq c13).2 (by decide) rfl ?_
  refine own_iload (pc' := 53) B X3 d8_51 rfl rfl ?_
  refine own_iload (pc' := 55) B X3 d8_53 rfl rfl ?_
  refine own_iadd (pc' := 56) B X3 (z := (5 : Int32)) d8_55 rfl (by decide) ?_
  refine own_istore (pc' := 58) B X3 (Ls' := #[.val (.ref w0), .val (.int p7), .val (.int p8), .val (.int p9), .val (.ref w1), .val (.int 2), .val (.int 4), .val (.int 5)]) d8_56 rfl rfl ?_
  refine own_goto (pc' := 29) B X3 d8_58 (by decide) rfl ?_
  refine own_iload (pc' := 31) B X3 d8_29 rfl rfl ?_
  refine own_iload (pc' := 33) B X3 d8_31 rfl rfl ?_
  refine own_icmpYes (pc' := 61) B X3 d8_33 (flt (by decide : ¬ ((5 : Int32) < (4 : Int32)))).2.1 (by decide) rfl ?_
  refine own_iconst (pc' := 62) B X3 (z := (-1 : Int32)) d8_61 rfl rfl ?_
  exact own_retI B X3 d8_62 (by decide) (by decide) ⟨(-1 : Int32), (by subst hy4; rw [own_F_find_2, if_pos (by first | exact c6 | (simp only [hy5]; exact c6)), if_neg (by rw [hy5]; decide), if_neg (by rw [hy5]; decide), if_neg (by rw [hy5]; decide), if_neg (by first | exact c13 | (simp only [hy5]; exact c13))]), rfl, rfl⟩
  refine own_icmpYes (pc' := 61) B X3 d8_33 (flt c6).2.1 (by decide) rfl ?_
  refine own_iconst (pc' := 62) B X3 (z := (-1 : Int32)) d8_61 rfl rfl ?_
  exact own_retI B X3 d8_62 (by decide) (by decide) ⟨(-1 : Int32), (by subst hy4; subst hy5; rw [own_F_find_2, if_neg c6]), rfl, rfl⟩
theorem b_own_F_hit_4 {a0 z : Int32} (h : own_F_hit_4 a0 = z) : z &&& (1 : Int32) = z := by subst h; unfold own_F_hit_4; (repeat' split) <;> decide
def Q_64 (Z : State) (w0 : Addr) (kw0 : ClassId) (p2 p3 : Int32) (w4 : Addr) (kw4 : ClassId) (p6 p7 p8 p9 p10 : Int32) (h0 : Heap) (n0 : Nat) (v : Option Value) (h : Heap) : Prop :=
  (∃ (yF : Int32), own_F_hit_4 p10 = yF ∧ v = some (.int yF) ∧ h0 = h)
theorem rm_64 (l : Launch) (Z : State) (a0 : Array Value) (hw : ∀ d ∈ tables_1, d.before a0 Z = true) (ws : List Jvm.Cond) (w0 : Addr) (kw0 : ClassId) (p2 p3 : Int32) (w4 : Addr) (kw4 : ClassId) (p6 p7 p8 p9 p10 : Int32) (h0 : Heap) (n0 : Nat) (Z0 : n0 ≤ h0.size) (V_w0 : Arv Z h0 w0 kw0 .int (3 : Int32) [(.int p2), (.int p3)] (.int 0)) (g_w0 : n0 ≤ w0) (V_w4 : Arv Z h0 w4 kw4 .int (3 : Int32) [(.int p6), (.int p7)] (.int 0)) (g_w4 : n0 ≤ w4) (ne_w0_w4 : w0 ≠ w4) :
    own_M l Z (⟨"com/example/ordal/ordal/RelationFindPinLaw", "hit", "([I[IIIIII)Z"⟩ : MethodName) method_4_code 8 (some .boolean) ws ({ frames := 0, cells := 0, slots := 0, locals := 0 } : Room) #[(.ref w0), (.ref w4), (.int 2), (.int 2), (.int p8), (.int p9), (.int p10)] h0 n0 (Q_64 Z w0 kw0 p2 p3 w4 kw4 p6 p7 p8 p9 p10 h0 n0) := by
  refine own_enter' (Q := Q_64 Z w0 kw0 p2 p3 w4 kw4 p6 p7 p8 p9 p10 h0 n0) (F := fun m => mkF m 0 #[.val (.ref w0), .val (.ref w4), .val (.int 2), .val (.int 2), .val (.int p8), .val (.int p9), .val (.int p10), .unset] []) (plainFor_of_name pn_5) ?_
  intro p e s m below meth c s₁ B X0
  have K : Keep h0 h0 [] := Keep.refl h0 _
  have lt_w0 := V_w0.lt
  have lt_w4 := V_w4.lt
  refine own_iloadN (pc' := 1) B X0 d9_0 rfl rfl ?_
  refine own_iload (pc' := 3) B X0 d9_1 rfl rfl ?_
  by_cases c1 : (2 : Int32) < p10
  refine own_icmpYes (pc' := 11) B X0 d9_3 (tlt c1).1 (by decide) rfl ?_
  refine own_iconst (pc' := 12) B X0 (z := (0 : Int32)) d9_11 rfl rfl ?_
  exact own_retN B X0 (t := .boolean) (z' := (0 : Int32)) (by simp) (by decide) d9_12 (by decide) (by decide) ⟨(0 : Int32), (by rw [own_F_hit_4, if_pos c1]), rfl, rfl⟩
  refine own_icmpNo (pc' := 6) B X0 d9_3 (flt c1).1 rfl ?_
  refine own_iloadN (pc' := 7) B X0 d9_6 rfl rfl ?_
  refine own_iloadN (pc' := 8) B X0 d9_7 rfl rfl ?_
  refine own_icmpNo (pc' := 11) B X0 d9_8 (flt (by decide : ¬ ((2 : Int32) < (2 : Int32)))).1 rfl ?_
  refine own_iconst (pc' := 12) B X0 (z := (0 : Int32)) d9_11 rfl rfl ?_
  exact own_retN B X0 (t := .boolean) (z' := (0 : Int32)) (by simp) (by decide) d9_12 (by decide) (by decide) ⟨(0 : Int32), (by rw [own_F_hit_4, if_neg c1]), rfl, rfl⟩
def Q_65 (Z : State) (w0 : Addr) (kw0 : ClassId) (p2 p3 : Int32) (w4 : Addr) (kw4 : ClassId) (p6 p7 p8 p9 p10 : Int32) (h0 : Heap) (n0 : Nat) (v : Option Value) (h : Heap) : Prop :=
  (∃ (yF : Int32), own_F_hit_2 p3 p7 p8 p9 p10 = yF ∧ v = some (.int yF) ∧ h0 = h)
theorem rm_65 (l : Launch) (Z : State) (a0 : Array Value) (hw : ∀ d ∈ tables_1, d.before a0 Z = true) (ws : List Jvm.Cond) (w0 : Addr) (kw0 : ClassId) (p2 p3 : Int32) (w4 : Addr) (kw4 : ClassId) (p6 p7 p8 p9 p10 : Int32) (h0 : Heap) (n0 : Nat) (Z0 : n0 ≤ h0.size) (V_w0 : Arv Z h0 w0 kw0 .int (3 : Int32) [(.int p2), (.int p3)] (.int 0)) (g_w0 : n0 ≤ w0) (V_w4 : Arv Z h0 w4 kw4 .int (3 : Int32) [(.int p6), (.int p7)] (.int 0)) (g_w4 : n0 ≤ w4) (ne_w0_w4 : w0 ≠ w4) :
    own_M l Z (⟨"com/example/ordal/ordal/RelationFindPinLaw", "hit", "([I[IIIIII)Z"⟩ : MethodName) method_4_code 8 (some .boolean) ws ({ frames := 0, cells := 0, slots := 0, locals := 0 } : Room) #[(.ref w0), (.ref w4), (.int 2), (.int 1), (.int p8), (.int p9), (.int p10)] h0 n0 (Q_65 Z w0 kw0 p2 p3 w4 kw4 p6 p7 p8 p9 p10 h0 n0) := by
  refine own_enter' (Q := Q_65 Z w0 kw0 p2 p3 w4 kw4 p6 p7 p8 p9 p10 h0 n0) (F := fun m => mkF m 0 #[.val (.ref w0), .val (.ref w4), .val (.int 2), .val (.int 1), .val (.int p8), .val (.int p9), .val (.int p10), .unset] []) (plainFor_of_name pn_5) ?_
  intro p e s m below meth c s₁ B X0
  have K : Keep h0 h0 [] := Keep.refl h0 _
  have lt_w0 := V_w0.lt
  have lt_w4 := V_w4.lt
  refine own_iloadN (pc' := 1) B X0 d9_0 rfl rfl ?_
  refine own_iload (pc' := 3) B X0 d9_1 rfl rfl ?_
  by_cases c1 : (1 : Int32) < p10
  refine own_icmpYes (pc' := 11) B X0 d9_3 (tlt c1).1 (by decide) rfl ?_
  refine own_iconst (pc' := 12) B X0 (z := (0 : Int32)) d9_11 rfl rfl ?_
  exact own_retN B X0 (t := .boolean) (z' := (0 : Int32)) (by simp) (by decide) d9_12 (by decide) (by decide) ⟨(0 : Int32), (by rw [own_F_hit_2, if_pos c1]), rfl, rfl⟩
  refine own_icmpNo (pc' := 6) B X0 d9_3 (flt c1).1 rfl ?_
  refine own_iloadN (pc' := 7) B X0 d9_6 rfl rfl ?_
  refine own_iloadN (pc' := 8) B X0 d9_7 rfl rfl ?_
  refine own_icmpYes (pc' := 13) B X0 d9_8 (tlt (by decide : (1 : Int32) < (2 : Int32))).1 (by decide) rfl ?_
  refine own_iload (pc' := 15) B X0 d9_13 rfl rfl ?_
  by_cases c2 : p8 = (0 : Int32)
  refine own_ifNo (pc' := 18) B X0 d9_15 ((if0 _ _).trans (teq c2).2) rfl ?_
  refine own_aloadN (pc' := 19) B X0 d9_18 rfl rfl rfl ?_
  refine own_iloadN (pc' := 20) B X0 d9_19 rfl rfl ?_
  refine own_iaload (pc' := 21) B X0 V_w0 (v := (.int p3)) ⟨by decide, by decide⟩ rfl d9_20 rfl ?_
  refine own_goto (pc' := 27) B X0 d9_21 (by decide) rfl ?_
  refine own_istore (pc' := 29) B X0 (Ls' := #[.val (.ref w0), .val (.ref w4), .val (.int 2), .val (.int 1), .val (.int p8), .val (.int p9), .val (.int p10), .val (.int p3)]) d9_27 rfl rfl ?_
  refine own_iload (pc' := 31) B X0 d9_29 rfl rfl ?_
  refine own_iload (pc' := 33) B X0 d9_31 rfl rfl ?_
  by_cases c3 : p3 = p9
  refine own_icmpNo (pc' := 36) B X0 d9_33 (teq c3).2 rfl ?_
  refine own_iconst (pc' := 37) B X0 (z := (1 : Int32)) d9_36 rfl rfl ?_
  refine own_goto (pc' := 41) B X0 d9_37 (by decide) rfl ?_
  exact own_retN B X0 (t := .boolean) (z' := (1 : Int32)) (by simp) (by decide) d9_41 (by decide) (by decide) ⟨(1 : Int32), (by rw [own_F_hit_2, if_neg c1, if_pos c2, if_pos c3]), rfl, rfl⟩
  refine own_icmpYes (pc' := 40) B X0 d9_33 (feq c3).2 (by decide) rfl ?_
  refine own_iconst (pc' := 41) B X0 (z := (0 : Int32)) d9_40 rfl rfl ?_
  exact own_retN B X0 (t := .boolean) (z' := (0 : Int32)) (by simp) (by decide) d9_41 (by decide) (by decide) ⟨(0 : Int32), (by rw [own_F_hit_2, if_neg c1, if_pos c2, if_neg c3]), rfl, rfl⟩
  refine own_ifYes (pc' := 24) B X0 d9_15 ((if0 _ _).trans (feq c2).2) (by decide) rfl ?_
  refine own_aloadN (pc' := 25) B X0 d9_24 rfl rfl rfl ?_
  refine own_iloadN (pc' := 26) B X0 d9_25 rfl rfl ?_
  refine own_iaload (pc' := 27) B X0 V_w4 (v := (.int p7)) ⟨by decide, by decide⟩ rfl d9_26 rfl ?_
  refine own_istore (pc' := 29) B X0 (Ls' := #[.val (.ref w0), .val (.ref w4), .val (.int 2), .val (.int 1), .val (.int p8), .val (.int p9), .val (.int p10), .val (.int p7)]) d9_27 rfl rfl ?_
  refine own_iload (pc' := 31) B X0 d9_29 rfl rfl ?_
  refine own_iload (pc' := 33) B X0 d9_31 rfl rfl ?_
  by_cases c4 : p7 = p9
  refine own_icmpNo (pc' := 36) B X0 d9_33 (teq c4).2 rfl ?_
  refine own_iconst (pc' := 37) B X0 (z := (1 : Int32)) d9_36 rfl rfl ?_
  refine own_goto (pc' := 41) B X0 d9_37 (by decide) rfl ?_
  exact own_retN B X0 (t := .boolean) (z' := (1 : Int32)) (by simp) (by decide) d9_41 (by decide) (by decide) ⟨(1 : Int32), (by rw [own_F_hit_2, if_neg c1, if_neg c2, if_pos c4]), rfl, rfl⟩
  refine own_icmpYes (pc' := 40) B X0 d9_33 (feq c4).2 (by decide) rfl ?_
  refine own_iconst (pc' := 41) B X0 (z := (0 : Int32)) d9_40 rfl rfl ?_
  exact own_retN B X0 (t := .boolean) (z' := (0 : Int32)) (by simp) (by decide) d9_41 (by decide) (by decide) ⟨(0 : Int32), (by rw [own_F_hit_2, if_neg c1, if_neg c2, if_neg c4]), rfl, rfl⟩
def Q_66 (Z : State) (w0 : Addr) (kw0 : ClassId) (p2 p3 : Int32) (w4 : Addr) (kw4 : ClassId) (p6 p7 p8 p9 p10 : Int32) (h0 : Heap) (n0 : Nat) (v : Option Value) (h : Heap) : Prop :=
  (∃ (yF : Int32), own_F_hit_3 p2 p6 p8 p9 p10 = yF ∧ v = some (.int yF) ∧ h0 = h)
theorem rm_66 (l : Launch) (Z : State) (a0 : Array Value) (hw : ∀ d ∈ tables_1, d.before a0 Z = true) (ws : List Jvm.Cond) (w0 : Addr) (kw0 : ClassId) (p2 p3 : Int32) (w4 : Addr) (kw4 : ClassId) (p6 p7 p8 p9 p10 : Int32) (h0 : Heap) (n0 : Nat) (Z0 : n0 ≤ h0.size) (V_w0 : Arv Z h0 w0 kw0 .int (3 : Int32) [(.int p2), (.int p3)] (.int 0)) (g_w0 : n0 ≤ w0) (V_w4 : Arv Z h0 w4 kw4 .int (3 : Int32) [(.int p6), (.int p7)] (.int 0)) (g_w4 : n0 ≤ w4) (ne_w0_w4 : w0 ≠ w4) :
    own_M l Z (⟨"com/example/ordal/ordal/RelationFindPinLaw", "hit", "([I[IIIIII)Z"⟩ : MethodName) method_4_code 8 (some .boolean) ws ({ frames := 0, cells := 0, slots := 0, locals := 0 } : Room) #[(.ref w0), (.ref w4), (.int 2), (.int 0), (.int p8), (.int p9), (.int p10)] h0 n0 (Q_66 Z w0 kw0 p2 p3 w4 kw4 p6 p7 p8 p9 p10 h0 n0) := by
  refine own_enter' (Q := Q_66 Z w0 kw0 p2 p3 w4 kw4 p6 p7 p8 p9 p10 h0 n0) (F := fun m => mkF m 0 #[.val (.ref w0), .val (.ref w4), .val (.int 2), .val (.int 0), .val (.int p8), .val (.int p9), .val (.int p10), .unset] []) (plainFor_of_name pn_5) ?_
  intro p e s m below meth c s₁ B X0
  have K : Keep h0 h0 [] := Keep.refl h0 _
  have lt_w0 := V_w0.lt
  have lt_w4 := V_w4.lt
  refine own_iloadN (pc' := 1) B X0 d9_0 rfl rfl ?_
  refine own_iload (pc' := 3) B X0 d9_1 rfl rfl ?_
  by_cases c1 : (0 : Int32) < p10
  refine own_icmpYes (pc' := 11) B X0 d9_3 (tlt c1).1 (by decide) rfl ?_
  refine own_iconst (pc' := 12) B X0 (z := (0 : Int32)) d9_11 rfl rfl ?_
  exact own_retN B X0 (t := .boolean) (z' := (0 : Int32)) (by simp) (by decide) d9_12 (by decide) (by decide) ⟨(0 : Int32), (by rw [own_F_hit_3, if_pos c1]), rfl, rfl⟩
  refine own_icmpNo (pc' := 6) B X0 d9_3 (flt c1).1 rfl ?_
  refine own_iloadN (pc' := 7) B X0 d9_6 rfl rfl ?_
  refine own_iloadN (pc' := 8) B X0 d9_7 rfl rfl ?_
  refine own_icmpYes (pc' := 13) B X0 d9_8 (tlt (by decide : (0 : Int32) < (2 : Int32))).1 (by decide) rfl ?_
  refine own_iload (pc' := 15) B X0 d9_13 rfl rfl ?_
  by_cases c2 : p8 = (0 : Int32)
  refine own_ifNo (pc' := 18) B X0 d9_15 ((if0 _ _).trans (teq c2).2) rfl ?_
  refine own_aloadN (pc' := 19) B X0 d9_18 rfl rfl rfl ?_
  refine own_iloadN (pc' := 20) B X0 d9_19 rfl rfl ?_
  refine own_iaload (pc' := 21) B X0 V_w0 (v := (.int p2)) ⟨by decide, by decide⟩ rfl d9_20 rfl ?_
  refine own_goto (pc' := 27) B X0 d9_21 (by decide) rfl ?_
  refine own_istore (pc' := 29) B X0 (Ls' := #[.val (.ref w0), .val (.ref w4), .val (.int 2), .val (.int 0), .val (.int p8), .val (.int p9), .val (.int p10), .val (.int p2)]) d9_27 rfl rfl ?_
  refine own_iload (pc' := 31) B X0 d9_29 rfl rfl ?_
  refine own_iload (pc' := 33) B X0 d9_31 rfl rfl ?_
  by_cases c3 : p2 = p9
  refine own_icmpNo (pc' := 36) B X0 d9_33 (teq c3).2 rfl ?_
  refine own_iconst (pc' := 37) B X0 (z := (1 : Int32)) d9_36 rfl rfl ?_
  refine own_goto (pc' := 41) B X0 d9_37 (by decide) rfl ?_
  exact own_retN B X0 (t := .boolean) (z' := (1 : Int32)) (by simp) (by decide) d9_41 (by decide) (by decide) ⟨(1 : Int32), (by rw [own_F_hit_3, if_neg c1, if_pos c2, if_pos c3]), rfl, rfl⟩
  refine own_icmpYes (pc' := 40) B X0 d9_33 (feq c3).2 (by decide) rfl ?_
  refine own_iconst (pc' := 41) B X0 (z := (0 : Int32)) d9_40 rfl rfl ?_
  exact own_retN B X0 (t := .boolean) (z' := (0 : Int32)) (by simp) (by decide) d9_41 (by decide) (by decide) ⟨(0 : Int32), (by rw [own_F_hit_3, if_neg c1, if_pos c2, if_neg c3]), rfl, rfl⟩
  refine own_ifYes (pc' := 24) B X0 d9_15 ((if0 _ _).trans (feq c2).2) (by decide) rfl ?_
  refine own_aloadN (pc' := 25) B X0 d9_24 rfl rfl rfl ?_
  refine own_iloadN (pc' := 26) B X0 d9_25 rfl rfl ?_
  refine own_iaload (pc' := 27) B X0 V_w4 (v := (.int p6)) ⟨by decide, by decide⟩ rfl d9_26 rfl ?_
  refine own_istore (pc' := 29) B X0 (Ls' := #[.val (.ref w0), .val (.ref w4), .val (.int 2), .val (.int 0), .val (.int p8), .val (.int p9), .val (.int p10), .val (.int p6)]) d9_27 rfl rfl ?_
  refine own_iload (pc' := 31) B X0 d9_29 rfl rfl ?_
  refine own_iload (pc' := 33) B X0 d9_31 rfl rfl ?_
  by_cases c4 : p6 = p9
  refine own_icmpNo (pc' := 36) B X0 d9_33 (teq c4).2 rfl ?_
  refine own_iconst (pc' := 37) B X0 (z := (1 : Int32)) d9_36 rfl rfl ?_
  refine own_goto (pc' := 41) B X0 d9_37 (by decide) rfl ?_
  exact own_retN B X0 (t := .boolean) (z' := (1 : Int32)) (by simp) (by decide) d9_41 (by decide) (by decide) ⟨(1 : Int32), (by rw [own_F_hit_3, if_neg c1, if_neg c2, if_pos c4]), rfl, rfl⟩
  refine own_icmpYes (pc' := 40) B X0 d9_33 (feq c4).2 (by decide) rfl ?_
  refine own_iconst (pc' := 41) B X0 (z := (0 : Int32)) d9_40 rfl rfl ?_
  exact own_retN B X0 (t := .boolean) (z' := (0 : Int32)) (by simp) (by decide) d9_41 (by decide) (by decide) ⟨(0 : Int32), (by rw [own_F_hit_3, if_neg c1, if_neg c2, if_neg c4]), rfl, rfl⟩
theorem tl_1 (l : Launch) (Z : State) (a0 : Array Value) (hw : ∀ d ∈ tables_1, d.before a0 Z = true) (i0 i1 i2 i3 : Int32) (p0 p1 p2 p3 p4 p5 p6 p7 p8 p9 p10 p11 p12 p13 : Int32) (w14 w15 : Addr) (kw15 : ClassId) (w17 : Addr) (kw17 : ClassId) (w19 : Addr) (kw19 : ClassId) (p21 p22 : Int32) (h0 h : Heap) (n0 : Nat) (Z0 : n0 ≤ h0.size) (E_w14 : Exa Z h w14 oC2) (F_w14_arity : Fld Z h w14 oC2 "arity" "I" (.int 2)) (F_w14_rows : Fld Z h w14 oC2 "rows" "[I" (.ref w15)) (F_w14_size : Fld Z h w14 oC2 "size" "I" (.int 2)) (g_w14 : n0 ≤ w14) (V_w15 : Arv Z h w15 kw15 .int (16 : Int32) [(.int p8), (.int p9), (.int p10), (.int p11)] (.int 0)) (g_w15 : n0 ≤ w15) (V_w17 : Arv Z h w17 kw17 .int (3 : Int32) [(.int p8), (.int p10)] (.int 0)) (g_w17 : n0 ≤ w17) (V_w19 : Arv Z h w19 kw19 .int (3 : Int32) [(.int p9), (.int p11)] (.int 0)) (g_w19 : n0 ≤ w19) (ne_w14_w15 : w14 ≠ w15) (ne_w14_w17 : w14 ≠ w17) (ne_w14_w19 : w14 ≠ w19) (ne_w15_w17 : w15 ≠ w17) (ne_w15_w19 : w15 ≠ w19) (ne_w17_w19 : w17 ≠ w19) (hp0 : p2 &&& (1 : Int32) = p4) (hp1 : p21 &&& (7 : Int32) = p6) (hp2 : p22 &&& (3 : Int32) = p7) {p : Program} {e : Env} {s : State} {m : MethodId} {args : Array Value} {below : List Frame} {meth : Method} {c : Code} {T0 : State} (K : Keep h0 h []) (B : own_B p s m meth c Z x.cls x.name code maxLocals ret) (X0 : own_S p l e room_1 s m args below meth c n0 T0 h 40 256) :
    own_Go p e below (T0.setTop (mkF m 298 #[.val (.int p0), .val (.int p1), .val (.int p2), .val (.int p3), .val (.int p4), .val (.int p5), .val (.int p6), .val (.int p7), .val (.int p8), .val (.int p9), .val (.int p10), .val (.int p11), .val (.int p12), .val (.int p13), .val (.ref w14), .val (.ref w17), .val (.ref w19), .val (.int 2), .unset, .unset] [])) (own_P s below n0 (Q_0 Z i0 i1 i2 i3 h0 n0) room_1.cells room_1.slots) := by
  refine own_aload (pc' := 300) B X0 at_298 rfl rfl rfl ?_
  refine own_iload (pc' := 302) B X0 at_300 rfl rfl ?_
  refine own_iload (pc' := 304) B X0 at_302 rfl rfl ?_
  refine own_iload (pc' := 306) B X0 at_304 rfl rfl ?_
  refine own_callV (pc' := 309) B X0 (own_w hw 67 rfl) (own_w hw 68 rfl) (own_w hw 70 rfl) (own_w hw 69 rfl) (own_w hw 2 rfl) (own_w hw 71 rfl) E_w14 (by decide) [(.int p4), (.int p5), (.int p6)] [] (rm_63 l Z a0 hw [] w14 w15 kw15 (p8) (p9) (p10) (p11) (p4) (p5) (p6) (p2) (p21) h n0 (Nat.le_trans Z0 K.1) E_w14 F_w14_arity F_w14_rows F_w14_size g_w14 V_w15 g_w15 ne_w14_w15 hp0 hp1) 0 (by decide) (by decide) rfl pd_18 rfl rfl (Nat.le_of_eq rfl) at_306 rfl (k' := 40) (n' := 256) rfl rfl (by decide) (by decide) ?_
  intro T1 v1 h1 X1 q1
  obtain ⟨y2, hy3, rfl, rfl⟩ := q1
  show own_Go p e below (T1.setTop (mkF m 309 #[.val (.int p0), .val (.int p1), .val (.int p2), .val (.int p3), .val (.int p4), .val (.int p5), .val (.int p6), .val (.int p7), .val (.int p8), .val (.int p9), .val (.int p10), .val (.int p11), .val (.int p12), .val (.int p13), .val (.ref w14), .val (.ref w17), .val (.ref w19), .val (.int 2), .unset, .unset] [(.int y2)])) _
  refine own_istore (pc' := 311) B X1 (Ls' := #[.val (.int p0), .val (.int p1), .val (.int p2), .val (.int p3), .val (.int p4), .val (.int p5), .val (.int p6), .val (.int p7), .val (.int p8), .val (.int p9), .val (.int p10), .val (.int p11), .val (.int p12), .val (.int p13), .val (.ref w14), .val (.ref w17), .val (.ref w19), .val (.int 2), .val (.int y2), .unset]) at_309 rfl rfl ?_
  refine own_iconst (pc' := 312) B X1 (z := (-1 : Int32)) at_311 rfl rfl ?_
  refine own_istore (pc' := 314) B X1 (Ls' := #[.val (.int p0), .val (.int p1), .val (.int p2), .val (.int p3), .val (.int p4), .val (.int p5), .val (.int p6), .val (.int p7), .val (.int p8), .val (.int p9), .val (.int p10), .val (.int p11), .val (.int p12), .val (.int p13), .val (.ref w14), .val (.ref w17), .val (.ref w19), .val (.int 2), .val (.int y2), .val (.int (-1))]) at_312 rfl rfl ?_
  refine own_aload (pc' := 316) B X1 at_314 rfl rfl rfl ?_
  refine own_aload (pc' := 318) B X1 at_316 rfl rfl rfl ?_
  refine own_iload (pc' := 320) B X1 at_318 rfl rfl ?_
  refine own_iconst (pc' := 321) B X1 (z := (2 : Int32)) at_320 rfl rfl ?_
  refine own_iload (pc' := 323) B X1 at_321 rfl rfl ?_
  refine own_iload (pc' := 325) B X1 at_323 rfl rfl ?_
  refine own_iload (pc' := 327) B X1 at_325 rfl rfl ?_
  refine own_callS (pc' := 330) B X1 (own_w hw 74 rfl) (own_w hw 75 rfl) (own_w hw 76 rfl) (own_w hw 77 rfl) (by decide) [(.ref w17), (.ref w19), (.int 2), (.int 2), (.int p4), (.int p5), (.int p6)] [] (rm_64 l Z a0 hw [] w17 kw17 (p8) (p10) w19 kw19 (p9) (p11) (p4) (p5) (p6) h n0 (Nat.le_trans Z0 K.1) V_w17 g_w17 V_w19 g_w19 ne_w17_w19) 0 (by decide) (by decide) rfl pd_19 rfl rfl (Nat.le_of_eq rfl) at_327 rfl (k' := 40) (n' := 256) rfl rfl (by decide) (by decide) ?_
  intro T4 v4 h4 X4 q4
  obtain ⟨y5, hy6, rfl, rfl⟩ := q4
  show own_Go p e below (T4.setTop (mkF m 330 #[.val (.int p0), .val (.int p1), .val (.int p2), .val (.int p3), .val (.int p4), .val (.int p5), .val (.int p6), .val (.int p7), .val (.int p8), .val (.int p9), .val (.int p10), .val (.int p11), .val (.int p12), .val (.int p13), .val (.ref w14), .val (.ref w17), .val (.ref w19), .val (.int 2), .val (.int y2), .val (.int (-1))] [(.int y5)])) _
  have c7 : y5 = (0 : Int32) := by
    exact own_hit0_4 hy6
  refine own_ifYes (pc' := 336) B X4 at_330 ((if0 _ _).trans (teq c7).1) (by decide) rfl ?_
  refine own_aload (pc' := 338) B X4 at_336 rfl rfl rfl ?_
  refine own_aload (pc' := 340) B X4 at_338 rfl rfl rfl ?_
  refine own_iload (pc' := 342) B X4 at_340 rfl rfl ?_
  refine own_iconst (pc' := 343) B X4 (z := (1 : Int32)) at_342 rfl rfl ?_
  refine own_iload (pc' := 345) B X4 at_343 rfl rfl ?_
  refine own_iload (pc' := 347) B X4 at_345 rfl rfl ?_
  refine own_iload (pc' := 349) B X4 at_347 rfl rfl ?_
  refine own_callS (pc' := 352) B X4 (own_w hw 74 rfl) (own_w hw 75 rfl) (own_w hw 76 rfl) (own_w hw 77 rfl) (by decide) [(.ref w17), (.ref w19), (.int 2), (.int 1), (.int p4), (.int p5), (.int p6)] [] (rm_65 l Z a0 hw [] w17 kw17 (p8) (p10) w19 kw19 (p9) (p11) (p4) (p5) (p6) h n0 (Nat.le_trans Z0 K.1) V_w17 g_w17 V_w19 g_w19 ne_w17_w19) 0 (by decide) (by decide) rfl pd_19 rfl rfl (Nat.le_of_eq rfl) at_349 rfl (k' := 40) (n' := 256) rfl rfl (by decide) (by decide) ?_
  intro T8 v8 h8 X8 q8
  obtain ⟨y9, hy10, rfl, rfl⟩ := q8
  show own_Go p e below (T8.setTop (mkF m 352 #[.val (.int p0), .val (.int p1), .val (.int p2), .val (.int p3), .val (.int p4), .val (.int p5), .val (.int p6), .val (.int p7), .val (.int p8), .val (.int p9), .val (.int p10), .val (.int p11), .val (.int p12), .val (.int p13), .val (.ref w14), .val (.ref w17), .val (.ref w19), .val (.int 2), .val (.int y2), .val (.int (-1))] [(.int y9)])) _
  by_cases c11 : y9 = (0 : Int32)
  refine own_ifYes (pc' := 358) B X8 at_352 ((if0 _ _).trans (teq c11).1) (by decide) rfl ?_
  refine own_aload (pc' := 360) B X8 at_358 rfl rfl rfl ?_
  refine own_aload (pc' := 362) B X8 at_360 rfl rfl rfl ?_
  refine own_iload (pc' := 364) B X8 at_362 rfl rfl ?_
  refine own_iconst (pc' := 365) B X8 (z := (0 : Int32)) at_364 rfl rfl ?_
  refine own_iload (pc' := 367) B X8 at_365 rfl rfl ?_
  refine own_iload (pc' := 369) B X8 at_367 rfl rfl ?_
  refine own_iload (pc' := 371) B X8 at_369 rfl rfl ?_
  refine own_callS (pc' := 374) B X8 (own_w hw 74 rfl) (own_w hw 75 rfl) (own_w hw 76 rfl) (own_w hw 77 rfl) (by decide) [(.ref w17), (.ref w19), (.int 2), (.int 0), (.int p4), (.int p5), (.int p6)] [] (rm_66 l Z a0 hw [] w17 kw17 (p8) (p10) w19 kw19 (p9) (p11) (p4) (p5) (p6) h n0 (Nat.le_trans Z0 K.1) V_w17 g_w17 V_w19 g_w19 ne_w17_w19) 0 (by decide) (by decide) rfl pd_19 rfl rfl (Nat.le_of_eq rfl) at_371 rfl (k' := 40) (n' := 256) rfl rfl (by decide) (by decide) ?_
  intro T12 v12 h12 X12 q12
  obtain ⟨y13, hy14, rfl, rfl⟩ := q12
  show own_Go p e below (T12.setTop (mkF m 374 #[.val (.int p0), .val (.int p1), .val (.int p2), .val (.int p3), .val (.int p4), .val (.int p5), .val (.int p6), .val (.int p7), .val (.int p8), .val (.int p9), .val (.int p10), .val (.int p11), .val (.int p12), .val (.int p13), .val (.ref w14), .val (.ref w17), .val (.ref w19), .val (.int 2), .val (.int y2), .val (.int (-1))] [(.int y13)])) _
  by_cases c15 : y13 = (0 : Int32)
  refine own_ifYes (pc' := 380) B X12 at_374 ((if0 _ _).trans (teq c15).1) (by decide) rfl ?_
  refine own_iload (pc' := 382) B X12 at_380 rfl rfl ?_
  refine own_ifNo (pc' := 385) B X12 at_382 ((if0 _ _).trans (tlt (by decide : (-1 : Int32) < (0 : Int32))).2.1) rfl ?_
  refine own_iload (pc' := 387) B X12 at_385 rfl rfl ?_
  have c16 : y2 < (0 : Int32) := by
    have u := (own_tail2 p8 p9 p10 p11 p4 p5 p6 (own_bit hp0) (own_oct hp1)).symm.trans hy3
    rw [hy14, if_pos c15] at u
    rw [hy10, if_pos c11] at u
    rw [← u]; decide
  refine own_ifNo (pc' := 390) B X12 at_387 ((if0 _ _).trans (tlt c16).2.1) rfl ?_
  refine own_iconst (pc' := 391) B X12 (z := (1 : Int32)) at_390 rfl rfl ?_
  refine own_goto (pc' := 410) B X12 at_391 (by decide) rfl ?_
  exact own_retN B X12 (t := .boolean) (z' := (1 : Int32)) (by simp) (by decide) at_410 (by decide) (by decide) rfl
  refine own_ifNo (pc' := 377) B X12 at_374 ((if0 _ _).trans (feq c15).1) rfl ?_
  refine own_iconst (pc' := 378) B X12 (z := (0 : Int32)) at_377 rfl rfl ?_
  refine own_istore (pc' := 380) B X12 (Ls' := #[.val (.int p0), .val (.int p1), .val (.int p2), .val (.int p3), .val (.int p4), .val (.int p5), .val (.int p6), .val (.int p7), .val (.int p8), .val (.int p9), .val (.int p10), .val (.int p11), .val (.int p12), .val (.int p13), .val (.ref w14), .val (.ref w17), .val (.ref w19), .val (.int 2), .val (.int y2), .val (.int 0)]) at_378 rfl rfl ?_
  refine own_iload (pc' := 382) B X12 at_380 rfl rfl ?_
  refine own_ifYes (pc' := 398) B X12 at_382 ((if0 _ _).trans (flt (by decide : ¬ ((0 : Int32) < (0 : Int32)))).2.1) (by decide) rfl ?_
  refine own_iload (pc' := 400) B X12 at_398 rfl rfl ?_
  refine own_iload (pc' := 402) B X12 at_400 rfl rfl ?_
  have c17 : y2 = (0 : Int32) := by
    have u := (own_tail2 p8 p9 p10 p11 p4 p5 p6 (own_bit hp0) (own_oct hp1)).symm.trans hy3
    rw [hy14, if_neg c15] at u
    exact u.symm
  refine own_icmpNo (pc' := 405) B X12 at_402 (teq c17).2 rfl ?_
  refine own_iconst (pc' := 406) B X12 (z := (1 : Int32)) at_405 rfl rfl ?_
  refine own_goto (pc' := 410) B X12 at_406 (by decide) rfl ?_
  exact own_retN B X12 (t := .boolean) (z' := (1 : Int32)) (by simp) (by decide) at_410 (by decide) (by decide) rfl
  refine own_ifNo (pc' := 355) B X8 at_352 ((if0 _ _).trans (feq c11).1) rfl ?_
  refine own_iconst (pc' := 356) B X8 (z := (1 : Int32)) at_355 rfl rfl ?_
  refine own_istore (pc' := 358) B X8 (Ls' := #[.val (.int p0), .val (.int p1), .val (.int p2), .val (.int p3), .val (.int p4), .val (.int p5), .val (.int p6), .val (.int p7), .val (.int p8), .val (.int p9), .val (.int p10), .val (.int p11), .val (.int p12), .val (.int p13), .val (.ref w14), .val (.ref w17), .val (.ref w19), .val (.int 2), .val (.int y2), .val (.int 1)]) at_356 rfl rfl ?_
  refine own_aload (pc' := 360) B X8 at_358 rfl rfl rfl ?_
  refine own_aload (pc' := 362) B X8 at_360 rfl rfl rfl ?_
  refine own_iload (pc' := 364) B X8 at_362 rfl rfl ?_
  refine own_iconst (pc' := 365) B X8 (z := (0 : Int32)) at_364 rfl rfl ?_
  refine own_iload (pc' := 367) B X8 at_365 rfl rfl ?_
  refine own_iload (pc' := 369) B X8 at_367 rfl rfl ?_
  refine own_iload (pc' := 371) B X8 at_369 rfl rfl ?_
  refine own_callS (pc' := 374) B X8 (own_w hw 74 rfl) (own_w hw 75 rfl) (own_w hw 76 rfl) (own_w hw 77 rfl) (by decide) [(.ref w17), (.ref w19), (.int 2), (.int 0), (.int p4), (.int p5), (.int p6)] [] (rm_66 l Z a0 hw [] w17 kw17 (p8) (p10) w19 kw19 (p9) (p11) (p4) (p5) (p6) h n0 (Nat.le_trans Z0 K.1) V_w17 g_w17 V_w19 g_w19 ne_w17_w19) 0 (by decide) (by decide) rfl pd_19 rfl rfl (Nat.le_of_eq rfl) at_371 rfl (k' := 40) (n' := 256) rfl rfl (by decide) (by decide) ?_
  intro T18 v18 h18 X18 q18
  obtain ⟨y19, hy20, rfl, rfl⟩ := q18
  show own_Go p e below (T18.setTop (mkF m 374 #[.val (.int p0), .val (.int p1), .val (.int p2), .val (.int p3), .val (.int p4), .val (.int p5), .val (.int p6), .val (.int p7), .val (.int p8), .val (.int p9), .val (.int p10), .val (.int p11), .val (.int p12), .val (.int p13), .val (.ref w14), .val (.ref w17), .val (.ref w19), .val (.int 2), .val (.int y2), .val (.int 1)] [(.int y19)])) _
  by_cases c21 : y19 = (0 : Int32)
  refine own_ifYes (pc' := 380) B X18 at_374 ((if0 _ _).trans (teq c21).1) (by decide) rfl ?_
  refine own_iload (pc' := 382) B X18 at_380 rfl rfl ?_
  refine own_ifYes (pc' := 398) B X18 at_382 ((if0 _ _).trans (flt (by decide : ¬ ((1 : Int32) < (0 : Int32)))).2.1) (by decide) rfl ?_
  refine own_iload (pc' := 400) B X18 at_398 rfl rfl ?_
  refine own_iload (pc' := 402) B X18 at_400 rfl rfl ?_
  have c22 : y2 = (1 : Int32) := by
    have u := (own_tail2 p8 p9 p10 p11 p4 p5 p6 (own_bit hp0) (own_oct hp1)).symm.trans hy3
    rw [hy20, if_pos c21] at u
    rw [hy10, if_neg c11] at u
    exact u.symm
  refine own_icmpNo (pc' := 405) B X18 at_402 (teq c22).2 rfl ?_
  refine own_iconst (pc' := 406) B X18 (z := (1 : Int32)) at_405 rfl rfl ?_
  refine own_goto (pc' := 410) B X18 at_406 (by decide) rfl ?_
  exact own_retN B X18 (t := .boolean) (z' := (1 : Int32)) (by simp) (by decide) at_410 (by decide) (by decide) rfl
  refine own_ifNo (pc' := 377) B X18 at_374 ((if0 _ _).trans (feq c21).1) rfl ?_
  refine own_iconst (pc' := 378) B X18 (z := (0 : Int32)) at_377 rfl rfl ?_
  refine own_istore (pc' := 380) B X18 (Ls' := #[.val (.int p0), .val (.int p1), .val (.int p2), .val (.int p3), .val (.int p4), .val (.int p5), .val (.int p6), .val (.int p7), .val (.int p8), .val (.int p9), .val (.int p10), .val (.int p11), .val (.int p12), .val (.int p13), .val (.ref w14), .val (.ref w17), .val (.ref w19), .val (.int 2), .val (.int y2), .val (.int 0)]) at_378 rfl rfl ?_
  refine own_iload (pc' := 382) B X18 at_380 rfl rfl ?_
  refine own_ifYes (pc' := 398) B X18 at_382 ((if0 _ _).trans (flt (by decide : ¬ ((0 : Int32) < (0 : Int32)))).2.1) (by decide) rfl ?_
  refine own_iload (pc' := 400) B X18 at_398 rfl rfl ?_
  refine own_iload (pc' := 402) B X18 at_400 rfl rfl ?_
  have c23 : y2 = (0 : Int32) := by
    have u := (own_tail2 p8 p9 p10 p11 p4 p5 p6 (own_bit hp0) (own_oct hp1)).symm.trans hy3
    rw [hy20, if_neg c21] at u
    exact u.symm
  refine own_icmpNo (pc' := 405) B X18 at_402 (teq c23).2 rfl ?_
  refine own_iconst (pc' := 406) B X18 (z := (1 : Int32)) at_405 rfl rfl ?_
  refine own_goto (pc' := 410) B X18 at_406 (by decide) rfl ?_
  exact own_retN B X18 (t := .boolean) (z' := (1 : Int32)) (by simp) (by decide) at_410 (by decide) (by decide) rfl
theorem ax_50 {F N : Int32 → Int32} {H : Int32 → Int32 → Int32} (nn : ∀ x, ¬ N x = x) {a0 a1 a2 a3 a4 a5 : Int32} (e0 : own_F_look1 a1 a2 a3 a4 = a0) (e1 : ¬ (a0 = (-1 : Int32))) (e2 : own_F_holds a1 a2 a3 a4 = a5) : ¬ (a5 = (0 : Int32)) := by grind [own_F_look1, own_F_look2, own_G_put2, own_F_holds]
theorem ax_51 {F N : Int32 → Int32} {H : Int32 → Int32 → Int32} (nn : ∀ x, ¬ N x = x) {a0 a1 a2 a3 a4 a5 a6 a7 a8 a9 : Int32} (e0 : own_F_look1 a1 a2 a3 a4 = a0) (e1 : ¬ (a0 = (-1 : Int32))) (e2 : own_F_holds a1 a2 a3 a4 = a5) (e3 : ¬ (a5 = (0 : Int32))) (e4 : own_F_look1 a1 a2 a7 a8 = a6) (e5 : a6 = (-1 : Int32)) (e6 : own_F_holds a1 a2 a7 a8 = a9) : a9 = (0 : Int32) := by grind [own_F_look1, own_F_look2, own_G_put2, own_F_holds]
def Q_67 (Z : State) (w0 : Addr) (kw0 : ClassId) (p2 : Int32) (w3 : Addr) (kw3 : ClassId) (p5 p6 p7 : Int32) (h0 : Heap) (n0 : Nat) (v : Option Value) (h : Heap) : Prop :=
  (v = some (.int 0) ∧ h0 = h)
theorem rm_67 (l : Launch) (Z : State) (a0 : Array Value) (hw : ∀ d ∈ tables_1, d.before a0 Z = true) (ws : List Jvm.Cond) (w0 : Addr) (kw0 : ClassId) (p2 : Int32) (w3 : Addr) (kw3 : ClassId) (p5 p6 p7 : Int32) (h0 : Heap) (n0 : Nat) (Z0 : n0 ≤ h0.size) (V_w0 : Arv Z h0 w0 kw0 .int (3 : Int32) [(.int p2)] (.int 0)) (g_w0 : n0 ≤ w0) (V_w3 : Arv Z h0 w3 kw3 .int (3 : Int32) [(.int p5)] (.int 0)) (g_w3 : n0 ≤ w3) (ne_w0_w3 : w0 ≠ w3) :
    own_M l Z (⟨"com/example/ordal/ordal/RelationFindPinLaw", "same", "([I[IIIII)Z"⟩ : MethodName) method_3_code 6 (some .boolean) ws ({ frames := 0, cells := 0, slots := 0, locals := 0 } : Room) #[(.ref w0), (.ref w3), (.int 1), (.int 1), (.int p6), (.int p7)] h0 n0 (Q_67 Z w0 kw0 p2 w3 kw3 p5 p6 p7 h0 n0) := by
  refine own_enter' (Q := Q_67 Z w0 kw0 p2 w3 kw3 p5 p6 p7 h0 n0) (F := fun m => mkF m 0 #[.val (.ref w0), .val (.ref w3), .val (.int 1), .val (.int 1), .val (.int p6), .val (.int p7)] []) (plainFor_of_name pn_5) ?_
  intro p e s m below meth c s₁ B X0
  have K : Keep h0 h0 [] := Keep.refl h0 _
  have lt_w0 := V_w0.lt
  have lt_w3 := V_w3.lt
  refine own_iloadN (pc' := 1) B X0 d24_0 rfl rfl ?_
  refine own_iloadN (pc' := 2) B X0 d24_1 rfl rfl ?_
  refine own_icmpYes (pc' := 25) B X0 d24_2 (flt (by decide : ¬ ((1 : Int32) < (1 : Int32)))).2.1 (by decide) rfl ?_
  refine own_iconst (pc' := 26) B X0 (z := (0 : Int32)) d24_25 rfl rfl ?_
  exact own_retN B X0 (t := .boolean) (z' := (0 : Int32)) (by simp) (by decide) d24_26 (by decide) (by decide) (⟨rfl, rfl⟩)
theorem tl_2 (l : Launch) (Z : State) (a0 : Array Value) (hw : ∀ d ∈ tables_1, d.before a0 Z = true) (i0 i1 i2 i3 : Int32) (p0 p1 p2 p3 p4 p5 p6 p7 p8 p9 p10 p11 p12 p13 : Int32) (w14 w15 : Addr) (kw15 : ClassId) (w17 : Addr) (kw17 : ClassId) (w19 : Addr) (kw19 : ClassId) (p21 p22 : Int32) (h0 h : Heap) (n0 : Nat) (Z0 : n0 ≤ h0.size) (E_w14 : Exa Z h w14 oC2) (F_w14_arity : Fld Z h w14 oC2 "arity" "I" (.int 2)) (F_w14_rows : Fld Z h w14 oC2 "rows" "[I" (.ref w15)) (F_w14_size : Fld Z h w14 oC2 "size" "I" (.int 2)) (g_w14 : n0 ≤ w14) (V_w15 : Arv Z h w15 kw15 .int (16 : Int32) [(.int p8), (.int p9), (.int p12), (.int p13)] (.int 0)) (g_w15 : n0 ≤ w15) (V_w17 : Arv Z h w17 kw17 .int (3 : Int32) [(.int p8), (.int p12)] (.int 0)) (g_w17 : n0 ≤ w17) (V_w19 : Arv Z h w19 kw19 .int (3 : Int32) [(.int p9), (.int p13)] (.int 0)) (g_w19 : n0 ≤ w19) (ne_w14_w15 : w14 ≠ w15) (ne_w14_w17 : w14 ≠ w17) (ne_w14_w19 : w14 ≠ w19) (ne_w15_w17 : w15 ≠ w17) (ne_w15_w19 : w15 ≠ w19) (ne_w17_w19 : w17 ≠ w19) (hp0 : p2 &&& (1 : Int32) = p4) (hp1 : p21 &&& (7 : Int32) = p6) (hp2 : p22 &&& (3 : Int32) = p7) {p : Program} {e : Env} {s : State} {m : MethodId} {args : Array Value} {below : List Frame} {meth : Method} {c : Code} {T0 : State} (K : Keep h0 h []) (B : own_B p s m meth c Z x.cls x.name code maxLocals ret) (X0 : own_S p l e room_1 s m args below meth c n0 T0 h 40 256) :
    own_Go p e below (T0.setTop (mkF m 298 #[.val (.int p0), .val (.int p1), .val (.int p2), .val (.int p3), .val (.int p4), .val (.int p5), .val (.int p6), .val (.int p7), .val (.int p8), .val (.int p9), .val (.int p10), .val (.int p11), .val (.int p12), .val (.int p13), .val (.ref w14), .val (.ref w17), .val (.ref w19), .val (.int 2), .unset, .unset] [])) (own_P s below n0 (Q_0 Z i0 i1 i2 i3 h0 n0) room_1.cells room_1.slots) := by
  refine own_aload (pc' := 300) B X0 at_298 rfl rfl rfl ?_
  refine own_iload (pc' := 302) B X0 at_300 rfl rfl ?_
  refine own_iload (pc' := 304) B X0 at_302 rfl rfl ?_
  refine own_iload (pc' := 306) B X0 at_304 rfl rfl ?_
  refine own_callV (pc' := 309) B X0 (own_w hw 67 rfl) (own_w hw 68 rfl) (own_w hw 70 rfl) (own_w hw 69 rfl) (own_w hw 2 rfl) (own_w hw 71 rfl) E_w14 (by decide) [(.int p4), (.int p5), (.int p6)] [] (rm_63 l Z a0 hw [] w14 w15 kw15 (p8) (p9) (p12) (p13) (p4) (p5) (p6) (p2) (p21) h n0 (Nat.le_trans Z0 K.1) E_w14 F_w14_arity F_w14_rows F_w14_size g_w14 V_w15 g_w15 ne_w14_w15 hp0 hp1) 0 (by decide) (by decide) rfl pd_18 rfl rfl (Nat.le_of_eq rfl) at_306 rfl (k' := 40) (n' := 256) rfl rfl (by decide) (by decide) ?_
  intro T1 v1 h1 X1 q1
  obtain ⟨y2, hy3, rfl, rfl⟩ := q1
  show own_Go p e below (T1.setTop (mkF m 309 #[.val (.int p0), .val (.int p1), .val (.int p2), .val (.int p3), .val (.int p4), .val (.int p5), .val (.int p6), .val (.int p7), .val (.int p8), .val (.int p9), .val (.int p10), .val (.int p11), .val (.int p12), .val (.int p13), .val (.ref w14), .val (.ref w17), .val (.ref w19), .val (.int 2), .unset, .unset] [(.int y2)])) _
  refine own_istore (pc' := 311) B X1 (Ls' := #[.val (.int p0), .val (.int p1), .val (.int p2), .val (.int p3), .val (.int p4), .val (.int p5), .val (.int p6), .val (.int p7), .val (.int p8), .val (.int p9), .val (.int p10), .val (.int p11), .val (.int p12), .val (.int p13), .val (.ref w14), .val (.ref w17), .val (.ref w19), .val (.int 2), .val (.int y2), .unset]) at_309 rfl rfl ?_
  refine own_iconst (pc' := 312) B X1 (z := (-1 : Int32)) at_311 rfl rfl ?_
  refine own_istore (pc' := 314) B X1 (Ls' := #[.val (.int p0), .val (.int p1), .val (.int p2), .val (.int p3), .val (.int p4), .val (.int p5), .val (.int p6), .val (.int p7), .val (.int p8), .val (.int p9), .val (.int p10), .val (.int p11), .val (.int p12), .val (.int p13), .val (.ref w14), .val (.ref w17), .val (.ref w19), .val (.int 2), .val (.int y2), .val (.int (-1))]) at_312 rfl rfl ?_
  refine own_aload (pc' := 316) B X1 at_314 rfl rfl rfl ?_
  refine own_aload (pc' := 318) B X1 at_316 rfl rfl rfl ?_
  refine own_iload (pc' := 320) B X1 at_318 rfl rfl ?_
  refine own_iconst (pc' := 321) B X1 (z := (2 : Int32)) at_320 rfl rfl ?_
  refine own_iload (pc' := 323) B X1 at_321 rfl rfl ?_
  refine own_iload (pc' := 325) B X1 at_323 rfl rfl ?_
  refine own_iload (pc' := 327) B X1 at_325 rfl rfl ?_
  refine own_callS (pc' := 330) B X1 (own_w hw 74 rfl) (own_w hw 75 rfl) (own_w hw 76 rfl) (own_w hw 77 rfl) (by decide) [(.ref w17), (.ref w19), (.int 2), (.int 2), (.int p4), (.int p5), (.int p6)] [] (rm_64 l Z a0 hw [] w17 kw17 (p8) (p12) w19 kw19 (p9) (p13) (p4) (p5) (p6) h n0 (Nat.le_trans Z0 K.1) V_w17 g_w17 V_w19 g_w19 ne_w17_w19) 0 (by decide) (by decide) rfl pd_19 rfl rfl (Nat.le_of_eq rfl) at_327 rfl (k' := 40) (n' := 256) rfl rfl (by decide) (by decide) ?_
  intro T4 v4 h4 X4 q4
  obtain ⟨y5, hy6, rfl, rfl⟩ := q4
  show own_Go p e below (T4.setTop (mkF m 330 #[.val (.int p0), .val (.int p1), .val (.int p2), .val (.int p3), .val (.int p4), .val (.int p5), .val (.int p6), .val (.int p7), .val (.int p8), .val (.int p9), .val (.int p10), .val (.int p11), .val (.int p12), .val (.int p13), .val (.ref w14), .val (.ref w17), .val (.ref w19), .val (.int 2), .val (.int y2), .val (.int (-1))] [(.int y5)])) _
  have c7 : y5 = (0 : Int32) := by
    exact own_hit0_4 hy6
  refine own_ifYes (pc' := 336) B X4 at_330 ((if0 _ _).trans (teq c7).1) (by decide) rfl ?_
  refine own_aload (pc' := 338) B X4 at_336 rfl rfl rfl ?_
  refine own_aload (pc' := 340) B X4 at_338 rfl rfl rfl ?_
  refine own_iload (pc' := 342) B X4 at_340 rfl rfl ?_
  refine own_iconst (pc' := 343) B X4 (z := (1 : Int32)) at_342 rfl rfl ?_
  refine own_iload (pc' := 345) B X4 at_343 rfl rfl ?_
  refine own_iload (pc' := 347) B X4 at_345 rfl rfl ?_
  refine own_iload (pc' := 349) B X4 at_347 rfl rfl ?_
  refine own_callS (pc' := 352) B X4 (own_w hw 74 rfl) (own_w hw 75 rfl) (own_w hw 76 rfl) (own_w hw 77 rfl) (by decide) [(.ref w17), (.ref w19), (.int 2), (.int 1), (.int p4), (.int p5), (.int p6)] [] (rm_65 l Z a0 hw [] w17 kw17 (p8) (p12) w19 kw19 (p9) (p13) (p4) (p5) (p6) h n0 (Nat.le_trans Z0 K.1) V_w17 g_w17 V_w19 g_w19 ne_w17_w19) 0 (by decide) (by decide) rfl pd_19 rfl rfl (Nat.le_of_eq rfl) at_349 rfl (k' := 40) (n' := 256) rfl rfl (by decide) (by decide) ?_
  intro T8 v8 h8 X8 q8
  obtain ⟨y9, hy10, rfl, rfl⟩ := q8
  show own_Go p e below (T8.setTop (mkF m 352 #[.val (.int p0), .val (.int p1), .val (.int p2), .val (.int p3), .val (.int p4), .val (.int p5), .val (.int p6), .val (.int p7), .val (.int p8), .val (.int p9), .val (.int p10), .val (.int p11), .val (.int p12), .val (.int p13), .val (.ref w14), .val (.ref w17), .val (.ref w19), .val (.int 2), .val (.int y2), .val (.int (-1))] [(.int y9)])) _
  by_cases c11 : y9 = (0 : Int32)
  refine own_ifYes (pc' := 358) B X8 at_352 ((if0 _ _).trans (teq c11).1) (by decide) rfl ?_
  refine own_aload (pc' := 360) B X8 at_358 rfl rfl rfl ?_
  refine own_aload (pc' := 362) B X8 at_360 rfl rfl rfl ?_
  refine own_iload (pc' := 364) B X8 at_362 rfl rfl ?_
  refine own_iconst (pc' := 365) B X8 (z := (0 : Int32)) at_364 rfl rfl ?_
  refine own_iload (pc' := 367) B X8 at_365 rfl rfl ?_
  refine own_iload (pc' := 369) B X8 at_367 rfl rfl ?_
  refine own_iload (pc' := 371) B X8 at_369 rfl rfl ?_
  refine own_callS (pc' := 374) B X8 (own_w hw 74 rfl) (own_w hw 75 rfl) (own_w hw 76 rfl) (own_w hw 77 rfl) (by decide) [(.ref w17), (.ref w19), (.int 2), (.int 0), (.int p4), (.int p5), (.int p6)] [] (rm_66 l Z a0 hw [] w17 kw17 (p8) (p12) w19 kw19 (p9) (p13) (p4) (p5) (p6) h n0 (Nat.le_trans Z0 K.1) V_w17 g_w17 V_w19 g_w19 ne_w17_w19) 0 (by decide) (by decide) rfl pd_19 rfl rfl (Nat.le_of_eq rfl) at_371 rfl (k' := 40) (n' := 256) rfl rfl (by decide) (by decide) ?_
  intro T12 v12 h12 X12 q12
  obtain ⟨y13, hy14, rfl, rfl⟩ := q12
  show own_Go p e below (T12.setTop (mkF m 374 #[.val (.int p0), .val (.int p1), .val (.int p2), .val (.int p3), .val (.int p4), .val (.int p5), .val (.int p6), .val (.int p7), .val (.int p8), .val (.int p9), .val (.int p10), .val (.int p11), .val (.int p12), .val (.int p13), .val (.ref w14), .val (.ref w17), .val (.ref w19), .val (.int 2), .val (.int y2), .val (.int (-1))] [(.int y13)])) _
  by_cases c15 : y13 = (0 : Int32)
  refine own_ifYes (pc' := 380) B X12 at_374 ((if0 _ _).trans (teq c15).1) (by decide) rfl ?_
  refine own_iload (pc' := 382) B X12 at_380 rfl rfl ?_
  refine own_ifNo (pc' := 385) B X12 at_382 ((if0 _ _).trans (tlt (by decide : (-1 : Int32) < (0 : Int32))).2.1) rfl ?_
  refine own_iload (pc' := 387) B X12 at_385 rfl rfl ?_
  have c16 : y2 < (0 : Int32) := by
    have u := (own_tail2 p8 p9 p12 p13 p4 p5 p6 (own_bit hp0) (own_oct hp1)).symm.trans hy3
    rw [hy14, if_pos c15] at u
    rw [hy10, if_pos c11] at u
    rw [← u]; decide
  refine own_ifNo (pc' := 390) B X12 at_387 ((if0 _ _).trans (tlt c16).2.1) rfl ?_
  refine own_iconst (pc' := 391) B X12 (z := (1 : Int32)) at_390 rfl rfl ?_
  refine own_goto (pc' := 410) B X12 at_391 (by decide) rfl ?_
  exact own_retN B X12 (t := .boolean) (z' := (1 : Int32)) (by simp) (by decide) at_410 (by decide) (by decide) rfl
  refine own_ifNo (pc' := 377) B X12 at_374 ((if0 _ _).trans (feq c15).1) rfl ?_
  refine own_iconst (pc' := 378) B X12 (z := (0 : Int32)) at_377 rfl rfl ?_
  refine own_istore (pc' := 380) B X12 (Ls' := #[.val (.int p0), .val (.int p1), .val (.int p2), .val (.int p3), .val (.int p4), .val (.int p5), .val (.int p6), .val (.int p7), .val (.int p8), .val (.int p9), .val (.int p10), .val (.int p11), .val (.int p12), .val (.int p13), .val (.ref w14), .val (.ref w17), .val (.ref w19), .val (.int 2), .val (.int y2), .val (.int 0)]) at_378 rfl rfl ?_
  refine own_iload (pc' := 382) B X12 at_380 rfl rfl ?_
  refine own_ifYes (pc' := 398) B X12 at_382 ((if0 _ _).trans (flt (by decide : ¬ ((0 : Int32) < (0 : Int32)))).2.1) (by decide) rfl ?_
  refine own_iload (pc' := 400) B X12 at_398 rfl rfl ?_
  refine own_iload (pc' := 402) B X12 at_400 rfl rfl ?_
  have c17 : y2 = (0 : Int32) := by
    have u := (own_tail2 p8 p9 p12 p13 p4 p5 p6 (own_bit hp0) (own_oct hp1)).symm.trans hy3
    rw [hy14, if_neg c15] at u
    exact u.symm
  refine own_icmpNo (pc' := 405) B X12 at_402 (teq c17).2 rfl ?_
  refine own_iconst (pc' := 406) B X12 (z := (1 : Int32)) at_405 rfl rfl ?_
  refine own_goto (pc' := 410) B X12 at_406 (by decide) rfl ?_
  exact own_retN B X12 (t := .boolean) (z' := (1 : Int32)) (by simp) (by decide) at_410 (by decide) (by decide) rfl
  refine own_ifNo (pc' := 355) B X8 at_352 ((if0 _ _).trans (feq c11).1) rfl ?_
  refine own_iconst (pc' := 356) B X8 (z := (1 : Int32)) at_355 rfl rfl ?_
  refine own_istore (pc' := 358) B X8 (Ls' := #[.val (.int p0), .val (.int p1), .val (.int p2), .val (.int p3), .val (.int p4), .val (.int p5), .val (.int p6), .val (.int p7), .val (.int p8), .val (.int p9), .val (.int p10), .val (.int p11), .val (.int p12), .val (.int p13), .val (.ref w14), .val (.ref w17), .val (.ref w19), .val (.int 2), .val (.int y2), .val (.int 1)]) at_356 rfl rfl ?_
  refine own_aload (pc' := 360) B X8 at_358 rfl rfl rfl ?_
  refine own_aload (pc' := 362) B X8 at_360 rfl rfl rfl ?_
  refine own_iload (pc' := 364) B X8 at_362 rfl rfl ?_
  refine own_iconst (pc' := 365) B X8 (z := (0 : Int32)) at_364 rfl rfl ?_
  refine own_iload (pc' := 367) B X8 at_365 rfl rfl ?_
  refine own_iload (pc' := 369) B X8 at_367 rfl rfl ?_
  refine own_iload (pc' := 371) B X8 at_369 rfl rfl ?_
  refine own_callS (pc' := 374) B X8 (own_w hw 74 rfl) (own_w hw 75 rfl) (own_w hw 76 rfl) (own_w hw 77 rfl) (by decide) [(.ref w17), (.ref w19), (.int 2), (.int 0), (.int p4), (.int p5), (.int p6)] [] (rm_66 l Z a0 hw [] w17 kw17 (p8) (p12) w19 kw19 (p9) (p13) (p4) (p5) (p6) h n0 (Nat.le_trans Z0 K.1) V_w17 g_w17 V_w19 g_w19 ne_w17_w19) 0 (by decide) (by decide) rfl pd_19 rfl rfl (Nat.le_of_eq rfl) at_371 rfl (k' := 40) (n' := 256) rfl rfl (by decide) (by decide) ?_
  intro T18 v18 h18 X18 q18
  obtain ⟨y19, hy20, rfl, rfl⟩ := q18
  show own_Go p e below (T18.setTop (mkF m 374 #[.val (.int p0), .val (.int p1), .val (.int p2), .val (.int p3), .val (.int p4), .val (.int p5), .val (.int p6), .val (.int p7), .val (.int p8), .val (.int p9), .val (.int p10), .val (.int p11), .val (.int p12), .val (.int p13), .val (.ref w14), .val (.ref w17), .val (.ref w19), .val (.int 2), .val (.int y2), .val (.int 1)] [(.int y19)])) _
  by_cases c21 : y19 = (0 : Int32)
  refine own_ifYes (pc' := 380) B X18 at_374 ((if0 _ _).trans (teq c21).1) (by decide) rfl ?_
  refine own_iload (pc' := 382) B X18 at_380 rfl rfl ?_
  refine own_ifYes (pc' := 398) B X18 at_382 ((if0 _ _).trans (flt (by decide : ¬ ((1 : Int32) < (0 : Int32)))).2.1) (by decide) rfl ?_
  refine own_iload (pc' := 400) B X18 at_398 rfl rfl ?_
  refine own_iload (pc' := 402) B X18 at_400 rfl rfl ?_
  have c22 : y2 = (1 : Int32) := by
    have u := (own_tail2 p8 p9 p12 p13 p4 p5 p6 (own_bit hp0) (own_oct hp1)).symm.trans hy3
    rw [hy20, if_pos c21] at u
    rw [hy10, if_neg c11] at u
    exact u.symm
  refine own_icmpNo (pc' := 405) B X18 at_402 (teq c22).2 rfl ?_
  refine own_iconst (pc' := 406) B X18 (z := (1 : Int32)) at_405 rfl rfl ?_
  refine own_goto (pc' := 410) B X18 at_406 (by decide) rfl ?_
  exact own_retN B X18 (t := .boolean) (z' := (1 : Int32)) (by simp) (by decide) at_410 (by decide) (by decide) rfl
  refine own_ifNo (pc' := 377) B X18 at_374 ((if0 _ _).trans (feq c21).1) rfl ?_
  refine own_iconst (pc' := 378) B X18 (z := (0 : Int32)) at_377 rfl rfl ?_
  refine own_istore (pc' := 380) B X18 (Ls' := #[.val (.int p0), .val (.int p1), .val (.int p2), .val (.int p3), .val (.int p4), .val (.int p5), .val (.int p6), .val (.int p7), .val (.int p8), .val (.int p9), .val (.int p10), .val (.int p11), .val (.int p12), .val (.int p13), .val (.ref w14), .val (.ref w17), .val (.ref w19), .val (.int 2), .val (.int y2), .val (.int 0)]) at_378 rfl rfl ?_
  refine own_iload (pc' := 382) B X18 at_380 rfl rfl ?_
  refine own_ifYes (pc' := 398) B X18 at_382 ((if0 _ _).trans (flt (by decide : ¬ ((0 : Int32) < (0 : Int32)))).2.1) (by decide) rfl ?_
  refine own_iload (pc' := 400) B X18 at_398 rfl rfl ?_
  refine own_iload (pc' := 402) B X18 at_400 rfl rfl ?_
  have c23 : y2 = (0 : Int32) := by
    have u := (own_tail2 p8 p9 p12 p13 p4 p5 p6 (own_bit hp0) (own_oct hp1)).symm.trans hy3
    rw [hy20, if_neg c21] at u
    exact u.symm
  refine own_icmpNo (pc' := 405) B X18 at_402 (teq c23).2 rfl ?_
  refine own_iconst (pc' := 406) B X18 (z := (1 : Int32)) at_405 rfl rfl ?_
  refine own_goto (pc' := 410) B X18 at_406 (by decide) rfl ?_
  exact own_retN B X18 (t := .boolean) (z' := (1 : Int32)) (by simp) (by decide) at_410 (by decide) (by decide) rfl
theorem ax_52 {F N : Int32 → Int32} {H : Int32 → Int32 → Int32} (nn : ∀ x, ¬ N x = x) {a0 a1 a2 a3 a4 a5 a6 a7 a8 a9 : Int32} (e0 : own_F_look1 a1 a2 a3 a4 = a0) (e1 : ¬ (a0 = (-1 : Int32))) (e2 : own_F_holds a1 a2 a3 a4 = a5) (e3 : ¬ (a5 = (0 : Int32))) (e4 : own_F_look1 a1 a2 a7 a8 = a6) (e5 : ¬ (a6 = (-1 : Int32))) (e6 : own_F_holds a1 a2 a7 a8 = a9) : ¬ (a9 = (0 : Int32)) := by grind [own_F_look1, own_F_look2, own_G_put2, own_F_holds]
def Q_68 (Z : State) (w0 w1 : Addr) (kw1 : ClassId) (p3 p4 p5 p6 p7 p8 p9 : Int32) (h0 : Heap) (n0 : Nat) (v : Option Value) (h : Heap) : Prop :=
  (∃ (yF : Int32), own_F_find_3 p3 p4 p5 p6 p7 = yF ∧ v = some (.int yF) ∧ h0 = h)
theorem rm_68 (l : Launch) (Z : State) (a0 : Array Value) (hw : ∀ d ∈ tables_1, d.before a0 Z = true) (ws : List Jvm.Cond) (w0 w1 : Addr) (kw1 : ClassId) (p3 p4 p5 p6 p7 p8 p9 : Int32) (h0 : Heap) (n0 : Nat) (Z0 : n0 ≤ h0.size) (E_w0 : Exa Z h0 w0 oC2) (F_w0_arity : Fld Z h0 w0 oC2 "arity" "I" (.int 2)) (F_w0_rows : Fld Z h0 w0 oC2 "rows" "[I" (.ref w1)) (F_w0_size : Fld Z h0 w0 oC2 "size" "I" (.int 1)) (g_w0 : n0 ≤ w0) (V_w1 : Arv Z h0 w1 kw1 .int (16 : Int32) [(.int p3), (.int p4)] (.int 0)) (g_w1 : n0 ≤ w1) (ne_w0_w1 : w0 ≠ w1) (hp0 : p8 &&& (1 : Int32) = p5) (hp1 : p9 &&& (7 : Int32) = p7) :
    own_M l Z (⟨"com/example/ordal/ordal/Relation", "find", "(III)I"⟩ : MethodName) prog_12_method_12_code 8 (some .int) ws ({ frames := 0, cells := 0, slots := 0, locals := 0 } : Room) #[(.ref w0), (.int p5), (.int p6), (.int p7)] h0 n0 (Q_68 Z w0 w1 kw1 p3 p4 p5 p6 p7 p8 p9 h0 n0) := by
  refine own_enter' (Q := Q_68 Z w0 w1 kw1 p3 p4 p5 p6 p7 p8 p9 h0 n0) (F := fun m => mkF m 0 #[.val (.ref w0), .val (.int p5), .val (.int p6), .val (.int p7), .unset, .unset, .unset, .unset] []) (plainFor_of_name pn_2) ?_
  intro p e s m below meth c s₁ B X0
  have K : Keep h0 h0 [] := Keep.refl h0 _
  have lt_w0 := E_w0.lt
  have lt_w1 := V_w1.lt
  refine own_aloadN (pc' := 1) B X0 d8_0 rfl rfl rfl ?_
  refine own_getfield (pc' := 4) B X0 (host := "") (Or.inl (own_w hw 32 rfl)) Via.refl F_w0_rows d8_1 rfl ?_
  intro T1 X1
  refine own_astore (pc' := 6) B X1 (Ls' := #[.val (.ref w0), .val (.int p5), .val (.int p6), .val (.int p7), .val (.ref w1), .unset, .unset, .unset]) d8_4 rfl rfl rfl ?_
  refine own_aloadN (pc' := 7) B X1 d8_6 rfl rfl rfl ?_
  refine own_getfield (pc' := 10) B X1 (host := "") (Or.inl (own_w hw 29 rfl)) Via.refl F_w0_arity d8_7 rfl ?_
  intro T2 X2
  refine own_istore (pc' := 12) B X2 (Ls' := #[.val (.ref w0), .val (.int p5), .val (.int p6), .val (.int p7), .val (.ref w1), .val (.int 2), .unset, .unset]) d8_10 rfl rfl ?_
  refine own_aloadN (pc' := 13) B X2 d8_12 rfl rfl rfl ?_
  refine own_getfield (pc' := 16) B X2 (host := "") (Or.inl (own_w hw 72 rfl)) Via.refl F_w0_size d8_13 rfl ?_
  intro T3 X3
  refine own_iload (pc' := 18) B X3 d8_16 rfl rfl ?_
  refine own_imul (pc' := 19) B X3 (z := (2 : Int32)) d8_18 rfl (by decide) ?_
  refine own_istore (pc' := 21) B X3 (Ls' := #[.val (.ref w0), .val (.int p5), .val (.int p6), .val (.int p7), .val (.ref w1), .val (.int 2), .val (.int 2), .unset]) d8_19 rfl rfl ?_
  refine own_iloadN (pc' := 22) B X3 d8_21 rfl rfl ?_
  refine own_iload (pc' := 24) B X3 d8_22 rfl rfl ?_
  obtain ⟨y4, hy4⟩ : ∃ z : Int32, p7 * (2 : Int32) = z := ⟨_, rfl⟩
  refine own_imul (pc' := 25) B X3 d8_24 rfl hy4 ?_
  refine own_iloadN (pc' := 26) B X3 d8_25 rfl rfl ?_
  obtain ⟨y5, hy5⟩ : ∃ z : Int32, y4 + p5 = z := ⟨_, rfl⟩
  refine own_iadd (pc' := 27) B X3 d8_26 rfl hy5 ?_
  refine own_istore (pc' := 29) B X3 (Ls' := #[.val (.ref w0), .val (.int p5), .val (.int p6), .val (.int p7), .val (.ref w1), .val (.int 2), .val (.int 2), .val (.int y5)]) d8_27 rfl rfl ?_
  refine own_iload (pc' := 31) B X3 d8_29 rfl rfl ?_
  refine own_iload (pc' := 33) B X3 d8_31 rfl rfl ?_
  by_cases c6 : y5 < (2 : Int32)
  refine own_icmpNo (pc' := 36) B X3 d8_33 (tlt c6).2.1 rfl ?_
  refine own_aload (pc' := 38) B X3 d8_36 rfl rfl rfl ?_
  refine own_iload (pc' := 40) B X3 d8_38 rfl rfl ?_
  have z7 : y5.toInt = 0 ∨ y5.toInt = 1 := by
    have o0 := own_o_mask hp0 1 (by decide) (by decide)
    have o1 := own_o_mask hp1 3 (by decide) (by decide)
    have o2 := own_o_imulR hy4 2 (by decide)
    have o3 := own_o_iadd hy5
    have o4 := own_lt c6
    have o5 := rng32 p5
    have o6 := rng32 p7
    have o7 := rng32 y4
    have o8 := rng32 y5
    have o9 : (1 : Int32).toInt = 1 := by decide
    have o10 : (7 : Int32).toInt = 7 := by decide
    have o11 : (2 : Int32).toInt = 2 := by decide
    omega
  rcases z7 with z7 | z7
  obtain rfl : y5 = (0 : Int32) := Int32.toInt_inj.mp (z7.trans (by decide))
  refine own_iaload (pc' := 41) B X3 V_w1 (v := (.int p3)) ⟨by decide, by decide⟩ rfl d8_40 rfl ?_
  refine own_iloadN (pc' := 42) B X3 d8_41 rfl rfl ?_
  by_cases c8 : p3 = p6
  refine own_icmpNo (pc' := 45) B X3 d8_42 (teq c8).2 rfl ?_
  refine own_iload (pc' := 47) B X3 d8_45 rfl rfl ?_
  refine own_iload (pc' := 49) B X3 d8_47 rfl rfl ?_
  refine own_idiv (pc' := 50) B X3 (z := (0 : Int32)) d8_49 rfl (by decide) (by decide) ?_
  exact own_retI B X3 d8_50 (by decide) (by decide) ⟨(0 : Int32), (by subst hy4; rw [own_F_find_3, if_pos (by first | exact c6 | (simp only [hy5]; exact c6)), if_pos hy5, if_pos (by first | exact c8 | (simp only [hy5]; exact c8))]), rfl, rfl⟩
  refine own_icmpYes (pc' := 51) B X3 d8_42 (feq c8).2 (by decide) rfl ?_
  refine own_iload (pc' := 53) B X3 d8_51 rfl rfl ?_
  refine own_iload (pc' := 55) B X3 d8_53 rfl rfl ?_
  refine own_iadd (pc' := 56) B X3 (z := (2 : Int32)) d8_55 rfl (by decide) ?_
  refine own_istore (pc' := 58) B X3 (Ls' := #[.val (.ref w0), .val (.int p5), .val (.int p6), .val (.int p7), .val (.ref w1), .val (.int 2), .val (.int 2), .val (.int 2)]) d8_56 rfl rfl ?_
  refine own_goto (pc' := 29) B X3 d8_58 (by decide) rfl ?_
  refine own_iload (pc' := 31) B X3 d8_29 rfl rfl ?_
  refine own_iload (pc' := 33) B X3 d8_31 rfl rfl ?_
  refine own_icmpYes (pc' := 61) B X3 d8_33 (flt (by decide : ¬ ((2 : Int32) < (2 : Int32)))).2.1 (by decide) rfl ?_
  refine own_iconst (pc' := 62) B X3 (z := (-1 : Int32)) d8_61 rfl rfl ?_
  exact own_retI B X3 d8_62 (by decide) (by decide) ⟨(-1 : Int32), (by subst hy4; rw [own_F_find_3, if_pos (by first | exact c6 | (simp only [hy5]; exact c6)), if_pos hy5, if_neg (by first | exact c8 | (simp only [hy5]; exact c8))]), rfl, rfl⟩
  obtain rfl : y5 = (1 : Int32) := Int32.toInt_inj.mp (z7.trans (by decide))
  refine own_iaload (pc' := 41) B X3 V_w1 (v := (.int p4)) ⟨by decide, by decide⟩ rfl d8_40 rfl ?_
  refine own_iloadN (pc' := 42) B X3 d8_41 rfl rfl ?_
  by_cases c9 : p4 = p6
  refine own_icmpNo (pc' := 45) B X3 d8_42 (teq c9).2 rfl ?_
  refine own_iload (pc' := 47) B X3 d8_45 rfl rfl ?_
  refine own_iload (pc' := 49) B X3 d8_47 rfl rfl ?_
  refine own_idiv (pc' := 50) B X3 (z := (0 : Int32)) d8_49 rfl (by decide) (by decide) ?_
  exact own_retI B X3 d8_50 (by decide) (by decide) ⟨(0 : Int32), (by subst hy4; rw [own_F_find_3, if_pos (by first | exact c6 | (simp only [hy5]; exact c6)), if_neg (by rw [hy5]; decide), if_pos (by first | exact c9 | (simp only [hy5]; exact c9))]), rfl, rfl⟩
  refine own_icmpYes (pc' := 51) B X3 d8_42 (feq c9).2 (by decide) rfl ?_
  refine own_iload (pc' := 53) B X3 d8_51 rfl rfl ?_
  refine own_iload (pc' := 55) B X3 d8_53 rfl rfl ?_
  refine own_iadd (pc' := 56) B X3 (z := (3 : Int32)) d8_55 rfl (by decide) ?_
  refine own_istore (pc' := 58) B X3 (Ls' := #[.val (.ref w0), .val (.int p5), .val (.int p6), .val (.int p7), .val (.ref w1), .val (.int 2), .val (.int 2), .val (.int 3)]) d8_56 rfl rfl ?_
  refine own_goto (pc' := 29) B X3 d8_58 (by decide) rfl ?_
  refine own_iload (pc' := 31) B X3 d8_29 rfl rfl ?_
  refine own_iload (pc' := 33) B X3 d8_31 rfl rfl ?_
  refine own_icmpYes (pc' := 61) B X3 d8_33 (flt (by decide : ¬ ((3 : Int32) < (2 : Int32)))).2.1 (by decide) rfl ?_
  refine own_iconst (pc' := 62) B X3 (z := (-1 : Int32)) d8_61 rfl rfl ?_
  exact own_retI B X3 d8_62 (by decide) (by decide) ⟨(-1 : Int32), (by subst hy4; rw [own_F_find_3, if_pos (by first | exact c6 | (simp only [hy5]; exact c6)), if_neg (by rw [hy5]; decide), if_neg (by first | exact c9 | (simp only [hy5]; exact c9))]), rfl, rfl⟩
  refine own_icmpYes (pc' := 61) B X3 d8_33 (flt c6).2.1 (by decide) rfl ?_
  refine own_iconst (pc' := 62) B X3 (z := (-1 : Int32)) d8_61 rfl rfl ?_
  exact own_retI B X3 d8_62 (by decide) (by decide) ⟨(-1 : Int32), (by subst hy4; subst hy5; rw [own_F_find_3, if_neg c6]), rfl, rfl⟩
def Q_69 (Z : State) (w0 : Addr) (kw0 : ClassId) (p2 : Int32) (w3 : Addr) (kw3 : ClassId) (p5 p6 p7 p8 : Int32) (h0 : Heap) (n0 : Nat) (v : Option Value) (h : Heap) : Prop :=
  (∃ (yF : Int32), own_F_hit_4 p8 = yF ∧ v = some (.int yF) ∧ h0 = h)
theorem rm_69 (l : Launch) (Z : State) (a0 : Array Value) (hw : ∀ d ∈ tables_1, d.before a0 Z = true) (ws : List Jvm.Cond) (w0 : Addr) (kw0 : ClassId) (p2 : Int32) (w3 : Addr) (kw3 : ClassId) (p5 p6 p7 p8 : Int32) (h0 : Heap) (n0 : Nat) (Z0 : n0 ≤ h0.size) (V_w0 : Arv Z h0 w0 kw0 .int (3 : Int32) [(.int p2)] (.int 0)) (g_w0 : n0 ≤ w0) (V_w3 : Arv Z h0 w3 kw3 .int (3 : Int32) [(.int p5)] (.int 0)) (g_w3 : n0 ≤ w3) (ne_w0_w3 : w0 ≠ w3) :
    own_M l Z (⟨"com/example/ordal/ordal/RelationFindPinLaw", "hit", "([I[IIIIII)Z"⟩ : MethodName) method_4_code 8 (some .boolean) ws ({ frames := 0, cells := 0, slots := 0, locals := 0 } : Room) #[(.ref w0), (.ref w3), (.int 1), (.int 2), (.int p6), (.int p7), (.int p8)] h0 n0 (Q_69 Z w0 kw0 p2 w3 kw3 p5 p6 p7 p8 h0 n0) := by
  refine own_enter' (Q := Q_69 Z w0 kw0 p2 w3 kw3 p5 p6 p7 p8 h0 n0) (F := fun m => mkF m 0 #[.val (.ref w0), .val (.ref w3), .val (.int 1), .val (.int 2), .val (.int p6), .val (.int p7), .val (.int p8), .unset] []) (plainFor_of_name pn_5) ?_
  intro p e s m below meth c s₁ B X0
  have K : Keep h0 h0 [] := Keep.refl h0 _
  have lt_w0 := V_w0.lt
  have lt_w3 := V_w3.lt
  refine own_iloadN (pc' := 1) B X0 d9_0 rfl rfl ?_
  refine own_iload (pc' := 3) B X0 d9_1 rfl rfl ?_
  by_cases c1 : (2 : Int32) < p8
  refine own_icmpYes (pc' := 11) B X0 d9_3 (tlt c1).1 (by decide) rfl ?_
  refine own_iconst (pc' := 12) B X0 (z := (0 : Int32)) d9_11 rfl rfl ?_
  exact own_retN B X0 (t := .boolean) (z' := (0 : Int32)) (by simp) (by decide) d9_12 (by decide) (by decide) ⟨(0 : Int32), (by rw [own_F_hit_4, if_pos c1]), rfl, rfl⟩
  refine own_icmpNo (pc' := 6) B X0 d9_3 (flt c1).1 rfl ?_
  refine own_iloadN (pc' := 7) B X0 d9_6 rfl rfl ?_
  refine own_iloadN (pc' := 8) B X0 d9_7 rfl rfl ?_
  refine own_icmpNo (pc' := 11) B X0 d9_8 (flt (by decide : ¬ ((2 : Int32) < (1 : Int32)))).1 rfl ?_
  refine own_iconst (pc' := 12) B X0 (z := (0 : Int32)) d9_11 rfl rfl ?_
  exact own_retN B X0 (t := .boolean) (z' := (0 : Int32)) (by simp) (by decide) d9_12 (by decide) (by decide) ⟨(0 : Int32), (by rw [own_F_hit_4, if_neg c1]), rfl, rfl⟩
theorem b_own_F_hit_5 {a0 z : Int32} (h : own_F_hit_5 a0 = z) : z &&& (1 : Int32) = z := by subst h; unfold own_F_hit_5; (repeat' split) <;> decide
def Q_70 (Z : State) (w0 : Addr) (kw0 : ClassId) (p2 : Int32) (w3 : Addr) (kw3 : ClassId) (p5 p6 p7 p8 : Int32) (h0 : Heap) (n0 : Nat) (v : Option Value) (h : Heap) : Prop :=
  (∃ (yF : Int32), own_F_hit_5 p8 = yF ∧ v = some (.int yF) ∧ h0 = h)
theorem rm_70 (l : Launch) (Z : State) (a0 : Array Value) (hw : ∀ d ∈ tables_1, d.before a0 Z = true) (ws : List Jvm.Cond) (w0 : Addr) (kw0 : ClassId) (p2 : Int32) (w3 : Addr) (kw3 : ClassId) (p5 p6 p7 p8 : Int32) (h0 : Heap) (n0 : Nat) (Z0 : n0 ≤ h0.size) (V_w0 : Arv Z h0 w0 kw0 .int (3 : Int32) [(.int p2)] (.int 0)) (g_w0 : n0 ≤ w0) (V_w3 : Arv Z h0 w3 kw3 .int (3 : Int32) [(.int p5)] (.int 0)) (g_w3 : n0 ≤ w3) (ne_w0_w3 : w0 ≠ w3) :
    own_M l Z (⟨"com/example/ordal/ordal/RelationFindPinLaw", "hit", "([I[IIIIII)Z"⟩ : MethodName) method_4_code 8 (some .boolean) ws ({ frames := 0, cells := 0, slots := 0, locals := 0 } : Room) #[(.ref w0), (.ref w3), (.int 1), (.int 1), (.int p6), (.int p7), (.int p8)] h0 n0 (Q_70 Z w0 kw0 p2 w3 kw3 p5 p6 p7 p8 h0 n0) := by
  refine own_enter' (Q := Q_70 Z w0 kw0 p2 w3 kw3 p5 p6 p7 p8 h0 n0) (F := fun m => mkF m 0 #[.val (.ref w0), .val (.ref w3), .val (.int 1), .val (.int 1), .val (.int p6), .val (.int p7), .val (.int p8), .unset] []) (plainFor_of_name pn_5) ?_
  intro p e s m below meth c s₁ B X0
  have K : Keep h0 h0 [] := Keep.refl h0 _
  have lt_w0 := V_w0.lt
  have lt_w3 := V_w3.lt
  refine own_iloadN (pc' := 1) B X0 d9_0 rfl rfl ?_
  refine own_iload (pc' := 3) B X0 d9_1 rfl rfl ?_
  by_cases c1 : (1 : Int32) < p8
  refine own_icmpYes (pc' := 11) B X0 d9_3 (tlt c1).1 (by decide) rfl ?_
  refine own_iconst (pc' := 12) B X0 (z := (0 : Int32)) d9_11 rfl rfl ?_
  exact own_retN B X0 (t := .boolean) (z' := (0 : Int32)) (by simp) (by decide) d9_12 (by decide) (by decide) ⟨(0 : Int32), (by rw [own_F_hit_5, if_pos c1]), rfl, rfl⟩
  refine own_icmpNo (pc' := 6) B X0 d9_3 (flt c1).1 rfl ?_
  refine own_iloadN (pc' := 7) B X0 d9_6 rfl rfl ?_
  refine own_iloadN (pc' := 8) B X0 d9_7 rfl rfl ?_
  refine own_icmpNo (pc' := 11) B X0 d9_8 (flt (by decide : ¬ ((1 : Int32) < (1 : Int32)))).1 rfl ?_
  refine own_iconst (pc' := 12) B X0 (z := (0 : Int32)) d9_11 rfl rfl ?_
  exact own_retN B X0 (t := .boolean) (z' := (0 : Int32)) (by simp) (by decide) d9_12 (by decide) (by decide) ⟨(0 : Int32), (by rw [own_F_hit_5, if_neg c1]), rfl, rfl⟩
def Q_71 (Z : State) (w0 : Addr) (kw0 : ClassId) (p2 : Int32) (w3 : Addr) (kw3 : ClassId) (p5 p6 p7 p8 : Int32) (h0 : Heap) (n0 : Nat) (v : Option Value) (h : Heap) : Prop :=
  (∃ (yF : Int32), own_F_hit_3 p2 p5 p6 p7 p8 = yF ∧ v = some (.int yF) ∧ h0 = h)
theorem rm_71 (l : Launch) (Z : State) (a0 : Array Value) (hw : ∀ d ∈ tables_1, d.before a0 Z = true) (ws : List Jvm.Cond) (w0 : Addr) (kw0 : ClassId) (p2 : Int32) (w3 : Addr) (kw3 : ClassId) (p5 p6 p7 p8 : Int32) (h0 : Heap) (n0 : Nat) (Z0 : n0 ≤ h0.size) (V_w0 : Arv Z h0 w0 kw0 .int (3 : Int32) [(.int p2)] (.int 0)) (g_w0 : n0 ≤ w0) (V_w3 : Arv Z h0 w3 kw3 .int (3 : Int32) [(.int p5)] (.int 0)) (g_w3 : n0 ≤ w3) (ne_w0_w3 : w0 ≠ w3) :
    own_M l Z (⟨"com/example/ordal/ordal/RelationFindPinLaw", "hit", "([I[IIIIII)Z"⟩ : MethodName) method_4_code 8 (some .boolean) ws ({ frames := 0, cells := 0, slots := 0, locals := 0 } : Room) #[(.ref w0), (.ref w3), (.int 1), (.int 0), (.int p6), (.int p7), (.int p8)] h0 n0 (Q_71 Z w0 kw0 p2 w3 kw3 p5 p6 p7 p8 h0 n0) := by
  refine own_enter' (Q := Q_71 Z w0 kw0 p2 w3 kw3 p5 p6 p7 p8 h0 n0) (F := fun m => mkF m 0 #[.val (.ref w0), .val (.ref w3), .val (.int 1), .val (.int 0), .val (.int p6), .val (.int p7), .val (.int p8), .unset] []) (plainFor_of_name pn_5) ?_
  intro p e s m below meth c s₁ B X0
  have K : Keep h0 h0 [] := Keep.refl h0 _
  have lt_w0 := V_w0.lt
  have lt_w3 := V_w3.lt
  refine own_iloadN (pc' := 1) B X0 d9_0 rfl rfl ?_
  refine own_iload (pc' := 3) B X0 d9_1 rfl rfl ?_
  by_cases c1 : (0 : Int32) < p8
  refine own_icmpYes (pc' := 11) B X0 d9_3 (tlt c1).1 (by decide) rfl ?_
  refine own_iconst (pc' := 12) B X0 (z := (0 : Int32)) d9_11 rfl rfl ?_
  exact own_retN B X0 (t := .boolean) (z' := (0 : Int32)) (by simp) (by decide) d9_12 (by decide) (by decide) ⟨(0 : Int32), (by rw [own_F_hit_3, if_pos c1]), rfl, rfl⟩
  refine own_icmpNo (pc' := 6) B X0 d9_3 (flt c1).1 rfl ?_
  refine own_iloadN (pc' := 7) B X0 d9_6 rfl rfl ?_
  refine own_iloadN (pc' := 8) B X0 d9_7 rfl rfl ?_
  refine own_icmpYes (pc' := 13) B X0 d9_8 (tlt (by decide : (0 : Int32) < (1 : Int32))).1 (by decide) rfl ?_
  refine own_iload (pc' := 15) B X0 d9_13 rfl rfl ?_
  by_cases c2 : p6 = (0 : Int32)
  refine own_ifNo (pc' := 18) B X0 d9_15 ((if0 _ _).trans (teq c2).2) rfl ?_
  refine own_aloadN (pc' := 19) B X0 d9_18 rfl rfl rfl ?_
  refine own_iloadN (pc' := 20) B X0 d9_19 rfl rfl ?_
  refine own_iaload (pc' := 21) B X0 V_w0 (v := (.int p2)) ⟨by decide, by decide⟩ rfl d9_20 rfl ?_
  refine own_goto (pc' := 27) B X0 d9_21 (by decide) rfl ?_
  refine own_istore (pc' := 29) B X0 (Ls' := #[.val (.ref w0), .val (.ref w3), .val (.int 1), .val (.int 0), .val (.int p6), .val (.int p7), .val (.int p8), .val (.int p2)]) d9_27 rfl rfl ?_
  refine own_iload (pc' := 31) B X0 d9_29 rfl rfl ?_
  refine own_iload (pc' := 33) B X0 d9_31 rfl rfl ?_
  by_cases c3 : p2 = p7
  refine own_icmpNo (pc' := 36) B X0 d9_33 (teq c3).2 rfl ?_
  refine own_iconst (pc' := 37) B X0 (z := (1 : Int32)) d9_36 rfl rfl ?_
  refine own_goto (pc' := 41) B X0 d9_37 (by decide) rfl ?_
  exact own_retN B X0 (t := .boolean) (z' := (1 : Int32)) (by simp) (by decide) d9_41 (by decide) (by decide) ⟨(1 : Int32), (by rw [own_F_hit_3, if_neg c1, if_pos c2, if_pos c3]), rfl, rfl⟩
  refine own_icmpYes (pc' := 40) B X0 d9_33 (feq c3).2 (by decide) rfl ?_
  refine own_iconst (pc' := 41) B X0 (z := (0 : Int32)) d9_40 rfl rfl ?_
  exact own_retN B X0 (t := .boolean) (z' := (0 : Int32)) (by simp) (by decide) d9_41 (by decide) (by decide) ⟨(0 : Int32), (by rw [own_F_hit_3, if_neg c1, if_pos c2, if_neg c3]), rfl, rfl⟩
  refine own_ifYes (pc' := 24) B X0 d9_15 ((if0 _ _).trans (feq c2).2) (by decide) rfl ?_
  refine own_aloadN (pc' := 25) B X0 d9_24 rfl rfl rfl ?_
  refine own_iloadN (pc' := 26) B X0 d9_25 rfl rfl ?_
  refine own_iaload (pc' := 27) B X0 V_w3 (v := (.int p5)) ⟨by decide, by decide⟩ rfl d9_26 rfl ?_
  refine own_istore (pc' := 29) B X0 (Ls' := #[.val (.ref w0), .val (.ref w3), .val (.int 1), .val (.int 0), .val (.int p6), .val (.int p7), .val (.int p8), .val (.int p5)]) d9_27 rfl rfl ?_
  refine own_iload (pc' := 31) B X0 d9_29 rfl rfl ?_
  refine own_iload (pc' := 33) B X0 d9_31 rfl rfl ?_
  by_cases c4 : p5 = p7
  refine own_icmpNo (pc' := 36) B X0 d9_33 (teq c4).2 rfl ?_
  refine own_iconst (pc' := 37) B X0 (z := (1 : Int32)) d9_36 rfl rfl ?_
  refine own_goto (pc' := 41) B X0 d9_37 (by decide) rfl ?_
  exact own_retN B X0 (t := .boolean) (z' := (1 : Int32)) (by simp) (by decide) d9_41 (by decide) (by decide) ⟨(1 : Int32), (by rw [own_F_hit_3, if_neg c1, if_neg c2, if_pos c4]), rfl, rfl⟩
  refine own_icmpYes (pc' := 40) B X0 d9_33 (feq c4).2 (by decide) rfl ?_
  refine own_iconst (pc' := 41) B X0 (z := (0 : Int32)) d9_40 rfl rfl ?_
  exact own_retN B X0 (t := .boolean) (z' := (0 : Int32)) (by simp) (by decide) d9_41 (by decide) (by decide) ⟨(0 : Int32), (by rw [own_F_hit_3, if_neg c1, if_neg c2, if_neg c4]), rfl, rfl⟩
theorem tl_3 (l : Launch) (Z : State) (a0 : Array Value) (hw : ∀ d ∈ tables_1, d.before a0 Z = true) (i0 i1 i2 i3 : Int32) (p0 p1 p2 p3 p4 p5 p6 p7 p8 p9 p10 p11 p12 p13 : Int32) (w14 w15 : Addr) (kw15 : ClassId) (w17 : Addr) (kw17 : ClassId) (w19 : Addr) (kw19 : ClassId) (p21 p22 : Int32) (h0 h : Heap) (n0 : Nat) (Z0 : n0 ≤ h0.size) (E_w14 : Exa Z h w14 oC2) (F_w14_arity : Fld Z h w14 oC2 "arity" "I" (.int 2)) (F_w14_rows : Fld Z h w14 oC2 "rows" "[I" (.ref w15)) (F_w14_size : Fld Z h w14 oC2 "size" "I" (.int 1)) (g_w14 : n0 ≤ w14) (V_w15 : Arv Z h w15 kw15 .int (16 : Int32) [(.int p8), (.int p9)] (.int 0)) (g_w15 : n0 ≤ w15) (V_w17 : Arv Z h w17 kw17 .int (3 : Int32) [(.int p8)] (.int 0)) (g_w17 : n0 ≤ w17) (V_w19 : Arv Z h w19 kw19 .int (3 : Int32) [(.int p9)] (.int 0)) (g_w19 : n0 ≤ w19) (ne_w14_w15 : w14 ≠ w15) (ne_w14_w17 : w14 ≠ w17) (ne_w14_w19 : w14 ≠ w19) (ne_w15_w17 : w15 ≠ w17) (ne_w15_w19 : w15 ≠ w19) (ne_w17_w19 : w17 ≠ w19) (hp0 : p2 &&& (1 : Int32) = p4) (hp1 : p21 &&& (7 : Int32) = p6) (hp2 : p22 &&& (3 : Int32) = p7) {p : Program} {e : Env} {s : State} {m : MethodId} {args : Array Value} {below : List Frame} {meth : Method} {c : Code} {T0 : State} (K : Keep h0 h []) (B : own_B p s m meth c Z x.cls x.name code maxLocals ret) (X0 : own_S p l e room_1 s m args below meth c n0 T0 h 40 256) :
    own_Go p e below (T0.setTop (mkF m 298 #[.val (.int p0), .val (.int p1), .val (.int p2), .val (.int p3), .val (.int p4), .val (.int p5), .val (.int p6), .val (.int p7), .val (.int p8), .val (.int p9), .val (.int p10), .val (.int p11), .val (.int p12), .val (.int p13), .val (.ref w14), .val (.ref w17), .val (.ref w19), .val (.int 1), .unset, .unset] [])) (own_P s below n0 (Q_0 Z i0 i1 i2 i3 h0 n0) room_1.cells room_1.slots) := by
  refine own_aload (pc' := 300) B X0 at_298 rfl rfl rfl ?_
  refine own_iload (pc' := 302) B X0 at_300 rfl rfl ?_
  refine own_iload (pc' := 304) B X0 at_302 rfl rfl ?_
  refine own_iload (pc' := 306) B X0 at_304 rfl rfl ?_
  refine own_callV (pc' := 309) B X0 (own_w hw 67 rfl) (own_w hw 68 rfl) (own_w hw 70 rfl) (own_w hw 69 rfl) (own_w hw 2 rfl) (own_w hw 71 rfl) E_w14 (by decide) [(.int p4), (.int p5), (.int p6)] [] (rm_68 l Z a0 hw [] w14 w15 kw15 (p8) (p9) (p4) (p5) (p6) (p2) (p21) h n0 (Nat.le_trans Z0 K.1) E_w14 F_w14_arity F_w14_rows F_w14_size g_w14 V_w15 g_w15 ne_w14_w15 hp0 hp1) 0 (by decide) (by decide) rfl pd_18 rfl rfl (Nat.le_of_eq rfl) at_306 rfl (k' := 40) (n' := 256) rfl rfl (by decide) (by decide) ?_
  intro T1 v1 h1 X1 q1
  obtain ⟨y2, hy3, rfl, rfl⟩ := q1
  show own_Go p e below (T1.setTop (mkF m 309 #[.val (.int p0), .val (.int p1), .val (.int p2), .val (.int p3), .val (.int p4), .val (.int p5), .val (.int p6), .val (.int p7), .val (.int p8), .val (.int p9), .val (.int p10), .val (.int p11), .val (.int p12), .val (.int p13), .val (.ref w14), .val (.ref w17), .val (.ref w19), .val (.int 1), .unset, .unset] [(.int y2)])) _
  refine own_istore (pc' := 311) B X1 (Ls' := #[.val (.int p0), .val (.int p1), .val (.int p2), .val (.int p3), .val (.int p4), .val (.int p5), .val (.int p6), .val (.int p7), .val (.int p8), .val (.int p9), .val (.int p10), .val (.int p11), .val (.int p12), .val (.int p13), .val (.ref w14), .val (.ref w17), .val (.ref w19), .val (.int 1), .val (.int y2), .unset]) at_309 rfl rfl ?_
  refine own_iconst (pc' := 312) B X1 (z := (-1 : Int32)) at_311 rfl rfl ?_
  refine own_istore (pc' := 314) B X1 (Ls' := #[.val (.int p0), .val (.int p1), .val (.int p2), .val (.int p3), .val (.int p4), .val (.int p5), .val (.int p6), .val (.int p7), .val (.int p8), .val (.int p9), .val (.int p10), .val (.int p11), .val (.int p12), .val (.int p13), .val (.ref w14), .val (.ref w17), .val (.ref w19), .val (.int 1), .val (.int y2), .val (.int (-1))]) at_312 rfl rfl ?_
  refine own_aload (pc' := 316) B X1 at_314 rfl rfl rfl ?_
  refine own_aload (pc' := 318) B X1 at_316 rfl rfl rfl ?_
  refine own_iload (pc' := 320) B X1 at_318 rfl rfl ?_
  refine own_iconst (pc' := 321) B X1 (z := (2 : Int32)) at_320 rfl rfl ?_
  refine own_iload (pc' := 323) B X1 at_321 rfl rfl ?_
  refine own_iload (pc' := 325) B X1 at_323 rfl rfl ?_
  refine own_iload (pc' := 327) B X1 at_325 rfl rfl ?_
  refine own_callS (pc' := 330) B X1 (own_w hw 74 rfl) (own_w hw 75 rfl) (own_w hw 76 rfl) (own_w hw 77 rfl) (by decide) [(.ref w17), (.ref w19), (.int 1), (.int 2), (.int p4), (.int p5), (.int p6)] [] (rm_69 l Z a0 hw [] w17 kw17 (p8) w19 kw19 (p9) (p4) (p5) (p6) h n0 (Nat.le_trans Z0 K.1) V_w17 g_w17 V_w19 g_w19 ne_w17_w19) 0 (by decide) (by decide) rfl pd_19 rfl rfl (Nat.le_of_eq rfl) at_327 rfl (k' := 40) (n' := 256) rfl rfl (by decide) (by decide) ?_
  intro T4 v4 h4 X4 q4
  obtain ⟨y5, hy6, rfl, rfl⟩ := q4
  show own_Go p e below (T4.setTop (mkF m 330 #[.val (.int p0), .val (.int p1), .val (.int p2), .val (.int p3), .val (.int p4), .val (.int p5), .val (.int p6), .val (.int p7), .val (.int p8), .val (.int p9), .val (.int p10), .val (.int p11), .val (.int p12), .val (.int p13), .val (.ref w14), .val (.ref w17), .val (.ref w19), .val (.int 1), .val (.int y2), .val (.int (-1))] [(.int y5)])) _
  have c7 : y5 = (0 : Int32) := by
    exact own_hit0_4 hy6
  refine own_ifYes (pc' := 336) B X4 at_330 ((if0 _ _).trans (teq c7).1) (by decide) rfl ?_
  refine own_aload (pc' := 338) B X4 at_336 rfl rfl rfl ?_
  refine own_aload (pc' := 340) B X4 at_338 rfl rfl rfl ?_
  refine own_iload (pc' := 342) B X4 at_340 rfl rfl ?_
  refine own_iconst (pc' := 343) B X4 (z := (1 : Int32)) at_342 rfl rfl ?_
  refine own_iload (pc' := 345) B X4 at_343 rfl rfl ?_
  refine own_iload (pc' := 347) B X4 at_345 rfl rfl ?_
  refine own_iload (pc' := 349) B X4 at_347 rfl rfl ?_
  refine own_callS (pc' := 352) B X4 (own_w hw 74 rfl) (own_w hw 75 rfl) (own_w hw 76 rfl) (own_w hw 77 rfl) (by decide) [(.ref w17), (.ref w19), (.int 1), (.int 1), (.int p4), (.int p5), (.int p6)] [] (rm_70 l Z a0 hw [] w17 kw17 (p8) w19 kw19 (p9) (p4) (p5) (p6) h n0 (Nat.le_trans Z0 K.1) V_w17 g_w17 V_w19 g_w19 ne_w17_w19) 0 (by decide) (by decide) rfl pd_19 rfl rfl (Nat.le_of_eq rfl) at_349 rfl (k' := 40) (n' := 256) rfl rfl (by decide) (by decide) ?_
  intro T8 v8 h8 X8 q8
  obtain ⟨y9, hy10, rfl, rfl⟩ := q8
  show own_Go p e below (T8.setTop (mkF m 352 #[.val (.int p0), .val (.int p1), .val (.int p2), .val (.int p3), .val (.int p4), .val (.int p5), .val (.int p6), .val (.int p7), .val (.int p8), .val (.int p9), .val (.int p10), .val (.int p11), .val (.int p12), .val (.int p13), .val (.ref w14), .val (.ref w17), .val (.ref w19), .val (.int 1), .val (.int y2), .val (.int (-1))] [(.int y9)])) _
  have c11 : y9 = (0 : Int32) := by
    exact own_hit0_5 hy10
  refine own_ifYes (pc' := 358) B X8 at_352 ((if0 _ _).trans (teq c11).1) (by decide) rfl ?_
  refine own_aload (pc' := 360) B X8 at_358 rfl rfl rfl ?_
  refine own_aload (pc' := 362) B X8 at_360 rfl rfl rfl ?_
  refine own_iload (pc' := 364) B X8 at_362 rfl rfl ?_
  refine own_iconst (pc' := 365) B X8 (z := (0 : Int32)) at_364 rfl rfl ?_
  refine own_iload (pc' := 367) B X8 at_365 rfl rfl ?_
  refine own_iload (pc' := 369) B X8 at_367 rfl rfl ?_
  refine own_iload (pc' := 371) B X8 at_369 rfl rfl ?_
  refine own_callS (pc' := 374) B X8 (own_w hw 74 rfl) (own_w hw 75 rfl) (own_w hw 76 rfl) (own_w hw 77 rfl) (by decide) [(.ref w17), (.ref w19), (.int 1), (.int 0), (.int p4), (.int p5), (.int p6)] [] (rm_71 l Z a0 hw [] w17 kw17 (p8) w19 kw19 (p9) (p4) (p5) (p6) h n0 (Nat.le_trans Z0 K.1) V_w17 g_w17 V_w19 g_w19 ne_w17_w19) 0 (by decide) (by decide) rfl pd_19 rfl rfl (Nat.le_of_eq rfl) at_371 rfl (k' := 40) (n' := 256) rfl rfl (by decide) (by decide) ?_
  intro T12 v12 h12 X12 q12
  obtain ⟨y13, hy14, rfl, rfl⟩ := q12
  show own_Go p e below (T12.setTop (mkF m 374 #[.val (.int p0), .val (.int p1), .val (.int p2), .val (.int p3), .val (.int p4), .val (.int p5), .val (.int p6), .val (.int p7), .val (.int p8), .val (.int p9), .val (.int p10), .val (.int p11), .val (.int p12), .val (.int p13), .val (.ref w14), .val (.ref w17), .val (.ref w19), .val (.int 1), .val (.int y2), .val (.int (-1))] [(.int y13)])) _
  by_cases c15 : y13 = (0 : Int32)
  refine own_ifYes (pc' := 380) B X12 at_374 ((if0 _ _).trans (teq c15).1) (by decide) rfl ?_
  refine own_iload (pc' := 382) B X12 at_380 rfl rfl ?_
  refine own_ifNo (pc' := 385) B X12 at_382 ((if0 _ _).trans (tlt (by decide : (-1 : Int32) < (0 : Int32))).2.1) rfl ?_
  refine own_iload (pc' := 387) B X12 at_385 rfl rfl ?_
  have c16 : y2 < (0 : Int32) := by
    have u := (own_tail1 p8 p9 p4 p5 p6 (own_bit hp0) (own_oct hp1)).symm.trans hy3
    rw [hy14, if_pos c15] at u
    rw [← u]; decide
  refine own_ifNo (pc' := 390) B X12 at_387 ((if0 _ _).trans (tlt c16).2.1) rfl ?_
  refine own_iconst (pc' := 391) B X12 (z := (1 : Int32)) at_390 rfl rfl ?_
  refine own_goto (pc' := 410) B X12 at_391 (by decide) rfl ?_
  exact own_retN B X12 (t := .boolean) (z' := (1 : Int32)) (by simp) (by decide) at_410 (by decide) (by decide) rfl
  refine own_ifNo (pc' := 377) B X12 at_374 ((if0 _ _).trans (feq c15).1) rfl ?_
  refine own_iconst (pc' := 378) B X12 (z := (0 : Int32)) at_377 rfl rfl ?_
  refine own_istore (pc' := 380) B X12 (Ls' := #[.val (.int p0), .val (.int p1), .val (.int p2), .val (.int p3), .val (.int p4), .val (.int p5), .val (.int p6), .val (.int p7), .val (.int p8), .val (.int p9), .val (.int p10), .val (.int p11), .val (.int p12), .val (.int p13), .val (.ref w14), .val (.ref w17), .val (.ref w19), .val (.int 1), .val (.int y2), .val (.int 0)]) at_378 rfl rfl ?_
  refine own_iload (pc' := 382) B X12 at_380 rfl rfl ?_
  refine own_ifYes (pc' := 398) B X12 at_382 ((if0 _ _).trans (flt (by decide : ¬ ((0 : Int32) < (0 : Int32)))).2.1) (by decide) rfl ?_
  refine own_iload (pc' := 400) B X12 at_398 rfl rfl ?_
  refine own_iload (pc' := 402) B X12 at_400 rfl rfl ?_
  have c17 : y2 = (0 : Int32) := by
    have u := (own_tail1 p8 p9 p4 p5 p6 (own_bit hp0) (own_oct hp1)).symm.trans hy3
    rw [hy14, if_neg c15] at u
    exact u.symm
  refine own_icmpNo (pc' := 405) B X12 at_402 (teq c17).2 rfl ?_
  refine own_iconst (pc' := 406) B X12 (z := (1 : Int32)) at_405 rfl rfl ?_
  refine own_goto (pc' := 410) B X12 at_406 (by decide) rfl ?_
  exact own_retN B X12 (t := .boolean) (z' := (1 : Int32)) (by simp) (by decide) at_410 (by decide) (by decide) rfl
def Q_72 (Z : State) (w0 w1 : Addr) (kw1 : ClassId) (p3 p4 p5 p6 p7 : Int32) (h0 : Heap) (n0 : Nat) (v : Option Value) (h : Heap) : Prop :=
  (∃ (y4 : Int32) (y5 : Int32), p5 * (2 : Int32) = y4 ∧ y4 + p3 = y5 ∧ ¬ (y5 < (0 : Int32)) ∧ v = some (.int (-1)) ∧ h0 = h)
theorem rm_72 (l : Launch) (Z : State) (a0 : Array Value) (hw : ∀ d ∈ tables_1, d.before a0 Z = true) (ws : List Jvm.Cond) (w0 w1 : Addr) (kw1 : ClassId) (p3 p4 p5 p6 p7 : Int32) (h0 : Heap) (n0 : Nat) (Z0 : n0 ≤ h0.size) (E_w0 : Exa Z h0 w0 oC2) (F_w0_arity : Fld Z h0 w0 oC2 "arity" "I" (.int 2)) (F_w0_rows : Fld Z h0 w0 oC2 "rows" "[I" (.ref w1)) (F_w0_size : Fld Z h0 w0 oC2 "size" "I" (.int 0)) (g_w0 : n0 ≤ w0) (V_w1 : Arv Z h0 w1 kw1 .int (16 : Int32) [] (.int 0)) (g_w1 : n0 ≤ w1) (ne_w0_w1 : w0 ≠ w1) (hp0 : p6 &&& (1 : Int32) = p3) (hp1 : p7 &&& (7 : Int32) = p5) :
    own_M l Z (⟨"com/example/ordal/ordal/Relation", "find", "(III)I"⟩ : MethodName) prog_12_method_12_code 8 (some .int) ws ({ frames := 0, cells := 0, slots := 0, locals := 0 } : Room) #[(.ref w0), (.int p3), (.int p4), (.int p5)] h0 n0 (Q_72 Z w0 w1 kw1 p3 p4 p5 p6 p7 h0 n0) := by
  refine own_enter' (Q := Q_72 Z w0 w1 kw1 p3 p4 p5 p6 p7 h0 n0) (F := fun m => mkF m 0 #[.val (.ref w0), .val (.int p3), .val (.int p4), .val (.int p5), .unset, .unset, .unset, .unset] []) (plainFor_of_name pn_2) ?_
  intro p e s m below meth c s₁ B X0
  have K : Keep h0 h0 [] := Keep.refl h0 _
  have lt_w0 := E_w0.lt
  have lt_w1 := V_w1.lt
  refine own_aloadN (pc' := 1) B X0 d8_0 rfl rfl rfl ?_
  refine own_getfield (pc' := 4) B X0 (host := "") (Or.inl (own_w hw 32 rfl)) Via.refl F_w0_rows d8_1 rfl ?_
  intro T1 X1
  refine own_astore (pc' := 6) B X1 (Ls' := #[.val (.ref w0), .val (.int p3), .val (.int p4), .val (.int p5), .val (.ref w1), .unset, .unset, .unset]) d8_4 rfl rfl rfl ?_
  refine own_aloadN (pc' := 7) B X1 d8_6 rfl rfl rfl ?_
  refine own_getfield (pc' := 10) B X1 (host := "") (Or.inl (own_w hw 29 rfl)) Via.refl F_w0_arity d8_7 rfl ?_
  intro T2 X2
  refine own_istore (pc' := 12) B X2 (Ls' := #[.val (.ref w0), .val (.int p3), .val (.int p4), .val (.int p5), .val (.ref w1), .val (.int 2), .unset, .unset]) d8_10 rfl rfl ?_
  refine own_aloadN (pc' := 13) B X2 d8_12 rfl rfl rfl ?_
  refine own_getfield (pc' := 16) B X2 (host := "") (Or.inl (own_w hw 72 rfl)) Via.refl F_w0_size d8_13 rfl ?_
  intro T3 X3
  refine own_iload (pc' := 18) B X3 d8_16 rfl rfl ?_
  refine own_imul (pc' := 19) B X3 (z := (0 : Int32)) d8_18 rfl (by decide) ?_
  refine own_istore (pc' := 21) B X3 (Ls' := #[.val (.ref w0), .val (.int p3), .val (.int p4), .val (.int p5), .val (.ref w1), .val (.int 2), .val (.int 0), .unset]) d8_19 rfl rfl ?_
  refine own_iloadN (pc' := 22) B X3 d8_21 rfl rfl ?_
  refine own_iload (pc' := 24) B X3 d8_22 rfl rfl ?_
  obtain ⟨y4, hy4⟩ : ∃ z : Int32, p5 * (2 : Int32) = z := ⟨_, rfl⟩
  refine own_imul (pc' := 25) B X3 d8_24 rfl hy4 ?_
  refine own_iloadN (pc' := 26) B X3 d8_25 rfl rfl ?_
  obtain ⟨y5, hy5⟩ : ∃ z : Int32, y4 + p3 = z := ⟨_, rfl⟩
  refine own_iadd (pc' := 27) B X3 d8_26 rfl hy5 ?_
  refine own_istore (pc' := 29) B X3 (Ls' := #[.val (.ref w0), .val (.int p3), .val (.int p4), .val (.int p5), .val (.ref w1), .val (.int 2), .val (.int 0), .val (.int y5)]) d8_27 rfl rfl ?_
  refine own_iload (pc' := 31) B X3 d8_29 rfl rfl ?_
  refine own_iload (pc' := 33) B X3 d8_31 rfl rfl ?_
  have c6 : ¬ (y5 < (0 : Int32)) := by
    have o0 := own_o_mask hp0 1 (by decide) (by decide)
    have o1 := own_o_mask hp1 3 (by decide) (by decide)
    have o2 := own_o_imulR hy4 2 (by decide)
    have o3 := own_o_iadd hy5
    have o4 := rng32 p3
    have o5 := rng32 p5
    have o6 := rng32 y4
    have o7 := rng32 y5
    have o8 : (1 : Int32).toInt = 1 := by decide
    have o9 : (7 : Int32).toInt = 7 := by decide
    have o10 : (2 : Int32).toInt = 2 := by decide
    have o11 : (0 : Int32).toInt = 0 := by decide
    refine own_nltI ?_
    omega
  refine own_icmpYes (pc' := 61) B X3 d8_33 (flt c6).2.1 (by decide) rfl ?_
  refine own_iconst (pc' := 62) B X3 (z := (-1 : Int32)) d8_61 rfl rfl ?_
  exact own_retI B X3 d8_62 (by decide) (by decide) (⟨y4, y5, hy4, hy5, c6, rfl, rfl⟩)
def Q_73 (Z : State) (w0 : Addr) (kw0 : ClassId) (w2 : Addr) (kw2 : ClassId) (p4 p5 p6 : Int32) (h0 : Heap) (n0 : Nat) (v : Option Value) (h : Heap) : Prop :=
  (∃ (yF : Int32), own_F_hit_4 p6 = yF ∧ v = some (.int yF) ∧ h0 = h)
theorem rm_73 (l : Launch) (Z : State) (a0 : Array Value) (hw : ∀ d ∈ tables_1, d.before a0 Z = true) (ws : List Jvm.Cond) (w0 : Addr) (kw0 : ClassId) (w2 : Addr) (kw2 : ClassId) (p4 p5 p6 : Int32) (h0 : Heap) (n0 : Nat) (Z0 : n0 ≤ h0.size) (V_w0 : Arv Z h0 w0 kw0 .int (3 : Int32) [] (.int 0)) (g_w0 : n0 ≤ w0) (V_w2 : Arv Z h0 w2 kw2 .int (3 : Int32) [] (.int 0)) (g_w2 : n0 ≤ w2) (ne_w0_w2 : w0 ≠ w2) :
    own_M l Z (⟨"com/example/ordal/ordal/RelationFindPinLaw", "hit", "([I[IIIIII)Z"⟩ : MethodName) method_4_code 8 (some .boolean) ws ({ frames := 0, cells := 0, slots := 0, locals := 0 } : Room) #[(.ref w0), (.ref w2), (.int 0), (.int 2), (.int p4), (.int p5), (.int p6)] h0 n0 (Q_73 Z w0 kw0 w2 kw2 p4 p5 p6 h0 n0) := by
  refine own_enter' (Q := Q_73 Z w0 kw0 w2 kw2 p4 p5 p6 h0 n0) (F := fun m => mkF m 0 #[.val (.ref w0), .val (.ref w2), .val (.int 0), .val (.int 2), .val (.int p4), .val (.int p5), .val (.int p6), .unset] []) (plainFor_of_name pn_5) ?_
  intro p e s m below meth c s₁ B X0
  have K : Keep h0 h0 [] := Keep.refl h0 _
  have lt_w0 := V_w0.lt
  have lt_w2 := V_w2.lt
  refine own_iloadN (pc' := 1) B X0 d9_0 rfl rfl ?_
  refine own_iload (pc' := 3) B X0 d9_1 rfl rfl ?_
  by_cases c1 : (2 : Int32) < p6
  refine own_icmpYes (pc' := 11) B X0 d9_3 (tlt c1).1 (by decide) rfl ?_
  refine own_iconst (pc' := 12) B X0 (z := (0 : Int32)) d9_11 rfl rfl ?_
  exact own_retN B X0 (t := .boolean) (z' := (0 : Int32)) (by simp) (by decide) d9_12 (by decide) (by decide) ⟨(0 : Int32), (by rw [own_F_hit_4, if_pos c1]), rfl, rfl⟩
  refine own_icmpNo (pc' := 6) B X0 d9_3 (flt c1).1 rfl ?_
  refine own_iloadN (pc' := 7) B X0 d9_6 rfl rfl ?_
  refine own_iloadN (pc' := 8) B X0 d9_7 rfl rfl ?_
  refine own_icmpNo (pc' := 11) B X0 d9_8 (flt (by decide : ¬ ((2 : Int32) < (0 : Int32)))).1 rfl ?_
  refine own_iconst (pc' := 12) B X0 (z := (0 : Int32)) d9_11 rfl rfl ?_
  exact own_retN B X0 (t := .boolean) (z' := (0 : Int32)) (by simp) (by decide) d9_12 (by decide) (by decide) ⟨(0 : Int32), (by rw [own_F_hit_4, if_neg c1]), rfl, rfl⟩
def Q_74 (Z : State) (w0 : Addr) (kw0 : ClassId) (w2 : Addr) (kw2 : ClassId) (p4 p5 p6 : Int32) (h0 : Heap) (n0 : Nat) (v : Option Value) (h : Heap) : Prop :=
  (∃ (yF : Int32), own_F_hit_5 p6 = yF ∧ v = some (.int yF) ∧ h0 = h)
theorem rm_74 (l : Launch) (Z : State) (a0 : Array Value) (hw : ∀ d ∈ tables_1, d.before a0 Z = true) (ws : List Jvm.Cond) (w0 : Addr) (kw0 : ClassId) (w2 : Addr) (kw2 : ClassId) (p4 p5 p6 : Int32) (h0 : Heap) (n0 : Nat) (Z0 : n0 ≤ h0.size) (V_w0 : Arv Z h0 w0 kw0 .int (3 : Int32) [] (.int 0)) (g_w0 : n0 ≤ w0) (V_w2 : Arv Z h0 w2 kw2 .int (3 : Int32) [] (.int 0)) (g_w2 : n0 ≤ w2) (ne_w0_w2 : w0 ≠ w2) :
    own_M l Z (⟨"com/example/ordal/ordal/RelationFindPinLaw", "hit", "([I[IIIIII)Z"⟩ : MethodName) method_4_code 8 (some .boolean) ws ({ frames := 0, cells := 0, slots := 0, locals := 0 } : Room) #[(.ref w0), (.ref w2), (.int 0), (.int 1), (.int p4), (.int p5), (.int p6)] h0 n0 (Q_74 Z w0 kw0 w2 kw2 p4 p5 p6 h0 n0) := by
  refine own_enter' (Q := Q_74 Z w0 kw0 w2 kw2 p4 p5 p6 h0 n0) (F := fun m => mkF m 0 #[.val (.ref w0), .val (.ref w2), .val (.int 0), .val (.int 1), .val (.int p4), .val (.int p5), .val (.int p6), .unset] []) (plainFor_of_name pn_5) ?_
  intro p e s m below meth c s₁ B X0
  have K : Keep h0 h0 [] := Keep.refl h0 _
  have lt_w0 := V_w0.lt
  have lt_w2 := V_w2.lt
  refine own_iloadN (pc' := 1) B X0 d9_0 rfl rfl ?_
  refine own_iload (pc' := 3) B X0 d9_1 rfl rfl ?_
  by_cases c1 : (1 : Int32) < p6
  refine own_icmpYes (pc' := 11) B X0 d9_3 (tlt c1).1 (by decide) rfl ?_
  refine own_iconst (pc' := 12) B X0 (z := (0 : Int32)) d9_11 rfl rfl ?_
  exact own_retN B X0 (t := .boolean) (z' := (0 : Int32)) (by simp) (by decide) d9_12 (by decide) (by decide) ⟨(0 : Int32), (by rw [own_F_hit_5, if_pos c1]), rfl, rfl⟩
  refine own_icmpNo (pc' := 6) B X0 d9_3 (flt c1).1 rfl ?_
  refine own_iloadN (pc' := 7) B X0 d9_6 rfl rfl ?_
  refine own_iloadN (pc' := 8) B X0 d9_7 rfl rfl ?_
  refine own_icmpNo (pc' := 11) B X0 d9_8 (flt (by decide : ¬ ((1 : Int32) < (0 : Int32)))).1 rfl ?_
  refine own_iconst (pc' := 12) B X0 (z := (0 : Int32)) d9_11 rfl rfl ?_
  exact own_retN B X0 (t := .boolean) (z' := (0 : Int32)) (by simp) (by decide) d9_12 (by decide) (by decide) ⟨(0 : Int32), (by rw [own_F_hit_5, if_neg c1]), rfl, rfl⟩
theorem b_own_F_hit_6 {a0 z : Int32} (h : own_F_hit_6 a0 = z) : z &&& (1 : Int32) = z := by subst h; unfold own_F_hit_6; (repeat' split) <;> decide
def Q_75 (Z : State) (w0 : Addr) (kw0 : ClassId) (w2 : Addr) (kw2 : ClassId) (p4 p5 p6 : Int32) (h0 : Heap) (n0 : Nat) (v : Option Value) (h : Heap) : Prop :=
  (∃ (yF : Int32), own_F_hit_6 p6 = yF ∧ v = some (.int yF) ∧ h0 = h)
theorem rm_75 (l : Launch) (Z : State) (a0 : Array Value) (hw : ∀ d ∈ tables_1, d.before a0 Z = true) (ws : List Jvm.Cond) (w0 : Addr) (kw0 : ClassId) (w2 : Addr) (kw2 : ClassId) (p4 p5 p6 : Int32) (h0 : Heap) (n0 : Nat) (Z0 : n0 ≤ h0.size) (V_w0 : Arv Z h0 w0 kw0 .int (3 : Int32) [] (.int 0)) (g_w0 : n0 ≤ w0) (V_w2 : Arv Z h0 w2 kw2 .int (3 : Int32) [] (.int 0)) (g_w2 : n0 ≤ w2) (ne_w0_w2 : w0 ≠ w2) :
    own_M l Z (⟨"com/example/ordal/ordal/RelationFindPinLaw", "hit", "([I[IIIIII)Z"⟩ : MethodName) method_4_code 8 (some .boolean) ws ({ frames := 0, cells := 0, slots := 0, locals := 0 } : Room) #[(.ref w0), (.ref w2), (.int 0), (.int 0), (.int p4), (.int p5), (.int p6)] h0 n0 (Q_75 Z w0 kw0 w2 kw2 p4 p5 p6 h0 n0) := by
  refine own_enter' (Q := Q_75 Z w0 kw0 w2 kw2 p4 p5 p6 h0 n0) (F := fun m => mkF m 0 #[.val (.ref w0), .val (.ref w2), .val (.int 0), .val (.int 0), .val (.int p4), .val (.int p5), .val (.int p6), .unset] []) (plainFor_of_name pn_5) ?_
  intro p e s m below meth c s₁ B X0
  have K : Keep h0 h0 [] := Keep.refl h0 _
  have lt_w0 := V_w0.lt
  have lt_w2 := V_w2.lt
  refine own_iloadN (pc' := 1) B X0 d9_0 rfl rfl ?_
  refine own_iload (pc' := 3) B X0 d9_1 rfl rfl ?_
  by_cases c1 : (0 : Int32) < p6
  refine own_icmpYes (pc' := 11) B X0 d9_3 (tlt c1).1 (by decide) rfl ?_
  refine own_iconst (pc' := 12) B X0 (z := (0 : Int32)) d9_11 rfl rfl ?_
  exact own_retN B X0 (t := .boolean) (z' := (0 : Int32)) (by simp) (by decide) d9_12 (by decide) (by decide) ⟨(0 : Int32), (by rw [own_F_hit_6, if_pos c1]), rfl, rfl⟩
  refine own_icmpNo (pc' := 6) B X0 d9_3 (flt c1).1 rfl ?_
  refine own_iloadN (pc' := 7) B X0 d9_6 rfl rfl ?_
  refine own_iloadN (pc' := 8) B X0 d9_7 rfl rfl ?_
  refine own_icmpNo (pc' := 11) B X0 d9_8 (flt (by decide : ¬ ((0 : Int32) < (0 : Int32)))).1 rfl ?_
  refine own_iconst (pc' := 12) B X0 (z := (0 : Int32)) d9_11 rfl rfl ?_
  exact own_retN B X0 (t := .boolean) (z' := (0 : Int32)) (by simp) (by decide) d9_12 (by decide) (by decide) ⟨(0 : Int32), (by rw [own_F_hit_6, if_neg c1]), rfl, rfl⟩
theorem tl_4 (l : Launch) (Z : State) (a0 : Array Value) (hw : ∀ d ∈ tables_1, d.before a0 Z = true) (i0 i1 i2 i3 : Int32) (p0 p1 p2 p3 p4 p5 p6 p7 p8 p9 p10 p11 p12 p13 : Int32) (w14 w15 : Addr) (kw15 : ClassId) (w17 : Addr) (kw17 : ClassId) (w19 : Addr) (kw19 : ClassId) (p21 p22 : Int32) (h0 h : Heap) (n0 : Nat) (Z0 : n0 ≤ h0.size) (E_w14 : Exa Z h w14 oC2) (F_w14_arity : Fld Z h w14 oC2 "arity" "I" (.int 2)) (F_w14_rows : Fld Z h w14 oC2 "rows" "[I" (.ref w15)) (F_w14_size : Fld Z h w14 oC2 "size" "I" (.int 0)) (g_w14 : n0 ≤ w14) (V_w15 : Arv Z h w15 kw15 .int (16 : Int32) [] (.int 0)) (g_w15 : n0 ≤ w15) (V_w17 : Arv Z h w17 kw17 .int (3 : Int32) [] (.int 0)) (g_w17 : n0 ≤ w17) (V_w19 : Arv Z h w19 kw19 .int (3 : Int32) [] (.int 0)) (g_w19 : n0 ≤ w19) (ne_w14_w15 : w14 ≠ w15) (ne_w14_w17 : w14 ≠ w17) (ne_w14_w19 : w14 ≠ w19) (ne_w15_w17 : w15 ≠ w17) (ne_w15_w19 : w15 ≠ w19) (ne_w17_w19 : w17 ≠ w19) (hp0 : p2 &&& (1 : Int32) = p4) (hp1 : p21 &&& (7 : Int32) = p6) (hp2 : p22 &&& (3 : Int32) = p7) {p : Program} {e : Env} {s : State} {m : MethodId} {args : Array Value} {below : List Frame} {meth : Method} {c : Code} {T0 : State} (K : Keep h0 h []) (B : own_B p s m meth c Z x.cls x.name code maxLocals ret) (X0 : own_S p l e room_1 s m args below meth c n0 T0 h 40 256) :
    own_Go p e below (T0.setTop (mkF m 298 #[.val (.int p0), .val (.int p1), .val (.int p2), .val (.int p3), .val (.int p4), .val (.int p5), .val (.int p6), .val (.int p7), .val (.int p8), .val (.int p9), .val (.int p10), .val (.int p11), .val (.int p12), .val (.int p13), .val (.ref w14), .val (.ref w17), .val (.ref w19), .val (.int 0), .unset, .unset] [])) (own_P s below n0 (Q_0 Z i0 i1 i2 i3 h0 n0) room_1.cells room_1.slots) := by
  refine own_aload (pc' := 300) B X0 at_298 rfl rfl rfl ?_
  refine own_iload (pc' := 302) B X0 at_300 rfl rfl ?_
  refine own_iload (pc' := 304) B X0 at_302 rfl rfl ?_
  refine own_iload (pc' := 306) B X0 at_304 rfl rfl ?_
  refine own_callV (pc' := 309) B X0 (own_w hw 67 rfl) (own_w hw 68 rfl) (own_w hw 70 rfl) (own_w hw 69 rfl) (own_w hw 2 rfl) (own_w hw 71 rfl) E_w14 (by decide) [(.int p4), (.int p5), (.int p6)] [] (rm_72 l Z a0 hw [] w14 w15 kw15 (p4) (p5) (p6) (p2) (p21) h n0 (Nat.le_trans Z0 K.1) E_w14 F_w14_arity F_w14_rows F_w14_size g_w14 V_w15 g_w15 ne_w14_w15 hp0 hp1) 0 (by decide) (by decide) rfl pd_18 rfl rfl (Nat.le_of_eq rfl) at_306 rfl (k' := 40) (n' := 256) rfl rfl (by decide) (by decide) ?_
  intro T1 v1 h1 X1 q1
  obtain ⟨y2, y3, hy4, hy5, c6, rfl, rfl⟩ := q1
  show own_Go p e below (T1.setTop (mkF m 309 #[.val (.int p0), .val (.int p1), .val (.int p2), .val (.int p3), .val (.int p4), .val (.int p5), .val (.int p6), .val (.int p7), .val (.int p8), .val (.int p9), .val (.int p10), .val (.int p11), .val (.int p12), .val (.int p13), .val (.ref w14), .val (.ref w17), .val (.ref w19), .val (.int 0), .unset, .unset] [(.int (-1))])) _
  refine own_istore (pc' := 311) B X1 (Ls' := #[.val (.int p0), .val (.int p1), .val (.int p2), .val (.int p3), .val (.int p4), .val (.int p5), .val (.int p6), .val (.int p7), .val (.int p8), .val (.int p9), .val (.int p10), .val (.int p11), .val (.int p12), .val (.int p13), .val (.ref w14), .val (.ref w17), .val (.ref w19), .val (.int 0), .val (.int (-1)), .unset]) at_309 rfl rfl ?_
  refine own_iconst (pc' := 312) B X1 (z := (-1 : Int32)) at_311 rfl rfl ?_
  refine own_istore (pc' := 314) B X1 (Ls' := #[.val (.int p0), .val (.int p1), .val (.int p2), .val (.int p3), .val (.int p4), .val (.int p5), .val (.int p6), .val (.int p7), .val (.int p8), .val (.int p9), .val (.int p10), .val (.int p11), .val (.int p12), .val (.int p13), .val (.ref w14), .val (.ref w17), .val (.ref w19), .val (.int 0), .val (.int (-1)), .val (.int (-1))]) at_312 rfl rfl ?_
  refine own_aload (pc' := 316) B X1 at_314 rfl rfl rfl ?_
  refine own_aload (pc' := 318) B X1 at_316 rfl rfl rfl ?_
  refine own_iload (pc' := 320) B X1 at_318 rfl rfl ?_
  refine own_iconst (pc' := 321) B X1 (z := (2 : Int32)) at_320 rfl rfl ?_
  refine own_iload (pc' := 323) B X1 at_321 rfl rfl ?_
  refine own_iload (pc' := 325) B X1 at_323 rfl rfl ?_
  refine own_iload (pc' := 327) B X1 at_325 rfl rfl ?_
  refine own_callS (pc' := 330) B X1 (own_w hw 74 rfl) (own_w hw 75 rfl) (own_w hw 76 rfl) (own_w hw 77 rfl) (by decide) [(.ref w17), (.ref w19), (.int 0), (.int 2), (.int p4), (.int p5), (.int p6)] [] (rm_73 l Z a0 hw [] w17 kw17 w19 kw19 (p4) (p5) (p6) h n0 (Nat.le_trans Z0 K.1) V_w17 g_w17 V_w19 g_w19 ne_w17_w19) 0 (by decide) (by decide) rfl pd_19 rfl rfl (Nat.le_of_eq rfl) at_327 rfl (k' := 40) (n' := 256) rfl rfl (by decide) (by decide) ?_
  intro T7 v7 h7 X7 q7
  obtain ⟨y8, hy9, rfl, rfl⟩ := q7
  show own_Go p e below (T7.setTop (mkF m 330 #[.val (.int p0), .val (.int p1), .val (.int p2), .val (.int p3), .val (.int p4), .val (.int p5), .val (.int p6), .val (.int p7), .val (.int p8), .val (.int p9), .val (.int p10), .val (.int p11), .val (.int p12), .val (.int p13), .val (.ref w14), .val (.ref w17), .val (.ref w19), .val (.int 0), .val (.int (-1)), .val (.int (-1))] [(.int y8)])) _
  have c10 : y8 = (0 : Int32) := by
    exact own_hit0_4 hy9
  refine own_ifYes (pc' := 336) B X7 at_330 ((if0 _ _).trans (teq c10).1) (by decide) rfl ?_
  refine own_aload (pc' := 338) B X7 at_336 rfl rfl rfl ?_
  refine own_aload (pc' := 340) B X7 at_338 rfl rfl rfl ?_
  refine own_iload (pc' := 342) B X7 at_340 rfl rfl ?_
  refine own_iconst (pc' := 343) B X7 (z := (1 : Int32)) at_342 rfl rfl ?_
  refine own_iload (pc' := 345) B X7 at_343 rfl rfl ?_
  refine own_iload (pc' := 347) B X7 at_345 rfl rfl ?_
  refine own_iload (pc' := 349) B X7 at_347 rfl rfl ?_
  refine own_callS (pc' := 352) B X7 (own_w hw 74 rfl) (own_w hw 75 rfl) (own_w hw 76 rfl) (own_w hw 77 rfl) (by decide) [(.ref w17), (.ref w19), (.int 0), (.int 1), (.int p4), (.int p5), (.int p6)] [] (rm_74 l Z a0 hw [] w17 kw17 w19 kw19 (p4) (p5) (p6) h n0 (Nat.le_trans Z0 K.1) V_w17 g_w17 V_w19 g_w19 ne_w17_w19) 0 (by decide) (by decide) rfl pd_19 rfl rfl (Nat.le_of_eq rfl) at_349 rfl (k' := 40) (n' := 256) rfl rfl (by decide) (by decide) ?_
  intro T11 v11 h11 X11 q11
  obtain ⟨y12, hy13, rfl, rfl⟩ := q11
  show own_Go p e below (T11.setTop (mkF m 352 #[.val (.int p0), .val (.int p1), .val (.int p2), .val (.int p3), .val (.int p4), .val (.int p5), .val (.int p6), .val (.int p7), .val (.int p8), .val (.int p9), .val (.int p10), .val (.int p11), .val (.int p12), .val (.int p13), .val (.ref w14), .val (.ref w17), .val (.ref w19), .val (.int 0), .val (.int (-1)), .val (.int (-1))] [(.int y12)])) _
  have c14 : y12 = (0 : Int32) := by
    exact own_hit0_5 hy13
  refine own_ifYes (pc' := 358) B X11 at_352 ((if0 _ _).trans (teq c14).1) (by decide) rfl ?_
  refine own_aload (pc' := 360) B X11 at_358 rfl rfl rfl ?_
  refine own_aload (pc' := 362) B X11 at_360 rfl rfl rfl ?_
  refine own_iload (pc' := 364) B X11 at_362 rfl rfl ?_
  refine own_iconst (pc' := 365) B X11 (z := (0 : Int32)) at_364 rfl rfl ?_
  refine own_iload (pc' := 367) B X11 at_365 rfl rfl ?_
  refine own_iload (pc' := 369) B X11 at_367 rfl rfl ?_
  refine own_iload (pc' := 371) B X11 at_369 rfl rfl ?_
  refine own_callS (pc' := 374) B X11 (own_w hw 74 rfl) (own_w hw 75 rfl) (own_w hw 76 rfl) (own_w hw 77 rfl) (by decide) [(.ref w17), (.ref w19), (.int 0), (.int 0), (.int p4), (.int p5), (.int p6)] [] (rm_75 l Z a0 hw [] w17 kw17 w19 kw19 (p4) (p5) (p6) h n0 (Nat.le_trans Z0 K.1) V_w17 g_w17 V_w19 g_w19 ne_w17_w19) 0 (by decide) (by decide) rfl pd_19 rfl rfl (Nat.le_of_eq rfl) at_371 rfl (k' := 40) (n' := 256) rfl rfl (by decide) (by decide) ?_
  intro T15 v15 h15 X15 q15
  obtain ⟨y16, hy17, rfl, rfl⟩ := q15
  show own_Go p e below (T15.setTop (mkF m 374 #[.val (.int p0), .val (.int p1), .val (.int p2), .val (.int p3), .val (.int p4), .val (.int p5), .val (.int p6), .val (.int p7), .val (.int p8), .val (.int p9), .val (.int p10), .val (.int p11), .val (.int p12), .val (.int p13), .val (.ref w14), .val (.ref w17), .val (.ref w19), .val (.int 0), .val (.int (-1)), .val (.int (-1))] [(.int y16)])) _
  have c18 : y16 = (0 : Int32) := by
    exact own_hit0_6 hy17
  refine own_ifYes (pc' := 380) B X15 at_374 ((if0 _ _).trans (teq c18).1) (by decide) rfl ?_
  refine own_iload (pc' := 382) B X15 at_380 rfl rfl ?_
  refine own_ifNo (pc' := 385) B X15 at_382 ((if0 _ _).trans (tlt (by decide : (-1 : Int32) < (0 : Int32))).2.1) rfl ?_
  refine own_iload (pc' := 387) B X15 at_385 rfl rfl ?_
  refine own_ifNo (pc' := 390) B X15 at_387 ((if0 _ _).trans (tlt (by decide : (-1 : Int32) < (0 : Int32))).2.1) rfl ?_
  refine own_iconst (pc' := 391) B X15 (z := (1 : Int32)) at_390 rfl rfl ?_
  refine own_goto (pc' := 410) B X15 at_391 (by decide) rfl ?_
  exact own_retN B X15 (t := .boolean) (z' := (1 : Int32)) (by simp) (by decide) at_410 (by decide) (by decide) rfl
theorem rm_0 (l : Launch) (Z : State) (a0 : Array Value) (hw : ∀ d ∈ tables_1, d.before a0 Z = true) (ws : List Jvm.Cond) (i0 i1 i2 i3 : Int32) (h0 : Heap) (n0 : Nat) (Z0 : n0 ≤ h0.size)  :
    own_M l Z x code maxLocals ret ws room_1 #[(.int i0), (.int i1), (.int i2), (.int i3)] h0 n0 (Q_0 Z i0 i1 i2 i3 h0 n0) := by
  refine own_enter (Q := Q_0 Z i0 i1 i2 i3 h0 n0) (F := fun m => mkF m 0 #[.val (.int i0), .val (.int i1), .val (.int i2), .val (.int i3), .unset, .unset, .unset, .unset, .unset, .unset, .unset, .unset, .unset, .unset, .unset, .unset, .unset, .unset, .unset, .unset] []) (plainFor_of_name pn_5) (fun m => by first | (simp [entryFrame, mkF, argsToLocals, Value.category, maxLocals]; done) | rfl) ?_
  intro p e s m below meth c s₁ B X0
  have K : Keep h0 h0 [] := Keep.refl h0 _
  refine own_iloadN (pc' := 1) B X0 at_0 rfl rfl ?_
  refine own_iconst (pc' := 2) B X0 (z := (1 : Int32)) at_1 rfl rfl ?_
  obtain ⟨y1, hy1⟩ : ∃ z : Int32, i2 &&& (1 : Int32) = z := ⟨_, rfl⟩
  refine own_iand (pc' := 3) B X0 at_2 rfl hy1 ?_
  refine own_istore (pc' := 5) B X0 (Ls' := #[.val (.int i0), .val (.int i1), .val (.int i2), .val (.int i3), .val (.int y1), .unset, .unset, .unset, .unset, .unset, .unset, .unset, .unset, .unset, .unset, .unset, .unset, .unset, .unset, .unset]) at_3 rfl rfl ?_
  refine own_iloadN (pc' := 6) B X0 at_5 rfl rfl ?_
  refine own_iconst (pc' := 7) B X0 (z := (2 : Int32)) at_6 rfl rfl ?_
  obtain ⟨y2, hy2⟩ : ∃ z : Int32, i2 &&& (2 : Int32) = z := ⟨_, rfl⟩
  refine own_iand (pc' := 8) B X0 at_7 rfl hy2 ?_
  have H3 : ∀ (y8 : Int32), own_Go p e below (s₁.setTop (mkF m 22 #[.val (.int i0), .val (.int i1), .val (.int i2), .val (.int i3), .val (.int y1), .unset, .unset, .unset, .unset, .unset, .unset, .unset, .unset, .unset, .unset, .unset, .unset, .unset, .unset, .unset] [(.int y8)])) (own_P s below n0 (Q_0 Z i0 i1 i2 i3 h0 n0) room_1.cells room_1.slots) := by
    intro y8
    refine own_istore (pc' := 24) B X0 (Ls' := #[.val (.int i0), .val (.int i1), .val (.int i2), .val (.int i3), .val (.int y1), .val (.int y8), .unset, .unset, .unset, .unset, .unset, .unset, .unset, .unset, .unset, .unset, .unset, .unset, .unset, .unset]) at_22 rfl rfl ?_
    refine own_iloadN (pc' := 25) B X0 at_24 rfl rfl ?_
    refine own_iconst (pc' := 26) B X0 (z := (4 : Int32)) at_25 rfl rfl ?_
    obtain ⟨y9, hy9⟩ : ∃ z : Int32, (i2.toUInt32 >>> ((4 : Int32) &&& 31).toUInt32).toInt32 = z := ⟨_, rfl⟩
    refine own_iushr (pc' := 27) B X0 at_26 rfl hy9 ?_
    refine own_bipush (pc' := 29) B X0 (z := (7 : Int32)) at_27 rfl (by decide) ?_
    obtain ⟨y10, hy10⟩ : ∃ z : Int32, y9 &&& (7 : Int32) = z := ⟨_, rfl⟩
    refine own_iand (pc' := 30) B X0 at_29 rfl hy10 ?_
    refine own_istore (pc' := 32) B X0 (Ls' := #[.val (.int i0), .val (.int i1), .val (.int i2), .val (.int i3), .val (.int y1), .val (.int y8), .val (.int y10), .unset, .unset, .unset, .unset, .unset, .unset, .unset, .unset, .unset, .unset, .unset, .unset, .unset]) at_30 rfl rfl ?_
    refine own_iloadN (pc' := 33) B X0 at_32 rfl rfl ?_
    refine own_bipush (pc' := 35) B X0 (z := (7 : Int32)) at_33 rfl (by decide) ?_
    obtain ⟨y11, hy11⟩ : ∃ z : Int32, (i2.toUInt32 >>> ((7 : Int32) &&& 31).toUInt32).toInt32 = z := ⟨_, rfl⟩
    refine own_iushr (pc' := 36) B X0 at_35 rfl hy11 ?_
    refine own_iconst (pc' := 37) B X0 (z := (3 : Int32)) at_36 rfl rfl ?_
    obtain ⟨y12, hy12⟩ : ∃ z : Int32, y11 &&& (3 : Int32) = z := ⟨_, rfl⟩
    refine own_iand (pc' := 38) B X0 at_37 rfl hy12 ?_
    refine own_istore (pc' := 40) B X0 (Ls' := #[.val (.int i0), .val (.int i1), .val (.int i2), .val (.int i3), .val (.int y1), .val (.int y8), .val (.int y10), .val (.int y12), .unset, .unset, .unset, .unset, .unset, .unset, .unset, .unset, .unset, .unset, .unset, .unset]) at_38 rfl rfl ?_
    refine own_iloadN (pc' := 41) B X0 at_40 rfl rfl ?_
    refine own_iloadN (pc' := 42) B X0 at_41 rfl rfl ?_
    refine own_iconst (pc' := 43) B X0 (z := (3 : Int32)) at_42 rfl rfl ?_
    obtain ⟨y13, hy13⟩ : ∃ z : Int32, i0 &&& (3 : Int32) = z := ⟨_, rfl⟩
    refine own_iand (pc' := 44) B X0 at_43 rfl hy13 ?_
    obtain ⟨y14, hy14⟩ : ∃ z : Int32, i1 + y13 = z := ⟨_, rfl⟩
    refine own_iadd (pc' := 45) B X0 at_44 rfl hy14 ?_
    refine own_istore (pc' := 47) B X0 (Ls' := #[.val (.int i0), .val (.int i1), .val (.int i2), .val (.int i3), .val (.int y1), .val (.int y8), .val (.int y10), .val (.int y12), .val (.int y14), .unset, .unset, .unset, .unset, .unset, .unset, .unset, .unset, .unset, .unset, .unset]) at_45 rfl rfl ?_
    refine own_iloadN (pc' := 48) B X0 at_47 rfl rfl ?_
    refine own_iloadN (pc' := 49) B X0 at_48 rfl rfl ?_
    refine own_iconst (pc' := 50) B X0 (z := (2 : Int32)) at_49 rfl rfl ?_
    obtain ⟨y15, hy15⟩ : ∃ z : Int32, (i0.toUInt32 >>> ((2 : Int32) &&& 31).toUInt32).toInt32 = z := ⟨_, rfl⟩
    refine own_iushr (pc' := 51) B X0 at_50 rfl hy15 ?_
    refine own_iconst (pc' := 52) B X0 (z := (3 : Int32)) at_51 rfl rfl ?_
    obtain ⟨y16, hy16⟩ : ∃ z : Int32, y15 &&& (3 : Int32) = z := ⟨_, rfl⟩
    refine own_iand (pc' := 53) B X0 at_52 rfl hy16 ?_
    obtain ⟨y17, hy17⟩ : ∃ z : Int32, i1 + y16 = z := ⟨_, rfl⟩
    refine own_iadd (pc' := 54) B X0 at_53 rfl hy17 ?_
    refine own_istore (pc' := 56) B X0 (Ls' := #[.val (.int i0), .val (.int i1), .val (.int i2), .val (.int i3), .val (.int y1), .val (.int y8), .val (.int y10), .val (.int y12), .val (.int y14), .val (.int y17), .unset, .unset, .unset, .unset, .unset, .unset, .unset, .unset, .unset, .unset]) at_54 rfl rfl ?_
    refine own_iloadN (pc' := 57) B X0 at_56 rfl rfl ?_
    refine own_iloadN (pc' := 58) B X0 at_57 rfl rfl ?_
    refine own_iconst (pc' := 59) B X0 (z := (4 : Int32)) at_58 rfl rfl ?_
    obtain ⟨y18, hy18⟩ : ∃ z : Int32, (i0.toUInt32 >>> ((4 : Int32) &&& 31).toUInt32).toInt32 = z := ⟨_, rfl⟩
    refine own_iushr (pc' := 60) B X0 at_59 rfl hy18 ?_
    refine own_iconst (pc' := 61) B X0 (z := (3 : Int32)) at_60 rfl rfl ?_
    obtain ⟨y19, hy19⟩ : ∃ z : Int32, y18 &&& (3 : Int32) = z := ⟨_, rfl⟩
    refine own_iand (pc' := 62) B X0 at_61 rfl hy19 ?_
    obtain ⟨y20, hy20⟩ : ∃ z : Int32, i1 + y19 = z := ⟨_, rfl⟩
    refine own_iadd (pc' := 63) B X0 at_62 rfl hy20 ?_
    refine own_istore (pc' := 65) B X0 (Ls' := #[.val (.int i0), .val (.int i1), .val (.int i2), .val (.int i3), .val (.int y1), .val (.int y8), .val (.int y10), .val (.int y12), .val (.int y14), .val (.int y17), .val (.int y20), .unset, .unset, .unset, .unset, .unset, .unset, .unset, .unset, .unset]) at_63 rfl rfl ?_
    refine own_iloadN (pc' := 66) B X0 at_65 rfl rfl ?_
    refine own_iloadN (pc' := 67) B X0 at_66 rfl rfl ?_
    refine own_bipush (pc' := 69) B X0 (z := (6 : Int32)) at_67 rfl (by decide) ?_
    obtain ⟨y21, hy21⟩ : ∃ z : Int32, (i0.toUInt32 >>> ((6 : Int32) &&& 31).toUInt32).toInt32 = z := ⟨_, rfl⟩
    refine own_iushr (pc' := 70) B X0 at_69 rfl hy21 ?_
    refine own_iconst (pc' := 71) B X0 (z := (3 : Int32)) at_70 rfl rfl ?_
    obtain ⟨y22, hy22⟩ : ∃ z : Int32, y21 &&& (3 : Int32) = z := ⟨_, rfl⟩
    refine own_iand (pc' := 72) B X0 at_71 rfl hy22 ?_
    obtain ⟨y23, hy23⟩ : ∃ z : Int32, i1 + y22 = z := ⟨_, rfl⟩
    refine own_iadd (pc' := 73) B X0 at_72 rfl hy23 ?_
    refine own_istore (pc' := 75) B X0 (Ls' := #[.val (.int i0), .val (.int i1), .val (.int i2), .val (.int i3), .val (.int y1), .val (.int y8), .val (.int y10), .val (.int y12), .val (.int y14), .val (.int y17), .val (.int y20), .val (.int y23), .unset, .unset, .unset, .unset, .unset, .unset, .unset, .unset]) at_73 rfl rfl ?_
    refine own_iloadN (pc' := 76) B X0 at_75 rfl rfl ?_
    refine own_iloadN (pc' := 77) B X0 at_76 rfl rfl ?_
    refine own_bipush (pc' := 79) B X0 (z := (8 : Int32)) at_77 rfl (by decide) ?_
    obtain ⟨y24, hy24⟩ : ∃ z : Int32, (i0.toUInt32 >>> ((8 : Int32) &&& 31).toUInt32).toInt32 = z := ⟨_, rfl⟩
    refine own_iushr (pc' := 80) B X0 at_79 rfl hy24 ?_
    refine own_iconst (pc' := 81) B X0 (z := (3 : Int32)) at_80 rfl rfl ?_
    obtain ⟨y25, hy25⟩ : ∃ z : Int32, y24 &&& (3 : Int32) = z := ⟨_, rfl⟩
    refine own_iand (pc' := 82) B X0 at_81 rfl hy25 ?_
    obtain ⟨y26, hy26⟩ : ∃ z : Int32, i1 + y25 = z := ⟨_, rfl⟩
    refine own_iadd (pc' := 83) B X0 at_82 rfl hy26 ?_
    refine own_istore (pc' := 85) B X0 (Ls' := #[.val (.int i0), .val (.int i1), .val (.int i2), .val (.int i3), .val (.int y1), .val (.int y8), .val (.int y10), .val (.int y12), .val (.int y14), .val (.int y17), .val (.int y20), .val (.int y23), .val (.int y26), .unset, .unset, .unset, .unset, .unset, .unset, .unset]) at_83 rfl rfl ?_
    refine own_iloadN (pc' := 86) B X0 at_85 rfl rfl ?_
    refine own_iloadN (pc' := 87) B X0 at_86 rfl rfl ?_
    refine own_bipush (pc' := 89) B X0 (z := (10 : Int32)) at_87 rfl (by decide) ?_
    obtain ⟨y27, hy27⟩ : ∃ z : Int32, (i0.toUInt32 >>> ((10 : Int32) &&& 31).toUInt32).toInt32 = z := ⟨_, rfl⟩
    refine own_iushr (pc' := 90) B X0 at_89 rfl hy27 ?_
    refine own_iconst (pc' := 91) B X0 (z := (3 : Int32)) at_90 rfl rfl ?_
    obtain ⟨y28, hy28⟩ : ∃ z : Int32, y27 &&& (3 : Int32) = z := ⟨_, rfl⟩
    refine own_iand (pc' := 92) B X0 at_91 rfl hy28 ?_
    obtain ⟨y29, hy29⟩ : ∃ z : Int32, i1 + y28 = z := ⟨_, rfl⟩
    refine own_iadd (pc' := 93) B X0 at_92 rfl hy29 ?_
    refine own_istore (pc' := 95) B X0 (Ls' := #[.val (.int i0), .val (.int i1), .val (.int i2), .val (.int i3), .val (.int y1), .val (.int y8), .val (.int y10), .val (.int y12), .val (.int y14), .val (.int y17), .val (.int y20), .val (.int y23), .val (.int y26), .val (.int y29), .unset, .unset, .unset, .unset, .unset, .unset]) at_93 rfl rfl ?_
    refine own_new (pc' := 98) B X0 (own_w hw 0 rfl) (own_w hw 1 rfl) (own_w hw 2 rfl) at_95 rfl (k' := 1) (n' := 8) rfl rfl (by decide) (by decide) ?_
    intro T30 h30 b30 X30 g30 E30 E_b30 D30
    have sz_b30 : h0.size ≤ b30 := own_sz K g30
    have g_b30 : n0 ≤ b30 := Nat.le_trans Z0 sz_b30
    replace K := K.ext E30
    have F_b30_indexes : Fld Z h30 b30 oC2 "indexes" "Ljava/util/Map;" .null := D30 (Or.inr (own_w hw 26 rfl)) (ty := (.object "java/util/Map")) (by decide)
    have F_b30_walks : Fld Z h30 b30 oC2 "walks" "Ljava/util/Map;" .null := D30 (Or.inr (own_w hw 28 rfl)) (ty := (.object "java/util/Map")) (by decide)
    have F_b30_arity : Fld Z h30 b30 oC2 "arity" "I" (.int 0) := D30 (Or.inr (own_w hw 30 rfl)) (ty := .int) (by decide)
    have F_b30_rows : Fld Z h30 b30 oC2 "rows" "[I" .null := D30 (Or.inl (own_w hw 33 rfl)) (ty := (.array .int)) (by decide)
    have F_b30_members : Fld Z h30 b30 oC2 "members" "Lcom/example/ordal/ordal/Relation$PositionTable;" .null := D30 (Or.inr (own_w hw 66 rfl)) (ty := (.object "com/example/ordal/ordal/Relation$PositionTable")) (by decide)
    have F_b30_size : Fld Z h30 b30 oC2 "size" "I" (.int 0) := D30 (Or.inl (own_w hw 73 rfl)) (ty := .int) (by decide)
    have F_b30_spellings : Fld Z h30 b30 oC2 "spellings" "[I" .null := D30 (Or.inl (own_w hw 125 rfl)) (ty := (.array .int)) (by decide)
    have F_b30_arrived : Fld Z h30 b30 oC2 "arrived" "I" (.int 0) := D30 (Or.inl (own_w hw 158 rfl)) (ty := .int) (by decide)
    clear D30
    refine own_dup (pc' := 99) B X30 at_98 rfl rfl ?_
    refine own_iconst (pc' := 100) B X30 (z := (2 : Int32)) at_99 rfl rfl ?_
    refine own_callI (pc' := 103) B X30 rfl rfl (own_w hw 3 rfl) (own_w hw 4 rfl) (own_w hw 2 rfl) (own_w hw 5 rfl) (by decide) [(.int 2)] [(.ref b30)] (rm_1 l Z a0 hw [] b30 h30 n0 (Nat.le_trans Z0 K.1) E_b30 F_b30_indexes F_b30_walks F_b30_arity F_b30_rows F_b30_members F_b30_size F_b30_spellings F_b30_arrived g_b30) 1 (by decide) (by decide) rfl pd_4 rfl rfl (Nat.le_of_eq rfl) at_100 rfl (k' := 10) (n' := 77) rfl rfl (by decide) (by decide) ?_
    intro T31 v31 h31 X31 q31
    have lt_b30 := E_b30.lt
    obtain ⟨b32, b33, b34, k35, b36, b37, k38, b39, b40, k41, b42, k43, b44, k45, rfl, K31, z_b32, z_b33, z_b34, z_b36, z_b37, z_b39, z_b40, z_b42, z_b44, ne_b32_b33, ne_b32_b34, ne_b32_b36, ne_b32_b37, ne_b32_b39, ne_b32_b40, ne_b32_b42, ne_b32_b44, ne_b33_b34, ne_b33_b36, ne_b33_b37, ne_b33_b39, ne_b33_b40, ne_b33_b42, ne_b33_b44, ne_b34_b36, ne_b34_b37, ne_b34_b39, ne_b34_b40, ne_b34_b42, ne_b34_b44, ne_b36_b37, ne_b36_b39, ne_b36_b40, ne_b36_b42, ne_b36_b44, ne_b37_b39, ne_b37_b40, ne_b37_b42, ne_b37_b44, ne_b39_b40, ne_b39_b42, ne_b39_b44, ne_b40_b42, ne_b40_b44, ne_b42_b44, E_b30, F_b30_indexes, F_b30_walks, F_b30_arity, F_b30_rows, F_b30_members, F_b30_size, F_b30_spellings, F_b30_arrived, E_b32, F_b32_loadFactor, F_b32_size, E_b33, F_b33_loadFactor, F_b33_size, V_b34, E_b36, F_b36_table, F_b36_relation, F_b36_columns, F_b36_row, V_b37, E_b39, F_b39_slots, F_b39_hashes, F_b39_keys, F_b39_count, F_b39_crowded, V_b40, V_b42, V_b44⟩ := q31
    have ne_b30_b32 : b30 ≠ b32 := own_ne' lt_b30 z_b32
    have sz_b32 : h0.size ≤ b32 := Nat.le_trans K.1 z_b32
    have g_b32 : n0 ≤ b32 := Nat.le_trans Z0 sz_b32
    have ne_b30_b33 : b30 ≠ b33 := own_ne' lt_b30 z_b33
    have sz_b33 : h0.size ≤ b33 := Nat.le_trans K.1 z_b33
    have g_b33 : n0 ≤ b33 := Nat.le_trans Z0 sz_b33
    have ne_b30_b34 : b30 ≠ b34 := own_ne' lt_b30 z_b34
    have sz_b34 : h0.size ≤ b34 := Nat.le_trans K.1 z_b34
    have g_b34 : n0 ≤ b34 := Nat.le_trans Z0 sz_b34
    have ne_b30_b36 : b30 ≠ b36 := own_ne' lt_b30 z_b36
    have sz_b36 : h0.size ≤ b36 := Nat.le_trans K.1 z_b36
    have g_b36 : n0 ≤ b36 := Nat.le_trans Z0 sz_b36
    have ne_b30_b37 : b30 ≠ b37 := own_ne' lt_b30 z_b37
    have sz_b37 : h0.size ≤ b37 := Nat.le_trans K.1 z_b37
    have g_b37 : n0 ≤ b37 := Nat.le_trans Z0 sz_b37
    have ne_b30_b39 : b30 ≠ b39 := own_ne' lt_b30 z_b39
    have sz_b39 : h0.size ≤ b39 := Nat.le_trans K.1 z_b39
    have g_b39 : n0 ≤ b39 := Nat.le_trans Z0 sz_b39
    have ne_b30_b40 : b30 ≠ b40 := own_ne' lt_b30 z_b40
    have sz_b40 : h0.size ≤ b40 := Nat.le_trans K.1 z_b40
    have g_b40 : n0 ≤ b40 := Nat.le_trans Z0 sz_b40
    have ne_b30_b42 : b30 ≠ b42 := own_ne' lt_b30 z_b42
    have sz_b42 : h0.size ≤ b42 := Nat.le_trans K.1 z_b42
    have g_b42 : n0 ≤ b42 := Nat.le_trans Z0 sz_b42
    have ne_b30_b44 : b30 ≠ b44 := own_ne' lt_b30 z_b44
    have sz_b44 : h0.size ≤ b44 := Nat.le_trans K.1 z_b44
    have g_b44 : n0 ≤ b44 := Nat.le_trans Z0 sz_b44
    replace K := K.trans K31 (allS (Or.inr sz_b30) all0)
    show own_Go p e below (T31.setTop (mkF m 103 #[.val (.int i0), .val (.int i1), .val (.int i2), .val (.int i3), .val (.int y1), .val (.int y8), .val (.int y10), .val (.int y12), .val (.int y14), .val (.int y17), .val (.int y20), .val (.int y23), .val (.int y26), .val (.int y29), .unset, .unset, .unset, .unset, .unset, .unset] [(.ref b30)])) _
    refine own_astore (pc' := 105) B X31 (Ls' := #[.val (.int i0), .val (.int i1), .val (.int i2), .val (.int i3), .val (.int y1), .val (.int y8), .val (.int y10), .val (.int y12), .val (.int y14), .val (.int y17), .val (.int y20), .val (.int y23), .val (.int y26), .val (.int y29), .val (.ref b30), .unset, .unset, .unset, .unset, .unset]) at_103 rfl rfl rfl ?_
    refine own_iconst (pc' := 106) B X31 (z := (3 : Int32)) at_105 rfl rfl ?_
    refine own_newarray (pc' := 108) B X31 (own_w hw 31 rfl) at_106 rfl rfl (by decide) 3 (by decide) (by decide) (k' := 11) (n' := 80) rfl rfl (by decide) (by decide) "[I" (by decide) (.int 0) rfl ?_
    intro T46 h46 b46 kb46 X46 g46 E46 V_b46 E_b46
    have ne_b30_b46 : b30 ≠ b46 := own_ne E_b30.lt g46
    have ne_b32_b46 : b32 ≠ b46 := own_ne E_b32.lt g46
    have ne_b34_b46 : b34 ≠ b46 := own_ne V_b34.lt g46
    have ne_b36_b46 : b36 ≠ b46 := own_ne E_b36.lt g46
    have ne_b37_b46 : b37 ≠ b46 := own_ne V_b37.lt g46
    have ne_b39_b46 : b39 ≠ b46 := own_ne E_b39.lt g46
    have ne_b40_b46 : b40 ≠ b46 := own_ne V_b40.lt g46
    have ne_b42_b46 : b42 ≠ b46 := own_ne V_b42.lt g46
    have sz_b46 : h0.size ≤ b46 := own_sz K g46
    have g_b46 : n0 ≤ b46 := Nat.le_trans Z0 sz_b46
    replace K := K.ext E46
    refine own_astore (pc' := 110) B X46 (Ls' := #[.val (.int i0), .val (.int i1), .val (.int i2), .val (.int i3), .val (.int y1), .val (.int y8), .val (.int y10), .val (.int y12), .val (.int y14), .val (.int y17), .val (.int y20), .val (.int y23), .val (.int y26), .val (.int y29), .val (.ref b30), .val (.ref b46), .unset, .unset, .unset, .unset]) at_108 rfl rfl rfl ?_
    refine own_iconst (pc' := 111) B X46 (z := (3 : Int32)) at_110 rfl rfl ?_
    refine own_newarray (pc' := 113) B X46 (own_w hw 31 rfl) at_111 rfl rfl (by decide) 3 (by decide) (by decide) (k' := 12) (n' := 83) rfl rfl (by decide) (by decide) "[I" (by decide) (.int 0) rfl ?_
    intro T47 h47 b47 kb47 X47 g47 E47 V_b47 E_b47
    replace E_b30 := (E_b30.ext E46)
    have ne_b30_b47 : b30 ≠ b47 := own_ne E_b30.lt g47
    replace E_b32 := (E_b32.ext E46)
    have ne_b32_b47 : b32 ≠ b47 := own_ne E_b32.lt g47
    replace V_b34 := (V_b34.ext E46)
    have ne_b34_b47 : b34 ≠ b47 := own_ne V_b34.lt g47
    replace E_b36 := (E_b36.ext E46)
    have ne_b36_b47 : b36 ≠ b47 := own_ne E_b36.lt g47
    replace V_b37 := (V_b37.ext E46)
    have ne_b37_b47 : b37 ≠ b47 := own_ne V_b37.lt g47
    replace E_b39 := (E_b39.ext E46)
    have ne_b39_b47 : b39 ≠ b47 := own_ne E_b39.lt g47
    replace V_b40 := (V_b40.ext E46)
    have ne_b40_b47 : b40 ≠ b47 := own_ne V_b40.lt g47
    replace V_b42 := (V_b42.ext E46)
    have ne_b42_b47 : b42 ≠ b47 := own_ne V_b42.lt g47
    have ne_b46_b47 : b46 ≠ b47 := own_ne V_b46.lt g47
    have sz_b47 : h0.size ≤ b47 := own_sz K g47
    have g_b47 : n0 ≤ b47 := Nat.le_trans Z0 sz_b47
    replace K := K.ext E47
    refine own_astore (pc' := 115) B X47 (Ls' := #[.val (.int i0), .val (.int i1), .val (.int i2), .val (.int i3), .val (.int y1), .val (.int y8), .val (.int y10), .val (.int y12), .val (.int y14), .val (.int y17), .val (.int y20), .val (.int y23), .val (.int y26), .val (.int y29), .val (.ref b30), .val (.ref b46), .val (.ref b47), .unset, .unset, .unset]) at_113 rfl rfl rfl ?_
    refine own_iconst (pc' := 116) B X47 (z := (0 : Int32)) at_115 rfl rfl ?_
    refine own_istore (pc' := 118) B X47 (Ls' := #[.val (.int i0), .val (.int i1), .val (.int i2), .val (.int i3), .val (.int y1), .val (.int y8), .val (.int y10), .val (.int y12), .val (.int y14), .val (.int y17), .val (.int y20), .val (.int y23), .val (.int y26), .val (.int y29), .val (.ref b30), .val (.ref b46), .val (.ref b47), .val (.int 0), .unset, .unset]) at_116 rfl rfl ?_
    refine own_iload (pc' := 120) B X47 at_118 rfl rfl ?_
    by_cases c48 : (0 : Int32) < y12
    refine own_ifNo (pc' := 123) B X47 at_120 ((if0 _ _).trans (tlt c48).2.2.2) rfl ?_
    refine own_aload (pc' := 125) B X47 at_123 rfl rfl rfl ?_
    refine own_iconst (pc' := 126) B X47 (z := (2 : Int32)) at_125 rfl rfl ?_
    refine own_newarray (pc' := 128) B X47 (own_w hw 31 rfl) at_126 rfl rfl (by decide) 2 (by decide) (by decide) (k' := 13) (n' := 85) rfl rfl (by decide) (by decide) "[I" (by decide) (.int 0) rfl ?_
    intro T49 h49 b49 kb49 X49 g49 E49 V_b49 E_b49
    replace E_b30 := (E_b30.ext E47)
    have ne_b30_b49 : b30 ≠ b49 := own_ne E_b30.lt g49
    replace E_b32 := (E_b32.ext E47)
    have ne_b32_b49 : b32 ≠ b49 := own_ne E_b32.lt g49
    replace V_b34 := (V_b34.ext E47)
    have ne_b34_b49 : b34 ≠ b49 := own_ne V_b34.lt g49
    replace E_b36 := (E_b36.ext E47)
    have ne_b36_b49 : b36 ≠ b49 := own_ne E_b36.lt g49
    replace V_b37 := (V_b37.ext E47)
    have ne_b37_b49 : b37 ≠ b49 := own_ne V_b37.lt g49
    replace E_b39 := (E_b39.ext E47)
    have ne_b39_b49 : b39 ≠ b49 := own_ne E_b39.lt g49
    replace V_b40 := (V_b40.ext E47)
    have ne_b40_b49 : b40 ≠ b49 := own_ne V_b40.lt g49
    replace V_b42 := (V_b42.ext E47)
    have ne_b42_b49 : b42 ≠ b49 := own_ne V_b42.lt g49
    replace V_b46 := (V_b46.ext E47)
    have ne_b46_b49 : b46 ≠ b49 := own_ne V_b46.lt g49
    have ne_b47_b49 : b47 ≠ b49 := own_ne V_b47.lt g49
    have sz_b49 : h0.size ≤ b49 := own_sz K g49
    have g_b49 : n0 ≤ b49 := Nat.le_trans Z0 sz_b49
    replace K := K.ext E49
    refine own_dup (pc' := 129) B X49 at_128 rfl rfl ?_
    refine own_iconst (pc' := 130) B X49 (z := (0 : Int32)) at_129 rfl rfl ?_
    refine own_iload (pc' := 132) B X49 at_130 rfl rfl ?_
    replace V_b49 : Arv Z h49 b49 kb49 .int (2 : Int32) [(.int 0)] (.int 0) := V_b49.pad (pad_rep [] (.int 0) 1)
    refine own_iastore (pc' := 133) B X49 (x' := y14) V_b49 g_b49 ⟨by decide, by decide⟩ 0 (by decide) (Nat.le_of_ble_eq_true rfl) rfl at_132 rfl ?_
    intro T50 h50 X50 W50 V_b49
    replace V_b49 : Arv Z h50 b49 kb49 .int (2 : Int32) [(.int y14)] (.int 0) := V_b49
    replace K := K.wr W50 (Or.inr sz_b49)
    refine own_dup (pc' := 134) B X50 at_133 rfl rfl ?_
    refine own_iconst (pc' := 135) B X50 (z := (1 : Int32)) at_134 rfl rfl ?_
    refine own_iload (pc' := 137) B X50 at_135 rfl rfl ?_
    replace V_b49 : Arv Z h50 b49 kb49 .int (2 : Int32) [(.int y14), (.int 0)] (.int 0) := V_b49.pad (pad_rep [(.int y14)] (.int 0) 1)
    refine own_iastore (pc' := 138) B X50 (x' := y17) V_b49 g_b49 ⟨by decide, by decide⟩ 1 (by decide) (Nat.le_of_ble_eq_true rfl) rfl at_137 rfl ?_
    intro T51 h51 X51 W51 V_b49
    replace V_b49 : Arv Z h51 b49 kb49 .int (2 : Int32) [(.int y14), (.int y17)] (.int 0) := V_b49
    replace K := K.wr W51 (Or.inr sz_b49)
    replace E_b30 := (((E_b30.ext E49).wr W50).wr W51)
    replace F_b30_indexes := (((((F_b30_indexes.ext E46).ext E47).ext E49).other W50 (Or.inl ne_b30_b49)).other W51 (Or.inl ne_b30_b49))
    replace F_b30_arity := (((((F_b30_arity.ext E46).ext E47).ext E49).other W50 (Or.inl ne_b30_b49)).other W51 (Or.inl ne_b30_b49))
    replace F_b30_rows := (((((F_b30_rows.ext E46).ext E47).ext E49).other W50 (Or.inl ne_b30_b49)).other W51 (Or.inl ne_b30_b49))
    replace F_b30_members := (((((F_b30_members.ext E46).ext E47).ext E49).other W50 (Or.inl ne_b30_b49)).other W51 (Or.inl ne_b30_b49))
    replace F_b30_size := (((((F_b30_size.ext E46).ext E47).ext E49).other W50 (Or.inl ne_b30_b49)).other W51 (Or.inl ne_b30_b49))
    replace F_b30_spellings := (((((F_b30_spellings.ext E46).ext E47).ext E49).other W50 (Or.inl ne_b30_b49)).other W51 (Or.inl ne_b30_b49))
    replace F_b30_arrived := (((((F_b30_arrived.ext E46).ext E47).ext E49).other W50 (Or.inl ne_b30_b49)).other W51 (Or.inl ne_b30_b49))
    replace E_b32 := (((E_b32.ext E49).wr W50).wr W51)
    replace F_b32_size := (((((F_b32_size.ext E46).ext E47).ext E49).other W50 (Or.inl ne_b32_b49)).other W51 (Or.inl ne_b32_b49))
    replace V_b34 := (((V_b34.ext E49).other W50 ne_b34_b49).other W51 ne_b34_b49)
    replace E_b36 := (((E_b36.ext E49).wr W50).wr W51)
    replace F_b36_table := (((((F_b36_table.ext E46).ext E47).ext E49).other W50 (Or.inl ne_b36_b49)).other W51 (Or.inl ne_b36_b49))
    replace F_b36_relation := (((((F_b36_relation.ext E46).ext E47).ext E49).other W50 (Or.inl ne_b36_b49)).other W51 (Or.inl ne_b36_b49))
    replace F_b36_columns := (((((F_b36_columns.ext E46).ext E47).ext E49).other W50 (Or.inl ne_b36_b49)).other W51 (Or.inl ne_b36_b49))
    replace E_b39 := (((E_b39.ext E49).wr W50).wr W51)
    replace F_b39_slots := (((((F_b39_slots.ext E46).ext E47).ext E49).other W50 (Or.inl ne_b39_b49)).other W51 (Or.inl ne_b39_b49))
    replace F_b39_hashes := (((((F_b39_hashes.ext E46).ext E47).ext E49).other W50 (Or.inl ne_b39_b49)).other W51 (Or.inl ne_b39_b49))
    replace F_b39_keys := (((((F_b39_keys.ext E46).ext E47).ext E49).other W50 (Or.inl ne_b39_b49)).other W51 (Or.inl ne_b39_b49))
    replace F_b39_count := (((((F_b39_count.ext E46).ext E47).ext E49).other W50 (Or.inl ne_b39_b49)).other W51 (Or.inl ne_b39_b49))
    replace F_b39_crowded := (((((F_b39_crowded.ext E46).ext E47).ext E49).other W50 (Or.inl ne_b39_b49)).other W51 (Or.inl ne_b39_b49))
    replace V_b40 := (((V_b40.ext E49).other W50 ne_b40_b49).other W51 ne_b40_b49)
    replace V_b42 := (((V_b42.ext E49).other W50 ne_b42_b49).other W51 ne_b42_b49)
    replace V_b37 := (((V_b37.ext E49).other W50 ne_b37_b49).other W51 ne_b37_b49)
    replace E_b49 := ((E_b49.wr W50).wr W51)
    refine own_callV (pc' := 141) B X51 (own_w hw 78 rfl) (own_w hw 79 rfl) (own_w hw 81 rfl) (own_w hw 80 rfl) (own_w hw 2 rfl) (own_w hw 82 rfl) E_b30 (by decide) [(.ref b49)] [] (rm_7 l Z a0 hw [] b30 b32 b34 k35 b36 b39 b40 k41 b42 k43 b37 k38 b49 kb49 (y14) (y17) h51 n0 (Nat.le_trans Z0 K.1) E_b30 F_b30_indexes F_b30_arity F_b30_rows F_b30_members F_b30_size F_b30_spellings F_b30_arrived g_b30 E_b32 F_b32_size g_b32 V_b34 g_b34 E_b36 F_b36_table F_b36_relation F_b36_columns g_b36 E_b39 F_b39_slots F_b39_hashes F_b39_keys F_b39_count F_b39_crowded g_b39 V_b40 g_b40 V_b42 g_b42 V_b37 g_b37 E_b49 V_b49 g_b49 ne_b30_b32 ne_b30_b34 ne_b30_b36 ne_b30_b39 ne_b30_b40 ne_b30_b42 ne_b30_b37 ne_b30_b49 ne_b32_b34 ne_b32_b36 ne_b32_b39 ne_b32_b40 ne_b32_b42 ne_b32_b37 ne_b32_b49 ne_b34_b36 ne_b34_b39 ne_b34_b40 ne_b34_b42 ne_b34_b37 ne_b34_b49 ne_b36_b39 ne_b36_b40 ne_b36_b42 ne_b36_b37 ne_b36_b49 ne_b39_b40 ne_b39_b42 (Ne.symm ne_b37_b39) ne_b39_b49 ne_b40_b42 (Ne.symm ne_b37_b40) ne_b40_b49 (Ne.symm ne_b37_b42) ne_b42_b49 ne_b37_b49) 0 (by decide) (by decide) rfl pd_14 rfl rfl (Nat.le_of_eq rfl) at_138 rfl (k' := 13) (n' := 85) rfl rfl (by decide) (by decide) ?_
    intro T52 v52 h52 X52 q52
    obtain ⟨y53, y54, hy55, hy56, rfl, K52, E_b30, F_b30_indexes, F_b30_arity, F_b30_rows, F_b30_members, F_b30_size, F_b30_spellings, F_b30_arrived, V_b34, E_b39, F_b39_slots, F_b39_hashes, F_b39_keys, F_b39_count, F_b39_crowded, V_b40, V_b42⟩ := q52
    replace K := K.trans K52 (allS (Or.inr sz_b34) (allS (Or.inr sz_b30) (allS (Or.inr sz_b42) (allS (Or.inr sz_b40) (allS (Or.inr sz_b39) all0)))))
    show own_Go p e below (T52.setTop (mkF m 141 #[.val (.int i0), .val (.int i1), .val (.int i2), .val (.int i3), .val (.int y1), .val (.int y8), .val (.int y10), .val (.int y12), .val (.int y14), .val (.int y17), .val (.int y20), .val (.int y23), .val (.int y26), .val (.int y29), .val (.ref b30), .val (.ref b46), .val (.ref b47), .val (.int 0), .unset, .unset] [(.int 1)])) _
    refine own_pop (pc' := 142) B X52 at_141 rfl rfl ?_
    refine own_aload (pc' := 144) B X52 at_142 rfl rfl rfl ?_
    refine own_iconst (pc' := 145) B X52 (z := (0 : Int32)) at_144 rfl rfl ?_
    refine own_iload (pc' := 147) B X52 at_145 rfl rfl ?_
    replace V_b46 := ((((V_b46.ext E49).other W50 ne_b46_b49).other W51 ne_b46_b49).keep K52 (ninS (Ne.symm ne_b34_b46) (ninS (Ne.symm ne_b30_b46) (ninS (Ne.symm ne_b42_b46) (ninS (Ne.symm ne_b40_b46) (ninS (Ne.symm ne_b39_b46) nin0))))))
    replace V_b46 : Arv Z h52 b46 kb46 .int (3 : Int32) [(.int 0)] (.int 0) := V_b46.pad (pad_rep [] (.int 0) 1)
    refine own_iastore (pc' := 148) B X52 (x' := y14) V_b46 g_b46 ⟨by decide, by decide⟩ 0 (by decide) (Nat.le_of_ble_eq_true rfl) rfl at_147 rfl ?_
    intro T57 h57 X57 W57 V_b46
    replace V_b46 : Arv Z h57 b46 kb46 .int (3 : Int32) [(.int y14)] (.int 0) := V_b46
    replace K := K.wr W57 (Or.inr sz_b46)
    refine own_aload (pc' := 150) B X57 at_148 rfl rfl rfl ?_
    refine own_iconst (pc' := 151) B X57 (z := (0 : Int32)) at_150 rfl rfl ?_
    refine own_iload (pc' := 153) B X57 at_151 rfl rfl ?_
    replace V_b47 := (((((V_b47.ext E49).other W50 ne_b47_b49).other W51 ne_b47_b49).keep K52 (ninS (Ne.symm ne_b34_b47) (ninS (Ne.symm ne_b30_b47) (ninS (Ne.symm ne_b42_b47) (ninS (Ne.symm ne_b40_b47) (ninS (Ne.symm ne_b39_b47) nin0)))))).other W57 (Ne.symm ne_b46_b47))
    replace V_b47 : Arv Z h57 b47 kb47 .int (3 : Int32) [(.int 0)] (.int 0) := V_b47.pad (pad_rep [] (.int 0) 1)
    refine own_iastore (pc' := 154) B X57 (x' := y17) V_b47 g_b47 ⟨by decide, by decide⟩ 0 (by decide) (Nat.le_of_ble_eq_true rfl) rfl at_153 rfl ?_
    intro T58 h58 X58 W58 V_b47
    replace V_b47 : Arv Z h58 b47 kb47 .int (3 : Int32) [(.int y17)] (.int 0) := V_b47
    replace K := K.wr W58 (Or.inr sz_b47)
    refine own_iconst (pc' := 155) B X58 (z := (1 : Int32)) at_154 rfl rfl ?_
    refine own_istore (pc' := 157) B X58 (Ls' := #[.val (.int i0), .val (.int i1), .val (.int i2), .val (.int i3), .val (.int y1), .val (.int y8), .val (.int y10), .val (.int y12), .val (.int y14), .val (.int y17), .val (.int y20), .val (.int y23), .val (.int y26), .val (.int y29), .val (.ref b30), .val (.ref b46), .val (.ref b47), .val (.int 1), .unset, .unset]) at_155 rfl rfl ?_
    refine own_iload (pc' := 159) B X58 at_157 rfl rfl ?_
    refine own_iconst (pc' := 160) B X58 (z := (1 : Int32)) at_159 rfl rfl ?_
    by_cases c59 : (1 : Int32) < y12
    refine own_icmpNo (pc' := 163) B X58 at_160 (tlt c59).2.2.2 rfl ?_
    refine own_aload (pc' := 165) B X58 at_163 rfl rfl rfl ?_
    refine own_iconst (pc' := 166) B X58 (z := (2 : Int32)) at_165 rfl rfl ?_
    refine own_newarray (pc' := 168) B X58 (own_w hw 31 rfl) at_166 rfl rfl (by decide) 2 (by decide) (by decide) (k' := 14) (n' := 87) rfl rfl (by decide) (by decide) "[I" (by decide) (.int 0) rfl ?_
    intro T60 h60 b60 kb60 X60 g60 E60 V_b60 E_b60
    replace E_b30 := ((E_b30.wr W57).wr W58)
    have ne_b30_b60 : b30 ≠ b60 := own_ne E_b30.lt g60
    replace E_b32 := (((E_b32.keep K52).wr W57).wr W58)
    have ne_b32_b60 : b32 ≠ b60 := own_ne E_b32.lt g60
    replace V_b34 := ((V_b34.other W57 ne_b34_b46).other W58 ne_b34_b47)
    have ne_b34_b60 : b34 ≠ b60 := own_ne V_b34.lt g60
    replace E_b36 := (((E_b36.keep K52).wr W57).wr W58)
    have ne_b36_b60 : b36 ≠ b60 := own_ne E_b36.lt g60
    replace V_b37 := (((V_b37.keep K52 (ninS (Ne.symm ne_b34_b37) (ninS (Ne.symm ne_b30_b37) (ninS ne_b37_b42 (ninS ne_b37_b40 (ninS ne_b37_b39 nin0)))))).other W57 ne_b37_b46).other W58 ne_b37_b47)
    have ne_b37_b60 : b37 ≠ b60 := own_ne V_b37.lt g60
    replace E_b39 := ((E_b39.wr W57).wr W58)
    have ne_b39_b60 : b39 ≠ b60 := own_ne E_b39.lt g60
    replace V_b40 := ((V_b40.other W57 ne_b40_b46).other W58 ne_b40_b47)
    have ne_b40_b60 : b40 ≠ b60 := own_ne V_b40.lt g60
    replace V_b42 := ((V_b42.other W57 ne_b42_b46).other W58 ne_b42_b47)
    have ne_b42_b60 : b42 ≠ b60 := own_ne V_b42.lt g60
    replace V_b46 := (V_b46.other W58 ne_b46_b47)
    have ne_b46_b60 : b46 ≠ b60 := own_ne V_b46.lt g60
    have ne_b47_b60 : b47 ≠ b60 := own_ne V_b47.lt g60
    have sz_b60 : h0.size ≤ b60 := own_sz K g60
    have g_b60 : n0 ≤ b60 := Nat.le_trans Z0 sz_b60
    replace K := K.ext E60
    refine own_dup (pc' := 169) B X60 at_168 rfl rfl ?_
    refine own_iconst (pc' := 170) B X60 (z := (0 : Int32)) at_169 rfl rfl ?_
    refine own_iload (pc' := 172) B X60 at_170 rfl rfl ?_
    replace V_b60 : Arv Z h60 b60 kb60 .int (2 : Int32) [(.int 0)] (.int 0) := V_b60.pad (pad_rep [] (.int 0) 1)
    refine own_iastore (pc' := 173) B X60 (x' := y20) V_b60 g_b60 ⟨by decide, by decide⟩ 0 (by decide) (Nat.le_of_ble_eq_true rfl) rfl at_172 rfl ?_
    intro T61 h61 X61 W61 V_b60
    replace V_b60 : Arv Z h61 b60 kb60 .int (2 : Int32) [(.int y20)] (.int 0) := V_b60
    replace K := K.wr W61 (Or.inr sz_b60)
    refine own_dup (pc' := 174) B X61 at_173 rfl rfl ?_
    refine own_iconst (pc' := 175) B X61 (z := (1 : Int32)) at_174 rfl rfl ?_
    refine own_iload (pc' := 177) B X61 at_175 rfl rfl ?_
    replace V_b60 : Arv Z h61 b60 kb60 .int (2 : Int32) [(.int y20), (.int 0)] (.int 0) := V_b60.pad (pad_rep [(.int y20)] (.int 0) 1)
    refine own_iastore (pc' := 178) B X61 (x' := y23) V_b60 g_b60 ⟨by decide, by decide⟩ 1 (by decide) (Nat.le_of_ble_eq_true rfl) rfl at_177 rfl ?_
    intro T62 h62 X62 W62 V_b60
    replace V_b60 : Arv Z h62 b60 kb60 .int (2 : Int32) [(.int y20), (.int y23)] (.int 0) := V_b60
    replace K := K.wr W62 (Or.inr sz_b60)
    replace E_b30 := (((E_b30.ext E60).wr W61).wr W62)
    replace F_b30_indexes := (((((F_b30_indexes.other W57 (Or.inl ne_b30_b46)).other W58 (Or.inl ne_b30_b47)).ext E60).other W61 (Or.inl ne_b30_b60)).other W62 (Or.inl ne_b30_b60))
    replace F_b30_arity := (((((F_b30_arity.other W57 (Or.inl ne_b30_b46)).other W58 (Or.inl ne_b30_b47)).ext E60).other W61 (Or.inl ne_b30_b60)).other W62 (Or.inl ne_b30_b60))
    replace F_b30_rows := (((((F_b30_rows.other W57 (Or.inl ne_b30_b46)).other W58 (Or.inl ne_b30_b47)).ext E60).other W61 (Or.inl ne_b30_b60)).other W62 (Or.inl ne_b30_b60))
    replace F_b30_members := (((((F_b30_members.other W57 (Or.inl ne_b30_b46)).other W58 (Or.inl ne_b30_b47)).ext E60).other W61 (Or.inl ne_b30_b60)).other W62 (Or.inl ne_b30_b60))
    replace F_b30_size := (((((F_b30_size.other W57 (Or.inl ne_b30_b46)).other W58 (Or.inl ne_b30_b47)).ext E60).other W61 (Or.inl ne_b30_b60)).other W62 (Or.inl ne_b30_b60))
    replace F_b30_spellings := (((((F_b30_spellings.other W57 (Or.inl ne_b30_b46)).other W58 (Or.inl ne_b30_b47)).ext E60).other W61 (Or.inl ne_b30_b60)).other W62 (Or.inl ne_b30_b60))
    replace F_b30_arrived := (((((F_b30_arrived.other W57 (Or.inl ne_b30_b46)).other W58 (Or.inl ne_b30_b47)).ext E60).other W61 (Or.inl ne_b30_b60)).other W62 (Or.inl ne_b30_b60))
    replace E_b32 := (((E_b32.ext E60).wr W61).wr W62)
    replace F_b32_size := ((((((F_b32_size.keep K52 (ninS ne_b32_b34 (ninS (Ne.symm ne_b30_b32) (ninS ne_b32_b42 (ninS ne_b32_b40 (ninS ne_b32_b39 nin0)))))).other W57 (Or.inl ne_b32_b46)).other W58 (Or.inl ne_b32_b47)).ext E60).other W61 (Or.inl ne_b32_b60)).other W62 (Or.inl ne_b32_b60))
    replace V_b34 := (((V_b34.ext E60).other W61 ne_b34_b60).other W62 ne_b34_b60)
    replace E_b36 := (((E_b36.ext E60).wr W61).wr W62)
    replace F_b36_table := ((((((F_b36_table.keep K52 (ninS (Ne.symm ne_b34_b36) (ninS (Ne.symm ne_b30_b36) (ninS ne_b36_b42 (ninS ne_b36_b40 (ninS ne_b36_b39 nin0)))))).other W57 (Or.inl ne_b36_b46)).other W58 (Or.inl ne_b36_b47)).ext E60).other W61 (Or.inl ne_b36_b60)).other W62 (Or.inl ne_b36_b60))
    replace F_b36_relation := ((((((F_b36_relation.keep K52 (ninS (Ne.symm ne_b34_b36) (ninS (Ne.symm ne_b30_b36) (ninS ne_b36_b42 (ninS ne_b36_b40 (ninS ne_b36_b39 nin0)))))).other W57 (Or.inl ne_b36_b46)).other W58 (Or.inl ne_b36_b47)).ext E60).other W61 (Or.inl ne_b36_b60)).other W62 (Or.inl ne_b36_b60))
    replace F_b36_columns := ((((((F_b36_columns.keep K52 (ninS (Ne.symm ne_b34_b36) (ninS (Ne.symm ne_b30_b36) (ninS ne_b36_b42 (ninS ne_b36_b40 (ninS ne_b36_b39 nin0)))))).other W57 (Or.inl ne_b36_b46)).other W58 (Or.inl ne_b36_b47)).ext E60).other W61 (Or.inl ne_b36_b60)).other W62 (Or.inl ne_b36_b60))
    replace E_b39 := (((E_b39.ext E60).wr W61).wr W62)
    replace F_b39_slots := (((((F_b39_slots.other W57 (Or.inl ne_b39_b46)).other W58 (Or.inl ne_b39_b47)).ext E60).other W61 (Or.inl ne_b39_b60)).other W62 (Or.inl ne_b39_b60))
    replace F_b39_hashes := (((((F_b39_hashes.other W57 (Or.inl ne_b39_b46)).other W58 (Or.inl ne_b39_b47)).ext E60).other W61 (Or.inl ne_b39_b60)).other W62 (Or.inl ne_b39_b60))
    replace F_b39_keys := (((((F_b39_keys.other W57 (Or.inl ne_b39_b46)).other W58 (Or.inl ne_b39_b47)).ext E60).other W61 (Or.inl ne_b39_b60)).other W62 (Or.inl ne_b39_b60))
    replace F_b39_count := (((((F_b39_count.other W57 (Or.inl ne_b39_b46)).other W58 (Or.inl ne_b39_b47)).ext E60).other W61 (Or.inl ne_b39_b60)).other W62 (Or.inl ne_b39_b60))
    replace F_b39_crowded := (((((F_b39_crowded.other W57 (Or.inl ne_b39_b46)).other W58 (Or.inl ne_b39_b47)).ext E60).other W61 (Or.inl ne_b39_b60)).other W62 (Or.inl ne_b39_b60))
    replace V_b40 := (((V_b40.ext E60).other W61 ne_b40_b60).other W62 ne_b40_b60)
    replace V_b42 := (((V_b42.ext E60).other W61 ne_b42_b60).other W62 ne_b42_b60)
    replace V_b37 := (((V_b37.ext E60).other W61 ne_b37_b60).other W62 ne_b37_b60)
    replace E_b60 := ((E_b60.wr W61).wr W62)
    refine own_callV (pc' := 181) B X62 (own_w hw 78 rfl) (own_w hw 79 rfl) (own_w hw 81 rfl) (own_w hw 80 rfl) (own_w hw 2 rfl) (own_w hw 82 rfl) E_b30 (by decide) [(.ref b60)] [] (rm_22 l Z a0 hw [] b30 b32 b34 k35 (y14) (y17) b36 b39 b40 k41 (y54) b42 k43 (y53) b37 k38 b60 kb60 (y20) (y23) h62 n0 (Nat.le_trans Z0 K.1) E_b30 F_b30_indexes F_b30_arity F_b30_rows F_b30_members F_b30_size F_b30_spellings F_b30_arrived g_b30 E_b32 F_b32_size g_b32 V_b34 g_b34 E_b36 F_b36_table F_b36_relation F_b36_columns g_b36 E_b39 F_b39_slots F_b39_hashes F_b39_keys F_b39_count F_b39_crowded g_b39 V_b40 g_b40 V_b42 g_b42 V_b37 g_b37 E_b60 V_b60 g_b60 ne_b30_b32 ne_b30_b34 ne_b30_b36 ne_b30_b39 ne_b30_b40 ne_b30_b42 ne_b30_b37 ne_b30_b60 ne_b32_b34 ne_b32_b36 ne_b32_b39 ne_b32_b40 ne_b32_b42 ne_b32_b37 ne_b32_b60 ne_b34_b36 ne_b34_b39 ne_b34_b40 ne_b34_b42 ne_b34_b37 ne_b34_b60 ne_b36_b39 ne_b36_b40 ne_b36_b42 ne_b36_b37 ne_b36_b60 ne_b39_b40 ne_b39_b42 (Ne.symm ne_b37_b39) ne_b39_b60 ne_b40_b42 (Ne.symm ne_b37_b40) ne_b40_b60 (Ne.symm ne_b37_b42) ne_b42_b60 ne_b37_b60 hy55 hy56) 0 (by decide) (by decide) rfl pd_14 rfl rfl (Nat.le_of_eq rfl) at_178 rfl (k' := 14) (n' := 87) rfl rfl (by decide) (by decide) ?_
    intro T63 v63 h63 X63 q63
    rcases q63 with ⟨y64, y65, y66, hy67, hy68, c69, hy70, rfl, K63, E_b30, F_b30_indexes, F_b30_arity, F_b30_rows, F_b30_members, F_b30_size, F_b30_spellings, F_b30_arrived, V_b34, E_b39, F_b39_slots, F_b39_hashes, F_b39_keys, F_b39_count, F_b39_crowded, V_b40, V_b42⟩ | ⟨y71, hy72, c73, rfl, rfl⟩
    replace K := K.trans K63 (allS (Or.inr sz_b34) (allS (Or.inr sz_b30) (allS (Or.inr sz_b42) (allS (Or.inr sz_b40) (allS (Or.inr sz_b39) all0)))))
    show own_Go p e below (T63.setTop (mkF m 181 #[.val (.int i0), .val (.int i1), .val (.int i2), .val (.int i3), .val (.int y1), .val (.int y8), .val (.int y10), .val (.int y12), .val (.int y14), .val (.int y17), .val (.int y20), .val (.int y23), .val (.int y26), .val (.int y29), .val (.ref b30), .val (.ref b46), .val (.ref b47), .val (.int 1), .unset, .unset] [(.int 1)])) _
    refine own_pop (pc' := 182) B X63 at_181 rfl rfl ?_
    refine own_aload (pc' := 184) B X63 at_182 rfl rfl rfl ?_
    refine own_aload (pc' := 186) B X63 at_184 rfl rfl rfl ?_
    refine own_iload (pc' := 188) B X63 at_186 rfl rfl ?_
    refine own_iconst (pc' := 189) B X63 (z := (0 : Int32)) at_188 rfl rfl ?_
    refine own_iload (pc' := 191) B X63 at_189 rfl rfl ?_
    refine own_iload (pc' := 193) B X63 at_191 rfl rfl ?_
    replace V_b46 := ((((V_b46.ext E60).other W61 ne_b46_b60).other W62 ne_b46_b60).keep K63 (ninS (Ne.symm ne_b34_b46) (ninS (Ne.symm ne_b30_b46) (ninS (Ne.symm ne_b42_b46) (ninS (Ne.symm ne_b40_b46) (ninS (Ne.symm ne_b39_b46) nin0))))))
    replace V_b47 := ((((V_b47.ext E60).other W61 ne_b47_b60).other W62 ne_b47_b60).keep K63 (ninS (Ne.symm ne_b34_b47) (ninS (Ne.symm ne_b30_b47) (ninS (Ne.symm ne_b42_b47) (ninS (Ne.symm ne_b40_b47) (ninS (Ne.symm ne_b39_b47) nin0))))))
    refine own_callS (pc' := 196) B X63 (own_w hw 159 rfl) (own_w hw 160 rfl) (own_w hw 76 rfl) (own_w hw 161 rfl) (by decide) [(.ref b46), (.ref b47), (.int 1), (.int 0), (.int y20), (.int y23)] [] (rm_37 l Z a0 hw [] b46 kb46 (y14) b47 kb47 (y17) (y20) (y23) h63 n0 (Nat.le_trans Z0 K.1) V_b46 g_b46 V_b47 g_b47 ne_b46_b47) 0 (by decide) (by decide) rfl pd_17 rfl rfl (Nat.le_of_eq rfl) at_193 rfl (k' := 14) (n' := 87) rfl rfl (by decide) (by decide) ?_
    intro T74 v74 h74 X74 q74
    obtain ⟨y75, hy76, rfl, rfl⟩ := q74
    show own_Go p e below (T74.setTop (mkF m 196 #[.val (.int i0), .val (.int i1), .val (.int i2), .val (.int i3), .val (.int y1), .val (.int y8), .val (.int y10), .val (.int y12), .val (.int y14), .val (.int y17), .val (.int y20), .val (.int y23), .val (.int y26), .val (.int y29), .val (.ref b30), .val (.ref b46), .val (.ref b47), .val (.int 1), .unset, .unset] [(.int y75)])) _
    have c77 : y75 = (0 : Int32) := by
      exact (ax_9 (F := own_F_slot) (H := own_F_hash) own_next_ne hy68 c69 hy76)
    refine own_ifNo (pc' := 199) B X74 at_196 ((if0 _ _).trans (teq c77).2) rfl ?_
    refine own_aload (pc' := 201) B X74 at_199 rfl rfl rfl ?_
    refine own_iload (pc' := 203) B X74 at_201 rfl rfl ?_
    refine own_iload (pc' := 205) B X74 at_203 rfl rfl ?_
    replace V_b46 : Arv Z h63 b46 kb46 .int (3 : Int32) [(.int y14), (.int 0)] (.int 0) := V_b46.pad (pad_rep [(.int y14)] (.int 0) 1)
    refine own_iastore (pc' := 206) B X74 (x' := y20) V_b46 g_b46 ⟨by decide, by decide⟩ 1 (by decide) (Nat.le_of_ble_eq_true rfl) rfl at_205 rfl ?_
    intro T78 h78 X78 W78 V_b46
    replace V_b46 : Arv Z h78 b46 kb46 .int (3 : Int32) [(.int y14), (.int y20)] (.int 0) := V_b46
    replace K := K.wr W78 (Or.inr sz_b46)
    refine own_aload (pc' := 208) B X78 at_206 rfl rfl rfl ?_
    refine own_iload (pc' := 210) B X78 at_208 rfl rfl ?_
    refine own_iload (pc' := 212) B X78 at_210 rfl rfl ?_
    replace V_b47 := (V_b47.other W78 (Ne.symm ne_b46_b47))
    replace V_b47 : Arv Z h78 b47 kb47 .int (3 : Int32) [(.int y17), (.int 0)] (.int 0) := V_b47.pad (pad_rep [(.int y17)] (.int 0) 1)
    refine own_iastore (pc' := 213) B X78 (x' := y23) V_b47 g_b47 ⟨by decide, by decide⟩ 1 (by decide) (Nat.le_of_ble_eq_true rfl) rfl at_212 rfl ?_
    intro T79 h79 X79 W79 V_b47
    replace V_b47 : Arv Z h79 b47 kb47 .int (3 : Int32) [(.int y17), (.int y23)] (.int 0) := V_b47
    replace K := K.wr W79 (Or.inr sz_b47)
    refine own_iload (pc' := 215) B X79 at_213 rfl rfl ?_
    refine own_iconst (pc' := 216) B X79 (z := (1 : Int32)) at_215 rfl rfl ?_
    refine own_iadd (pc' := 217) B X79 (z := (2 : Int32)) at_216 rfl (by decide) ?_
    refine own_istore (pc' := 219) B X79 (Ls' := #[.val (.int i0), .val (.int i1), .val (.int i2), .val (.int i3), .val (.int y1), .val (.int y8), .val (.int y10), .val (.int y12), .val (.int y14), .val (.int y17), .val (.int y20), .val (.int y23), .val (.int y26), .val (.int y29), .val (.ref b30), .val (.ref b46), .val (.ref b47), .val (.int 2), .unset, .unset]) at_217 rfl rfl ?_
    refine own_iload (pc' := 221) B X79 at_219 rfl rfl ?_
    refine own_iconst (pc' := 222) B X79 (z := (2 : Int32)) at_221 rfl rfl ?_
    by_cases c80 : (2 : Int32) < y12
    refine own_icmpNo (pc' := 225) B X79 at_222 (tlt c80).2.2.2 rfl ?_
    refine own_aload (pc' := 227) B X79 at_225 rfl rfl rfl ?_
    refine own_iconst (pc' := 228) B X79 (z := (2 : Int32)) at_227 rfl rfl ?_
    refine own_newarray (pc' := 230) B X79 (own_w hw 31 rfl) at_228 rfl rfl (by decide) 2 (by decide) (by decide) (k' := 15) (n' := 89) rfl rfl (by decide) (by decide) "[I" (by decide) (.int 0) rfl ?_
    intro T81 h81 b81 kb81 X81 g81 E81 V_b81 E_b81
    replace E_b30 := ((E_b30.wr W78).wr W79)
    have ne_b30_b81 : b30 ≠ b81 := own_ne E_b30.lt g81
    replace E_b32 := (((E_b32.keep K63).wr W78).wr W79)
    have ne_b32_b81 : b32 ≠ b81 := own_ne E_b32.lt g81
    replace V_b34 := ((V_b34.other W78 ne_b34_b46).other W79 ne_b34_b47)
    have ne_b34_b81 : b34 ≠ b81 := own_ne V_b34.lt g81
    replace E_b36 := (((E_b36.keep K63).wr W78).wr W79)
    have ne_b36_b81 : b36 ≠ b81 := own_ne E_b36.lt g81
    replace V_b37 := (((V_b37.keep K63 (ninS (Ne.symm ne_b34_b37) (ninS (Ne.symm ne_b30_b37) (ninS ne_b37_b42 (ninS ne_b37_b40 (ninS ne_b37_b39 nin0)))))).other W78 ne_b37_b46).other W79 ne_b37_b47)
    have ne_b37_b81 : b37 ≠ b81 := own_ne V_b37.lt g81
    replace E_b39 := ((E_b39.wr W78).wr W79)
    have ne_b39_b81 : b39 ≠ b81 := own_ne E_b39.lt g81
    replace V_b40 := ((V_b40.other W78 ne_b40_b46).other W79 ne_b40_b47)
    have ne_b40_b81 : b40 ≠ b81 := own_ne V_b40.lt g81
    replace V_b42 := ((V_b42.other W78 ne_b42_b46).other W79 ne_b42_b47)
    have ne_b42_b81 : b42 ≠ b81 := own_ne V_b42.lt g81
    replace V_b46 := (V_b46.other W79 ne_b46_b47)
    have ne_b46_b81 : b46 ≠ b81 := own_ne V_b46.lt g81
    have ne_b47_b81 : b47 ≠ b81 := own_ne V_b47.lt g81
    have sz_b81 : h0.size ≤ b81 := own_sz K g81
    have g_b81 : n0 ≤ b81 := Nat.le_trans Z0 sz_b81
    replace K := K.ext E81
    refine own_dup (pc' := 231) B X81 at_230 rfl rfl ?_
    refine own_iconst (pc' := 232) B X81 (z := (0 : Int32)) at_231 rfl rfl ?_
    refine own_iload (pc' := 234) B X81 at_232 rfl rfl ?_
    replace V_b81 : Arv Z h81 b81 kb81 .int (2 : Int32) [(.int 0)] (.int 0) := V_b81.pad (pad_rep [] (.int 0) 1)
    refine own_iastore (pc' := 235) B X81 (x' := y26) V_b81 g_b81 ⟨by decide, by decide⟩ 0 (by decide) (Nat.le_of_ble_eq_true rfl) rfl at_234 rfl ?_
    intro T82 h82 X82 W82 V_b81
    replace V_b81 : Arv Z h82 b81 kb81 .int (2 : Int32) [(.int y26)] (.int 0) := V_b81
    replace K := K.wr W82 (Or.inr sz_b81)
    refine own_dup (pc' := 236) B X82 at_235 rfl rfl ?_
    refine own_iconst (pc' := 237) B X82 (z := (1 : Int32)) at_236 rfl rfl ?_
    refine own_iload (pc' := 239) B X82 at_237 rfl rfl ?_
    replace V_b81 : Arv Z h82 b81 kb81 .int (2 : Int32) [(.int y26), (.int 0)] (.int 0) := V_b81.pad (pad_rep [(.int y26)] (.int 0) 1)
    refine own_iastore (pc' := 240) B X82 (x' := y29) V_b81 g_b81 ⟨by decide, by decide⟩ 1 (by decide) (Nat.le_of_ble_eq_true rfl) rfl at_239 rfl ?_
    intro T83 h83 X83 W83 V_b81
    replace V_b81 : Arv Z h83 b81 kb81 .int (2 : Int32) [(.int y26), (.int y29)] (.int 0) := V_b81
    replace K := K.wr W83 (Or.inr sz_b81)
    replace E_b30 := (((E_b30.ext E81).wr W82).wr W83)
    replace F_b30_indexes := (((((F_b30_indexes.other W78 (Or.inl ne_b30_b46)).other W79 (Or.inl ne_b30_b47)).ext E81).other W82 (Or.inl ne_b30_b81)).other W83 (Or.inl ne_b30_b81))
    replace F_b30_arity := (((((F_b30_arity.other W78 (Or.inl ne_b30_b46)).other W79 (Or.inl ne_b30_b47)).ext E81).other W82 (Or.inl ne_b30_b81)).other W83 (Or.inl ne_b30_b81))
    replace F_b30_rows := (((((F_b30_rows.other W78 (Or.inl ne_b30_b46)).other W79 (Or.inl ne_b30_b47)).ext E81).other W82 (Or.inl ne_b30_b81)).other W83 (Or.inl ne_b30_b81))
    replace F_b30_members := (((((F_b30_members.other W78 (Or.inl ne_b30_b46)).other W79 (Or.inl ne_b30_b47)).ext E81).other W82 (Or.inl ne_b30_b81)).other W83 (Or.inl ne_b30_b81))
    replace F_b30_size := (((((F_b30_size.other W78 (Or.inl ne_b30_b46)).other W79 (Or.inl ne_b30_b47)).ext E81).other W82 (Or.inl ne_b30_b81)).other W83 (Or.inl ne_b30_b81))
    replace F_b30_spellings := (((((F_b30_spellings.other W78 (Or.inl ne_b30_b46)).other W79 (Or.inl ne_b30_b47)).ext E81).other W82 (Or.inl ne_b30_b81)).other W83 (Or.inl ne_b30_b81))
    replace F_b30_arrived := (((((F_b30_arrived.other W78 (Or.inl ne_b30_b46)).other W79 (Or.inl ne_b30_b47)).ext E81).other W82 (Or.inl ne_b30_b81)).other W83 (Or.inl ne_b30_b81))
    replace E_b32 := (((E_b32.ext E81).wr W82).wr W83)
    replace F_b32_size := ((((((F_b32_size.keep K63 (ninS ne_b32_b34 (ninS (Ne.symm ne_b30_b32) (ninS ne_b32_b42 (ninS ne_b32_b40 (ninS ne_b32_b39 nin0)))))).other W78 (Or.inl ne_b32_b46)).other W79 (Or.inl ne_b32_b47)).ext E81).other W82 (Or.inl ne_b32_b81)).other W83 (Or.inl ne_b32_b81))
    replace V_b34 := (((V_b34.ext E81).other W82 ne_b34_b81).other W83 ne_b34_b81)
    replace E_b36 := (((E_b36.ext E81).wr W82).wr W83)
    replace F_b36_table := ((((((F_b36_table.keep K63 (ninS (Ne.symm ne_b34_b36) (ninS (Ne.symm ne_b30_b36) (ninS ne_b36_b42 (ninS ne_b36_b40 (ninS ne_b36_b39 nin0)))))).other W78 (Or.inl ne_b36_b46)).other W79 (Or.inl ne_b36_b47)).ext E81).other W82 (Or.inl ne_b36_b81)).other W83 (Or.inl ne_b36_b81))
    replace F_b36_relation := ((((((F_b36_relation.keep K63 (ninS (Ne.symm ne_b34_b36) (ninS (Ne.symm ne_b30_b36) (ninS ne_b36_b42 (ninS ne_b36_b40 (ninS ne_b36_b39 nin0)))))).other W78 (Or.inl ne_b36_b46)).other W79 (Or.inl ne_b36_b47)).ext E81).other W82 (Or.inl ne_b36_b81)).other W83 (Or.inl ne_b36_b81))
    replace F_b36_columns := ((((((F_b36_columns.keep K63 (ninS (Ne.symm ne_b34_b36) (ninS (Ne.symm ne_b30_b36) (ninS ne_b36_b42 (ninS ne_b36_b40 (ninS ne_b36_b39 nin0)))))).other W78 (Or.inl ne_b36_b46)).other W79 (Or.inl ne_b36_b47)).ext E81).other W82 (Or.inl ne_b36_b81)).other W83 (Or.inl ne_b36_b81))
    replace E_b39 := (((E_b39.ext E81).wr W82).wr W83)
    replace F_b39_slots := (((((F_b39_slots.other W78 (Or.inl ne_b39_b46)).other W79 (Or.inl ne_b39_b47)).ext E81).other W82 (Or.inl ne_b39_b81)).other W83 (Or.inl ne_b39_b81))
    replace F_b39_hashes := (((((F_b39_hashes.other W78 (Or.inl ne_b39_b46)).other W79 (Or.inl ne_b39_b47)).ext E81).other W82 (Or.inl ne_b39_b81)).other W83 (Or.inl ne_b39_b81))
    replace F_b39_keys := (((((F_b39_keys.other W78 (Or.inl ne_b39_b46)).other W79 (Or.inl ne_b39_b47)).ext E81).other W82 (Or.inl ne_b39_b81)).other W83 (Or.inl ne_b39_b81))
    replace F_b39_count := (((((F_b39_count.other W78 (Or.inl ne_b39_b46)).other W79 (Or.inl ne_b39_b47)).ext E81).other W82 (Or.inl ne_b39_b81)).other W83 (Or.inl ne_b39_b81))
    replace F_b39_crowded := (((((F_b39_crowded.other W78 (Or.inl ne_b39_b46)).other W79 (Or.inl ne_b39_b47)).ext E81).other W82 (Or.inl ne_b39_b81)).other W83 (Or.inl ne_b39_b81))
    replace V_b40 := (((V_b40.ext E81).other W82 ne_b40_b81).other W83 ne_b40_b81)
    replace V_b42 := (((V_b42.ext E81).other W82 ne_b42_b81).other W83 ne_b42_b81)
    replace V_b37 := (((V_b37.ext E81).other W82 ne_b37_b81).other W83 ne_b37_b81)
    replace E_b81 := ((E_b81.wr W82).wr W83)
    refine own_callV (pc' := 243) B X83 (own_w hw 78 rfl) (own_w hw 79 rfl) (own_w hw 81 rfl) (own_w hw 80 rfl) (own_w hw 2 rfl) (own_w hw 82 rfl) E_b30 (by decide) [(.ref b81)] [] (rm_38 l Z a0 hw [] b30 b32 b34 k35 (y14) (y17) (y20) (y23) b36 b39 b40 k41 (y66) (y54) b42 k43 (y53) (y64) b37 k38 b81 kb81 (y26) (y29) h83 n0 (Nat.le_trans Z0 K.1) E_b30 F_b30_indexes F_b30_arity F_b30_rows F_b30_members F_b30_size F_b30_spellings F_b30_arrived g_b30 E_b32 F_b32_size g_b32 V_b34 g_b34 E_b36 F_b36_table F_b36_relation F_b36_columns g_b36 E_b39 F_b39_slots F_b39_hashes F_b39_keys F_b39_count F_b39_crowded g_b39 V_b40 g_b40 V_b42 g_b42 V_b37 g_b37 E_b81 V_b81 g_b81 ne_b30_b32 ne_b30_b34 ne_b30_b36 ne_b30_b39 ne_b30_b40 ne_b30_b42 ne_b30_b37 ne_b30_b81 ne_b32_b34 ne_b32_b36 ne_b32_b39 ne_b32_b40 ne_b32_b42 ne_b32_b37 ne_b32_b81 ne_b34_b36 ne_b34_b39 ne_b34_b40 ne_b34_b42 ne_b34_b37 ne_b34_b81 ne_b36_b39 ne_b36_b40 ne_b36_b42 ne_b36_b37 ne_b36_b81 ne_b39_b40 ne_b39_b42 (Ne.symm ne_b37_b39) ne_b39_b81 ne_b40_b42 (Ne.symm ne_b37_b40) ne_b40_b81 (Ne.symm ne_b37_b42) ne_b42_b81 ne_b37_b81 hy55 hy56 hy67 hy70) 0 (by decide) (by decide) rfl pd_14 rfl rfl (Nat.le_of_eq rfl) at_240 rfl (k' := 15) (n' := 89) rfl rfl (by decide) (by decide) ?_
    intro T84 v84 h84 X84 q84
    rcases q84 with ⟨y85, y86, hy87, hy88, c89, rfl, K84, E_b30, F_b30_indexes, F_b30_arity, F_b30_rows, F_b30_members, F_b30_size, F_b30_spellings, F_b30_arrived, V_b34, E_b39, F_b39_slots, F_b39_hashes, F_b39_keys, F_b39_count, F_b39_crowded, V_b42⟩ | ⟨y90, hy91, c92, rfl, rfl⟩
    replace K := K.trans K84 (allS (Or.inr sz_b34) (allS (Or.inr sz_b30) (allS (Or.inr sz_b42) (allS (Or.inr sz_b40) (allS (Or.inr sz_b39) all0)))))
    show own_Go p e below (T84.setTop (mkF m 243 #[.val (.int i0), .val (.int i1), .val (.int i2), .val (.int i3), .val (.int y1), .val (.int y8), .val (.int y10), .val (.int y12), .val (.int y14), .val (.int y17), .val (.int y20), .val (.int y23), .val (.int y26), .val (.int y29), .val (.ref b30), .val (.ref b46), .val (.ref b47), .val (.int 2), .unset, .unset] [(.int 1)])) _
    refine own_pop (pc' := 244) B X84 at_243 rfl rfl ?_
    refine own_aload (pc' := 246) B X84 at_244 rfl rfl rfl ?_
    refine own_aload (pc' := 248) B X84 at_246 rfl rfl rfl ?_
    refine own_iload (pc' := 250) B X84 at_248 rfl rfl ?_
    refine own_iconst (pc' := 251) B X84 (z := (0 : Int32)) at_250 rfl rfl ?_
    refine own_iload (pc' := 253) B X84 at_251 rfl rfl ?_
    refine own_iload (pc' := 255) B X84 at_253 rfl rfl ?_
    replace V_b46 := ((((V_b46.ext E81).other W82 ne_b46_b81).other W83 ne_b46_b81).keep K84 (ninS (Ne.symm ne_b34_b46) (ninS (Ne.symm ne_b30_b46) (ninS (Ne.symm ne_b42_b46) (ninS (Ne.symm ne_b40_b46) (ninS (Ne.symm ne_b39_b46) nin0))))))
    replace V_b47 := ((((V_b47.ext E81).other W82 ne_b47_b81).other W83 ne_b47_b81).keep K84 (ninS (Ne.symm ne_b34_b47) (ninS (Ne.symm ne_b30_b47) (ninS (Ne.symm ne_b42_b47) (ninS (Ne.symm ne_b40_b47) (ninS (Ne.symm ne_b39_b47) nin0))))))
    refine own_callS (pc' := 258) B X84 (own_w hw 159 rfl) (own_w hw 160 rfl) (own_w hw 76 rfl) (own_w hw 161 rfl) (by decide) [(.ref b46), (.ref b47), (.int 2), (.int 0), (.int y26), (.int y29)] [] (rm_57 l Z a0 hw [] b46 kb46 (y14) (y20) b47 kb47 (y17) (y23) (y26) (y29) h84 n0 (Nat.le_trans Z0 K.1) V_b46 g_b46 V_b47 g_b47 ne_b46_b47) 0 (by decide) (by decide) rfl pd_17 rfl rfl (Nat.le_of_eq rfl) at_255 rfl (k' := 15) (n' := 89) rfl rfl (by decide) (by decide) ?_
    intro T93 v93 h93 X93 q93
    obtain ⟨y94, hy95, rfl, rfl⟩ := q93
    show own_Go p e below (T93.setTop (mkF m 258 #[.val (.int i0), .val (.int i1), .val (.int i2), .val (.int i3), .val (.int y1), .val (.int y8), .val (.int y10), .val (.int y12), .val (.int y14), .val (.int y17), .val (.int y20), .val (.int y23), .val (.int y26), .val (.int y29), .val (.ref b30), .val (.ref b46), .val (.ref b47), .val (.int 2), .unset, .unset] [(.int y94)])) _
    have c96 : y94 = (0 : Int32) := by
      exact (ax_47 (F := own_F_slot) (H := own_F_hash) own_next_ne hy68 c69 hy76 c77 hy88 c89 hy95)
    refine own_ifNo (pc' := 261) B X93 at_258 ((if0 _ _).trans (teq c96).2) rfl ?_
    refine own_aload (pc' := 263) B X93 at_261 rfl rfl rfl ?_
    refine own_aload (pc' := 265) B X93 at_263 rfl rfl rfl ?_
    refine own_iload (pc' := 267) B X93 at_265 rfl rfl ?_
    refine own_iconst (pc' := 268) B X93 (z := (1 : Int32)) at_267 rfl rfl ?_
    refine own_iload (pc' := 270) B X93 at_268 rfl rfl ?_
    refine own_iload (pc' := 272) B X93 at_270 rfl rfl ?_
    refine own_callS (pc' := 275) B X93 (own_w hw 159 rfl) (own_w hw 160 rfl) (own_w hw 76 rfl) (own_w hw 161 rfl) (by decide) [(.ref b46), (.ref b47), (.int 2), (.int 1), (.int y26), (.int y29)] [] (rm_58 l Z a0 hw [] b46 kb46 (y14) (y20) b47 kb47 (y17) (y23) (y26) (y29) h84 n0 (Nat.le_trans Z0 K.1) V_b46 g_b46 V_b47 g_b47 ne_b46_b47) 0 (by decide) (by decide) rfl pd_17 rfl rfl (Nat.le_of_eq rfl) at_272 rfl (k' := 15) (n' := 89) rfl rfl (by decide) (by decide) ?_
    intro T97 v97 h97 X97 q97
    obtain ⟨y98, hy99, rfl, rfl⟩ := q97
    show own_Go p e below (T97.setTop (mkF m 275 #[.val (.int i0), .val (.int i1), .val (.int i2), .val (.int i3), .val (.int y1), .val (.int y8), .val (.int y10), .val (.int y12), .val (.int y14), .val (.int y17), .val (.int y20), .val (.int y23), .val (.int y26), .val (.int y29), .val (.ref b30), .val (.ref b46), .val (.ref b47), .val (.int 2), .unset, .unset] [(.int y98)])) _
    have c100 : y98 = (0 : Int32) := by
      exact (ax_48 (F := own_F_slot) (H := own_F_hash) own_next_ne hy68 c69 hy76 c77 hy88 c89 hy95 c96 hy99)
    refine own_ifNo (pc' := 278) B X97 at_275 ((if0 _ _).trans (teq c100).2) rfl ?_
    refine own_aload (pc' := 280) B X97 at_278 rfl rfl rfl ?_
    refine own_iload (pc' := 282) B X97 at_280 rfl rfl ?_
    refine own_iload (pc' := 284) B X97 at_282 rfl rfl ?_
    replace V_b46 : Arv Z h84 b46 kb46 .int (3 : Int32) [(.int y14), (.int y20), (.int 0)] (.int 0) := V_b46.pad (pad_rep [(.int y14), (.int y20)] (.int 0) 1)
    refine own_iastore (pc' := 285) B X97 (x' := y26) V_b46 g_b46 ⟨by decide, by decide⟩ 2 (by decide) (Nat.le_of_ble_eq_true rfl) rfl at_284 rfl ?_
    intro T101 h101 X101 W101 V_b46
    replace V_b46 : Arv Z h101 b46 kb46 .int (3 : Int32) [(.int y14), (.int y20), (.int y26)] (.int 0) := V_b46
    replace K := K.wr W101 (Or.inr sz_b46)
    refine own_aload (pc' := 287) B X101 at_285 rfl rfl rfl ?_
    refine own_iload (pc' := 289) B X101 at_287 rfl rfl ?_
    refine own_iload (pc' := 291) B X101 at_289 rfl rfl ?_
    replace V_b47 := (V_b47.other W101 (Ne.symm ne_b46_b47))
    replace V_b47 : Arv Z h101 b47 kb47 .int (3 : Int32) [(.int y17), (.int y23), (.int 0)] (.int 0) := V_b47.pad (pad_rep [(.int y17), (.int y23)] (.int 0) 1)
    refine own_iastore (pc' := 292) B X101 (x' := y29) V_b47 g_b47 ⟨by decide, by decide⟩ 2 (by decide) (Nat.le_of_ble_eq_true rfl) rfl at_291 rfl ?_
    intro T102 h102 X102 W102 V_b47
    replace V_b47 : Arv Z h102 b47 kb47 .int (3 : Int32) [(.int y17), (.int y23), (.int y29)] (.int 0) := V_b47
    replace K := K.wr W102 (Or.inr sz_b47)
    refine own_iload (pc' := 294) B X102 at_292 rfl rfl ?_
    refine own_iconst (pc' := 295) B X102 (z := (1 : Int32)) at_294 rfl rfl ?_
    refine own_iadd (pc' := 296) B X102 (z := (3 : Int32)) at_295 rfl (by decide) ?_
    refine own_istore (pc' := 298) B X102 (Ls' := #[.val (.int i0), .val (.int i1), .val (.int i2), .val (.int i3), .val (.int y1), .val (.int y8), .val (.int y10), .val (.int y12), .val (.int y14), .val (.int y17), .val (.int y20), .val (.int y23), .val (.int y26), .val (.int y29), .val (.ref b30), .val (.ref b46), .val (.ref b47), .val (.int 3), .unset, .unset]) at_296 rfl rfl ?_
    exact tl_0 l Z a0 hw i0 i1 i2 i3 (i0) (i1) (i2) (i3) (y1) (y8) (y10) (y12) (y14) (y17) (y20) (y23) (y26) (y29) b30 b34 k35 b46 kb46 b47 kb47 (y9) (y11) h0 h102 n0 Z0 ((E_b30.wr W101).wr W102) ((F_b30_arity.other W101 (Or.inl ne_b30_b46)).other W102 (Or.inl ne_b30_b47)) ((F_b30_rows.other W101 (Or.inl ne_b30_b46)).other W102 (Or.inl ne_b30_b47)) ((F_b30_size.other W101 (Or.inl ne_b30_b46)).other W102 (Or.inl ne_b30_b47)) g_b30 ((V_b34.other W101 ne_b34_b46).other W102 ne_b34_b47) g_b34 (V_b46.other W102 ne_b46_b47) g_b46 V_b47 g_b47 ne_b30_b34 ne_b30_b46 ne_b30_b47 ne_b34_b46 ne_b34_b47 ne_b46_b47 hy1 hy10 hy12 K B (own_more X102 (by decide) (by decide))
    show own_Go p e below (T84.setTop (mkF m 243 #[.val (.int i0), .val (.int i1), .val (.int i2), .val (.int i3), .val (.int y1), .val (.int y8), .val (.int y10), .val (.int y12), .val (.int y14), .val (.int y17), .val (.int y20), .val (.int y23), .val (.int y26), .val (.int y29), .val (.ref b30), .val (.ref b46), .val (.ref b47), .val (.int 2), .unset, .unset] [(.int 0)])) _
    refine own_pop (pc' := 244) B X84 at_243 rfl rfl ?_
    refine own_aload (pc' := 246) B X84 at_244 rfl rfl rfl ?_
    refine own_aload (pc' := 248) B X84 at_246 rfl rfl rfl ?_
    refine own_iload (pc' := 250) B X84 at_248 rfl rfl ?_
    refine own_iconst (pc' := 251) B X84 (z := (0 : Int32)) at_250 rfl rfl ?_
    refine own_iload (pc' := 253) B X84 at_251 rfl rfl ?_
    refine own_iload (pc' := 255) B X84 at_253 rfl rfl ?_
    replace V_b46 := (((V_b46.ext E81).other W82 ne_b46_b81).other W83 ne_b46_b81)
    replace V_b47 := (((V_b47.ext E81).other W82 ne_b47_b81).other W83 ne_b47_b81)
    refine own_callS (pc' := 258) B X84 (own_w hw 159 rfl) (own_w hw 160 rfl) (own_w hw 76 rfl) (own_w hw 161 rfl) (by decide) [(.ref b46), (.ref b47), (.int 2), (.int 0), (.int y26), (.int y29)] [] (rm_57 l Z a0 hw [] b46 kb46 (y14) (y20) b47 kb47 (y17) (y23) (y26) (y29) h83 n0 (Nat.le_trans Z0 K.1) V_b46 g_b46 V_b47 g_b47 ne_b46_b47) 0 (by decide) (by decide) rfl pd_17 rfl rfl (Nat.le_of_eq rfl) at_255 rfl (k' := 15) (n' := 89) rfl rfl (by decide) (by decide) ?_
    intro T103 v103 h103 X103 q103
    obtain ⟨y104, hy105, rfl, rfl⟩ := q103
    show own_Go p e below (T103.setTop (mkF m 258 #[.val (.int i0), .val (.int i1), .val (.int i2), .val (.int i3), .val (.int y1), .val (.int y8), .val (.int y10), .val (.int y12), .val (.int y14), .val (.int y17), .val (.int y20), .val (.int y23), .val (.int y26), .val (.int y29), .val (.ref b30), .val (.ref b46), .val (.ref b47), .val (.int 2), .unset, .unset] [(.int y104)])) _
    by_cases c106 : y104 = (0 : Int32)
    refine own_ifNo (pc' := 261) B X103 at_258 ((if0 _ _).trans (teq c106).2) rfl ?_
    refine own_aload (pc' := 263) B X103 at_261 rfl rfl rfl ?_
    refine own_aload (pc' := 265) B X103 at_263 rfl rfl rfl ?_
    refine own_iload (pc' := 267) B X103 at_265 rfl rfl ?_
    refine own_iconst (pc' := 268) B X103 (z := (1 : Int32)) at_267 rfl rfl ?_
    refine own_iload (pc' := 270) B X103 at_268 rfl rfl ?_
    refine own_iload (pc' := 272) B X103 at_270 rfl rfl ?_
    refine own_callS (pc' := 275) B X103 (own_w hw 159 rfl) (own_w hw 160 rfl) (own_w hw 76 rfl) (own_w hw 161 rfl) (by decide) [(.ref b46), (.ref b47), (.int 2), (.int 1), (.int y26), (.int y29)] [] (rm_58 l Z a0 hw [] b46 kb46 (y14) (y20) b47 kb47 (y17) (y23) (y26) (y29) h83 n0 (Nat.le_trans Z0 K.1) V_b46 g_b46 V_b47 g_b47 ne_b46_b47) 0 (by decide) (by decide) rfl pd_17 rfl rfl (Nat.le_of_eq rfl) at_272 rfl (k' := 15) (n' := 89) rfl rfl (by decide) (by decide) ?_
    intro T107 v107 h107 X107 q107
    obtain ⟨y108, hy109, rfl, rfl⟩ := q107
    show own_Go p e below (T107.setTop (mkF m 275 #[.val (.int i0), .val (.int i1), .val (.int i2), .val (.int i3), .val (.int y1), .val (.int y8), .val (.int y10), .val (.int y12), .val (.int y14), .val (.int y17), .val (.int y20), .val (.int y23), .val (.int y26), .val (.int y29), .val (.ref b30), .val (.ref b46), .val (.ref b47), .val (.int 2), .unset, .unset] [(.int y108)])) _
    have c110 : ¬ (y108 = (0 : Int32)) := by
      exact (ax_49 (F := own_F_slot) (H := own_F_hash) own_next_ne hy68 c69 hy76 c77 hy91 c92 hy105 c106 hy109)
    refine own_ifYes (pc' := 298) B X107 at_275 ((if0 _ _).trans (feq c110).2) (by decide) rfl ?_
    exact tl_1 l Z a0 hw i0 i1 i2 i3 (i0) (i1) (i2) (i3) (y1) (y8) (y10) (y12) (y14) (y17) (y20) (y23) (y26) (y29) b30 b34 k35 b46 kb46 b47 kb47 (y9) (y11) h0 h83 n0 Z0 E_b30 F_b30_arity F_b30_rows F_b30_size g_b30 V_b34 g_b34 V_b46 g_b46 V_b47 g_b47 ne_b30_b34 ne_b30_b46 ne_b30_b47 ne_b34_b46 ne_b34_b47 ne_b46_b47 hy1 hy10 hy12 K B (own_more X107 (by decide) (by decide))
    refine own_ifYes (pc' := 298) B X103 at_258 ((if0 _ _).trans (feq c106).2) (by decide) rfl ?_
    exact tl_1 l Z a0 hw i0 i1 i2 i3 (i0) (i1) (i2) (i3) (y1) (y8) (y10) (y12) (y14) (y17) (y20) (y23) (y26) (y29) b30 b34 k35 b46 kb46 b47 kb47 (y9) (y11) h0 h83 n0 Z0 E_b30 F_b30_arity F_b30_rows F_b30_size g_b30 V_b34 g_b34 V_b46 g_b46 V_b47 g_b47 ne_b30_b34 ne_b30_b46 ne_b30_b47 ne_b34_b46 ne_b34_b47 ne_b46_b47 hy1 hy10 hy12 K B (own_more X103 (by decide) (by decide))
    refine own_icmpYes (pc' := 298) B X79 at_222 (flt c80).2.2.2 (by decide) rfl ?_
    exact tl_1 l Z a0 hw i0 i1 i2 i3 (i0) (i1) (i2) (i3) (y1) (y8) (y10) (y12) (y14) (y17) (y20) (y23) (y26) (y29) b30 b34 k35 b46 kb46 b47 kb47 (y9) (y11) h0 h79 n0 Z0 ((E_b30.wr W78).wr W79) ((F_b30_arity.other W78 (Or.inl ne_b30_b46)).other W79 (Or.inl ne_b30_b47)) ((F_b30_rows.other W78 (Or.inl ne_b30_b46)).other W79 (Or.inl ne_b30_b47)) ((F_b30_size.other W78 (Or.inl ne_b30_b46)).other W79 (Or.inl ne_b30_b47)) g_b30 ((V_b34.other W78 ne_b34_b46).other W79 ne_b34_b47) g_b34 (V_b46.other W79 ne_b46_b47) g_b46 V_b47 g_b47 ne_b30_b34 ne_b30_b46 ne_b30_b47 ne_b34_b46 ne_b34_b47 ne_b46_b47 hy1 hy10 hy12 K B (own_more X79 (by decide) (by decide))
    show own_Go p e below (T63.setTop (mkF m 181 #[.val (.int i0), .val (.int i1), .val (.int i2), .val (.int i3), .val (.int y1), .val (.int y8), .val (.int y10), .val (.int y12), .val (.int y14), .val (.int y17), .val (.int y20), .val (.int y23), .val (.int y26), .val (.int y29), .val (.ref b30), .val (.ref b46), .val (.ref b47), .val (.int 1), .unset, .unset] [(.int 0)])) _
    refine own_pop (pc' := 182) B X63 at_181 rfl rfl ?_
    refine own_aload (pc' := 184) B X63 at_182 rfl rfl rfl ?_
    refine own_aload (pc' := 186) B X63 at_184 rfl rfl rfl ?_
    refine own_iload (pc' := 188) B X63 at_186 rfl rfl ?_
    refine own_iconst (pc' := 189) B X63 (z := (0 : Int32)) at_188 rfl rfl ?_
    refine own_iload (pc' := 191) B X63 at_189 rfl rfl ?_
    refine own_iload (pc' := 193) B X63 at_191 rfl rfl ?_
    replace V_b46 := (((V_b46.ext E60).other W61 ne_b46_b60).other W62 ne_b46_b60)
    replace V_b47 := (((V_b47.ext E60).other W61 ne_b47_b60).other W62 ne_b47_b60)
    refine own_callS (pc' := 196) B X63 (own_w hw 159 rfl) (own_w hw 160 rfl) (own_w hw 76 rfl) (own_w hw 161 rfl) (by decide) [(.ref b46), (.ref b47), (.int 1), (.int 0), (.int y20), (.int y23)] [] (rm_37 l Z a0 hw [] b46 kb46 (y14) b47 kb47 (y17) (y20) (y23) h62 n0 (Nat.le_trans Z0 K.1) V_b46 g_b46 V_b47 g_b47 ne_b46_b47) 0 (by decide) (by decide) rfl pd_17 rfl rfl (Nat.le_of_eq rfl) at_193 rfl (k' := 14) (n' := 87) rfl rfl (by decide) (by decide) ?_
    intro T111 v111 h111 X111 q111
    obtain ⟨y112, hy113, rfl, rfl⟩ := q111
    show own_Go p e below (T111.setTop (mkF m 196 #[.val (.int i0), .val (.int i1), .val (.int i2), .val (.int i3), .val (.int y1), .val (.int y8), .val (.int y10), .val (.int y12), .val (.int y14), .val (.int y17), .val (.int y20), .val (.int y23), .val (.int y26), .val (.int y29), .val (.ref b30), .val (.ref b46), .val (.ref b47), .val (.int 1), .unset, .unset] [(.int y112)])) _
    have c114 : ¬ (y112 = (0 : Int32)) := by
      exact (ax_50 (F := own_F_slot) (H := own_F_hash) own_next_ne hy72 c73 hy113)
    refine own_ifYes (pc' := 219) B X111 at_196 ((if0 _ _).trans (feq c114).2) (by decide) rfl ?_
    refine own_iload (pc' := 221) B X111 at_219 rfl rfl ?_
    refine own_iconst (pc' := 222) B X111 (z := (2 : Int32)) at_221 rfl rfl ?_
    by_cases c115 : (2 : Int32) < y12
    refine own_icmpNo (pc' := 225) B X111 at_222 (tlt c115).2.2.2 rfl ?_
    refine own_aload (pc' := 227) B X111 at_225 rfl rfl rfl ?_
    refine own_iconst (pc' := 228) B X111 (z := (2 : Int32)) at_227 rfl rfl ?_
    refine own_newarray (pc' := 230) B X111 (own_w hw 31 rfl) at_228 rfl rfl (by decide) 2 (by decide) (by decide) (k' := 15) (n' := 89) rfl rfl (by decide) (by decide) "[I" (by decide) (.int 0) rfl ?_
    intro T116 h116 b116 kb116 X116 g116 E116 V_b116 E_b116
    have ne_b30_b116 : b30 ≠ b116 := own_ne E_b30.lt g116
    have ne_b32_b116 : b32 ≠ b116 := own_ne E_b32.lt g116
    have ne_b34_b116 : b34 ≠ b116 := own_ne V_b34.lt g116
    have ne_b36_b116 : b36 ≠ b116 := own_ne E_b36.lt g116
    have ne_b37_b116 : b37 ≠ b116 := own_ne V_b37.lt g116
    have ne_b39_b116 : b39 ≠ b116 := own_ne E_b39.lt g116
    have ne_b40_b116 : b40 ≠ b116 := own_ne V_b40.lt g116
    have ne_b42_b116 : b42 ≠ b116 := own_ne V_b42.lt g116
    have ne_b46_b116 : b46 ≠ b116 := own_ne V_b46.lt g116
    have ne_b47_b116 : b47 ≠ b116 := own_ne V_b47.lt g116
    have sz_b116 : h0.size ≤ b116 := own_sz K g116
    have g_b116 : n0 ≤ b116 := Nat.le_trans Z0 sz_b116
    replace K := K.ext E116
    refine own_dup (pc' := 231) B X116 at_230 rfl rfl ?_
    refine own_iconst (pc' := 232) B X116 (z := (0 : Int32)) at_231 rfl rfl ?_
    refine own_iload (pc' := 234) B X116 at_232 rfl rfl ?_
    replace V_b116 : Arv Z h116 b116 kb116 .int (2 : Int32) [(.int 0)] (.int 0) := V_b116.pad (pad_rep [] (.int 0) 1)
    refine own_iastore (pc' := 235) B X116 (x' := y26) V_b116 g_b116 ⟨by decide, by decide⟩ 0 (by decide) (Nat.le_of_ble_eq_true rfl) rfl at_234 rfl ?_
    intro T117 h117 X117 W117 V_b116
    replace V_b116 : Arv Z h117 b116 kb116 .int (2 : Int32) [(.int y26)] (.int 0) := V_b116
    replace K := K.wr W117 (Or.inr sz_b116)
    refine own_dup (pc' := 236) B X117 at_235 rfl rfl ?_
    refine own_iconst (pc' := 237) B X117 (z := (1 : Int32)) at_236 rfl rfl ?_
    refine own_iload (pc' := 239) B X117 at_237 rfl rfl ?_
    replace V_b116 : Arv Z h117 b116 kb116 .int (2 : Int32) [(.int y26), (.int 0)] (.int 0) := V_b116.pad (pad_rep [(.int y26)] (.int 0) 1)
    refine own_iastore (pc' := 240) B X117 (x' := y29) V_b116 g_b116 ⟨by decide, by decide⟩ 1 (by decide) (Nat.le_of_ble_eq_true rfl) rfl at_239 rfl ?_
    intro T118 h118 X118 W118 V_b116
    replace V_b116 : Arv Z h118 b116 kb116 .int (2 : Int32) [(.int y26), (.int y29)] (.int 0) := V_b116
    replace K := K.wr W118 (Or.inr sz_b116)
    replace E_b30 := (((E_b30.ext E116).wr W117).wr W118)
    replace F_b30_indexes := (((F_b30_indexes.ext E116).other W117 (Or.inl ne_b30_b116)).other W118 (Or.inl ne_b30_b116))
    replace F_b30_arity := (((F_b30_arity.ext E116).other W117 (Or.inl ne_b30_b116)).other W118 (Or.inl ne_b30_b116))
    replace F_b30_rows := (((F_b30_rows.ext E116).other W117 (Or.inl ne_b30_b116)).other W118 (Or.inl ne_b30_b116))
    replace F_b30_members := (((F_b30_members.ext E116).other W117 (Or.inl ne_b30_b116)).other W118 (Or.inl ne_b30_b116))
    replace F_b30_size := (((F_b30_size.ext E116).other W117 (Or.inl ne_b30_b116)).other W118 (Or.inl ne_b30_b116))
    replace F_b30_spellings := (((F_b30_spellings.ext E116).other W117 (Or.inl ne_b30_b116)).other W118 (Or.inl ne_b30_b116))
    replace F_b30_arrived := (((F_b30_arrived.ext E116).other W117 (Or.inl ne_b30_b116)).other W118 (Or.inl ne_b30_b116))
    replace E_b32 := (((E_b32.ext E116).wr W117).wr W118)
    replace F_b32_size := (((F_b32_size.ext E116).other W117 (Or.inl ne_b32_b116)).other W118 (Or.inl ne_b32_b116))
    replace V_b34 := (((V_b34.ext E116).other W117 ne_b34_b116).other W118 ne_b34_b116)
    replace E_b36 := (((E_b36.ext E116).wr W117).wr W118)
    replace F_b36_table := (((F_b36_table.ext E116).other W117 (Or.inl ne_b36_b116)).other W118 (Or.inl ne_b36_b116))
    replace F_b36_relation := (((F_b36_relation.ext E116).other W117 (Or.inl ne_b36_b116)).other W118 (Or.inl ne_b36_b116))
    replace F_b36_columns := (((F_b36_columns.ext E116).other W117 (Or.inl ne_b36_b116)).other W118 (Or.inl ne_b36_b116))
    replace E_b39 := (((E_b39.ext E116).wr W117).wr W118)
    replace F_b39_slots := (((F_b39_slots.ext E116).other W117 (Or.inl ne_b39_b116)).other W118 (Or.inl ne_b39_b116))
    replace F_b39_hashes := (((F_b39_hashes.ext E116).other W117 (Or.inl ne_b39_b116)).other W118 (Or.inl ne_b39_b116))
    replace F_b39_keys := (((F_b39_keys.ext E116).other W117 (Or.inl ne_b39_b116)).other W118 (Or.inl ne_b39_b116))
    replace F_b39_count := (((F_b39_count.ext E116).other W117 (Or.inl ne_b39_b116)).other W118 (Or.inl ne_b39_b116))
    replace F_b39_crowded := (((F_b39_crowded.ext E116).other W117 (Or.inl ne_b39_b116)).other W118 (Or.inl ne_b39_b116))
    replace V_b40 := (((V_b40.ext E116).other W117 ne_b40_b116).other W118 ne_b40_b116)
    replace V_b42 := (((V_b42.ext E116).other W117 ne_b42_b116).other W118 ne_b42_b116)
    replace V_b37 := (((V_b37.ext E116).other W117 ne_b37_b116).other W118 ne_b37_b116)
    replace E_b116 := ((E_b116.wr W117).wr W118)
    refine own_callV (pc' := 243) B X118 (own_w hw 78 rfl) (own_w hw 79 rfl) (own_w hw 81 rfl) (own_w hw 80 rfl) (own_w hw 2 rfl) (own_w hw 82 rfl) E_b30 (by decide) [(.ref b116)] [] (rm_22 l Z a0 hw [] b30 b32 b34 k35 (y14) (y17) b36 b39 b40 k41 (y54) b42 k43 (y53) b37 k38 b116 kb116 (y26) (y29) h118 n0 (Nat.le_trans Z0 K.1) E_b30 F_b30_indexes F_b30_arity F_b30_rows F_b30_members F_b30_size F_b30_spellings F_b30_arrived g_b30 E_b32 F_b32_size g_b32 V_b34 g_b34 E_b36 F_b36_table F_b36_relation F_b36_columns g_b36 E_b39 F_b39_slots F_b39_hashes F_b39_keys F_b39_count F_b39_crowded g_b39 V_b40 g_b40 V_b42 g_b42 V_b37 g_b37 E_b116 V_b116 g_b116 ne_b30_b32 ne_b30_b34 ne_b30_b36 ne_b30_b39 ne_b30_b40 ne_b30_b42 ne_b30_b37 ne_b30_b116 ne_b32_b34 ne_b32_b36 ne_b32_b39 ne_b32_b40 ne_b32_b42 ne_b32_b37 ne_b32_b116 ne_b34_b36 ne_b34_b39 ne_b34_b40 ne_b34_b42 ne_b34_b37 ne_b34_b116 ne_b36_b39 ne_b36_b40 ne_b36_b42 ne_b36_b37 ne_b36_b116 ne_b39_b40 ne_b39_b42 (Ne.symm ne_b37_b39) ne_b39_b116 ne_b40_b42 (Ne.symm ne_b37_b40) ne_b40_b116 (Ne.symm ne_b37_b42) ne_b42_b116 ne_b37_b116 hy55 hy56) 0 (by decide) (by decide) rfl pd_14 rfl rfl (Nat.le_of_eq rfl) at_240 rfl (k' := 15) (n' := 89) rfl rfl (by decide) (by decide) ?_
    intro T119 v119 h119 X119 q119
    rcases q119 with ⟨y120, y121, y122, hy123, hy124, c125, hy126, rfl, K119, E_b30, F_b30_indexes, F_b30_arity, F_b30_rows, F_b30_members, F_b30_size, F_b30_spellings, F_b30_arrived, V_b34, E_b39, F_b39_slots, F_b39_hashes, F_b39_keys, F_b39_count, F_b39_crowded, V_b40, V_b42⟩ | ⟨y127, hy128, c129, rfl, rfl⟩
    replace K := K.trans K119 (allS (Or.inr sz_b34) (allS (Or.inr sz_b30) (allS (Or.inr sz_b42) (allS (Or.inr sz_b40) (allS (Or.inr sz_b39) all0)))))
    show own_Go p e below (T119.setTop (mkF m 243 #[.val (.int i0), .val (.int i1), .val (.int i2), .val (.int i3), .val (.int y1), .val (.int y8), .val (.int y10), .val (.int y12), .val (.int y14), .val (.int y17), .val (.int y20), .val (.int y23), .val (.int y26), .val (.int y29), .val (.ref b30), .val (.ref b46), .val (.ref b47), .val (.int 1), .unset, .unset] [(.int 1)])) _
    refine own_pop (pc' := 244) B X119 at_243 rfl rfl ?_
    refine own_aload (pc' := 246) B X119 at_244 rfl rfl rfl ?_
    refine own_aload (pc' := 248) B X119 at_246 rfl rfl rfl ?_
    refine own_iload (pc' := 250) B X119 at_248 rfl rfl ?_
    refine own_iconst (pc' := 251) B X119 (z := (0 : Int32)) at_250 rfl rfl ?_
    refine own_iload (pc' := 253) B X119 at_251 rfl rfl ?_
    refine own_iload (pc' := 255) B X119 at_253 rfl rfl ?_
    replace V_b46 := ((((V_b46.ext E116).other W117 ne_b46_b116).other W118 ne_b46_b116).keep K119 (ninS (Ne.symm ne_b34_b46) (ninS (Ne.symm ne_b30_b46) (ninS (Ne.symm ne_b42_b46) (ninS (Ne.symm ne_b40_b46) (ninS (Ne.symm ne_b39_b46) nin0))))))
    replace V_b47 := ((((V_b47.ext E116).other W117 ne_b47_b116).other W118 ne_b47_b116).keep K119 (ninS (Ne.symm ne_b34_b47) (ninS (Ne.symm ne_b30_b47) (ninS (Ne.symm ne_b42_b47) (ninS (Ne.symm ne_b40_b47) (ninS (Ne.symm ne_b39_b47) nin0))))))
    refine own_callS (pc' := 258) B X119 (own_w hw 159 rfl) (own_w hw 160 rfl) (own_w hw 76 rfl) (own_w hw 161 rfl) (by decide) [(.ref b46), (.ref b47), (.int 1), (.int 0), (.int y26), (.int y29)] [] (rm_37 l Z a0 hw [] b46 kb46 (y14) b47 kb47 (y17) (y26) (y29) h119 n0 (Nat.le_trans Z0 K.1) V_b46 g_b46 V_b47 g_b47 ne_b46_b47) 0 (by decide) (by decide) rfl pd_17 rfl rfl (Nat.le_of_eq rfl) at_255 rfl (k' := 15) (n' := 89) rfl rfl (by decide) (by decide) ?_
    intro T130 v130 h130 X130 q130
    obtain ⟨y131, hy132, rfl, rfl⟩ := q130
    show own_Go p e below (T130.setTop (mkF m 258 #[.val (.int i0), .val (.int i1), .val (.int i2), .val (.int i3), .val (.int y1), .val (.int y8), .val (.int y10), .val (.int y12), .val (.int y14), .val (.int y17), .val (.int y20), .val (.int y23), .val (.int y26), .val (.int y29), .val (.ref b30), .val (.ref b46), .val (.ref b47), .val (.int 1), .unset, .unset] [(.int y131)])) _
    have c133 : y131 = (0 : Int32) := by
      exact (ax_51 (F := own_F_slot) (H := own_F_hash) own_next_ne hy72 c73 hy113 c114 hy124 c125 hy132)
    refine own_ifNo (pc' := 261) B X130 at_258 ((if0 _ _).trans (teq c133).2) rfl ?_
    refine own_aload (pc' := 263) B X130 at_261 rfl rfl rfl ?_
    refine own_aload (pc' := 265) B X130 at_263 rfl rfl rfl ?_
    refine own_iload (pc' := 267) B X130 at_265 rfl rfl ?_
    refine own_iconst (pc' := 268) B X130 (z := (1 : Int32)) at_267 rfl rfl ?_
    refine own_iload (pc' := 270) B X130 at_268 rfl rfl ?_
    refine own_iload (pc' := 272) B X130 at_270 rfl rfl ?_
    refine own_callS (pc' := 275) B X130 (own_w hw 159 rfl) (own_w hw 160 rfl) (own_w hw 76 rfl) (own_w hw 161 rfl) (by decide) [(.ref b46), (.ref b47), (.int 1), (.int 1), (.int y26), (.int y29)] [] (rm_67 l Z a0 hw [] b46 kb46 (y14) b47 kb47 (y17) (y26) (y29) h119 n0 (Nat.le_trans Z0 K.1) V_b46 g_b46 V_b47 g_b47 ne_b46_b47) 0 (by decide) (by decide) rfl pd_17 rfl rfl (Nat.le_of_eq rfl) at_272 rfl (k' := 15) (n' := 89) rfl rfl (by decide) (by decide) ?_
    intro T134 v134 h134 X134 q134
    obtain ⟨rfl, rfl⟩ := q134
    show own_Go p e below (T134.setTop (mkF m 275 #[.val (.int i0), .val (.int i1), .val (.int i2), .val (.int i3), .val (.int y1), .val (.int y8), .val (.int y10), .val (.int y12), .val (.int y14), .val (.int y17), .val (.int y20), .val (.int y23), .val (.int y26), .val (.int y29), .val (.ref b30), .val (.ref b46), .val (.ref b47), .val (.int 1), .unset, .unset] [(.int 0)])) _
    refine own_ifNo (pc' := 278) B X134 at_275 ((if0 _ _).trans (teq (by decide : (0 : Int32) = (0 : Int32))).2) rfl ?_
    refine own_aload (pc' := 280) B X134 at_278 rfl rfl rfl ?_
    refine own_iload (pc' := 282) B X134 at_280 rfl rfl ?_
    refine own_iload (pc' := 284) B X134 at_282 rfl rfl ?_
    replace V_b46 : Arv Z h119 b46 kb46 .int (3 : Int32) [(.int y14), (.int 0)] (.int 0) := V_b46.pad (pad_rep [(.int y14)] (.int 0) 1)
    refine own_iastore (pc' := 285) B X134 (x' := y26) V_b46 g_b46 ⟨by decide, by decide⟩ 1 (by decide) (Nat.le_of_ble_eq_true rfl) rfl at_284 rfl ?_
    intro T135 h135 X135 W135 V_b46
    replace V_b46 : Arv Z h135 b46 kb46 .int (3 : Int32) [(.int y14), (.int y26)] (.int 0) := V_b46
    replace K := K.wr W135 (Or.inr sz_b46)
    refine own_aload (pc' := 287) B X135 at_285 rfl rfl rfl ?_
    refine own_iload (pc' := 289) B X135 at_287 rfl rfl ?_
    refine own_iload (pc' := 291) B X135 at_289 rfl rfl ?_
    replace V_b47 := (V_b47.other W135 (Ne.symm ne_b46_b47))
    replace V_b47 : Arv Z h135 b47 kb47 .int (3 : Int32) [(.int y17), (.int 0)] (.int 0) := V_b47.pad (pad_rep [(.int y17)] (.int 0) 1)
    refine own_iastore (pc' := 292) B X135 (x' := y29) V_b47 g_b47 ⟨by decide, by decide⟩ 1 (by decide) (Nat.le_of_ble_eq_true rfl) rfl at_291 rfl ?_
    intro T136 h136 X136 W136 V_b47
    replace V_b47 : Arv Z h136 b47 kb47 .int (3 : Int32) [(.int y17), (.int y29)] (.int 0) := V_b47
    replace K := K.wr W136 (Or.inr sz_b47)
    refine own_iload (pc' := 294) B X136 at_292 rfl rfl ?_
    refine own_iconst (pc' := 295) B X136 (z := (1 : Int32)) at_294 rfl rfl ?_
    refine own_iadd (pc' := 296) B X136 (z := (2 : Int32)) at_295 rfl (by decide) ?_
    refine own_istore (pc' := 298) B X136 (Ls' := #[.val (.int i0), .val (.int i1), .val (.int i2), .val (.int i3), .val (.int y1), .val (.int y8), .val (.int y10), .val (.int y12), .val (.int y14), .val (.int y17), .val (.int y20), .val (.int y23), .val (.int y26), .val (.int y29), .val (.ref b30), .val (.ref b46), .val (.ref b47), .val (.int 2), .unset, .unset]) at_296 rfl rfl ?_
    exact tl_2 l Z a0 hw i0 i1 i2 i3 (i0) (i1) (i2) (i3) (y1) (y8) (y10) (y12) (y14) (y17) (y20) (y23) (y26) (y29) b30 b34 k35 b46 kb46 b47 kb47 (y9) (y11) h0 h136 n0 Z0 ((E_b30.wr W135).wr W136) ((F_b30_arity.other W135 (Or.inl ne_b30_b46)).other W136 (Or.inl ne_b30_b47)) ((F_b30_rows.other W135 (Or.inl ne_b30_b46)).other W136 (Or.inl ne_b30_b47)) ((F_b30_size.other W135 (Or.inl ne_b30_b46)).other W136 (Or.inl ne_b30_b47)) g_b30 ((V_b34.other W135 ne_b34_b46).other W136 ne_b34_b47) g_b34 (V_b46.other W136 ne_b46_b47) g_b46 V_b47 g_b47 ne_b30_b34 ne_b30_b46 ne_b30_b47 ne_b34_b46 ne_b34_b47 ne_b46_b47 hy1 hy10 hy12 K B (own_more X136 (by decide) (by decide))
    show own_Go p e below (T119.setTop (mkF m 243 #[.val (.int i0), .val (.int i1), .val (.int i2), .val (.int i3), .val (.int y1), .val (.int y8), .val (.int y10), .val (.int y12), .val (.int y14), .val (.int y17), .val (.int y20), .val (.int y23), .val (.int y26), .val (.int y29), .val (.ref b30), .val (.ref b46), .val (.ref b47), .val (.int 1), .unset, .unset] [(.int 0)])) _
    refine own_pop (pc' := 244) B X119 at_243 rfl rfl ?_
    refine own_aload (pc' := 246) B X119 at_244 rfl rfl rfl ?_
    refine own_aload (pc' := 248) B X119 at_246 rfl rfl rfl ?_
    refine own_iload (pc' := 250) B X119 at_248 rfl rfl ?_
    refine own_iconst (pc' := 251) B X119 (z := (0 : Int32)) at_250 rfl rfl ?_
    refine own_iload (pc' := 253) B X119 at_251 rfl rfl ?_
    refine own_iload (pc' := 255) B X119 at_253 rfl rfl ?_
    replace V_b46 := (((V_b46.ext E116).other W117 ne_b46_b116).other W118 ne_b46_b116)
    replace V_b47 := (((V_b47.ext E116).other W117 ne_b47_b116).other W118 ne_b47_b116)
    refine own_callS (pc' := 258) B X119 (own_w hw 159 rfl) (own_w hw 160 rfl) (own_w hw 76 rfl) (own_w hw 161 rfl) (by decide) [(.ref b46), (.ref b47), (.int 1), (.int 0), (.int y26), (.int y29)] [] (rm_37 l Z a0 hw [] b46 kb46 (y14) b47 kb47 (y17) (y26) (y29) h118 n0 (Nat.le_trans Z0 K.1) V_b46 g_b46 V_b47 g_b47 ne_b46_b47) 0 (by decide) (by decide) rfl pd_17 rfl rfl (Nat.le_of_eq rfl) at_255 rfl (k' := 15) (n' := 89) rfl rfl (by decide) (by decide) ?_
    intro T137 v137 h137 X137 q137
    obtain ⟨y138, hy139, rfl, rfl⟩ := q137
    show own_Go p e below (T137.setTop (mkF m 258 #[.val (.int i0), .val (.int i1), .val (.int i2), .val (.int i3), .val (.int y1), .val (.int y8), .val (.int y10), .val (.int y12), .val (.int y14), .val (.int y17), .val (.int y20), .val (.int y23), .val (.int y26), .val (.int y29), .val (.ref b30), .val (.ref b46), .val (.ref b47), .val (.int 1), .unset, .unset] [(.int y138)])) _
    have c140 : ¬ (y138 = (0 : Int32)) := by
      exact (ax_52 (F := own_F_slot) (H := own_F_hash) own_next_ne hy72 c73 hy113 c114 hy128 c129 hy139)
    refine own_ifYes (pc' := 298) B X137 at_258 ((if0 _ _).trans (feq c140).2) (by decide) rfl ?_
    exact tl_3 l Z a0 hw i0 i1 i2 i3 (i0) (i1) (i2) (i3) (y1) (y8) (y10) (y12) (y14) (y17) (y20) (y23) (y26) (y29) b30 b34 k35 b46 kb46 b47 kb47 (y9) (y11) h0 h118 n0 Z0 E_b30 F_b30_arity F_b30_rows F_b30_size g_b30 V_b34 g_b34 V_b46 g_b46 V_b47 g_b47 ne_b30_b34 ne_b30_b46 ne_b30_b47 ne_b34_b46 ne_b34_b47 ne_b46_b47 hy1 hy10 hy12 K B (own_more X137 (by decide) (by decide))
    refine own_icmpYes (pc' := 298) B X111 at_222 (flt c115).2.2.2 (by decide) rfl ?_
    exact tl_3 l Z a0 hw i0 i1 i2 i3 (i0) (i1) (i2) (i3) (y1) (y8) (y10) (y12) (y14) (y17) (y20) (y23) (y26) (y29) b30 b34 k35 b46 kb46 b47 kb47 (y9) (y11) h0 h62 n0 Z0 E_b30 F_b30_arity F_b30_rows F_b30_size g_b30 V_b34 g_b34 V_b46 g_b46 V_b47 g_b47 ne_b30_b34 ne_b30_b46 ne_b30_b47 ne_b34_b46 ne_b34_b47 ne_b46_b47 hy1 hy10 hy12 K B (own_more X111 (by decide) (by decide))
    refine own_icmpYes (pc' := 219) B X58 at_160 (flt c59).2.2.2 (by decide) rfl ?_
    refine own_iload (pc' := 221) B X58 at_219 rfl rfl ?_
    refine own_iconst (pc' := 222) B X58 (z := (2 : Int32)) at_221 rfl rfl ?_
    have c141 : ¬ ((2 : Int32) < y12) := by
      have o0 := own_o_mask hy12 2 (by decide) (by decide)
      have o1 := own_lt c48
      have o2 := own_nlt c59
      have o3 := rng32 y12
      have o4 : (3 : Int32).toInt = 3 := by decide
      have o5 : (0 : Int32).toInt = 0 := by decide
      have o6 : (1 : Int32).toInt = 1 := by decide
      have o7 : (2 : Int32).toInt = 2 := by decide
      refine own_nltI ?_
      omega
    refine own_icmpYes (pc' := 298) B X58 at_222 (flt c141).2.2.2 (by decide) rfl ?_
    exact tl_3 l Z a0 hw i0 i1 i2 i3 (i0) (i1) (i2) (i3) (y1) (y8) (y10) (y12) (y14) (y17) (y20) (y23) (y26) (y29) b30 b34 k35 b46 kb46 b47 kb47 (y9) (y11) h0 h58 n0 Z0 ((E_b30.wr W57).wr W58) ((F_b30_arity.other W57 (Or.inl ne_b30_b46)).other W58 (Or.inl ne_b30_b47)) ((F_b30_rows.other W57 (Or.inl ne_b30_b46)).other W58 (Or.inl ne_b30_b47)) ((F_b30_size.other W57 (Or.inl ne_b30_b46)).other W58 (Or.inl ne_b30_b47)) g_b30 ((V_b34.other W57 ne_b34_b46).other W58 ne_b34_b47) g_b34 (V_b46.other W58 ne_b46_b47) g_b46 V_b47 g_b47 ne_b30_b34 ne_b30_b46 ne_b30_b47 ne_b34_b46 ne_b34_b47 ne_b46_b47 hy1 hy10 hy12 K B (own_more X58 (by decide) (by decide))
    refine own_ifYes (pc' := 157) B X47 at_120 ((if0 _ _).trans (flt c48).2.2.2) (by decide) rfl ?_
    refine own_iload (pc' := 159) B X47 at_157 rfl rfl ?_
    refine own_iconst (pc' := 160) B X47 (z := (1 : Int32)) at_159 rfl rfl ?_
    have c142 : ¬ ((1 : Int32) < y12) := by
      have o0 := own_o_mask hy12 2 (by decide) (by decide)
      have o1 := own_nlt c48
      have o2 := rng32 y12
      have o3 : (3 : Int32).toInt = 3 := by decide
      have o4 : (0 : Int32).toInt = 0 := by decide
      have o5 : (1 : Int32).toInt = 1 := by decide
      refine own_nltI ?_
      omega
    refine own_icmpYes (pc' := 219) B X47 at_160 (flt c142).2.2.2 (by decide) rfl ?_
    refine own_iload (pc' := 221) B X47 at_219 rfl rfl ?_
    refine own_iconst (pc' := 222) B X47 (z := (2 : Int32)) at_221 rfl rfl ?_
    have c143 : ¬ ((2 : Int32) < y12) := by
      have o0 := own_o_mask hy12 2 (by decide) (by decide)
      have o1 := own_nlt c48
      have o2 := own_nlt c142
      have o3 := rng32 y12
      have o4 : (3 : Int32).toInt = 3 := by decide
      have o5 : (0 : Int32).toInt = 0 := by decide
      have o6 : (1 : Int32).toInt = 1 := by decide
      have o7 : (2 : Int32).toInt = 2 := by decide
      refine own_nltI ?_
      omega
    refine own_icmpYes (pc' := 298) B X47 at_222 (flt c143).2.2.2 (by decide) rfl ?_
    exact tl_4 l Z a0 hw i0 i1 i2 i3 (i0) (i1) (i2) (i3) (y1) (y8) (y10) (y12) (y14) (y17) (y20) (y23) (y26) (y29) b30 b34 k35 b46 kb46 b47 kb47 (y9) (y11) h0 h47 n0 Z0 (E_b30.ext E47) ((F_b30_arity.ext E46).ext E47) ((F_b30_rows.ext E46).ext E47) ((F_b30_size.ext E46).ext E47) g_b30 (V_b34.ext E47) g_b34 (V_b46.ext E47) g_b46 V_b47 g_b47 ne_b30_b34 ne_b30_b46 ne_b30_b47 ne_b34_b46 ne_b34_b47 ne_b46_b47 hy1 hy10 hy12 K B (own_more X47 (by decide) (by decide))
  by_cases c144 : y2 = (0 : Int32)
  refine own_ifYes (pc' := 15) B X0 at_8 ((if0 _ _).trans (teq c144).1) (by decide) rfl ?_
  refine own_iloadN (pc' := 16) B X0 at_15 rfl rfl ?_
  refine own_iloadN (pc' := 17) B X0 at_16 rfl rfl ?_
  refine own_iconst (pc' := 18) B X0 (z := (2 : Int32)) at_17 rfl rfl ?_
  obtain ⟨y145, hy145⟩ : ∃ z : Int32, (i2.toUInt32 >>> ((2 : Int32) &&& 31).toUInt32).toInt32 = z := ⟨_, rfl⟩
  refine own_iushr (pc' := 19) B X0 at_18 rfl hy145 ?_
  refine own_iconst (pc' := 20) B X0 (z := (3 : Int32)) at_19 rfl rfl ?_
  obtain ⟨y146, hy146⟩ : ∃ z : Int32, y145 &&& (3 : Int32) = z := ⟨_, rfl⟩
  refine own_iand (pc' := 21) B X0 at_20 rfl hy146 ?_
  obtain ⟨y147, hy147⟩ : ∃ z : Int32, i1 + y146 = z := ⟨_, rfl⟩
  refine own_iadd (pc' := 22) B X0 at_21 rfl hy147 ?_
  exact H3 _
  refine own_ifNo (pc' := 11) B X0 at_8 ((if0 _ _).trans (feq c144).1) rfl ?_
  refine own_iloadN (pc' := 12) B X0 at_11 rfl rfl ?_
  refine own_goto (pc' := 22) B X0 at_12 (by decide) rfl ?_
  exact H3 _
set_option maxRecDepth 65536 in
set_option maxHeartbeats 40000000 in
theorem comes_1 {Post : Tables → Env → Array Value → State → Outcome → State → Prop} (hpost : ∀ tb e args s v u, (limb_1_1.after args s (.returned v) u = true ∧ limb_1_2.after args s (.returned v) u = true ∧ True) → FrameEnd s (.returned v) u (Jvm.fieldLocs frame_1_writes args s ++ Jvm.arrayLocs frame_1_arrays args s ++ Jvm.staticLocs frame_1_statics s) 40 256 → Post tb e args s (.returned v) u) :
    ArmFor flags0 classFile x code maxLocals ret World_1 tables_1 room_1 Calls_1 rest_1 Pre_1 Post := by
  intro l hfl _ _ p e ha hc hk s m args below hf hA hF happ hP
  obtain ⟨hcalls, hrest, hpre⟩ := hP
  obtain ⟨-, -, -, hnamed, -, -, -, hat⟩ := (Spec.applies_iff hf).mp happ
  obtain ⟨hg, hn⟩ := and_e (Cond.before_iff.mp (show (Jvm.Cond.and given_1 narrow_1).before args s = true from hpre))
  obtain ⟨g1, g2⟩ := and_e hg
  obtain ⟨g3, g4⟩ := and_e g2
  obtain ⟨g5, g6⟩ := and_e g4
  obtain ⟨g7, g8⟩ := and_e g6
  obtain ⟨w0, w1, w2, w3, rfl⟩ : ∃ w0 w1 w2 w3 : Value, args = #[w0, w1, w2, w3] := by
    have hs : args.size = 4 := by simpa [Cond.value, given_1] using g1
    obtain ⟨L⟩ := args
    match L, hs with
    | [w0, w1, w2, w3], _ => exact ⟨w0, w1, w2, w3, rfl⟩
  have hw := fun d (hd : d ∈ tables_1) => atoms_spec (ws := Jvm.Cond.code x code maxLocals ret :: tables_1) hat d (List.mem_cons_of_mem _ hd)
  obtain ⟨i0, ei0⟩ := is_v g3
  obtain rfl : w0 = (.int i0) := Option.some.inj ei0
  obtain ⟨i1, ei1⟩ := is_v g5
  obtain rfl : w1 = (.int i1) := Option.some.inj ei1
  obtain ⟨i2, ei2⟩ := is_v g7
  obtain rfl : w2 = (.int i2) := Option.some.inj ei2
  obtain ⟨i3, ei3⟩ := is_v g8
  obtain rfl : w3 = (.int i3) := Option.some.inj ei3
  obtain ⟨n, o, h1, h2, h3, _, L, rfl, ⟨N, rfl⟩, hq⟩ := rm_0 l s _ hw tables_1 i0 i1 i2 i3 s.heap s.heap.size (Nat.le_refl _)  p e ha hc hk s m _ below hf ((Spec.applies_iff_loose hf).mp happ).1 ⟨rfl, State.Warmed39.refl s, rfl⟩ trivial
  refine ⟨n, _, h1, h2, h3, hpost _ _ _ _ _ _ ⟨Cond.after_iff.mpr rfl, Cond.after_iff.mpr (eq_i res_at (Term.int_eval (1)) rfl), trivial⟩ ⟨hq.1, hq.2.1, (hq.2.2.sift fun y hy => Or.inr (N y hy)).mono (by decide) (by decide)⟩⟩
theorem main_1_1 : Claimed_1_1 := comes_1 fun _ _ _ _ _ _ h hF => ⟨h.1, hF⟩
theorem main_1_2 : Claimed_1_2 := comes_1 fun _ _ _ _ _ _ h hF => ⟨h.2.1, hF⟩
end Jvm.Pilot.@@N@@
namespace Jvm.Pilot.@@N@@
open Jvm Jvm.ClassFile Sem Op Lib Jvm.Free Jvm.Stand Jvm.Pilot.@@N@@.Jvm.D
/-! MADE BY PROGRAM (witnessworld.py) out of the Statement's table words and the real class files: 17 classes; the members and pool entries that the words name. The judged class is class 1, her method 1. -/
namespace start1
open Jvm.ClassFile
def u (s : String) : CpInfo := .utf8 (stringToUtf16 s)
/-- a pool by its gaps: so many unusable entries, then the entry; so many at the end -/
def gap : Nat → List CpInfo → List CpInfo
  | 0, r => r
  | n + 1, r => .unusable :: gap n r
def poolList (es : List (Nat × CpInfo)) (last : Nat) : List CpInfo := es.foldr (fun e r => gap e.1 (e.2 :: r)) (gap last [])
def pool (es : List (Nat × CpInfo)) (last : Nat) : Array CpInfo := ⟨poolList es last⟩
def fileOf (pool : Array CpInfo) (this : Nat) (attrs : Array Attribute := #[]) (ms : Array MethodInfo := #[]) (fl : Nat := 33) (sup : Nat := 0) (ifs : Array Nat := #[]) (fds : Array FieldInfo := #[]) : ClassFile where
  minorVersion := 0
  majorVersion := 65
  constantPool := pool
  accessFlags := fl
  thisClass := this
  superClass := sup
  interfaces := ifs
  fields := fds
  methods := ms
  attributes := attrs
def plain (name : String) (sup : Option ClassId) : Class where
  name := name
  kind := .ordinary
  loader := none
  accessFlags := 33
  super := sup
  interfaces := #[]
  cf := none
  fields := #[]
  methods := #[]
  instanceTypes := #[]
  staticTypes := #[]
  resolved := #[]
  callSites := []
  init := .initialized
  statics := none
  mirror := none

def pool0 : Array CpInfo := pool [(5, u "<init>"), (0, u "()V"), (1, .class_ 10), (1, u "java/lang/Object")] 113

def k0c0 : Code := { maxStack := 0, maxLocals := 1, code := object_method_1_code, exceptionTable := #[], attributes := #[] }
def k0m0 : Method := { name := "<init>", desc := "()V", sig := { parameters := [], returnType := none }, accessFlags := 1, code := some k0c0 }
/-- java/lang/Object -/
def k0 : Class := { plain "java/lang/Object" none with
  accessFlags := 33
  interfaces := #[]
  cf := some (fileOf pool0 8 #[] #[{ accessFlags := 1, nameIndex := 5, descriptorIndex := 6, attributes := #[] }] 33 0 #[] #[])
  fields := #[]
  methods := #[k0m0]
  instanceTypes := #[]
  staticTypes := #[]
  resolved := Array.replicate 124 none
  statics := none }

def pool1 : Array CpInfo := pool [(2, .class_ 4), (1, u "java/lang/Object"), (0, u "<init>"), (0, u "()V"), (0, .class_ 8), (0, u "com/example/ordal/ordal/Relation"), (0, .methodref 7 10), (0, .nameAndType 5 11), (0, u "(I)V"), (0, .methodref 7 13), (0, .nameAndType 14 15), (0, u "add"), (0, u "([I)Z"), (0, .methodref 17 18), (0, .class_ 19), (0, .nameAndType 20 21), (0, u "com/example/ordal/ordal/RelationFindPinLaw"), (0, u "same"), (0, u "([I[IIIII)Z"), (0, .methodref 7 23), (0, .nameAndType 24 25), (0, u "find"), (0, u "(III)I"), (0, .methodref 17 27), (0, .nameAndType 28 29), (0, u "hit"), (0, u "([I[IIIIII)Z"), (2, u "law"), (0, u "(IIII)Z")] 5

def k1m0 : Method := { name := "<init>", desc := "()V", sig := { parameters := [], returnType := none }, accessFlags := 1, code := none }
def k1c1 : Code := { maxStack := 7, maxLocals := 20, code := code, exceptionTable := #[], attributes := #[] }
def k1m1 : Method := { name := "law", desc := "(IIII)Z", sig := { parameters := [.int, .int, .int, .int], returnType := some .boolean }, accessFlags := 9, code := some k1c1 }
def k1c2 : Code := { maxStack := 2, maxLocals := 6, code := method_3_code, exceptionTable := #[], attributes := #[] }
def k1m2 : Method := { name := "same", desc := "([I[IIIII)Z", sig := { parameters := [(.array .int), (.array .int), .int, .int, .int, .int], returnType := some .boolean }, accessFlags := 10, code := some k1c2 }
def k1c3 : Code := { maxStack := 2, maxLocals := 8, code := method_4_code, exceptionTable := #[], attributes := #[] }
def k1m3 : Method := { name := "hit", desc := "([I[IIIIII)Z", sig := { parameters := [(.array .int), (.array .int), .int, .int, .int, .int, .int], returnType := some .boolean }, accessFlags := 10, code := some k1c3 }
/-- com/example/ordal/ordal/RelationFindPinLaw -/
def k1 : Class := { plain "com/example/ordal/ordal/RelationFindPinLaw" (some 0) with
  accessFlags := 49
  interfaces := #[]
  cf := some (fileOf pool1 17 #[] #[{ accessFlags := 1, nameIndex := 5, descriptorIndex := 6, attributes := #[] }, { accessFlags := 9, nameIndex := 32, descriptorIndex := 33, attributes := #[] }, { accessFlags := 10, nameIndex := 20, descriptorIndex := 21, attributes := #[] }, { accessFlags := 10, nameIndex := 28, descriptorIndex := 29, attributes := #[] }] 49 2 #[] #[])
  fields := #[]
  methods := #[k1m0, k1m1, k1m2, k1m3]
  instanceTypes := #[]
  staticTypes := #[]
  resolved := Array.replicate 39 none
  statics := none }

def pool2 : Array CpInfo := pool [(1, .methodref 2 3), (0, .class_ 4), (0, .nameAndType 5 6), (0, u "java/lang/Object"), (0, u "<init>"), (0, u "()V"), (0, .class_ 8), (0, u "java/util/HashMap"), (0, .methodref 7 3), (0, .fieldref 11 12), (0, .class_ 13), (0, .nameAndType 14 15), (0, u "com/example/ordal/ordal/Relation"), (0, u "indexes"), (0, u "Ljava/util/Map;"), (0, .fieldref 11 17), (0, .nameAndType 18 15), (0, u "walks"), (0, .fieldref 11 20), (0, .nameAndType 21 22), (0, u "arity"), (0, u "I"), (0, .fieldref 11 24), (0, .nameAndType 25 26), (0, u "rows"), (0, u "[I"), (0, .class_ 28), (0, u "com/example/ordal/ordal/Relation$PositionTable"), (0, .methodref 11 30), (0, .nameAndType 31 32), (0, u "identityColumns"), (0, u "(I)[I"), (0, .methodref 27 34), (0, .nameAndType 5 35), (0, u "(Lcom/example/ordal/ordal/Relation;[I)V"), (0, .fieldref 11 37), (0, .nameAndType 38 39), (0, u "members"), (0, u "Lcom/example/ordal/ordal/Relation$PositionTable;"), (0, .fieldref 11 41), (0, .nameAndType 42 22), (0, u "size"), (0, .fieldref 11 44), (0, .nameAndType 45 22), (0, u "arrived"), (14, .fieldref 11 61), (0, .nameAndType 62 26), (0, u "spellings"), (1, .class_ 65), (0, u "com/example/ordal/ordal/Relation$1"), (3, .methodref 27 70), (0, .nameAndType 71 72), (0, u "hash"), (0, u "([I)I"), (0, .methodref 27 74), (0, .nameAndType 75 76), (0, u "find"), (0, u "([II)I"), (0, .methodref 11 78), (0, .nameAndType 79 80), (0, u "add"), (0, u "([I[I)Z"), (9, .methodref 11 91), (0, .nameAndType 92 80), (0, u "put"), (5, u "(II)I"), (4, .methodref 104 105), (0, .class_ 106), (0, .nameAndType 107 108), (0, u "java/lang/System"), (0, u "arraycopy"), (0, u "(Ljava/lang/Object;ILjava/lang/Object;II)V"), (8, .methodref 27 118), (0, .nameAndType 92 119), (0, u "(II)V"), (0, .interfaceMethodref 121 122), (0, .class_ 123), (0, .nameAndType 124 125), (0, u "java/util/Map"), (0, u "isEmpty"), (0, u "()Z"), (18, .class_ 145), (0, u "com/example/ordal/ordal/Relation$Index"), (2, u "(I)V"), (50, u "NONE"), (2, u "FIRST_ROWS"), (6, u "value"), (8, u "(III)I"), (1, u "([I)Z")] 42

def k2c0 : Code := { maxStack := 5, maxLocals := 2, code := prog_12_method_1_code, exceptionTable := #[], attributes := #[] }
def k2m0 : Method := { name := "<init>", desc := "(I)V", sig := { parameters := [.int], returnType := none }, accessFlags := 0, code := some k2c0 }
def k2c1 : Code := { maxStack := 3, maxLocals := 3, code := prog_12_method_5_code, exceptionTable := #[], attributes := #[] }
def k2m1 : Method := { name := "value", desc := "(II)I", sig := { parameters := [.int, .int], returnType := some .int }, accessFlags := 0, code := some k2c1 }
def k2c2 : Code := { maxStack := 2, maxLocals := 8, code := prog_12_method_12_code, exceptionTable := #[], attributes := #[] }
def k2m2 : Method := { name := "find", desc := "(III)I", sig := { parameters := [.int, .int, .int], returnType := some .int }, accessFlags := 0, code := some k2c2 }
def k2c3 : Code := { maxStack := 3, maxLocals := 2, code := prog_12_method_14_code, exceptionTable := #[], attributes := #[] }
def k2m3 : Method := { name := "add", desc := "([I)Z", sig := { parameters := [(.array .int)], returnType := some .boolean }, accessFlags := 0, code := some k2c3 }
def k2c4 : Code := { maxStack := 4, maxLocals := 4, code := prog_12_method_15_code, exceptionTable := #[], attributes := #[] }
def k2m4 : Method := { name := "add", desc := "([I[I)Z", sig := { parameters := [(.array .int), (.array .int)], returnType := some .boolean }, accessFlags := 0, code := some k2c4 }
def k2c5 : Code := { maxStack := 5, maxLocals := 8, code := prog_12_method_16_code, exceptionTable := #[], attributes := #[] }
def k2m5 : Method := { name := "put", desc := "([I[I)Z", sig := { parameters := [(.array .int), (.array .int)], returnType := some .boolean }, accessFlags := 2, code := some k2c5 }
def k2c6 : Code := { maxStack := 3, maxLocals := 3, code := prog_12_method_25_code, exceptionTable := #[], attributes := #[] }
def k2m6 : Method := { name := "identityColumns", desc := "(I)[I", sig := { parameters := [.int], returnType := some (.array .int) }, accessFlags := 10, code := some k2c6 }
/-- com/example/ordal/ordal/Relation -/
def k2 : Class := { plain "com/example/ordal/ordal/Relation" (some 0) with
  accessFlags := 48
  interfaces := #[]
  cf := some (fileOf pool2 11 #[.nestMembers #[27, 144, 64]] #[{ accessFlags := 0, nameIndex := 5, descriptorIndex := 148, attributes := #[] }, { accessFlags := 0, nameIndex := 209, descriptorIndex := 98, attributes := #[] }, { accessFlags := 0, nameIndex := 75, descriptorIndex := 218, attributes := #[] }, { accessFlags := 0, nameIndex := 79, descriptorIndex := 220, attributes := #[] }, { accessFlags := 0, nameIndex := 79, descriptorIndex := 80, attributes := #[] }, { accessFlags := 2, nameIndex := 92, descriptorIndex := 80, attributes := #[] }, { accessFlags := 10, nameIndex := 31, descriptorIndex := 32, attributes := #[] }] 48 2 #[] #[{ accessFlags := 26, nameIndex := 199, descriptorIndex := 22, attributes := #[] }, { accessFlags := 26, nameIndex := 202, descriptorIndex := 22, attributes := #[] }, { accessFlags := 18, nameIndex := 21, descriptorIndex := 22, attributes := #[] }, { accessFlags := 2, nameIndex := 25, descriptorIndex := 26, attributes := #[] }, { accessFlags := 2, nameIndex := 62, descriptorIndex := 26, attributes := #[] }, { accessFlags := 2, nameIndex := 42, descriptorIndex := 22, attributes := #[] }, { accessFlags := 2, nameIndex := 45, descriptorIndex := 22, attributes := #[] }, { accessFlags := 18, nameIndex := 38, descriptorIndex := 39, attributes := #[] }, { accessFlags := 18, nameIndex := 14, descriptorIndex := 15, attributes := #[] }, { accessFlags := 18, nameIndex := 18, descriptorIndex := 15, attributes := #[] }])
  fields := #[{ name := "NONE", type := .int, accessFlags := 26, slot := 0, constantValue := 0 }, { name := "FIRST_ROWS", type := .int, accessFlags := 26, slot := 1, constantValue := 0 }, { name := "arity", type := .int, accessFlags := 18, slot := 0, constantValue := 0 }, { name := "rows", type := (.array .int), accessFlags := 2, slot := 1, constantValue := 0 }, { name := "spellings", type := (.array .int), accessFlags := 2, slot := 2, constantValue := 0 }, { name := "size", type := .int, accessFlags := 2, slot := 3, constantValue := 0 }, { name := "arrived", type := .int, accessFlags := 2, slot := 4, constantValue := 0 }, { name := "members", type := (.object "com/example/ordal/ordal/Relation$PositionTable"), accessFlags := 18, slot := 5, constantValue := 0 }, { name := "indexes", type := (.object "java/util/Map"), accessFlags := 18, slot := 6, constantValue := 0 }, { name := "walks", type := (.object "java/util/Map"), accessFlags := 18, slot := 7, constantValue := 0 }]
  methods := #[k2m0, k2m1, k2m2, k2m3, k2m4, k2m5, k2m6]
  instanceTypes := #[.int, (.array .int), (.array .int), .int, .int, (.object "com/example/ordal/ordal/Relation$PositionTable"), (.object "java/util/Map"), (.object "java/util/Map")]
  staticTypes := #[.int, .int]
  resolved := Array.replicate 263 none
  statics := none }

def pool3 : Array CpInfo := pool [(2, .class_ 4), (1, u "java/util/Map"), (26, u "()Z"), (4, .class_ 37), (0, u "java/util/Map$Entry"), (55, .class_ 94), (0, u "java/lang/Object"), (10, u "isEmpty")] 157

def k3m0 : Method := { name := "isEmpty", desc := "()Z", sig := { parameters := [], returnType := some .boolean }, accessFlags := 1025, code := none }
/-- java/util/Map -/
def k3 : Class := { plain "java/util/Map" (some 0) with
  accessFlags := 1537
  interfaces := #[]
  cf := some (fileOf pool3 2 #[.nestMembers #[36]] #[{ accessFlags := 1025, nameIndex := 105, descriptorIndex := 31, attributes := #[] }] 1537 93 #[] #[])
  fields := #[]
  methods := #[k3m0]
  instanceTypes := #[]
  staticTypes := #[]
  resolved := Array.replicate 263 none
  statics := none }

def pool4 : Array CpInfo := pool [(1, .methodref 2 3), (0, .class_ 4), (0, .nameAndType 5 6), (0, u "java/lang/Object"), (0, u "<init>"), (0, u "()V"), (1, .class_ 10), (1, u "java/util/AbstractMap"), (42, .class_ 54), (0, u "java/util/Map"), (9, u "keySet"), (0, u "Ljava/util/Set;"), (0, .class_ 67), (0, u "java/util/AbstractMap$1"), (5, u "values"), (0, u "Ljava/util/Collection;"), (0, .class_ 76), (0, u "java/util/AbstractMap$2"), (104, .class_ 182), (0, u "java/util/AbstractMap$ViewCollection"), (0, .class_ 184), (0, u "java/util/AbstractMap$SimpleImmutableEntry"), (0, .class_ 186), (0, u "java/util/AbstractMap$SimpleEntry"), (0, .class_ 188), (0, u "java/util/AbstractMap$2$1"), (0, .class_ 190), (0, u "java/util/AbstractMap$1$1")] 5

def k4c0 : Code := { maxStack := 1, maxLocals := 1, code := jdk_71_method_1_code, exceptionTable := #[], attributes := #[] }
def k4m0 : Method := { name := "<init>", desc := "()V", sig := { parameters := [], returnType := none }, accessFlags := 4, code := some k4c0 }
/-- java/util/AbstractMap -/
def k4 : Class := { plain "java/util/AbstractMap" (some 0) with
  accessFlags := 1057
  interfaces := #[3]
  cf := some (fileOf pool4 8 #[.nestMembers #[181, 183, 185, 75, 187, 66, 189]] #[{ accessFlags := 4, nameIndex := 5, descriptorIndex := 6, attributes := #[] }] 1057 2 #[53] #[{ accessFlags := 128, nameIndex := 64, descriptorIndex := 65, attributes := #[] }, { accessFlags := 128, nameIndex := 73, descriptorIndex := 74, attributes := #[] }])
  fields := #[{ name := "keySet", type := (.object "java/util/Set"), accessFlags := 128, slot := 0, constantValue := 0 }, { name := "values", type := (.object "java/util/Collection"), accessFlags := 128, slot := 1, constantValue := 0 }]
  methods := #[k4m0]
  instanceTypes := #[(.object "java/util/Set"), (.object "java/util/Collection")]
  staticTypes := #[]
  resolved := Array.replicate 196 none
  statics := none }

def pool5 : Array CpInfo := pool [(1, .class_ 2), (0, u "java/lang/Cloneable"), (0, .class_ 4), (0, u "java/lang/Object")] 2

/-- java/lang/Cloneable -/
def k5 : Class := { plain "java/lang/Cloneable" (some 0) with
  accessFlags := 1537
  interfaces := #[]
  cf := some (fileOf pool5 1 #[] #[] 1537 3 #[] #[])
  fields := #[]
  methods := #[]
  instanceTypes := #[]
  staticTypes := #[]
  resolved := Array.replicate 7 none
  statics := none }

def pool6 : Array CpInfo := pool [(1, .class_ 2), (0, u "java/io/Serializable"), (0, .class_ 4), (0, u "java/lang/Object")] 2

/-- java/io/Serializable -/
def k6 : Class := { plain "java/io/Serializable" (some 0) with
  accessFlags := 1537
  interfaces := #[]
  cf := some (fileOf pool6 1 #[] #[] 1537 3 #[] #[])
  fields := #[]
  methods := #[]
  instanceTypes := #[]
  staticTypes := #[]
  resolved := Array.replicate 7 none
  statics := none }

def pool7 : Array CpInfo := pool [(40, .class_ 41), (0, u "java/util/HashMap"), (1, .methodref 44 45), (0, .class_ 46), (0, .nameAndType 47 48), (0, u "java/util/AbstractMap"), (0, u "<init>"), (0, u "()V"), (32, .fieldref 40 82), (0, .nameAndType 83 84), (0, u "loadFactor"), (0, u "F"), (5, u "threshold"), (0, u "I"), (0, .float 1061158912), (8, .class_ 103), (1, u "java/util/Map"), (0, u "size"), (2, u "table"), (0, u "[Ljava/util/HashMap$Node;"), (14, u "entrySet"), (12, u "()Z"), (19, .fieldref 40 157), (0, .nameAndType 104 91), (5, .class_ 165), (1, u "java/util/HashMap$Node"), (14, .class_ 181), (0, u "java/util/HashMap$TreeNode"), (22, u "modCount"), (37, u "Ljava/util/Set;"), (0, .class_ 244), (0, u "java/util/HashMap$KeySet"), (18, .class_ 264), (0, u "java/util/HashMap$Values"), (3, .class_ 269), (0, u "java/util/HashMap$EntrySet"), (76, .class_ 348), (1, u "java/util/HashMap$UnsafeHolder"), (43, .class_ 393), (0, u "java/lang/Cloneable"), (0, .class_ 395), (0, u "java/io/Serializable"), (0, u "serialVersionUID"), (0, u "J"), (3, u "DEFAULT_INITIAL_CAPACITY"), (1, u "MAXIMUM_CAPACITY"), (0, u "DEFAULT_LOAD_FACTOR"), (0, u "TREEIFY_THRESHOLD"), (1, u "UNTREEIFY_THRESHOLD"), (1, u "MIN_TREEIFY_CAPACITY"), (52, u "isEmpty"), (133, .class_ 597), (0, u "java/util/HashMap$EntrySpliterator"), (0, .class_ 599), (0, u "java/util/HashMap$ValueSpliterator"), (0, .class_ 601), (0, u "java/util/HashMap$KeySpliterator"), (0, .class_ 603), (0, u "java/util/HashMap$HashMapSpliterator"), (0, .class_ 605), (0, u "java/util/HashMap$EntryIterator"), (0, .class_ 607), (0, u "java/util/HashMap$ValueIterator"), (0, .class_ 609), (0, u "java/util/HashMap$KeyIterator"), (0, .class_ 611), (0, u "java/util/HashMap$HashIterator")] 17

def k7c0 : Code := { maxStack := 2, maxLocals := 1, code := jdk_69_method_7_code, exceptionTable := #[], attributes := #[] }
def k7m0 : Method := { name := "<init>", desc := "()V", sig := { parameters := [], returnType := none }, accessFlags := 1, code := some k7c0 }
def k7c1 : Code := { maxStack := 1, maxLocals := 1, code := jdk_69_method_11_code, exceptionTable := #[], attributes := #[] }
def k7m1 : Method := { name := "isEmpty", desc := "()Z", sig := { parameters := [], returnType := some .boolean }, accessFlags := 1, code := some k7c1 }
/-- java/util/HashMap -/
def k7 : Class := { plain "java/util/HashMap" (some 4) with
  accessFlags := 33
  interfaces := #[3, 5, 6]
  cf := some (fileOf pool7 40 #[.nestMembers #[180, 596, 598, 600, 602, 604, 606, 608, 610, 346, 268, 263, 243, 163]] #[{ accessFlags := 1, nameIndex := 47, descriptorIndex := 48, attributes := #[] }, { accessFlags := 1, nameIndex := 462, descriptorIndex := 136, attributes := #[] }] 33 44 #[101, 392, 394] #[{ accessFlags := 26, nameIndex := 396, descriptorIndex := 397, attributes := #[] }, { accessFlags := 24, nameIndex := 401, descriptorIndex := 91, attributes := #[] }, { accessFlags := 24, nameIndex := 403, descriptorIndex := 91, attributes := #[] }, { accessFlags := 24, nameIndex := 404, descriptorIndex := 84, attributes := #[] }, { accessFlags := 24, nameIndex := 405, descriptorIndex := 91, attributes := #[] }, { accessFlags := 24, nameIndex := 407, descriptorIndex := 91, attributes := #[] }, { accessFlags := 24, nameIndex := 409, descriptorIndex := 91, attributes := #[] }, { accessFlags := 128, nameIndex := 107, descriptorIndex := 108, attributes := #[] }, { accessFlags := 128, nameIndex := 123, descriptorIndex := 242, attributes := #[] }, { accessFlags := 128, nameIndex := 104, descriptorIndex := 91, attributes := #[] }, { accessFlags := 128, nameIndex := 204, descriptorIndex := 91, attributes := #[] }, { accessFlags := 0, nameIndex := 90, descriptorIndex := 91, attributes := #[] }, { accessFlags := 16, nameIndex := 83, descriptorIndex := 84, attributes := #[] }])
  fields := #[{ name := "serialVersionUID", type := .long, accessFlags := 26, slot := 0, constantValue := 0 }, { name := "DEFAULT_INITIAL_CAPACITY", type := .int, accessFlags := 24, slot := 1, constantValue := 0 }, { name := "MAXIMUM_CAPACITY", type := .int, accessFlags := 24, slot := 2, constantValue := 0 }, { name := "DEFAULT_LOAD_FACTOR", type := .float, accessFlags := 24, slot := 3, constantValue := 0 }, { name := "TREEIFY_THRESHOLD", type := .int, accessFlags := 24, slot := 4, constantValue := 0 }, { name := "UNTREEIFY_THRESHOLD", type := .int, accessFlags := 24, slot := 5, constantValue := 0 }, { name := "MIN_TREEIFY_CAPACITY", type := .int, accessFlags := 24, slot := 6, constantValue := 0 }, { name := "table", type := (.array (.object "java/util/HashMap$Node")), accessFlags := 128, slot := 2, constantValue := 0 }, { name := "entrySet", type := (.object "java/util/Set"), accessFlags := 128, slot := 3, constantValue := 0 }, { name := "size", type := .int, accessFlags := 128, slot := 4, constantValue := 0 }, { name := "modCount", type := .int, accessFlags := 128, slot := 5, constantValue := 0 }, { name := "threshold", type := .int, accessFlags := 0, slot := 6, constantValue := 0 }, { name := "loadFactor", type := .float, accessFlags := 16, slot := 7, constantValue := 0 }]
  methods := #[k7m0, k7m1]
  instanceTypes := #[(.object "java/util/Set"), (.object "java/util/Collection"), (.array (.object "java/util/HashMap$Node")), (.object "java/util/Set"), .int, .int, .int, .float]
  staticTypes := #[.long, .int, .int, .float, .int, .int, .int]
  resolved := Array.replicate 629 none
  statics := none }

def pool8 : Array CpInfo := pool [(19, .class_ 20), (0, u "java/util/Comparator"), (84, .class_ 106), (0, u "java/lang/Object")] 181

/-- java/util/Comparator -/
def k8 : Class := { plain "java/util/Comparator" (some 0) with
  accessFlags := 1537
  interfaces := #[]
  cf := some (fileOf pool8 19 #[] #[] 1537 105 #[] #[])
  fields := #[]
  methods := #[]
  instanceTypes := #[]
  staticTypes := #[]
  resolved := Array.replicate 288 none
  statics := none }

def pool9 : Array CpInfo := pool [(1, .class_ 2), (0, u "com/example/ordal/ordal/NumberTable$Keys"), (0, .class_ 4), (0, u "java/lang/Object"), (0, .class_ 6), (0, u "java/util/Comparator"), (0, u "holds"), (0, u "(ILjava/lang/Object;)Z"), (9, .class_ 19), (0, u "com/example/ordal/ordal/NumberTable")] 2

def k9m0 : Method := { name := "holds", desc := "(ILjava/lang/Object;)Z", sig := { parameters := [.int, (.object "java/lang/Object")], returnType := some .boolean }, accessFlags := 1025, code := none }
/-- com/example/ordal/ordal/NumberTable$Keys -/
def k9 : Class := { plain "com/example/ordal/ordal/NumberTable$Keys" (some 0) with
  accessFlags := 1536
  interfaces := #[8]
  cf := some (fileOf pool9 1 #[.nestHost 18] #[{ accessFlags := 1025, nameIndex := 7, descriptorIndex := 8, attributes := #[] }] 1536 3 #[5] #[])
  fields := #[]
  methods := #[k9m0]
  instanceTypes := #[]
  staticTypes := #[]
  resolved := Array.replicate 22 none
  statics := none }

def pool10 : Array CpInfo := pool [(1, .methodref 2 3), (0, .class_ 4), (0, .nameAndType 5 6), (0, u "java/lang/Object"), (0, u "<init>"), (0, u "()V"), (0, .class_ 8), (0, u "com/example/ordal/ordal/NumberTable"), (0, .methodref 7 10), (0, .nameAndType 5 11), (0, u "(Lcom/example/ordal/ordal/NumberTable$Keys;)V"), (0, .fieldref 13 14), (0, .class_ 15), (0, .nameAndType 16 17), (0, u "com/example/ordal/ordal/Relation$PositionTable"), (0, u "table"), (0, u "Lcom/example/ordal/ordal/NumberTable;"), (0, .fieldref 13 19), (0, .nameAndType 20 21), (0, u "relation"), (0, u "Lcom/example/ordal/ordal/Relation;"), (0, .fieldref 13 23), (0, .nameAndType 24 25), (0, u "columns"), (0, u "[I"), (0, .fieldref 13 27), (0, .nameAndType 28 25), (0, u "row"), (0, .methodref 7 30), (0, .nameAndType 31 32), (0, u "find"), (0, u "(ILjava/lang/Object;)I"), (0, .methodref 34 35), (0, .class_ 36), (0, .nameAndType 37 38), (0, u "com/example/ordal/ordal/Relation"), (0, u "value"), (0, u "(II)I"), (0, .methodref 7 40), (0, .nameAndType 41 42), (0, u "put"), (0, u "(II)V"), (9, .methodref 13 53), (0, .nameAndType 54 38), (0, u "mix"), (0, .integer 2654435769), (4, .class_ 25), (0, .methodref 13 62), (0, .nameAndType 63 64), (0, u "holds"), (0, u "(I[I)Z"), (1, .class_ 67), (0, u "com/example/ordal/ordal/NumberTable$Keys"), (2, u "(Lcom/example/ordal/ordal/Relation;[I)V"), (2, u "([II)I"), (2, u "hash"), (0, u "([I)I"), (4, u "(ILjava/lang/Object;)Z")] 8

def k10c0 : Code := { maxStack := 4, maxLocals := 3, code := prog_15_method_1_code, exceptionTable := #[], attributes := #[] }
def k10m0 : Method := { name := "<init>", desc := "(Lcom/example/ordal/ordal/Relation;[I)V", sig := { parameters := [(.object "com/example/ordal/ordal/Relation"), (.array .int)], returnType := none }, accessFlags := 0, code := some k10c0 }
def k10c1 : Code := { maxStack := 3, maxLocals := 3, code := prog_15_method_2_code, exceptionTable := #[], attributes := #[] }
def k10m1 : Method := { name := "find", desc := "([II)I", sig := { parameters := [(.array .int), .int], returnType := some .int }, accessFlags := 0, code := some k10c1 }
def k10c2 : Code := { maxStack := 3, maxLocals := 3, code := prog_15_method_4_code, exceptionTable := #[], attributes := #[] }
def k10m2 : Method := { name := "put", desc := "(II)V", sig := { parameters := [.int, .int], returnType := none }, accessFlags := 0, code := some k10c2 }
def k10c3 : Code := { maxStack := 4, maxLocals := 4, code := prog_15_method_6_code, exceptionTable := #[], attributes := #[] }
def k10m3 : Method := { name := "holds", desc := "(I[I)Z", sig := { parameters := [.int, (.array .int)], returnType := some .boolean }, accessFlags := 1, code := some k10c3 }
def k10c4 : Code := { maxStack := 2, maxLocals := 7, code := prog_15_method_9_code, exceptionTable := #[], attributes := #[] }
def k10m4 : Method := { name := "hash", desc := "([I)I", sig := { parameters := [(.array .int)], returnType := some .int }, accessFlags := 0, code := some k10c4 }
def k10c5 : Code := { maxStack := 2, maxLocals := 2, code := prog_15_method_11_code, exceptionTable := #[], attributes := #[] }
def k10m5 : Method := { name := "mix", desc := "(II)I", sig := { parameters := [.int, .int], returnType := some .int }, accessFlags := 10, code := some k10c5 }
def k10c6 : Code := { maxStack := 3, maxLocals := 3, code := prog_15_method_13_code, exceptionTable := #[], attributes := #[] }
def k10m6 : Method := { name := "holds", desc := "(ILjava/lang/Object;)Z", sig := { parameters := [.int, (.object "java/lang/Object")], returnType := some .boolean }, accessFlags := 4161, code := some k10c6 }
/-- com/example/ordal/ordal/Relation$PositionTable -/
def k10 : Class := { plain "com/example/ordal/ordal/Relation$PositionTable" (some 0) with
  accessFlags := 48
  interfaces := #[9]
  cf := some (fileOf pool10 13 #[.nestHost 34] #[{ accessFlags := 0, nameIndex := 5, descriptorIndex := 70, attributes := #[] }, { accessFlags := 0, nameIndex := 31, descriptorIndex := 73, attributes := #[] }, { accessFlags := 0, nameIndex := 41, descriptorIndex := 42, attributes := #[] }, { accessFlags := 1, nameIndex := 63, descriptorIndex := 64, attributes := #[] }, { accessFlags := 0, nameIndex := 76, descriptorIndex := 77, attributes := #[] }, { accessFlags := 10, nameIndex := 54, descriptorIndex := 38, attributes := #[] }, { accessFlags := 4161, nameIndex := 63, descriptorIndex := 82, attributes := #[] }] 48 2 #[66] #[{ accessFlags := 18, nameIndex := 20, descriptorIndex := 21, attributes := #[] }, { accessFlags := 18, nameIndex := 24, descriptorIndex := 25, attributes := #[] }, { accessFlags := 18, nameIndex := 16, descriptorIndex := 17, attributes := #[] }, { accessFlags := 18, nameIndex := 28, descriptorIndex := 25, attributes := #[] }])
  fields := #[{ name := "relation", type := (.object "com/example/ordal/ordal/Relation"), accessFlags := 18, slot := 0, constantValue := 0 }, { name := "columns", type := (.array .int), accessFlags := 18, slot := 1, constantValue := 0 }, { name := "table", type := (.object "com/example/ordal/ordal/NumberTable"), accessFlags := 18, slot := 2, constantValue := 0 }, { name := "row", type := (.array .int), accessFlags := 18, slot := 3, constantValue := 0 }]
  methods := #[k10m0, k10m1, k10m2, k10m3, k10m4, k10m5, k10m6]
  instanceTypes := #[(.object "com/example/ordal/ordal/Relation"), (.array .int), (.object "com/example/ordal/ordal/NumberTable"), (.array .int)]
  staticTypes := #[]
  resolved := Array.replicate 91 none
  statics := none }

def pool11 : Array CpInfo := pool [(1, .methodref 2 3), (0, .class_ 4), (0, .nameAndType 5 6), (0, u "java/lang/Object"), (0, u "<init>"), (0, u "()V"), (0, .class_ 8), (0, u "com/example/ordal/ordal/NumberTable"), (0, .fieldref 7 10), (0, .nameAndType 11 12), (0, u "slots"), (0, u "[I"), (0, .fieldref 7 14), (0, .nameAndType 15 12), (0, u "hashes"), (0, .fieldref 7 17), (0, .nameAndType 18 19), (0, u "keys"), (0, u "Lcom/example/ordal/ordal/NumberTable$Keys;"), (0, .methodref 7 21), (0, .nameAndType 22 23), (0, u "slot"), (0, u "(I)I"), (0, .interfaceMethodref 25 26), (0, .class_ 27), (0, .nameAndType 28 29), (0, u "com/example/ordal/ordal/NumberTable$Keys"), (0, u "holds"), (0, u "(ILjava/lang/Object;)Z"), (0, .methodref 7 31), (0, .nameAndType 32 23), (0, u "next"), (0, .fieldref 7 34), (0, .nameAndType 35 36), (0, u "crowded"), (0, u "Ljava/util/TreeMap;"), (24, .fieldref 7 62), (0, .nameAndType 63 64), (0, u "count"), (0, u "I"), (3, .methodref 7 69), (0, .nameAndType 70 71), (0, u "insert"), (0, u "(I)V"), (19, .methodref 7 92), (0, .nameAndType 93 94), (0, u "place"), (0, u "(I)Z"), (16, u "put"), (1, .methodref 7 114), (0, .nameAndType 115 23), (0, u "spread"), (0, .integer 2654435769), (0, .integer 2246822507), (0, u "NONE"), (2, u "LONGEST_WALK"), (1, u "MOST_COMPARED"), (1, u "FIRST_SLOTS"), (4, u "(Lcom/example/ordal/ordal/NumberTable$Keys;)V"), (3, u "find"), (0, u "(ILjava/lang/Object;)I"), (2, u "(II)V")] 8

def k11c0 : Code := { maxStack := 2, maxLocals := 2, code := prog_9_method_1_code, exceptionTable := #[], attributes := #[] }
def k11m0 : Method := { name := "<init>", desc := "(Lcom/example/ordal/ordal/NumberTable$Keys;)V", sig := { parameters := [(.object "com/example/ordal/ordal/NumberTable$Keys")], returnType := none }, accessFlags := 0, code := some k11c0 }
def k11c1 : Code := { maxStack := 3, maxLocals := 7, code := prog_9_method_2_code, exceptionTable := #[], attributes := #[] }
def k11m1 : Method := { name := "find", desc := "(ILjava/lang/Object;)I", sig := { parameters := [.int, (.object "java/lang/Object")], returnType := some .int }, accessFlags := 0, code := some k11c1 }
def k11c2 : Code := { maxStack := 5, maxLocals := 3, code := prog_9_method_3_code, exceptionTable := #[], attributes := #[] }
def k11m2 : Method := { name := "put", desc := "(II)V", sig := { parameters := [.int, .int], returnType := none }, accessFlags := 0, code := some k11c2 }
def k11c3 : Code := { maxStack := 4, maxLocals := 2, code := prog_9_method_6_code, exceptionTable := #[], attributes := #[] }
def k11m3 : Method := { name := "insert", desc := "(I)V", sig := { parameters := [.int], returnType := none }, accessFlags := 2, code := some k11c3 }
def k11c4 : Code := { maxStack := 4, maxLocals := 7, code := prog_9_method_7_code, exceptionTable := #[], attributes := #[] }
def k11m4 : Method := { name := "place", desc := "(I)Z", sig := { parameters := [.int], returnType := some .boolean }, accessFlags := 2, code := some k11c4 }
def k11c5 : Code := { maxStack := 3, maxLocals := 2, code := prog_9_method_8_code, exceptionTable := #[], attributes := #[] }
def k11m5 : Method := { name := "slot", desc := "(I)I", sig := { parameters := [.int], returnType := some .int }, accessFlags := 2, code := some k11c5 }
def k11c6 : Code := { maxStack := 3, maxLocals := 2, code := prog_9_method_9_code, exceptionTable := #[], attributes := #[] }
def k11m6 : Method := { name := "next", desc := "(I)I", sig := { parameters := [.int], returnType := some .int }, accessFlags := 2, code := some k11c6 }
def k11c7 : Code := { maxStack := 3, maxLocals := 2, code := prog_9_method_10_code, exceptionTable := #[], attributes := #[] }
def k11m7 : Method := { name := "spread", desc := "(I)I", sig := { parameters := [.int], returnType := some .int }, accessFlags := 8, code := some k11c7 }
/-- com/example/ordal/ordal/NumberTable -/
def k11 : Class := { plain "com/example/ordal/ordal/NumberTable" (some 0) with
  accessFlags := 48
  interfaces := #[]
  cf := some (fileOf pool11 7 #[.nestMembers #[25]] #[{ accessFlags := 0, nameIndex := 5, descriptorIndex := 130, attributes := #[] }, { accessFlags := 0, nameIndex := 134, descriptorIndex := 135, attributes := #[] }, { accessFlags := 0, nameIndex := 111, descriptorIndex := 138, attributes := #[] }, { accessFlags := 2, nameIndex := 70, descriptorIndex := 71, attributes := #[] }, { accessFlags := 2, nameIndex := 93, descriptorIndex := 94, attributes := #[] }, { accessFlags := 2, nameIndex := 22, descriptorIndex := 23, attributes := #[] }, { accessFlags := 2, nameIndex := 32, descriptorIndex := 23, attributes := #[] }, { accessFlags := 8, nameIndex := 115, descriptorIndex := 23, attributes := #[] }] 48 2 #[] #[{ accessFlags := 24, nameIndex := 118, descriptorIndex := 64, attributes := #[] }, { accessFlags := 24, nameIndex := 121, descriptorIndex := 64, attributes := #[] }, { accessFlags := 24, nameIndex := 123, descriptorIndex := 64, attributes := #[] }, { accessFlags := 26, nameIndex := 125, descriptorIndex := 64, attributes := #[] }, { accessFlags := 18, nameIndex := 18, descriptorIndex := 19, attributes := #[] }, { accessFlags := 2, nameIndex := 11, descriptorIndex := 12, attributes := #[] }, { accessFlags := 2, nameIndex := 15, descriptorIndex := 12, attributes := #[] }, { accessFlags := 2, nameIndex := 63, descriptorIndex := 64, attributes := #[] }, { accessFlags := 2, nameIndex := 35, descriptorIndex := 36, attributes := #[] }])
  fields := #[{ name := "NONE", type := .int, accessFlags := 24, slot := 0, constantValue := 0 }, { name := "LONGEST_WALK", type := .int, accessFlags := 24, slot := 1, constantValue := 0 }, { name := "MOST_COMPARED", type := .int, accessFlags := 24, slot := 2, constantValue := 0 }, { name := "FIRST_SLOTS", type := .int, accessFlags := 26, slot := 3, constantValue := 0 }, { name := "keys", type := (.object "com/example/ordal/ordal/NumberTable$Keys"), accessFlags := 18, slot := 0, constantValue := 0 }, { name := "slots", type := (.array .int), accessFlags := 2, slot := 1, constantValue := 0 }, { name := "hashes", type := (.array .int), accessFlags := 2, slot := 2, constantValue := 0 }, { name := "count", type := .int, accessFlags := 2, slot := 3, constantValue := 0 }, { name := "crowded", type := (.object "java/util/TreeMap"), accessFlags := 2, slot := 4, constantValue := 0 }]
  methods := #[k11m0, k11m1, k11m2, k11m3, k11m4, k11m5, k11m6, k11m7]
  instanceTypes := #[(.object "com/example/ordal/ordal/NumberTable$Keys"), (.array .int), (.array .int), .int, (.object "java/util/TreeMap")]
  staticTypes := #[.int, .int, .int, .int]
  resolved := Array.replicate 147 none
  statics := none }

def pool12 : Array CpInfo := pool [(2, .class_ 4), (1, u "java/lang/Object"), (0, u "<init>"), (0, u "()V"), (1, .class_ 10), (1, u "java/lang/System"), (0, u "allowSecurityManager"), (0, u "I"), (16, u "cons"), (0, u "Ljava/io/Console;"), (77, .class_ 110), (1, u "java/lang/System$CallersHolder"), (43, u "initialErrStream"), (0, u "Ljava/io/PrintStream;"), (19, u "security"), (0, u "Ljava/lang/SecurityManager;"), (31, .class_ 209), (0, u "java/lang/System$1"), (7, u "props"), (0, u "Ljava/util/Properties;"), (2, u "lineSeparator"), (0, u "Ljava/lang/String;"), (96, .class_ 321), (1, u "java/lang/System$LoggerFinder"), (5, .class_ 328), (0, u "java/lang/System$Logger"), (67, u "err"), (2, u "out"), (91, u "notSupportedJnuEncoding"), (15, u "in"), (17, u "initialIn"), (0, u "Ljava/io/InputStream;"), (35, u "bootLayer"), (0, u "Ljava/lang/ModuleLayer;"), (99, .class_ 664), (0, u "java/lang/System$2"), (9, u "NEVER"), (2, u "MAYBE"), (49, u "arraycopy"), (0, u "(Ljava/lang/Object;ILjava/lang/Object;II)V"), (72, .class_ 802), (0, u "java/lang/System$Logger$Level")] 31

def k12m0 : Method := { name := "<init>", desc := "()V", sig := { parameters := [], returnType := none }, accessFlags := 2, code := none }
def k12m1 : Method := { name := "arraycopy", desc := "(Ljava/lang/Object;ILjava/lang/Object;II)V", sig := { parameters := [(.object "java/lang/Object"), .int, (.object "java/lang/Object"), .int, .int], returnType := none }, accessFlags := 265, code := none }
/-- java/lang/System -/
def k12 : Class := { plain "java/lang/System" (some 0) with
  accessFlags := 49
  interfaces := #[]
  cf := some (fileOf pool12 8 #[.nestMembers #[319, 327, 801, 108, 663, 208]] #[{ accessFlags := 2, nameIndex := 5, descriptorIndex := 6, attributes := #[] }, { accessFlags := 265, nameIndex := 727, descriptorIndex := 728, attributes := #[] }] 49 2 #[] #[{ accessFlags := 25, nameIndex := 507, descriptorIndex := 526, attributes := #[] }, { accessFlags := 25, nameIndex := 399, descriptorIndex := 155, attributes := #[] }, { accessFlags := 25, nameIndex := 396, descriptorIndex := 155, attributes := #[] }, { accessFlags := 10, nameIndex := 525, descriptorIndex := 526, attributes := #[] }, { accessFlags := 26, nameIndex := 674, descriptorIndex := 12, attributes := #[] }, { accessFlags := 26, nameIndex := 677, descriptorIndex := 12, attributes := #[] }, { accessFlags := 10, nameIndex := 11, descriptorIndex := 12, attributes := #[] }, { accessFlags := 74, nameIndex := 175, descriptorIndex := 176, attributes := #[] }, { accessFlags := 10, nameIndex := 491, descriptorIndex := 222, attributes := #[] }, { accessFlags := 74, nameIndex := 29, descriptorIndex := 30, attributes := #[] }, { accessFlags := 74, nameIndex := 154, descriptorIndex := 155, attributes := #[] }, { accessFlags := 10, nameIndex := 217, descriptorIndex := 218, attributes := #[] }, { accessFlags := 10, nameIndex := 221, descriptorIndex := 222, attributes := #[] }, { accessFlags := 8, nameIndex := 562, descriptorIndex := 563, attributes := #[] }])
  fields := #[{ name := "in", type := (.object "java/io/InputStream"), accessFlags := 25, slot := 0, constantValue := 0 }, { name := "out", type := (.object "java/io/PrintStream"), accessFlags := 25, slot := 1, constantValue := 0 }, { name := "err", type := (.object "java/io/PrintStream"), accessFlags := 25, slot := 2, constantValue := 0 }, { name := "initialIn", type := (.object "java/io/InputStream"), accessFlags := 10, slot := 3, constantValue := 0 }, { name := "NEVER", type := .int, accessFlags := 26, slot := 4, constantValue := 0 }, { name := "MAYBE", type := .int, accessFlags := 26, slot := 5, constantValue := 0 }, { name := "allowSecurityManager", type := .int, accessFlags := 10, slot := 6, constantValue := 0 }, { name := "security", type := (.object "java/lang/SecurityManager"), accessFlags := 74, slot := 7, constantValue := 0 }, { name := "notSupportedJnuEncoding", type := (.object "java/lang/String"), accessFlags := 10, slot := 8, constantValue := 0 }, { name := "cons", type := (.object "java/io/Console"), accessFlags := 74, slot := 9, constantValue := 0 }, { name := "initialErrStream", type := (.object "java/io/PrintStream"), accessFlags := 74, slot := 10, constantValue := 0 }, { name := "props", type := (.object "java/util/Properties"), accessFlags := 10, slot := 11, constantValue := 0 }, { name := "lineSeparator", type := (.object "java/lang/String"), accessFlags := 10, slot := 12, constantValue := 0 }, { name := "bootLayer", type := (.object "java/lang/ModuleLayer"), accessFlags := 8, slot := 13, constantValue := 0 }]
  methods := #[k12m0, k12m1]
  instanceTypes := #[]
  staticTypes := #[(.object "java/io/InputStream"), (.object "java/io/PrintStream"), (.object "java/io/PrintStream"), (.object "java/io/InputStream"), .int, .int, .int, (.object "java/lang/SecurityManager"), (.object "java/lang/String"), (.object "java/io/Console"), (.object "java/io/PrintStream"), (.object "java/util/Properties"), (.object "java/lang/String"), (.object "java/lang/ModuleLayer")]
  resolved := Array.replicate 834 none
  statics := none }

/-- the primitive byte -/
def k13 : Class := { plain "byte" none with kind := .primitive 'B', accessFlags := 0x411 }
/-- [B -/
def k14 : Class := { plain "[B" (some 0) with kind := .array 13 .byte, interfaces := #[5, 6], accessFlags := 1041 }

/-- the primitive int -/
def k15 : Class := { plain "int" none with kind := .primitive 'I', accessFlags := 0x411 }
/-- [I -/
def k16 : Class := { plain "[I" (some 0) with kind := .array 15 .int, interfaces := #[5, 6], accessFlags := 1041 }

def heap : Heap := #[]
def classes : Array Class := #[k0, k1, k2, k3, k4, k5, k6, k7, k8, k9, k10, k11, k12, k13, k14, k15, k16]
def interned : List (Array UInt16 × Addr) := []
def slotsUsed : Nat := 0
def theMethod : MethodId := ⟨1, 1⟩
def args0 : Array Value := #[.int 1, .int 2, .int 3, .int 4]
def aboutOver (below : List Frame) : State where
  vm := { classes := classes, interned := interned.toArray }
  heap := heap
  slotsUsed := slotsUsed
  threads := #[{ frames := .invoking theMethod args0 :: below }]
def below0 : List Frame := [.native { method := ⟨0, 0⟩, args := #[] }]
def about1 : State := aboutOver below0
def p0 : Program := .bare "" "" ""
def e0 : Env := launch0.env 0 0 0
theorem w_frames : about1.frames = Frame.invoking theMethod args0 :: below0 := rfl
set_option maxRecDepth 65536 in
theorem w_args : argsFit about1.vm theMethod args0 = true := by decide +kernel
set_option maxRecDepth 65536 in
theorem w_heap : heapFits about1 = true := by decide +kernel
set_option maxRecDepth 65536 in
theorem w_runnable : about1.curStatus? = some .runnable := by decide +kernel
set_option maxRecDepth 65536 in
theorem w_alone : about1.alone = true := by decide +kernel
set_option maxRecDepth 65536 in
theorem w_named : about1.methodNamed? x = some theMethod := by decide +kernel
set_option maxRecDepth 65536 in
theorem w_hears : about1.hears theMethod below0 = true := by decide +kernel
set_option maxRecDepth 65536 in
theorem w_ripe : about1.ripe theMethod args0 below0 = true := by decide +kernel
theorem w_running : about1.status = .running := rfl
set_option maxRecDepth 65536 in
theorem w_room : about1.hasRoom e0.platform room_1 = true :=
  launch0.hasRoom_least _ room_1 (by decide +kernel) (by decide +kernel) (by decide +kernel) (by decide +kernel) (by decide +kernel) (by decide +kernel)
theorem allAtoms_all (ts : List Jvm.Cond) (a : Array Jvm.Value) (st : Jvm.State) : (allAtoms ts).before a st = ts.all (fun c => c.before a st) := by
  induction ts with
  | nil => rfl
  | cons c t ih =>
    show (Jvm.Cond.and c (allAtoms t)).before a st = _
    rw [Jvm.Cond.before_and, ih, List.all_cons]
def words1 : List Jvm.Cond := Jvm.Cond.code x code maxLocals ret :: tables_1
/-- a 'code' word, met by the world's own term for the bytes: nothing is compared byte by byte -/
theorem code_word {y : MethodName} {bytes : ByteArray} {mx : Nat} {rt : Option FieldType} {a : Array Value} {s : State} {m : MethodId} {meth : Method} {c : Code} (h1 : s.methodNamed? y = some m) (h2 : s.vm.method? m = some meth) (h3 : meth.code = some c) (h4 : c.code = bytes)
    (h5 : (c.maxLocals == mx && c.exceptionTable.isEmpty && decide (c.maxStack ≤ mostOperands) && decide (meth.sig.returnType = rt) && !meth.locks && decide (parseMethodDescriptor y.desc = some meth.sig)) = true) : (Jvm.Cond.code y bytes mx rt).before a s = true := by
  simp only [Bool.and_eq_true, beq_iff_eq, Bool.not_eq_true', decide_eq_true_eq] at h5
  obtain ⟨⟨⟨⟨⟨g1, g2⟩, g3⟩, g4⟩, g5⟩, g6⟩ := h5
  simp [Cond.before, Cond.holds, Cond.value, h1, h2, h3, h4, g1, g2, g3, g4, g5, g6]
def isCode : Jvm.Cond → Bool
  | .code _ _ _ _ => true
  | _ => false
theorem all_split {L : List Jvm.Cond} {P : Jvm.Cond → Bool} (h1 : L.all (fun c => isCode c || P c) = true) (h2 : ∀ c ∈ L.filter isCode, P c = true) : L.all P = true := by
  refine List.all_eq_true.mpr fun c hc => ?_
  have h := List.all_eq_true.mp h1 c hc
  rcases Bool.eq_false_or_eq_true (isCode c) with hi | hi
  · exact h2 c (List.mem_filter.mpr ⟨hc, hi⟩)
  · simpa [hi] using h
set_option maxRecDepth 65536 in
theorem w_c0 : (Jvm.Cond.code x code maxLocals ret).before args0 about1 = true := code_word (m := ⟨1, 1⟩) (meth := k1m1) (c := k1c1) (by decide +kernel) rfl rfl rfl (by decide +kernel)
set_option maxRecDepth 65536 in
theorem w_c1 : (Jvm.Cond.code ({ cls := "com/example/ordal/ordal/Relation", name := "<init>", desc := "(I)V" } : Jvm.MethodName) prog_12_method_1_code (2 : Nat) (Option.none : Option Jvm.ClassFile.FieldType)).before args0 about1 = true := code_word (m := ⟨2, 0⟩) (meth := k2m0) (c := k2c0) (by decide +kernel) rfl rfl rfl (by decide +kernel)
set_option maxRecDepth 65536 in
theorem w_c2 : (Jvm.Cond.code ({ cls := "java/lang/Object", name := "<init>", desc := "()V" } : Jvm.MethodName) object_method_1_code (1 : Nat) (Option.none : Option Jvm.ClassFile.FieldType)).before args0 about1 = true := code_word (m := ⟨0, 0⟩) (meth := k0m0) (c := k0c0) (by decide +kernel) rfl rfl rfl (by decide +kernel)
set_option maxRecDepth 65536 in
theorem w_c3 : (Jvm.Cond.code ({ cls := "java/util/HashMap", name := "<init>", desc := "()V" } : Jvm.MethodName) jdk_69_method_7_code (1 : Nat) (Option.none : Option Jvm.ClassFile.FieldType)).before args0 about1 = true := code_word (m := ⟨7, 0⟩) (meth := k7m0) (c := k7c0) (by decide +kernel) rfl rfl rfl (by decide +kernel)
set_option maxRecDepth 65536 in
theorem w_c4 : (Jvm.Cond.code ({ cls := "java/util/AbstractMap", name := "<init>", desc := "()V" } : Jvm.MethodName) jdk_71_method_1_code (1 : Nat) (Option.none : Option Jvm.ClassFile.FieldType)).before args0 about1 = true := code_word (m := ⟨4, 0⟩) (meth := k4m0) (c := k4c0) (by decide +kernel) rfl rfl rfl (by decide +kernel)
set_option maxRecDepth 65536 in
theorem w_c5 : (Jvm.Cond.code ({ cls := "com/example/ordal/ordal/Relation", name := "identityColumns", desc := "(I)[I" } : Jvm.MethodName) prog_12_method_25_code (3 : Nat) (Option.some (Jvm.ClassFile.FieldType.array Jvm.ClassFile.FieldType.int))).before args0 about1 = true := code_word (m := ⟨2, 6⟩) (meth := k2m6) (c := k2c6) (by decide +kernel) rfl rfl rfl (by decide +kernel)
set_option maxRecDepth 65536 in
theorem w_c6 : (Jvm.Cond.code ({ cls := "com/example/ordal/ordal/Relation$PositionTable", name := "<init>", desc := "(Lcom/example/ordal/ordal/Relation;[I)V" } : Jvm.MethodName) prog_15_method_1_code (3 : Nat) (Option.none : Option Jvm.ClassFile.FieldType)).before args0 about1 = true := code_word (m := ⟨10, 0⟩) (meth := k10m0) (c := k10c0) (by decide +kernel) rfl rfl rfl (by decide +kernel)
set_option maxRecDepth 65536 in
theorem w_c7 : (Jvm.Cond.code ({ cls := "com/example/ordal/ordal/NumberTable", name := "<init>", desc := "(Lcom/example/ordal/ordal/NumberTable$Keys;)V" } : Jvm.MethodName) prog_9_method_1_code (2 : Nat) (Option.none : Option Jvm.ClassFile.FieldType)).before args0 about1 = true := code_word (m := ⟨11, 0⟩) (meth := k11m0) (c := k11c0) (by decide +kernel) rfl rfl rfl (by decide +kernel)
set_option maxRecDepth 65536 in
theorem w_c8 : (Jvm.Cond.code ({ cls := "com/example/ordal/ordal/Relation", name := "find", desc := "(III)I" } : Jvm.MethodName) prog_12_method_12_code (8 : Nat) (Option.some Jvm.ClassFile.FieldType.int)).before args0 about1 = true := code_word (m := ⟨2, 2⟩) (meth := k2m2) (c := k2c2) (by decide +kernel) rfl rfl rfl (by decide +kernel)
set_option maxRecDepth 65536 in
theorem w_c9 : (Jvm.Cond.code ({ cls := "com/example/ordal/ordal/RelationFindPinLaw", name := "hit", desc := "([I[IIIIII)Z" } : Jvm.MethodName) method_4_code (8 : Nat) (Option.some Jvm.ClassFile.FieldType.boolean)).before args0 about1 = true := code_word (m := ⟨1, 3⟩) (meth := k1m3) (c := k1c3) (by decide +kernel) rfl rfl rfl (by decide +kernel)
set_option maxRecDepth 65536 in
theorem w_c10 : (Jvm.Cond.code ({ cls := "com/example/ordal/ordal/Relation", name := "add", desc := "([I)Z" } : Jvm.MethodName) prog_12_method_14_code (2 : Nat) (Option.some Jvm.ClassFile.FieldType.boolean)).before args0 about1 = true := code_word (m := ⟨2, 3⟩) (meth := k2m3) (c := k2c3) (by decide +kernel) rfl rfl rfl (by decide +kernel)
set_option maxRecDepth 65536 in
theorem w_c11 : (Jvm.Cond.code ({ cls := "com/example/ordal/ordal/Relation", name := "add", desc := "([I[I)Z" } : Jvm.MethodName) prog_12_method_15_code (4 : Nat) (Option.some Jvm.ClassFile.FieldType.boolean)).before args0 about1 = true := code_word (m := ⟨2, 4⟩) (meth := k2m4) (c := k2c4) (by decide +kernel) rfl rfl rfl (by decide +kernel)
set_option maxRecDepth 65536 in
theorem w_c12 : (Jvm.Cond.code ({ cls := "com/example/ordal/ordal/Relation", name := "put", desc := "([I[I)Z" } : Jvm.MethodName) prog_12_method_16_code (8 : Nat) (Option.some Jvm.ClassFile.FieldType.boolean)).before args0 about1 = true := code_word (m := ⟨2, 5⟩) (meth := k2m5) (c := k2c5) (by decide +kernel) rfl rfl rfl (by decide +kernel)
set_option maxRecDepth 65536 in
theorem w_c13 : (Jvm.Cond.code ({ cls := "com/example/ordal/ordal/Relation$PositionTable", name := "hash", desc := "([I)I" } : Jvm.MethodName) prog_15_method_9_code (7 : Nat) (Option.some Jvm.ClassFile.FieldType.int)).before args0 about1 = true := code_word (m := ⟨10, 4⟩) (meth := k10m4) (c := k10c4) (by decide +kernel) rfl rfl rfl (by decide +kernel)
set_option maxRecDepth 65536 in
theorem w_c14 : (Jvm.Cond.code ({ cls := "com/example/ordal/ordal/Relation$PositionTable", name := "mix", desc := "(II)I" } : Jvm.MethodName) prog_15_method_11_code (2 : Nat) (Option.some Jvm.ClassFile.FieldType.int)).before args0 about1 = true := code_word (m := ⟨10, 5⟩) (meth := k10m5) (c := k10c5) (by decide +kernel) rfl rfl rfl (by decide +kernel)
set_option maxRecDepth 65536 in
theorem w_c15 : (Jvm.Cond.code ({ cls := "com/example/ordal/ordal/Relation$PositionTable", name := "find", desc := "([II)I" } : Jvm.MethodName) prog_15_method_2_code (3 : Nat) (Option.some Jvm.ClassFile.FieldType.int)).before args0 about1 = true := code_word (m := ⟨10, 1⟩) (meth := k10m1) (c := k10c1) (by decide +kernel) rfl rfl rfl (by decide +kernel)
set_option maxRecDepth 65536 in
theorem w_c16 : (Jvm.Cond.code ({ cls := "com/example/ordal/ordal/NumberTable", name := "find", desc := "(ILjava/lang/Object;)I" } : Jvm.MethodName) prog_9_method_2_code (7 : Nat) (Option.some Jvm.ClassFile.FieldType.int)).before args0 about1 = true := code_word (m := ⟨11, 1⟩) (meth := k11m1) (c := k11c1) (by decide +kernel) rfl rfl rfl (by decide +kernel)
set_option maxRecDepth 65536 in
theorem w_c17 : (Jvm.Cond.code ({ cls := "com/example/ordal/ordal/NumberTable", name := "slot", desc := "(I)I" } : Jvm.MethodName) prog_9_method_8_code (2 : Nat) (Option.some Jvm.ClassFile.FieldType.int)).before args0 about1 = true := code_word (m := ⟨11, 5⟩) (meth := k11m5) (c := k11c5) (by decide +kernel) rfl rfl rfl (by decide +kernel)
set_option maxRecDepth 65536 in
theorem w_c18 : (Jvm.Cond.code ({ cls := "com/example/ordal/ordal/NumberTable", name := "spread", desc := "(I)I" } : Jvm.MethodName) prog_9_method_10_code (2 : Nat) (Option.some Jvm.ClassFile.FieldType.int)).before args0 about1 = true := code_word (m := ⟨11, 7⟩) (meth := k11m7) (c := k11c7) (by decide +kernel) rfl rfl rfl (by decide +kernel)
set_option maxRecDepth 65536 in
theorem w_c19 : (Jvm.Cond.code ({ cls := "com/example/ordal/ordal/Relation$PositionTable", name := "put", desc := "(II)V" } : Jvm.MethodName) prog_15_method_4_code (3 : Nat) (Option.none : Option Jvm.ClassFile.FieldType)).before args0 about1 = true := code_word (m := ⟨10, 2⟩) (meth := k10m2) (c := k10c2) (by decide +kernel) rfl rfl rfl (by decide +kernel)
set_option maxRecDepth 65536 in
theorem w_c20 : (Jvm.Cond.code ({ cls := "com/example/ordal/ordal/NumberTable", name := "put", desc := "(II)V" } : Jvm.MethodName) prog_9_method_3_code (3 : Nat) (Option.none : Option Jvm.ClassFile.FieldType)).before args0 about1 = true := code_word (m := ⟨11, 2⟩) (meth := k11m2) (c := k11c2) (by decide +kernel) rfl rfl rfl (by decide +kernel)
set_option maxRecDepth 65536 in
theorem w_c21 : (Jvm.Cond.code ({ cls := "com/example/ordal/ordal/NumberTable", name := "insert", desc := "(I)V" } : Jvm.MethodName) prog_9_method_6_code (2 : Nat) (Option.none : Option Jvm.ClassFile.FieldType)).before args0 about1 = true := code_word (m := ⟨11, 3⟩) (meth := k11m3) (c := k11c3) (by decide +kernel) rfl rfl rfl (by decide +kernel)
set_option maxRecDepth 65536 in
theorem w_c22 : (Jvm.Cond.code ({ cls := "com/example/ordal/ordal/NumberTable", name := "place", desc := "(I)Z" } : Jvm.MethodName) prog_9_method_7_code (7 : Nat) (Option.some Jvm.ClassFile.FieldType.boolean)).before args0 about1 = true := code_word (m := ⟨11, 4⟩) (meth := k11m4) (c := k11c4) (by decide +kernel) rfl rfl rfl (by decide +kernel)
set_option maxRecDepth 65536 in
theorem w_c23 : (Jvm.Cond.code ({ cls := "java/util/HashMap", name := "isEmpty", desc := "()Z" } : Jvm.MethodName) jdk_69_method_11_code (1 : Nat) (Option.some Jvm.ClassFile.FieldType.boolean)).before args0 about1 = true := code_word (m := ⟨7, 1⟩) (meth := k7m1) (c := k7c1) (by decide +kernel) rfl rfl rfl (by decide +kernel)
set_option maxRecDepth 65536 in
theorem w_c24 : (Jvm.Cond.code ({ cls := "com/example/ordal/ordal/RelationFindPinLaw", name := "same", desc := "([I[IIIII)Z" } : Jvm.MethodName) method_3_code (6 : Nat) (Option.some Jvm.ClassFile.FieldType.boolean)).before args0 about1 = true := code_word (m := ⟨1, 2⟩) (meth := k1m2) (c := k1c2) (by decide +kernel) rfl rfl rfl (by decide +kernel)
set_option maxRecDepth 65536 in
theorem w_c25 : (Jvm.Cond.code ({ cls := "com/example/ordal/ordal/Relation$PositionTable", name := "holds", desc := "(ILjava/lang/Object;)Z" } : Jvm.MethodName) prog_15_method_13_code (3 : Nat) (Option.some Jvm.ClassFile.FieldType.boolean)).before args0 about1 = true := code_word (m := ⟨10, 6⟩) (meth := k10m6) (c := k10c6) (by decide +kernel) rfl rfl rfl (by decide +kernel)
set_option maxRecDepth 65536 in
theorem w_c26 : (Jvm.Cond.code ({ cls := "com/example/ordal/ordal/Relation$PositionTable", name := "holds", desc := "(I[I)Z" } : Jvm.MethodName) prog_15_method_6_code (4 : Nat) (Option.some Jvm.ClassFile.FieldType.boolean)).before args0 about1 = true := code_word (m := ⟨10, 3⟩) (meth := k10m3) (c := k10c3) (by decide +kernel) rfl rfl rfl (by decide +kernel)
set_option maxRecDepth 65536 in
theorem w_c27 : (Jvm.Cond.code ({ cls := "com/example/ordal/ordal/Relation", name := "value", desc := "(II)I" } : Jvm.MethodName) prog_12_method_5_code (3 : Nat) (Option.some Jvm.ClassFile.FieldType.int)).before args0 about1 = true := code_word (m := ⟨2, 1⟩) (meth := k2m1) (c := k2c1) (by decide +kernel) rfl rfl rfl (by decide +kernel)
set_option maxRecDepth 65536 in
theorem w_c28 : (Jvm.Cond.code ({ cls := "com/example/ordal/ordal/NumberTable", name := "next", desc := "(I)I" } : Jvm.MethodName) prog_9_method_9_code (2 : Nat) (Option.some Jvm.ClassFile.FieldType.int)).before args0 about1 = true := code_word (m := ⟨11, 6⟩) (meth := k11m6) (c := k11c6) (by decide +kernel) rfl rfl rfl (by decide +kernel)
def codes1 : List Jvm.Cond := [Jvm.Cond.code x code maxLocals ret, Jvm.Cond.code ({ cls := "com/example/ordal/ordal/Relation", name := "<init>", desc := "(I)V" } : Jvm.MethodName) prog_12_method_1_code (2 : Nat) (Option.none : Option Jvm.ClassFile.FieldType), Jvm.Cond.code ({ cls := "java/lang/Object", name := "<init>", desc := "()V" } : Jvm.MethodName) object_method_1_code (1 : Nat) (Option.none : Option Jvm.ClassFile.FieldType), Jvm.Cond.code ({ cls := "java/util/HashMap", name := "<init>", desc := "()V" } : Jvm.MethodName) jdk_69_method_7_code (1 : Nat) (Option.none : Option Jvm.ClassFile.FieldType), Jvm.Cond.code ({ cls := "java/util/AbstractMap", name := "<init>", desc := "()V" } : Jvm.MethodName) jdk_71_method_1_code (1 : Nat) (Option.none : Option Jvm.ClassFile.FieldType), Jvm.Cond.code ({ cls := "com/example/ordal/ordal/Relation", name := "identityColumns", desc := "(I)[I" } : Jvm.MethodName) prog_12_method_25_code (3 : Nat) (Option.some (Jvm.ClassFile.FieldType.array Jvm.ClassFile.FieldType.int)), Jvm.Cond.code ({ cls := "com/example/ordal/ordal/Relation$PositionTable", name := "<init>", desc := "(Lcom/example/ordal/ordal/Relation;[I)V" } : Jvm.MethodName) prog_15_method_1_code (3 : Nat) (Option.none : Option Jvm.ClassFile.FieldType), Jvm.Cond.code ({ cls := "com/example/ordal/ordal/NumberTable", name := "<init>", desc := "(Lcom/example/ordal/ordal/NumberTable$Keys;)V" } : Jvm.MethodName) prog_9_method_1_code (2 : Nat) (Option.none : Option Jvm.ClassFile.FieldType), Jvm.Cond.code ({ cls := "com/example/ordal/ordal/Relation", name := "find", desc := "(III)I" } : Jvm.MethodName) prog_12_method_12_code (8 : Nat) (Option.some Jvm.ClassFile.FieldType.int), Jvm.Cond.code ({ cls := "com/example/ordal/ordal/RelationFindPinLaw", name := "hit", desc := "([I[IIIIII)Z" } : Jvm.MethodName) method_4_code (8 : Nat) (Option.some Jvm.ClassFile.FieldType.boolean), Jvm.Cond.code ({ cls := "com/example/ordal/ordal/Relation", name := "add", desc := "([I)Z" } : Jvm.MethodName) prog_12_method_14_code (2 : Nat) (Option.some Jvm.ClassFile.FieldType.boolean), Jvm.Cond.code ({ cls := "com/example/ordal/ordal/Relation", name := "add", desc := "([I[I)Z" } : Jvm.MethodName) prog_12_method_15_code (4 : Nat) (Option.some Jvm.ClassFile.FieldType.boolean), Jvm.Cond.code ({ cls := "com/example/ordal/ordal/Relation", name := "put", desc := "([I[I)Z" } : Jvm.MethodName) prog_12_method_16_code (8 : Nat) (Option.some Jvm.ClassFile.FieldType.boolean), Jvm.Cond.code ({ cls := "com/example/ordal/ordal/Relation$PositionTable", name := "hash", desc := "([I)I" } : Jvm.MethodName) prog_15_method_9_code (7 : Nat) (Option.some Jvm.ClassFile.FieldType.int), Jvm.Cond.code ({ cls := "com/example/ordal/ordal/Relation$PositionTable", name := "mix", desc := "(II)I" } : Jvm.MethodName) prog_15_method_11_code (2 : Nat) (Option.some Jvm.ClassFile.FieldType.int), Jvm.Cond.code ({ cls := "com/example/ordal/ordal/Relation$PositionTable", name := "find", desc := "([II)I" } : Jvm.MethodName) prog_15_method_2_code (3 : Nat) (Option.some Jvm.ClassFile.FieldType.int), Jvm.Cond.code ({ cls := "com/example/ordal/ordal/NumberTable", name := "find", desc := "(ILjava/lang/Object;)I" } : Jvm.MethodName) prog_9_method_2_code (7 : Nat) (Option.some Jvm.ClassFile.FieldType.int), Jvm.Cond.code ({ cls := "com/example/ordal/ordal/NumberTable", name := "slot", desc := "(I)I" } : Jvm.MethodName) prog_9_method_8_code (2 : Nat) (Option.some Jvm.ClassFile.FieldType.int), Jvm.Cond.code ({ cls := "com/example/ordal/ordal/NumberTable", name := "spread", desc := "(I)I" } : Jvm.MethodName) prog_9_method_10_code (2 : Nat) (Option.some Jvm.ClassFile.FieldType.int), Jvm.Cond.code ({ cls := "com/example/ordal/ordal/Relation$PositionTable", name := "put", desc := "(II)V" } : Jvm.MethodName) prog_15_method_4_code (3 : Nat) (Option.none : Option Jvm.ClassFile.FieldType), Jvm.Cond.code ({ cls := "com/example/ordal/ordal/NumberTable", name := "put", desc := "(II)V" } : Jvm.MethodName) prog_9_method_3_code (3 : Nat) (Option.none : Option Jvm.ClassFile.FieldType), Jvm.Cond.code ({ cls := "com/example/ordal/ordal/NumberTable", name := "insert", desc := "(I)V" } : Jvm.MethodName) prog_9_method_6_code (2 : Nat) (Option.none : Option Jvm.ClassFile.FieldType), Jvm.Cond.code ({ cls := "com/example/ordal/ordal/NumberTable", name := "place", desc := "(I)Z" } : Jvm.MethodName) prog_9_method_7_code (7 : Nat) (Option.some Jvm.ClassFile.FieldType.boolean), Jvm.Cond.code ({ cls := "java/util/HashMap", name := "isEmpty", desc := "()Z" } : Jvm.MethodName) jdk_69_method_11_code (1 : Nat) (Option.some Jvm.ClassFile.FieldType.boolean), Jvm.Cond.code ({ cls := "com/example/ordal/ordal/RelationFindPinLaw", name := "same", desc := "([I[IIIII)Z" } : Jvm.MethodName) method_3_code (6 : Nat) (Option.some Jvm.ClassFile.FieldType.boolean), Jvm.Cond.code ({ cls := "com/example/ordal/ordal/Relation$PositionTable", name := "holds", desc := "(ILjava/lang/Object;)Z" } : Jvm.MethodName) prog_15_method_13_code (3 : Nat) (Option.some Jvm.ClassFile.FieldType.boolean), Jvm.Cond.code ({ cls := "com/example/ordal/ordal/Relation$PositionTable", name := "holds", desc := "(I[I)Z" } : Jvm.MethodName) prog_15_method_6_code (4 : Nat) (Option.some Jvm.ClassFile.FieldType.boolean), Jvm.Cond.code ({ cls := "com/example/ordal/ordal/Relation", name := "value", desc := "(II)I" } : Jvm.MethodName) prog_12_method_5_code (3 : Nat) (Option.some Jvm.ClassFile.FieldType.int), Jvm.Cond.code ({ cls := "com/example/ordal/ordal/NumberTable", name := "next", desc := "(I)I" } : Jvm.MethodName) prog_9_method_9_code (2 : Nat) (Option.some Jvm.ClassFile.FieldType.int)]
set_option maxRecDepth 65536 in
theorem codes_eq : words1.filter isCode = codes1 := rfl
theorem w_codes : ∀ c ∈ words1.filter isCode, c.before args0 about1 = true := by
  rw [codes_eq]
  intro c hc
  simp only [codes1, List.mem_cons, List.not_mem_nil, or_false] at hc
  rcases hc with rfl | rfl | rfl | rfl | rfl | rfl | rfl | rfl | rfl | rfl | rfl | rfl | rfl | rfl | rfl | rfl | rfl | rfl | rfl | rfl | rfl | rfl | rfl | rfl | rfl | rfl | rfl | rfl | rfl
  · exact w_c0
  · exact w_c1
  · exact w_c2
  · exact w_c3
  · exact w_c4
  · exact w_c5
  · exact w_c6
  · exact w_c7
  · exact w_c8
  · exact w_c9
  · exact w_c10
  · exact w_c11
  · exact w_c12
  · exact w_c13
  · exact w_c14
  · exact w_c15
  · exact w_c16
  · exact w_c17
  · exact w_c18
  · exact w_c19
  · exact w_c20
  · exact w_c21
  · exact w_c22
  · exact w_c23
  · exact w_c24
  · exact w_c25
  · exact w_c26
  · exact w_c27
  · exact w_c28
set_option maxRecDepth 65536 in
theorem w_t1 : (words1.take 24).all (fun c => isCode c || c.before args0 about1) = true := by decide +kernel
set_option maxRecDepth 65536 in
theorem w_t2 : ((words1.drop 24).take 24).all (fun c => isCode c || c.before args0 about1) = true := by decide +kernel
set_option maxRecDepth 65536 in
theorem w_t3 : (((words1.drop 24).drop 24).take 24).all (fun c => isCode c || c.before args0 about1) = true := by decide +kernel
set_option maxRecDepth 65536 in
theorem w_t4 : ((((words1.drop 24).drop 24).drop 24).take 24).all (fun c => isCode c || c.before args0 about1) = true := by decide +kernel
set_option maxRecDepth 65536 in
theorem w_t5 : (((((words1.drop 24).drop 24).drop 24).drop 24).take 24).all (fun c => isCode c || c.before args0 about1) = true := by decide +kernel
set_option maxRecDepth 65536 in
theorem w_t6 : ((((((words1.drop 24).drop 24).drop 24).drop 24).drop 24).take 24).all (fun c => isCode c || c.before args0 about1) = true := by decide +kernel
set_option maxRecDepth 65536 in
theorem w_t7 : (((((((words1.drop 24).drop 24).drop 24).drop 24).drop 24).drop 24).take 24).all (fun c => isCode c || c.before args0 about1) = true := by decide +kernel
set_option maxRecDepth 65536 in
theorem w_t8 : (((((((words1.drop 24).drop 24).drop 24).drop 24).drop 24).drop 24).drop 24).all (fun c => isCode c || c.before args0 about1) = true := by decide +kernel
theorem w_tables : (allAtoms (Jvm.Cond.code x code maxLocals ret :: tables_1)).before args0 about1 = true := by
  rw [allAtoms_all]
  show words1.all (fun c => c.before args0 about1) = true
  refine all_split ?_ w_codes
  rw [← List.take_append_drop 24 words1, List.all_append, w_t1, ← List.take_append_drop 24 (words1.drop 24), List.all_append, w_t2, ← List.take_append_drop 24 ((words1.drop 24).drop 24), List.all_append, w_t3, ← List.take_append_drop 24 (((words1.drop 24).drop 24).drop 24), List.all_append, w_t4, ← List.take_append_drop 24 ((((words1.drop 24).drop 24).drop 24).drop 24), List.all_append, w_t5, ← List.take_append_drop 24 (((((words1.drop 24).drop 24).drop 24).drop 24).drop 24), List.all_append, w_t6, ← List.take_append_drop 24 ((((((words1.drop 24).drop 24).drop 24).drop 24).drop 24).drop 24), List.all_append, w_t7, w_t8]
  rfl
set_option maxRecDepth 65536 in
theorem w_case : (Jvm.Cond.and given_1 narrow_1).before args0 about1 = true := by decide +kernel
theorem w_applies : (headSpec (Jvm.Cond.code x code maxLocals ret :: tables_1) room_1).applies x e0.platform about1 = true :=
  (Spec.applies_iff w_frames).mpr ⟨w_running, w_runnable, w_alone, w_named, w_hears, w_ripe, w_room, w_tables⟩
theorem atStart : AtStart classFile x code maxLocals ret World_1 tables_1 room_1 Calls_1 rest_1 Pre_1 launch0 p0 e0 about1 theMethod args0 below0 :=
  ⟨lists_1, trivial, launch0.admits_env _ _ _, launch0.least_env, fairChoices_fair.cas, fairChoices_fair.clock, w_frames, w_args, w_heap, w_applies, trivial, trivial, w_case⟩
end start1
theorem witness_1 : WitnessClaimed_1 := ⟨start1.p0, start1.e0, start1.about1, start1.theMethod, start1.args0, start1.below0, start1.atStart⟩
end Jvm.Pilot.@@N@@
