import JvmDerived
import JvmDerived.Pilot.@@N@@Statement
import JvmDerived.Pilot.@@N@@Code
set_option linter.unusedVariables false
set_option linter.unusedSimpArgs false
namespace Jvm.Pilot.@@N@@
open Jvm Jvm.ClassFile Sem Op Lib Jvm.Free Jvm.Stand Jvm.LawKit Jvm.RoadKit Bundle Jvm.Pilot.@@N@@.Jvm.D
section OwnKit
variable {p : Program} {l : Launch} {e : Env} {R : Room} {s : State} {m : MethodId} {args : Array Value} {below : List Frame} {meth : Method} {c : Code} {T : State} {cells slots : Nat} {P : State → Outcome → Prop}
variable {Z : State} {a0 : Array Value} {h h0 : Heap} {n0 : Nat} {own nm : String} {bytes : ByteArray} {maxL : Nat} {ret : Option FieldType}
variable {pc pc' : Nat} {Ls : Array Slot} {st : List Value}
/-- from the state U the run comes to an end that P allows -/
def own_Go (p : Program) (e : Env) (below : List Frame) (U : State) (P : State → Outcome → Prop) : Prop := ∃ a o, Steps p.tables e below U a ∧ P a o
theorem own_by {U U' : State} (q : ∀ t, Steps p.tables e below U' t → Steps p.tables e below U t) (G : own_Go p e below U' P) : own_Go p e below U P := by
  obtain ⟨a, o, h1, h2⟩ := G
  exact ⟨a, o, q a h1, h2⟩
/-- what stays the same in one body -/
def own_B (p : Program) (s : State) (m : MethodId) (meth : Method) (c : Code) (Z : State) (own nm : String) (bytes : ByteArray) (maxL : Nat) (ret : Option FieldType) : Prop :=
  p.tables.exec = Jvm.exec ∧ Z.Warmed39 s.vm ∧ c.maxLocals = maxL ∧ s.vm.findClass own = some m.cls ∧ meth.sig.returnType = ret ∧ meth.locks = false ∧ meth.name = nm ∧ c.code = bytes
/-- where the run stands: the state T, its heap h; nothing below n0 has been written -/
def own_S (p : Program) (l : Launch) (e : Env) (R : Room) (s : State) (m : MethodId) (args : Array Value) (below : List Frame) (meth : Method) (c : Code) (n0 : Nat) (T : State) (h : Heap) (cells slots : Nat) : Prop :=
  ∃ locs, Stand p l e R s m args below meth c T locs cells slots ∧ T.heap = h ∧ Fr n0 locs
/-- what a body owes at its end -/
def own_P (s : State) (below : List Frame) (n0 : Nat) (Q : Option Value → Heap → Prop) (k n : Nat) (a : State) (o : Outcome) : Prop :=
  a.status = .running ∧ Ended a below o ∧ ∃ v L, o = .returned v ∧ (Fr n0 L ∧ Q v a.heap) ∧ FrameEnd s o a L k n
theorem own_iload (B : own_B p s m meth c Z own nm bytes maxL ret) (X : own_S p l e R s m args below meth c n0 T h cells slots) {k : Nat} {v : Int32} (d : decode bytes pc = .ok (.iload k, 2)) (hp : pc + 2 = pc') (hl : Ls[k]? = some (.val (.int v)))
    (G : own_Go p e below (T.setTop (mkF m pc' Ls (.int v :: st))) P) : own_Go p e below (T.setTop (mkF m pc Ls (st))) P := by
  obtain ⟨locs, X, -, -⟩ := X
  subst hp
  exact own_by (fun _ => XS.iload X.here B.1 rfl (hb B.2.2.2.2.2.2.2 d) hl) G
theorem own_iloadN (B : own_B p s m meth c Z own nm bytes maxL ret) (X : own_S p l e R s m args below meth c n0 T h cells slots) {k : Fin 4} {v : Int32} (d : decode bytes pc = .ok (.iload_n k, 1)) (hp : pc + 1 = pc') (hl : Ls[k.val]? = some (.val (.int v)))
    (G : own_Go p e below (T.setTop (mkF m pc' Ls (.int v :: st))) P) : own_Go p e below (T.setTop (mkF m pc Ls (st))) P := by
  obtain ⟨locs, X, -, -⟩ := X
  subst hp
  exact own_by (fun _ => XS.iloadN X.here B.1 rfl (hb B.2.2.2.2.2.2.2 d) hl) G
theorem own_aload (B : own_B p s m meth c Z own nm bytes maxL ret) (X : own_S p l e R s m args below meth c n0 T h cells slots) {k : Nat} {v : Value} (d : decode bytes pc = .ok (.aload k, 2)) (hp : pc + 2 = pc') (hl : Ls[k]? = some (.val v)) (hv : v.isRef = true)
    (G : own_Go p e below (T.setTop (mkF m pc' Ls (v :: st))) P) : own_Go p e below (T.setTop (mkF m pc Ls (st))) P := by
  obtain ⟨locs, X, -, -⟩ := X
  subst hp
  exact own_by (fun _ => XS.aload X.here B.1 rfl (hb B.2.2.2.2.2.2.2 d) hl hv) G
theorem own_aloadN (B : own_B p s m meth c Z own nm bytes maxL ret) (X : own_S p l e R s m args below meth c n0 T h cells slots) {k : Fin 4} {v : Value} (d : decode bytes pc = .ok (.aload_n k, 1)) (hp : pc + 1 = pc') (hl : Ls[k.val]? = some (.val v)) (hv : v.isRef = true)
    (G : own_Go p e below (T.setTop (mkF m pc' Ls (v :: st))) P) : own_Go p e below (T.setTop (mkF m pc Ls (st))) P := by
  obtain ⟨locs, X, -, -⟩ := X
  subst hp
  exact own_by (fun _ => XS.aloadN X.here B.1 rfl (hb B.2.2.2.2.2.2.2 d) hl hv) G
theorem own_istore (B : own_B p s m meth c Z own nm bytes maxL ret) (X : own_S p l e R s m args below meth c n0 T h cells slots) {k : Nat} {v : Int32} {Ls' : Array Slot} (d : decode bytes pc = .ok (.istore k, 2)) (hp : pc + 2 = pc') (hl : storeLocals Ls k (.int v) = some Ls')
    (G : own_Go p e below (T.setTop (mkF m pc' Ls' st)) P) : own_Go p e below (T.setTop (mkF m pc Ls (.int v :: st))) P := by
  obtain ⟨locs, X, -, -⟩ := X
  subst hp
  exact own_by (fun _ => XS.istore X.here B.1 rfl (hb B.2.2.2.2.2.2.2 d) rfl hl) G
theorem own_istoreN (B : own_B p s m meth c Z own nm bytes maxL ret) (X : own_S p l e R s m args below meth c n0 T h cells slots) {k : Fin 4} {v : Int32} {Ls' : Array Slot} (d : decode bytes pc = .ok (.istore_n k, 1)) (hp : pc + 1 = pc') (hl : storeLocals Ls k.val (.int v) = some Ls')
    (G : own_Go p e below (T.setTop (mkF m pc' Ls' st)) P) : own_Go p e below (T.setTop (mkF m pc Ls (.int v :: st))) P := by
  obtain ⟨locs, X, -, -⟩ := X
  subst hp
  exact own_by (fun _ => XS.istoreN X.here B.1 rfl (hb B.2.2.2.2.2.2.2 d) rfl hl) G
theorem own_astore (B : own_B p s m meth c Z own nm bytes maxL ret) (X : own_S p l e R s m args below meth c n0 T h cells slots) {k : Nat} {v : Value} {Ls' : Array Slot} (d : decode bytes pc = .ok (.astore k, 2)) (hp : pc + 2 = pc') (hv : v.isRef = true) (hl : storeLocals Ls k (v) = some Ls')
    (G : own_Go p e below (T.setTop (mkF m pc' Ls' st)) P) : own_Go p e below (T.setTop (mkF m pc Ls (v :: st))) P := by
  obtain ⟨locs, X, -, -⟩ := X
  subst hp
  exact own_by (fun _ => XS.astore X.here B.1 rfl (hb B.2.2.2.2.2.2.2 d) rfl hv hl) G
theorem own_astoreN (B : own_B p s m meth c Z own nm bytes maxL ret) (X : own_S p l e R s m args below meth c n0 T h cells slots) {k : Fin 4} {v : Value} {Ls' : Array Slot} (d : decode bytes pc = .ok (.astore_n k, 1)) (hp : pc + 1 = pc') (hv : v.isRef = true) (hl : storeLocals Ls k.val (v) = some Ls')
    (G : own_Go p e below (T.setTop (mkF m pc' Ls' st)) P) : own_Go p e below (T.setTop (mkF m pc Ls (v :: st))) P := by
  obtain ⟨locs, X, -, -⟩ := X
  subst hp
  exact own_by (fun _ => XS.astoreN X.here B.1 rfl (hb B.2.2.2.2.2.2.2 d) rfl hv hl) G
theorem own_iinc (B : own_B p s m meth c Z own nm bytes maxL ret) (X : own_S p l e R s m args below meth c n0 T h cells slots) {k : Nat} {i : Int} {x z : Int32} {Ls' : Array Slot} (d : decode bytes pc = .ok (.iinc k i, 3)) (hp : pc + 3 = pc') (hl : Ls[k]? = some (.val (.int x))) (hz : x + Int32.ofInt i = z) (hs : storeLocals Ls k (.int z) = some Ls')
    (G : own_Go p e below (T.setTop (mkF m pc' Ls' st)) P) : own_Go p e below (T.setTop (mkF m pc Ls st)) P := by
  obtain ⟨locs, X, -, -⟩ := X
  subst hp hz
  exact own_by (fun _ => XS.iinc X.here B.1 rfl (hb B.2.2.2.2.2.2.2 d) hl hs) G
theorem own_iconst (B : own_B p s m meth c Z own nm bytes maxL ret) (X : own_S p l e R s m args below meth c n0 T h cells slots) {i : Int} {z : Int32} (d : decode bytes pc = .ok (.iconst i, 1)) (hp : pc + 1 = pc') (hz : Int32.ofInt i = z)
    (G : own_Go p e below (T.setTop (mkF m pc' Ls (.int z :: st))) P) : own_Go p e below (T.setTop (mkF m pc Ls (st))) P := by
  obtain ⟨locs, X, -, -⟩ := X
  subst hp
  subst hz
  exact own_by (fun _ => XS.iconst X.here B.1 rfl (hb B.2.2.2.2.2.2.2 d)) G
theorem own_sipush (B : own_B p s m meth c Z own nm bytes maxL ret) (X : own_S p l e R s m args below meth c n0 T h cells slots) {i : Int} {z : Int32} (d : decode bytes pc = .ok (.sipush i, 3)) (hp : pc + 3 = pc') (hz : (Int16.ofInt i).toInt32 = z)
    (G : own_Go p e below (T.setTop (mkF m pc' Ls (.int z :: st))) P) : own_Go p e below (T.setTop (mkF m pc Ls (st))) P := by
  obtain ⟨locs, X, -, -⟩ := X
  subst hp
  subst hz
  exact own_by (fun _ => XS.sipush X.here B.1 rfl (hb B.2.2.2.2.2.2.2 d)) G
theorem own_ldcI (B : own_B p s m meth c Z own nm bytes maxL ret) (X : own_S p l e R s m args below meth c n0 T h cells slots) {i : Nat} {z : Int32} (w : (Cond.constant own i z).before a0 Z = true) (d : decode bytes pc = .ok (.ldc i, 2)) (hp : pc + 2 = pc') 
    (G : own_Go p e below (T.setTop (mkF m pc' Ls (.int z :: st))) P) : own_Go p e below (T.setTop (mkF m pc Ls (st))) P := by
  obtain ⟨locs, X, -, -⟩ := X
  subst hp
  exact own_by (fun _ => X.ldcInt B.1 B.2.2.2.1 (mvT B.2.1 w) (g := mkF m pc Ls st) rfl (hb B.2.2.2.2.2.2.2 d) _) G
theorem own_iadd (B : own_B p s m meth c Z own nm bytes maxL ret) (X : own_S p l e R s m args below meth c n0 T h cells slots) {x y z : Int32} (d : decode bytes pc = .ok (.iadd, 1)) (hp : pc + 1 = pc') (hz : x + y = z)
    (G : own_Go p e below (T.setTop (mkF m pc' Ls (.int z :: st))) P) : own_Go p e below (T.setTop (mkF m pc Ls (.int y :: .int x :: st))) P := by
  obtain ⟨locs, X, -, -⟩ := X
  subst hp
  subst hz
  exact own_by (fun _ => XS.iadd X.here B.1 rfl (hb B.2.2.2.2.2.2.2 d) rfl) G
theorem own_isub (B : own_B p s m meth c Z own nm bytes maxL ret) (X : own_S p l e R s m args below meth c n0 T h cells slots) {x y z : Int32} (d : decode bytes pc = .ok (.isub, 1)) (hp : pc + 1 = pc') (hz : x - y = z)
    (G : own_Go p e below (T.setTop (mkF m pc' Ls (.int z :: st))) P) : own_Go p e below (T.setTop (mkF m pc Ls (.int y :: .int x :: st))) P := by
  obtain ⟨locs, X, -, -⟩ := X
  subst hp
  subst hz
  exact own_by (fun _ => XS.isub X.here B.1 rfl (hb B.2.2.2.2.2.2.2 d) rfl) G
theorem own_iand (B : own_B p s m meth c Z own nm bytes maxL ret) (X : own_S p l e R s m args below meth c n0 T h cells slots) {x y z : Int32} (d : decode bytes pc = .ok (.iand, 1)) (hp : pc + 1 = pc') (hz : x &&& y = z)
    (G : own_Go p e below (T.setTop (mkF m pc' Ls (.int z :: st))) P) : own_Go p e below (T.setTop (mkF m pc Ls (.int y :: .int x :: st))) P := by
  obtain ⟨locs, X, -, -⟩ := X
  subst hp
  subst hz
  exact own_by (fun _ => XS.iand X.here B.1 rfl (hb B.2.2.2.2.2.2.2 d) rfl) G
theorem own_irem (B : own_B p s m meth c Z own nm bytes maxL ret) (X : own_S p l e R s m args below meth c n0 T h cells slots) {x y z : Int32} (d : decode bytes pc = .ok (.irem, 1)) (hp : pc + 1 = pc') (hy : y ≠ 0) (hz : x % y = z)
    (G : own_Go p e below (T.setTop (mkF m pc' Ls (.int z :: st))) P) : own_Go p e below (T.setTop (mkF m pc Ls (.int y :: .int x :: st))) P := by
  obtain ⟨locs, X, -, -⟩ := X
  subst hp
  subst hz
  exact own_by (fun _ => iremM X B.1 rfl (hb B.2.2.2.2.2.2.2 d) rfl hy) G
theorem own_i2b (B : own_B p s m meth c Z own nm bytes maxL ret) (X : own_S p l e R s m args below meth c n0 T h cells slots) {x : Int32} {z : Int32} (d : decode bytes pc = .ok (.i2b, 1)) (hp : pc + 1 = pc') (hz : x.toInt8.toInt32 = z)
    (G : own_Go p e below (T.setTop (mkF m pc' Ls (.int z :: st))) P) : own_Go p e below (T.setTop (mkF m pc Ls (.int x :: st))) P := by
  obtain ⟨locs, X, -, -⟩ := X
  subst hp
  subst hz
  exact own_by (fun _ => XS.i2b X.here B.1 rfl (hb B.2.2.2.2.2.2.2 d) rfl) G
theorem own_dup (B : own_B p s m meth c Z own nm bytes maxL ret) (X : own_S p l e R s m args below meth c n0 T h cells slots) {v : Value} (d : decode bytes pc = .ok (.dup, 1)) (hp : pc + 1 = pc') (hv : v.category = 1)
    (G : own_Go p e below (T.setTop (mkF m pc' Ls (v :: v :: st))) P) : own_Go p e below (T.setTop (mkF m pc Ls (v :: st))) P := by
  obtain ⟨locs, X, -, -⟩ := X
  subst hp
  exact own_by (fun _ => XS.dup X.here B.1 rfl (hb B.2.2.2.2.2.2.2 d) rfl hv) G
theorem own_dup2 (B : own_B p s m meth c Z own nm bytes maxL ret) (X : own_S p l e R s m args below meth c n0 T h cells slots) {v w : Value} (d : decode bytes pc = .ok (.dup2, 1)) (hp : pc + 1 = pc') (hv : v.category = 1) (hw : w.category = 1)
    (G : own_Go p e below (T.setTop (mkF m pc' Ls (v :: w :: v :: w :: st))) P) : own_Go p e below (T.setTop (mkF m pc Ls (v :: w :: st))) P := by
  obtain ⟨locs, X, -, -⟩ := X
  subst hp
  refine own_by (fun t ht => ?_) G
  have hd := hb B.2.2.2.2.2.2.2 d
  have hx := B.1
  jvm_step X.here [X.here.top, hx, hd, hv, hw]
  exact ht
theorem own_goto (B : own_B p s m meth c Z own nm bytes maxL ret) (X : own_S p l e R s m args below meth c n0 T h cells slots) {o : Int} (d : decode bytes pc = .ok (.goto o, 3)) (ho : 0 ≤ (pc : Int) + o) (hp : ((pc : Int) + o).toNat = pc')
    (G : own_Go p e below (T.setTop (mkF m pc' Ls st)) P) : own_Go p e below (T.setTop (mkF m pc Ls st)) P := by
  obtain ⟨locs, X, -, -⟩ := X
  exact own_by (fun _ => XS.goto X.here B.1 rfl (pc0 := pc) rfl (hb B.2.2.2.2.2.2.2 d) ho hp) G
theorem own_ifYes (B : own_B p s m meth c Z own nm bytes maxL ret) (X : own_S p l e R s m args below meth c n0 T h cells slots) {cd : ClassFile.Cond} {o : Int} {x : Int32} (d : decode bytes pc = .ok (.ifCond cd o, 3)) (hc : ifCond.holds cd x = true) (ho : 0 ≤ (pc : Int) + o) (hp : ((pc : Int) + o).toNat = pc')
    (G : own_Go p e below (T.setTop (mkF m pc' Ls st)) P) : own_Go p e below (T.setTop (mkF m pc Ls (.int x :: st))) P := by
  obtain ⟨locs, X, -, -⟩ := X
  exact own_by (fun _ => XS.ifYes X.here B.1 rfl (pc0 := pc) rfl (hb B.2.2.2.2.2.2.2 d) rfl hc ho hp) G
theorem own_ifNo (B : own_B p s m meth c Z own nm bytes maxL ret) (X : own_S p l e R s m args below meth c n0 T h cells slots) {cd : ClassFile.Cond} {o : Int} {x : Int32} (d : decode bytes pc = .ok (.ifCond cd o, 3)) (hc : ifCond.holds cd x = false) (hp : pc + 3 = pc')
    (G : own_Go p e below (T.setTop (mkF m pc' Ls st)) P) : own_Go p e below (T.setTop (mkF m pc Ls (.int x :: st))) P := by
  obtain ⟨locs, X, -, -⟩ := X
  subst hp
  exact own_by (fun _ => XS.ifNo X.here B.1 rfl (hb B.2.2.2.2.2.2.2 d) rfl hc) G
theorem own_icmpYes (B : own_B p s m meth c Z own nm bytes maxL ret) (X : own_S p l e R s m args below meth c n0 T h cells slots) {cd : ClassFile.Cond} {o : Int} {x y : Int32} (d : decode bytes pc = .ok (.if_icmp cd o, 3)) (hc : if_icmp.holds cd x y = true) (ho : 0 ≤ (pc : Int) + o) (hp : ((pc : Int) + o).toNat = pc')
    (G : own_Go p e below (T.setTop (mkF m pc' Ls st)) P) : own_Go p e below (T.setTop (mkF m pc Ls (.int y :: .int x :: st))) P := by
  obtain ⟨locs, X, -, -⟩ := X
  exact own_by (fun _ => XS.icmpYes X.here B.1 rfl (pc0 := pc) rfl (hb B.2.2.2.2.2.2.2 d) rfl hc ho hp) G
theorem own_icmpNo (B : own_B p s m meth c Z own nm bytes maxL ret) (X : own_S p l e R s m args below meth c n0 T h cells slots) {cd : ClassFile.Cond} {o : Int} {x y : Int32} (d : decode bytes pc = .ok (.if_icmp cd o, 3)) (hc : if_icmp.holds cd x y = false) (hp : pc + 3 = pc')
    (G : own_Go p e below (T.setTop (mkF m pc' Ls st)) P) : own_Go p e below (T.setTop (mkF m pc Ls (.int y :: .int x :: st))) P := by
  obtain ⟨locs, X, -, -⟩ := X
  subst hp
  exact own_by (fun _ => XS.icmpNo X.here B.1 rfl (hb B.2.2.2.2.2.2.2 d) rfl hc) G
theorem own_arraylength (B : own_B p s m meth c Z own nm bytes maxL ret) (X : own_S p l e R s m args below meth c n0 T h cells slots) {a : Addr} {k : ClassId} {z : Int32} {vs : List Value} {dv : Value} {ty : FieldType} (V : Arv Z h a k ty z vs dv) (d : decode bytes pc = .ok (.arraylength, 1)) (hp : pc + 1 = pc')
    (G : own_Go p e below (T.setTop (mkF m pc' Ls (.int z :: st))) P) : own_Go p e below (T.setTop (mkF m pc Ls (.ref a :: st))) P := by
  obtain ⟨locs, X, eT, -⟩ := X
  subst hp
  obtain ⟨cl, A, -, S, N, -, -⟩ := V
  refine own_by (fun t ht => ?_) G
  refine X.arraylength B.1 (by rw [eT]; exact A.1) (State.isArrayOf_alike B.2.1.alike A.2.1) (g := mkF m pc Ls (.ref a :: st)) rfl rfl (hb B.2.2.2.2.2.2.2 d) _ ?_
  rw [len_of S N]; exact ht
theorem own_baload (B : own_B p s m meth c Z own nm bytes maxL ret) (X : own_S p l e R s m args below meth c n0 T h cells slots) {a : Addr} {k : ClassId} {z : Int32} {vs : List Value} {dv : Value} {j : Int32} {v : Value} (V : Arv Z h a k .byte z vs dv) (hj : ¬ j < 0 ∧ j < z) (hv : vs.getD j.toNatClampNeg dv = v) (d : decode bytes pc = .ok (.baload, 1)) (hp : pc + 1 = pc')
    (G : own_Go p e below (T.setTop (mkF m pc' Ls (v :: st))) P) : own_Go p e below (T.setTop (mkF m pc Ls (.int j :: .ref a :: st))) P := by
  obtain ⟨locs, X, eT, -⟩ := X
  subst hp
  obtain ⟨cl, A, -, S, N, H, -⟩ := V
  have hin := inb_of S hj
  exact own_by (fun t => X.baloadBytes B.1 (j := j) (v := v) (by rw [eT]; exact A.1) (State.isArrayOf_alike B.2.1.alike A.2.1) A.2.2 hin (H.at hin hv) (g := mkF m pc Ls (.int j :: .ref a :: st)) rfl rfl (hb B.2.2.2.2.2.2.2 d) t) G
theorem own_bastore (B : own_B p s m meth c Z own nm bytes maxL ret) (X : own_S p l e R s m args below meth c n0 T h cells slots) {a : Addr} {k : ClassId} {z : Int32} {vs : List Value} {dv : Value} {j : Int32} {x x' : Int32} (V : Arv Z h a k .byte z vs dv) (ge : n0 ≤ a) (hj : ¬ j < 0 ∧ j < z) (i : Nat) (hi : j.toNatClampNeg = i) (hl : i < vs.length) (hz : x.toInt8.toInt32 = x') (d : decode bytes pc = .ok (.bastore, 1)) (hp : pc + 1 = pc')
    (G : ∀ T' h', own_S p l e R s m args below meth c n0 T' h' cells slots → Wr h h' a i (.int x') → Arv Z h' a k .byte z (vs.set i (.int x')) dv → own_Go p e below (T'.setTop (mkF m pc' Ls st)) P) : own_Go p e below (T.setTop (mkF m pc Ls (.int x :: .int j :: .ref a :: st))) P := by
  obtain ⟨locs, X, eT, N0⟩ := X
  subst hp hi hz
  obtain ⟨cl, A, q, S, N, H, F⟩ := V
  have hin := inb_of S hj
  obtain ⟨T', h', X', e', W, st'⟩ := stB X B.1 B.2.1 eT A (j := j) hin (g := mkF m pc Ls (.int x :: .int j :: .ref a :: st)) rfl rfl (hb B.2.2.2.2.2.2.2 d)
  exact own_by st' (G T' h' ⟨_, X', e', Fr.snoc X' N0 ge⟩ W (Arv.set A q S N H F (fits_nar_byte _) W _ rfl hl))
theorem own_newarray (B : own_B p s m meth c Z own nm bytes maxL ret) (X : own_S p l e R s m args below meth c n0 T h cells slots) {aty : ArrayType} {t : FieldType} (w : (Cond.arrayClass t).before a0 Z = true) (d : decode bytes pc = .ok (.newarray aty, 2)) (hp : pc + 2 = pc') (hty : newarray.typeOf aty = t) {z : Int32} (hz : ¬ z < 0) (cap : Nat) (hcap : z.toNatClampNeg ≤ cap) (hbig : cap * 8 ≤ 536870912) {k' n' : Nat} (hk : cells + 1 = k') (hn : slots + cap = n') (hkR : k' ≤ R.cells) (hnR : n' ≤ R.slots) (ad : String) (had : "[" ++ (newarray.typeOf aty).toString = ad) (dv : Value) (hdv : defaultValue t = dv)
    (G : ∀ T' h' b k, own_S p l e R s m args below meth c n0 T' h' k' n' → b = h.size → Ext h h' → Arv Z h' b k t z [] dv → Exa Z h' b ad → own_Go p e below (T'.setTop (mkF m pc' Ls (.ref b :: st))) P) : own_Go p e below (T.setTop (mkF m pc Ls (.int z :: st))) P := by
  obtain ⟨locs, X, eT, N0⟩ := X
  subst hp hk hn hdv hty
  obtain ⟨T', h', kA, X', e', E, A, A', st'⟩ := newPE X B.1 B.2.1 w eT (g := mkF m pc Ls (.int z :: st)) rfl (hb B.2.2.2.2.2.2.2 d) rfl hz (cap := cap) hcap hbig hkR hnR had
  exact own_by st' (G T' h' _ kA ⟨_, X', e', N0⟩ rfl E (Arv.new A hz) A')
theorem own_arraycopy (B : own_B p s m meth c Z own nm bytes maxL ret) (X : own_S p l e R s m args below meth c n0 T h cells slots) {i : Nat} (w1 : (Cond.methodLink own i Jvm.Stand.acN).before a0 Z = true) (w2 : (Cond.native Jvm.Stand.acN).before a0 Z = true) (w3 : (Cond.static Jvm.Stand.acN).before a0 Z = true) (w4 : (Cond.initialized "java/lang/System").before a0 Z = true) {a b : Addr} {k k' : ClassId} {ty : FieldType} {z z' sp dp nn : Int32} {vs vd us rs : List Value} {dv dd : Value} (A : Arv Z h a k ty z vs dv) (A' : Arv Z h b k' ty z' vd dd) (hty : refKind ty = false) (ge : n0 ≤ b) (h1 : ¬ sp < 0) (h2 : ¬ dp < 0) (h3 : ¬ nn < 0) (h4 : sp.toNatClampNeg + nn.toNatClampNeg ≤ z.toNatClampNeg) (h5 : dp.toNatClampNeg + nn.toNatClampNeg ≤ z'.toNatClampNeg) (hus : us = (List.range nn.toNatClampNeg).map fun i => vs.getD (sp.toNatClampNeg + i) dv) (hl : dp.toNatClampNeg + nn.toNatClampNeg ≤ vd.length) (hrs : vd.take dp.toNatClampNeg ++ us ++ vd.drop (dp.toNatClampNeg + nn.toNatClampNeg) = rs) (d : decode bytes pc = .ok (.invokestatic i, 3)) (hp : pc + 3 = pc') (hsz : Ls.size = maxL) (hf : 1 ≤ R.frames) (W : Nat) (hW : (st.map fun v => v.category).sum ≤ W) (hlo : W + (nativeFrameWords "java/lang/System" "arraycopy" 5 + 11) ≤ R.locals)
    (G : ∀ T' h', own_S p l e R s m args below meth c n0 T' h' cells slots → Keep h h' [b] → Arv Z h' b k' ty z' rs dd → own_Go p e below (T'.setTop (mkF m pc' Ls st)) P) : own_Go p e below (T.setTop (mkF m pc Ls (.int nn :: .int dp :: .ref b :: .int sp :: .ref a :: st))) P := by
  obtain ⟨locs, X, eT, N0⟩ := X
  subst hp hrs
  obtain ⟨T', h', L, X', e', N', K, V, st'⟩ := cpA X B.1 B.2.1 B.2.2.2.1 w1 w2 w3 w4 eT A A' (Or.inl ⟨rfl, hty⟩) h1 h2 h3 h4 h5 hus hl N0 ge (g := mkF m pc Ls (.int nn :: .int dp :: .ref b :: .int sp :: .ref a :: st)) rfl (by rw [B.2.2.1]; exact hsz) rfl (hb B.2.2.2.2.2.2.2 d) hf (W := W) (by show 2 * 0 + _ ≤ _; omega) hlo
  exact own_by st' (G T' h' ⟨_, X', e', N'⟩ K V)
theorem own_clone (B : own_B p s m meth c Z own nm bytes maxL ret) (X : own_S p l e R s m args below meth c n0 T h cells slots) {i : Nat} {ad : String} (w1 : (Cond.methodLink own i ⟨ad, "clone", "()Ljava/lang/Object;"⟩).before a0 Z = true) (w2 : (Cond.sameMethod ad "java/lang/Object" "clone" "()Ljava/lang/Object;").before a0 Z = true) (w3 : (Cond.native ⟨"java/lang/Object", "clone", "()Ljava/lang/Object;"⟩).before a0 Z = true) (w4 : (Cond.instanceMethod ⟨"java/lang/Object", "clone", "()Ljava/lang/Object;"⟩).before a0 Z = true) (w5 : (Cond.selects ad ⟨ad, "clone", "()Ljava/lang/Object;"⟩ ⟨"java/lang/Object", "clone", "()Ljava/lang/Object;"⟩).before a0 Z = true) (w6 : (Cond.castable ad "java/lang/Cloneable").before a0 Z = true) {a : Addr} {k : ClassId} {ty : FieldType} {z : Int32} {vs : List Value} {dv : Value} (V : Arv Z h a k ty z vs dv) (E : Exa Z h a ad) (d : decode bytes pc = .ok (.invokevirtual i, 3)) (hp : pc + 3 = pc') (hsz : Ls.size = maxL) (hf : 1 ≤ R.frames) (W cap : Nat) (hW : (st.map fun v => v.category).sum ≤ W) (hlo : W + 14 ≤ R.locals) (hcap : z.toNatClampNeg ≤ cap) {k' n' : Nat} (hk : cells + 1 = k') (hn : slots + cap = n') (hkR : k' ≤ R.cells) (hnR : n' ≤ R.slots)
    (G : ∀ T' h' b, own_S p l e R s m args below meth c n0 T' h' k' n' → b = h.size → Ext h h' → Arv Z h' b k ty z vs dv → Exa Z h' b ad → own_Go p e below (T'.setTop (mkF m pc' Ls (.ref b :: st))) P) : own_Go p e below (T.setTop (mkF m pc Ls (.ref a :: st))) P := by
  obtain ⟨locs, X, eT, N0⟩ := X
  subst hp hk hn
  obtain ⟨T', h', X', e', Ex, V', E', st'⟩ := cloneH X B.1 B.2.1 B.2.2.2.1 w1 w2 w3 w4 w5 w6 eT V.arh E (g := mkF m pc Ls (.ref a :: st)) rfl (by rw [B.2.2.1]; exact hsz) rfl (hb B.2.2.2.2.2.2.2 d) hf (W := W) (cap := cap) (by show 2 * 0 + _ ≤ _; omega) hlo hcap hkR hnR
  exact own_by st' (G T' h' _ ⟨_, X', e', N0⟩ rfl Ex V' E')
theorem own_checkcast (B : own_B p s m meth c Z own nm bytes maxL ret) (X : own_S p l e R s m args below meth c n0 T h cells slots) {i : Nat} {K : String} {a : Addr} (w : (Cond.classLink own i K).before a0 Z = true) (I : Ins Z h a K true) (d : decode bytes pc = .ok (.checkcast i, 3)) (hp : pc + 3 = pc')
    (G : ∀ T', own_S p l e R s m args below meth c n0 T' h cells slots → own_Go p e below (T'.setTop (mkF m pc' Ls (.ref a :: st))) P) : own_Go p e below (T.setTop (mkF m pc Ls (.ref a :: st))) P := by
  obtain ⟨locs, X, eT, N0⟩ := X
  subst hp
  obtain ⟨T', X', e', st'⟩ := castY X B.1 B.2.1 B.2.2.2.1 w eT I (g := mkF m pc Ls (.ref a :: st)) rfl rfl (hb B.2.2.2.2.2.2.2 d)
  exact own_by st' (G T' ⟨_, X', e', N0⟩)
theorem own_retI (B : own_B p s m meth c Z own nm bytes maxL (some .int)) (X : own_S p l e R s m args below meth c n0 T h cells slots) {Q : Option Value → Heap → Prop} {k n : Nat} {z : Int32} (d : decode bytes pc = .ok (.ireturn, 1)) (hk : cells ≤ k) (hn : slots ≤ n) (hq : Q (some (.int z)) h) : own_Go p e below (T.setTop (mkF m pc Ls (.int z :: st))) (own_P s below n0 Q k n) := by
  obtain ⟨locs, X, eT, N0⟩ := X
  obtain ⟨fs, hr, hrun, hended, hW, hsame⟩ := X.leave (v := (some (.int z))) (fun h => by rw [B.2.2.2.2.1] at h; cases h) B.2.2.2.2.2.1
  exact ⟨_, _, retOut X B.1 B.2.2.2.2.1 rfl (Or.inl ⟨rfl, Or.inl rfl, _, rfl⟩) (hb B.2.2.2.2.2.2.2 d) hr, hrun, hended, _, _, rfl, ⟨N0, by show Q _ T.heap; rw [eT]; exact hq⟩, ⟨_, rfl⟩, hW, hsame.mono hk hn⟩
theorem own_retN {t : FieldType} (B : own_B p s m meth c Z own nm bytes maxL (some t)) (X : own_S p l e R s m args below meth c n0 T h cells slots) {Q : Option Value → Heap → Prop} {k n : Nat} {z z' : Int32} (ht : t = .boolean ∨ t = .byte ∨ t = .char ∨ t = .short) (hz : nar t z = z') (d : decode bytes pc = .ok (.ireturn, 1)) (hk : cells ≤ k) (hn : slots ≤ n) (hq : Q (some (.int z')) h) : own_Go p e below (T.setTop (mkF m pc Ls (.int z :: st))) (own_P s below n0 Q k n) := by
  subst hz
  obtain ⟨locs, X, eT, N0⟩ := X
  obtain ⟨fs, hr, hrun, hended, hW, hsame⟩ := X.leave (v := (some (.int (nar t z)))) (fun h => by rw [B.2.2.2.2.1] at h; cases h) B.2.2.2.2.2.1
  exact ⟨_, _, retN X B.1 B.2.2.2.2.1 ht (hb B.2.2.2.2.2.2.2 d) hr, hrun, hended, _, _, rfl, ⟨N0, by show Q _ T.heap; rw [eT]; exact hq⟩, ⟨_, rfl⟩, hW, hsame.mono hk hn⟩
theorem own_retA {t : FieldType} (B : own_B p s m meth c Z own nm bytes maxL (some t)) (X : own_S p l e R s m args below meth c n0 T h cells slots) {Q : Option Value → Heap → Prop} {k n : Nat} {w : Value} (ht : t.isReference = true) (hw : w.isRef = true) (hnw : narrow t w = w) (d : decode bytes pc = .ok (.areturn, 1)) (hk : cells ≤ k) (hn : slots ≤ n) (hq : Q (some w) h) : own_Go p e below (T.setTop (mkF m pc Ls (w :: st))) (own_P s below n0 Q k n) := by
  obtain ⟨locs, X, eT, N0⟩ := X
  obtain ⟨fs, hr, hrun, hended, hW, hsame⟩ := X.leave (v := (some w)) (fun h => by rw [B.2.2.2.2.1] at h; cases h) B.2.2.2.2.2.1
  exact ⟨_, _, retOut X B.1 B.2.2.2.2.1 hnw (Or.inr (Or.inr (Or.inr (Or.inr ⟨rfl, ht, hw⟩)))) (hb B.2.2.2.2.2.2.2 d) hr, hrun, hended, _, _, rfl, ⟨N0, by show Q _ T.heap; rw [eT]; exact hq⟩, ⟨_, rfl⟩, hW, hsame.mono hk hn⟩
theorem own_enter {y : MethodName} {rm : Room} {ws : List Jvm.Cond} {as' : Array Value} {Q : Option Value → Heap → Prop} {F : MethodId → JFrame} (hpl : plainFor y = true) (hF : ∀ m, entryFrame m as' maxL = F m)
    (body : ∀ p e s m below meth c s₁, own_B p s m meth c Z y.cls y.name bytes maxL ret → own_S p l e rm s m as' below meth c n0 s₁ h0 0 0 → own_Go p e below (s₁.setTop (F m)) (own_P s below n0 Q rm.cells rm.slots)) :
    MetFree l y (head1 (Jvm.Cond.code y bytes maxL ret :: ws) rm) (fun a U => a = as' ∧ Z.Warmed39 U.vm ∧ U.heap = h0) (fun _ _ _ _ _ => True) (fun _ U o U' => ∃ v L, o = .returned v ∧ (Fr n0 L ∧ Q v U'.heap) ∧ FrameEnd U o U' L rm.cells rm.slots) := by
  refine MetFree.of_bodySF hpl hisR ?_
  intro p e s m args below meth c s₁ Bd hml0 hP hK
  obtain ⟨rfl, hZ, hh⟩ := hP
  have e0 : s₁.heap = h0 := by rw [← hh, Bd.state]; rfl
  have nm := (name_of_methodNamed Bd.named Bd.method).1
  obtain ⟨a, o, h1, h2⟩ := body p e s m below meth c s₁ ⟨Bd.exec, hZ, hml0, findClass_of_methodNamed Bd.named, Bd.returns, Bd.notSynchronized, nm, Bd.bytes⟩ ⟨[], Stand.of_body Bd, e0, Fr.nil n0⟩
  exact ⟨a, o, castTop (hF m) h1, h2⟩
theorem own_callS (B : own_B p s m meth c Z own nm bytes maxL ret) (X : own_S p l e R s m args below meth c n0 T h cells slots) {i : Nat} {y : MethodName} {yb : ByteArray} {yl : Nat} {yr : Option FieldType} (w1 : (Cond.methodLink own i y).before a0 Z = true) (w2 : (Cond.static y).before a0 Z = true) (w3 : (Cond.initialized y.cls).before a0 Z = true) (w4 : (Cond.code y yb yl yr).before a0 Z = true) (hy : y.cls ≠ "java/lang/invoke/MethodHandle" ∧ y.cls ≠ "java/lang/invoke/VarHandle") {rm : Room} {Q : Option Value → Heap → Prop} (argsL rest : List Value)
    (hM : MetFree l y (head1 [Jvm.Cond.code y yb yl yr] rm) (fun b U => b = argsL.toArray ∧ Z.Warmed39 U.vm ∧ U.heap = h) (fun _ _ _ _ _ => True) (fun _ U o U' => ∃ v L, o = .returned v ∧ (Fr n0 L ∧ Q v U'.heap) ∧ FrameEnd U o U' L rm.cells rm.slots))
    (W : Nat) (hf : rm.frames + 1 ≤ R.frames) (hl : W + (yl + 11) + rm.locals ≤ R.locals) (hsz : Ls.size = maxL) {ps : List FieldType} {rt : Option FieldType} (hpd : parseMethodDescriptor y.desc = some ⟨ps, rt⟩) (hln : argsL.length = ps.length) (hst : st = argsL.reverse ++ rest) (hW : (rest.map fun v => v.category).sum ≤ W) (d : decode bytes pc = .ok (.invokestatic i, 3)) (hp : pc + 3 = pc') {k' n' : Nat} (hk : cells + rm.cells = k') (hn : slots + rm.slots = n') (hkR : k' ≤ R.cells) (hnR : n' ≤ R.slots)
    (G : ∀ T' v h', own_S p l e R s m args below meth c n0 T' h' k' n' → Q v h' → own_Go p e below (T'.setTop (mkF m pc' Ls (v.toList ++ rest))) P) : own_Go p e below (T.setTop (mkF m pc Ls st)) P := by
  obtain ⟨locs, X, eT, N0⟩ := X
  subst hp hk hn
  have bk := backOf (p := p) (e := e) (below := below) (args := args) (len := 3) (W := W) (Q := fun v h' L => Fr n0 L ∧ Q v h') hM B.2.1 w4 w3 hf hl
  obtain ⟨v, vm₁, ⟨T', L', k1, n1⟩, hW1, X', ⟨Lc, hQ, l1, y1, z1⟩, stp⟩ := Jvm.LawKit.callS X B.1 (y := y) B.2.2.2.1 (mvT B.2.1 w1) (mvT B.2.1 w2) (mvT B.2.1 w3) (mvT B.2.1 w4) hy bk (g := mkF m pc Ls st) rfl (by rw [B.2.2.1]; exact hsz) (argsL := argsL) (rest := rest) (lenOf hpd hln) hst (by show 2 * 0 + _ ≤ _; omega) (hb B.2.2.2.2.2.2.2 d) (fun _ _ => ⟨rfl, eT, hkR, hnR⟩)
  dsimp only [Pt.U, Pt.locs, Pt.cells, Pt.slots] at X' l1 y1 z1 stp hQ
  subst l1 y1 z1
  exact own_by stp (G T' v _ ⟨_, X', rfl, N0.app hQ.1⟩ hQ.2)
theorem own_sz {h1 : Heap} {ws : List Addr} {b : Addr} (K : Keep h0 h1 ws) (g : b = h1.size) : h0.size ≤ b := g ▸ K.1
theorem own_ne {h1 : Heap} {x b : Addr} (q : x < h1.size) (g : b = h1.size) : x ≠ b := fun u => by rw [u, g] at q; exact Nat.lt_irrefl _ q
theorem own_ne' {h1 : Heap} {x b : Addr} (q : x < h1.size) (g : h1.size ≤ b) : x ≠ b := Nat.ne_of_lt (Nat.lt_of_lt_of_le q g)
end OwnKit
section OwnNum
theorem own_idem_i2b {x y : Int32} (h : x.toInt8.toInt32 = y) : y.toInt8.toInt32 = y := by subst h; simp
theorem own_w {a0 : Array Value} {Z : State} (hw : ∀ d ∈ tables_1, d.before a0 Z = true) (i : Nat) {d : Jvm.Cond} (hd : tables_1[i]? = some d) : d.before a0 Z = true := hw _ (List.mem_of_getElem? hd)
theorem own_o_mask {x m z : Int32} (h : x &&& m = z) (k : Nat) (hk : k ≤ 31) (hm : m.toBitVec.toNat = 2 ^ k - 1) : z.toInt = x.toInt % (2 ^ k : Nat) := h ▸ c_mask x m k hk hm
theorem own_o_irem {x y z : Int32} (h : x % y = z) (d : Int) (hy : y.toInt = d) : (0 ≤ x.toInt → z.toInt = x.toInt % d) ∧ (x.toInt < 0 → z.toInt = -((-x.toInt) % d)) := h ▸ c_irem x y d hy
end OwnNum

theorem d1_0 : decode method_2_code 0 = .ok (.iload_n 0, 1) := by decide +kernel
theorem d1_1 : decode method_2_code 1 = .ok (.sipush 256, 3) := by decide +kernel
theorem d1_4 : decode method_2_code 4 = .ok (.iand, 1) := by decide +kernel
theorem d1_5 : decode method_2_code 5 = .ok (.ifCond .eq 7, 3) := by decide +kernel
theorem d1_12 : decode method_2_code 12 = .ok (.iload_n 0, 1) := by decide +kernel
theorem d1_13 : decode method_2_code 13 = .ok (.i2b, 1) := by decide +kernel
theorem d1_14 : decode method_2_code 14 = .ok (.ireturn, 1) := by decide +kernel
theorem d1_8 : decode method_2_code 8 = .ok (.iconst (-1), 1) := by decide +kernel
theorem d1_9 : decode method_2_code 9 = .ok (.goto 5, 3) := by decide +kernel
theorem pn_0 : plainName "com/example/keyer/keyer/QuerySuccessorPinLaw" = true := by first | (simp [plainName, overriddenIn]; done) | decide +kernel
theorem pd_0 : parseMethodDescriptor "(I)B" = some ⟨[.int], some .byte⟩ := by decide +kernel
theorem d2_0 : decode prog_18_method_14_code 0 = .ok (.aload_n 0, 1) := by decide +kernel
theorem d2_1 : decode prog_18_method_14_code 1 = .ok (.arraylength, 1) := by decide +kernel
theorem d2_2 : decode prog_18_method_14_code 2 = .ok (.istore_n 1, 1) := by decide +kernel
theorem d2_3 : decode prog_18_method_14_code 3 = .ok (.iload_n 1, 1) := by decide +kernel
theorem d2_4 : decode prog_18_method_14_code 4 = .ok (.ifCond .le 18, 3) := by decide +kernel
theorem d2_22 : decode prog_18_method_14_code 22 = .ok (.iload_n 1, 1) := by decide +kernel
theorem d2_23 : decode prog_18_method_14_code 23 = .ok (.ifCond .ne 7, 3) := by decide +kernel
theorem d2_26 : decode prog_18_method_14_code 26 = .ok (.iconst 0, 1) := by decide +kernel
theorem d2_27 : decode prog_18_method_14_code 27 = .ok (.newarray .byte, 2) := by decide +kernel
theorem d2_29 : decode prog_18_method_14_code 29 = .ok (.areturn, 1) := by decide +kernel
theorem pn_1 : plainName "com/example/keyer/keyer/Query" = true := by first | (simp [plainName, overriddenIn]; done) | decide +kernel
theorem pd_1 : parseMethodDescriptor "([B)[B" = some ⟨[(.array .byte)], some (.array .byte)⟩ := by decide +kernel
theorem d3_0 : decode method_3_code 0 = .ok (.iload 5, 2) := by decide +kernel
theorem d3_2 : decode method_3_code 2 = .ok (.iload_n 3, 1) := by decide +kernel
theorem d3_3 : decode method_3_code 3 = .ok (.if_icmp .lt 5, 3) := by decide +kernel
theorem d3_6 : decode method_3_code 6 = .ok (.iconst 1, 1) := by decide +kernel
theorem d3_7 : decode method_3_code 7 = .ok (.ireturn, 1) := by decide +kernel
theorem pd_2 : parseMethodDescriptor "([B[B[BIII)Z" = some ⟨[(.array .byte), (.array .byte), (.array .byte), .int, .int, .int], some .boolean⟩ := by decide +kernel
theorem d2_7 : decode prog_18_method_14_code 7 = .ok (.aload_n 0, 1) := by decide +kernel
theorem d2_8 : decode prog_18_method_14_code 8 = .ok (.iload_n 1, 1) := by decide +kernel
theorem d2_9 : decode prog_18_method_14_code 9 = .ok (.iconst 1, 1) := by decide +kernel
theorem d2_10 : decode prog_18_method_14_code 10 = .ok (.isub, 1) := by decide +kernel
theorem d2_11 : decode prog_18_method_14_code 11 = .ok (.baload, 1) := by decide +kernel
theorem d2_12 : decode prog_18_method_14_code 12 = .ok (.iconst (-1), 1) := by decide +kernel
theorem d2_13 : decode prog_18_method_14_code 13 = .ok (.if_icmp .ne 9, 3) := by decide +kernel
theorem d2_16 : decode prog_18_method_14_code 16 = .ok (.iinc 1 (-1), 3) := by decide +kernel
theorem d2_19 : decode prog_18_method_14_code 19 = .ok (.goto (-16), 3) := by decide +kernel
theorem d2_30 : decode prog_18_method_14_code 30 = .ok (.aload_n 0, 1) := by decide +kernel
theorem d2_31 : decode prog_18_method_14_code 31 = .ok (.iload_n 1, 1) := by decide +kernel
theorem d2_32 : decode prog_18_method_14_code 32 = .ok (.invokestatic 230, 3) := by decide +kernel
theorem d4_0 : decode jdk_65_method_121_code 0 = .ok (.iload_n 1, 1) := by decide +kernel
theorem d4_1 : decode jdk_65_method_121_code 1 = .ok (.aload_n 0, 1) := by decide +kernel
theorem d4_2 : decode jdk_65_method_121_code 2 = .ok (.arraylength, 1) := by decide +kernel
theorem d4_3 : decode jdk_65_method_121_code 3 = .ok (.if_icmp .ne 11, 3) := by decide +kernel
theorem d4_6 : decode jdk_65_method_121_code 6 = .ok (.aload_n 0, 1) := by decide +kernel
theorem d4_7 : decode jdk_65_method_121_code 7 = .ok (.invokevirtual 310, 3) := by decide +kernel
theorem d4_10 : decode jdk_65_method_121_code 10 = .ok (.checkcast 311, 3) := by decide +kernel
theorem d4_13 : decode jdk_65_method_121_code 13 = .ok (.areturn, 1) := by decide +kernel
theorem pn_2 : plainName "java/util/Arrays" = true := by first | (simp [plainName, overriddenIn]; done) | decide +kernel
theorem pd_3 : parseMethodDescriptor "([BI)[B" = some ⟨[(.array .byte), .int], some (.array .byte)⟩ := by decide +kernel
theorem d2_35 : decode prog_18_method_14_code 35 = .ok (.astore_n 2, 1) := by decide +kernel
theorem d2_36 : decode prog_18_method_14_code 36 = .ok (.aload_n 2, 1) := by decide +kernel
theorem d2_37 : decode prog_18_method_14_code 37 = .ok (.iload_n 1, 1) := by decide +kernel
theorem d2_38 : decode prog_18_method_14_code 38 = .ok (.iconst 1, 1) := by decide +kernel
theorem d2_39 : decode prog_18_method_14_code 39 = .ok (.isub, 1) := by decide +kernel
theorem d2_40 : decode prog_18_method_14_code 40 = .ok (.dup2, 1) := by decide +kernel
theorem d2_41 : decode prog_18_method_14_code 41 = .ok (.baload, 1) := by decide +kernel
theorem d2_42 : decode prog_18_method_14_code 42 = .ok (.iconst 1, 1) := by decide +kernel
theorem d2_43 : decode prog_18_method_14_code 43 = .ok (.iadd, 1) := by decide +kernel
theorem d2_44 : decode prog_18_method_14_code 44 = .ok (.i2b, 1) := by decide +kernel
theorem d2_45 : decode prog_18_method_14_code 45 = .ok (.bastore, 1) := by decide +kernel
theorem d2_46 : decode prog_18_method_14_code 46 = .ok (.aload_n 2, 1) := by decide +kernel
theorem d2_47 : decode prog_18_method_14_code 47 = .ok (.areturn, 1) := by decide +kernel
theorem d3_8 : decode method_3_code 8 = .ok (.aload_n 0, 1) := by decide +kernel
theorem d3_9 : decode method_3_code 9 = .ok (.iload 5, 2) := by decide +kernel
theorem d3_11 : decode method_3_code 11 = .ok (.baload, 1) := by decide +kernel
theorem d3_12 : decode method_3_code 12 = .ok (.aload_n 2, 1) := by decide +kernel
theorem d3_13 : decode method_3_code 13 = .ok (.iload 5, 2) := by decide +kernel
theorem d3_15 : decode method_3_code 15 = .ok (.baload, 1) := by decide +kernel
theorem d3_16 : decode method_3_code 16 = .ok (.if_icmp .eq 5, 3) := by decide +kernel
theorem d3_21 : decode method_3_code 21 = .ok (.iload 5, 2) := by decide +kernel
theorem d3_23 : decode method_3_code 23 = .ok (.iload 4, 2) := by decide +kernel
theorem d3_25 : decode method_3_code 25 = .ok (.if_icmp .lt 17, 3) := by decide +kernel
theorem d3_28 : decode method_3_code 28 = .ok (.aload_n 0, 1) := by decide +kernel
theorem d3_29 : decode method_3_code 29 = .ok (.iload 5, 2) := by decide +kernel
theorem d3_31 : decode method_3_code 31 = .ok (.baload, 1) := by decide +kernel
theorem d3_32 : decode method_3_code 32 = .ok (.iconst (-1), 1) := by decide +kernel
theorem d3_33 : decode method_3_code 33 = .ok (.if_icmp .ne 7, 3) := by decide +kernel
theorem d3_36 : decode method_3_code 36 = .ok (.iconst 1, 1) := by decide +kernel
theorem d3_37 : decode method_3_code 37 = .ok (.goto 4, 3) := by decide +kernel
theorem d3_41 : decode method_3_code 41 = .ok (.ireturn, 1) := by decide +kernel
theorem d3_42 : decode method_3_code 42 = .ok (.iload 5, 2) := by decide +kernel
theorem d3_44 : decode method_3_code 44 = .ok (.iload 4, 2) := by decide +kernel
theorem d3_46 : decode method_3_code 46 = .ok (.iconst 1, 1) := by decide +kernel
theorem d3_47 : decode method_3_code 47 = .ok (.isub, 1) := by decide +kernel
theorem d3_48 : decode method_3_code 48 = .ok (.if_icmp .ge 20, 3) := by decide +kernel
theorem d3_68 : decode method_3_code 68 = .ok (.aload_n 0, 1) := by decide +kernel
theorem d3_69 : decode method_3_code 69 = .ok (.iload 5, 2) := by decide +kernel
theorem d3_71 : decode method_3_code 71 = .ok (.baload, 1) := by decide +kernel
theorem d3_72 : decode method_3_code 72 = .ok (.iconst (-1), 1) := by decide +kernel
theorem d3_73 : decode method_3_code 73 = .ok (.if_icmp .eq 21, 3) := by decide +kernel
theorem d3_76 : decode method_3_code 76 = .ok (.aload_n 1, 1) := by decide +kernel
theorem d3_77 : decode method_3_code 77 = .ok (.iload 5, 2) := by decide +kernel
theorem d3_79 : decode method_3_code 79 = .ok (.baload, 1) := by decide +kernel
theorem d3_80 : decode method_3_code 80 = .ok (.aload_n 0, 1) := by decide +kernel
theorem d3_81 : decode method_3_code 81 = .ok (.iload 5, 2) := by decide +kernel
theorem d3_83 : decode method_3_code 83 = .ok (.baload, 1) := by decide +kernel
theorem d3_84 : decode method_3_code 84 = .ok (.iconst 1, 1) := by decide +kernel
theorem d3_85 : decode method_3_code 85 = .ok (.iadd, 1) := by decide +kernel
theorem d3_86 : decode method_3_code 86 = .ok (.i2b, 1) := by decide +kernel
theorem d3_87 : decode method_3_code 87 = .ok (.if_icmp .ne 7, 3) := by decide +kernel
theorem d3_90 : decode method_3_code 90 = .ok (.iconst 1, 1) := by decide +kernel
theorem d3_91 : decode method_3_code 91 = .ok (.goto 4, 3) := by decide +kernel
theorem d3_95 : decode method_3_code 95 = .ok (.ireturn, 1) := by decide +kernel
theorem d4_14 : decode jdk_65_method_121_code 14 = .ok (.iload_n 1, 1) := by decide +kernel
theorem d4_15 : decode jdk_65_method_121_code 15 = .ok (.newarray .byte, 2) := by decide +kernel
theorem d4_17 : decode jdk_65_method_121_code 17 = .ok (.astore_n 2, 1) := by decide +kernel
theorem d4_18 : decode jdk_65_method_121_code 18 = .ok (.aload_n 0, 1) := by decide +kernel
theorem d4_19 : decode jdk_65_method_121_code 19 = .ok (.iconst 0, 1) := by decide +kernel
theorem d4_20 : decode jdk_65_method_121_code 20 = .ok (.aload_n 2, 1) := by decide +kernel
theorem d4_21 : decode jdk_65_method_121_code 21 = .ok (.iconst 0, 1) := by decide +kernel
theorem d4_22 : decode jdk_65_method_121_code 22 = .ok (.aload_n 0, 1) := by decide +kernel
theorem d4_23 : decode jdk_65_method_121_code 23 = .ok (.arraylength, 1) := by decide +kernel
theorem d4_24 : decode jdk_65_method_121_code 24 = .ok (.iload_n 1, 1) := by decide +kernel
theorem d4_25 : decode jdk_65_method_121_code 25 = .ok (.invokestatic 304, 3) := by decide +kernel
theorem d5_0 : decode jdk_29_method_69_code 0 = .ok (.iload_n 0, 1) := by decide +kernel
theorem d5_1 : decode jdk_29_method_69_code 1 = .ok (.iload_n 1, 1) := by decide +kernel
theorem d5_2 : decode jdk_29_method_69_code 2 = .ok (.if_icmp .gt 7, 3) := by decide +kernel
theorem d5_9 : decode jdk_29_method_69_code 9 = .ok (.iload_n 1, 1) := by decide +kernel
theorem d5_10 : decode jdk_29_method_69_code 10 = .ok (.ireturn, 1) := by decide +kernel
theorem pd_4 : parseMethodDescriptor "(II)I" = some ⟨[.int, .int], some .int⟩ := by decide +kernel
theorem d4_28 : decode jdk_65_method_121_code 28 = .ok (.invokestatic 150, 3) := by decide +kernel
theorem d4_31 : decode jdk_65_method_121_code 31 = .ok (.aload_n 2, 1) := by decide +kernel
theorem d4_32 : decode jdk_65_method_121_code 32 = .ok (.areturn, 1) := by decide +kernel
theorem d3_51 : decode method_3_code 51 = .ok (.aload_n 1, 1) := by decide +kernel
theorem d3_52 : decode method_3_code 52 = .ok (.iload 5, 2) := by decide +kernel
theorem d3_54 : decode method_3_code 54 = .ok (.baload, 1) := by decide +kernel
theorem d3_55 : decode method_3_code 55 = .ok (.aload_n 0, 1) := by decide +kernel
theorem d3_56 : decode method_3_code 56 = .ok (.iload 5, 2) := by decide +kernel
theorem d3_58 : decode method_3_code 58 = .ok (.baload, 1) := by decide +kernel
theorem d3_59 : decode method_3_code 59 = .ok (.if_icmp .ne 7, 3) := by decide +kernel
theorem d3_62 : decode method_3_code 62 = .ok (.iconst 1, 1) := by decide +kernel
theorem d3_63 : decode method_3_code 63 = .ok (.goto 4, 3) := by decide +kernel
theorem d3_67 : decode method_3_code 67 = .ok (.ireturn, 1) := by decide +kernel
def own_F_pick (p0 : Int32) : Int32 := (if (p0 &&& (256 : Int32)) = (0 : Int32) then (p0.toInt8.toInt32) else (-1 : Int32))
def Q_1 (Z : State) (p0 : Int32) (h0 : Heap) (n0 : Nat) (v : Option Value) (h : Heap) : Prop :=
  (∃ (yF : Int32), own_F_pick p0 = yF ∧ v = some (.int yF) ∧ h0 = h)
set_option maxRecDepth 65536 in
set_option maxHeartbeats 40000000 in
theorem rm_1 (l : Launch) (Z : State) (a0 : Array Value) (hw : ∀ d ∈ tables_1, d.before a0 Z = true) (ws : List Jvm.Cond) (p0 : Int32) (h0 : Heap) (n0 : Nat) (Z0 : n0 ≤ h0.size)  :
    MetFree l (⟨"com/example/keyer/keyer/QuerySuccessorPinLaw", "pick", "(I)B"⟩ : MethodName) (head1 (Jvm.Cond.code (⟨"com/example/keyer/keyer/QuerySuccessorPinLaw", "pick", "(I)B"⟩ : MethodName) method_2_code 1 (some .byte) :: ws) ({ frames := 0, cells := 0, slots := 0, locals := 0 } : Room)) (fun a U => a = #[(.int p0)] ∧ Z.Warmed39 U.vm ∧ U.heap = h0) (fun _ _ _ _ _ => True) (fun _ U o U' => ∃ v L, o = .returned v ∧ (Fr n0 L ∧ Q_1 Z p0 h0 n0 v U'.heap) ∧ FrameEnd U o U' L ({ frames := 0, cells := 0, slots := 0, locals := 0 } : Room).cells ({ frames := 0, cells := 0, slots := 0, locals := 0 } : Room).slots) := by
  refine own_enter (Q := Q_1 Z p0 h0 n0) (F := fun m => mkF m 0 #[.val (.int p0)] []) (plainFor_of_name pn_0) (fun m => by first | (simp [entryFrame, mkF, argsToLocals, Value.category]; done) | rfl) ?_
  intro p e s m below meth c s₁ B X0
  have K : Keep h0 h0 [] := Keep.refl h0 _
  refine own_iloadN (pc' := 1) B X0 d1_0 rfl rfl ?_
  refine own_sipush (pc' := 4) B X0 (z := (256 : Int32)) d1_1 rfl (by decide) ?_
  obtain ⟨y1, hy1⟩ : ∃ z : Int32, p0 &&& (256 : Int32) = z := ⟨_, rfl⟩
  refine own_iand (pc' := 5) B X0 d1_4 rfl hy1 ?_
  by_cases c2 : y1 = (0 : Int32)
  · refine own_ifYes (pc' := 12) B X0 d1_5 ((if0 _ _).trans (teq c2).1) (by decide) rfl ?_
    refine own_iloadN (pc' := 13) B X0 d1_12 rfl rfl ?_
    obtain ⟨y3, hy3⟩ : ∃ z : Int32, p0.toInt8.toInt32 = z := ⟨_, rfl⟩
    refine own_i2b (pc' := 14) B X0 d1_13 rfl hy3 ?_
    exact own_retN B X0 (t := .byte) (z' := y3) (by simp) (own_idem_i2b hy3) d1_14 (by decide) (by decide) ⟨y3, (by subst hy1; subst hy3; rw [own_F_pick, if_pos c2]), rfl, rfl⟩
  · refine own_ifNo (pc' := 8) B X0 d1_5 ((if0 _ _).trans (feq c2).1) rfl ?_
    refine own_iconst (pc' := 9) B X0 (z := (-1 : Int32)) d1_8 rfl rfl ?_
    refine own_goto (pc' := 14) B X0 d1_9 (by decide) rfl ?_
    exact own_retN B X0 (t := .byte) (z' := (-1 : Int32)) (by simp) (by decide) d1_14 (by decide) (by decide) ⟨(-1 : Int32), (by subst hy1; rw [own_F_pick, if_neg c2]), rfl, rfl⟩
def Q_2 (Z : State) (w0 : Addr) (kw0 : ClassId) (h0 : Heap) (n0 : Nat) (v : Option Value) (h : Heap) : Prop :=
  (∃ (b1 : Addr) (kb1 : ClassId), v = some (.ref b1) ∧ Keep h0 h [] ∧ h0.size ≤ b1 ∧ Exa Z h b1 "[B" ∧ Arv Z h b1 kb1 .byte (0 : Int32) [] (.int (0 : Int32)))
set_option maxRecDepth 65536 in
set_option maxHeartbeats 40000000 in
theorem rm_2 (l : Launch) (Z : State) (a0 : Array Value) (hw : ∀ d ∈ tables_1, d.before a0 Z = true) (ws : List Jvm.Cond) (w0 : Addr) (kw0 : ClassId) (h0 : Heap) (n0 : Nat) (Z0 : n0 ≤ h0.size) (E_w0 : Exa Z h0 w0 "[B") (V_w0 : Arv Z h0 w0 kw0 .byte (0 : Int32) [] (.int (0 : Int32))) (g_w0 : n0 ≤ w0) :
    MetFree l (⟨"com/example/keyer/keyer/Query", "successor", "([B)[B"⟩ : MethodName) (head1 (Jvm.Cond.code (⟨"com/example/keyer/keyer/Query", "successor", "([B)[B"⟩ : MethodName) prog_18_method_14_code 3 (some (.array .byte)) :: ws) ({ frames := 0, cells := 1, slots := 0, locals := 0 } : Room)) (fun a U => a = #[(.ref w0)] ∧ Z.Warmed39 U.vm ∧ U.heap = h0) (fun _ _ _ _ _ => True) (fun _ U o U' => ∃ v L, o = .returned v ∧ (Fr n0 L ∧ Q_2 Z w0 kw0 h0 n0 v U'.heap) ∧ FrameEnd U o U' L ({ frames := 0, cells := 1, slots := 0, locals := 0 } : Room).cells ({ frames := 0, cells := 1, slots := 0, locals := 0 } : Room).slots) := by
  refine own_enter (Q := Q_2 Z w0 kw0 h0 n0) (F := fun m => mkF m 0 #[.val (.ref w0), .unset, .unset] []) (plainFor_of_name pn_1) (fun m => by first | (simp [entryFrame, mkF, argsToLocals, Value.category]; done) | rfl) ?_
  intro p e s m below meth c s₁ B X0
  have K : Keep h0 h0 [] := Keep.refl h0 _
  refine own_aloadN (pc' := 1) B X0 d2_0 rfl rfl rfl ?_
  refine own_arraylength (pc' := 2) B X0 V_w0 d2_1 rfl ?_
  refine own_istoreN (pc' := 3) B X0 (Ls' := #[.val (.ref w0), .val (.int (0 : Int32)), .unset]) d2_2 rfl rfl ?_
  refine own_iloadN (pc' := 4) B X0 d2_3 rfl rfl ?_
  refine own_ifYes (pc' := 22) B X0 d2_4 ((if0 _ _).trans (flt (by decide : ¬ ((0 : Int32) < (0 : Int32)))).2.2.2) (by decide) rfl ?_
  refine own_iloadN (pc' := 23) B X0 d2_22 rfl rfl ?_
  refine own_ifNo (pc' := 26) B X0 d2_23 ((if0 _ _).trans (teq (by decide : (0 : Int32) = (0 : Int32))).2) rfl ?_
  refine own_iconst (pc' := 27) B X0 (z := (0 : Int32)) d2_26 rfl rfl ?_
  refine own_newarray (pc' := 29) B X0 (own_w hw 1 rfl) d2_27 rfl rfl (by decide) 0 (by decide) (by decide) (k' := 1) (n' := 0) rfl rfl (by decide) (by decide) "[B" (by decide) (.int (0 : Int32)) rfl ?_
  intro T1 h1 b1 kb1 X1 g1 E1 V_b1 E_b1
  have ne_w0_b1 : w0 ≠ b1 := own_ne E_w0.lt g1
  have sz_b1 : h0.size ≤ b1 := own_sz K g1
  have g_b1 : n0 ≤ b1 := Nat.le_trans Z0 sz_b1
  replace K := K.ext E1
  replace E_w0 := E_w0.ext E1
  replace V_w0 := V_w0.ext E1
  exact own_retA B X1 (t := (.array .byte)) rfl rfl rfl d2_29 (by decide) (by decide) (⟨b1, kb1, rfl, K, sz_b1, E_b1, V_b1⟩)
def Q_3 (Z : State) (w0 : Addr) (kw0 : ClassId) (w2 : Addr) (kw2 : ClassId) (w4 : Addr) (kw4 : ClassId) (p6 : Int32) (p7 : Int32) (p8 : Int32) (p9 : Int32) (p10 : Int32) (p11 : Int32) (p12 : Int32) (p13 : Int32) (p14 : Int32) (p15 : Int32) (p16 : Int32) (p17 : Int32) (h0 : Heap) (n0 : Nat) (v : Option Value) (h : Heap) : Prop :=
  (v = some (.int (1 : Int32)) ∧ h0 = h)
set_option maxRecDepth 65536 in
set_option maxHeartbeats 40000000 in
theorem rm_3 (l : Launch) (Z : State) (a0 : Array Value) (hw : ∀ d ∈ tables_1, d.before a0 Z = true) (ws : List Jvm.Cond) (w0 : Addr) (kw0 : ClassId) (w2 : Addr) (kw2 : ClassId) (w4 : Addr) (kw4 : ClassId) (p6 : Int32) (p7 : Int32) (p8 : Int32) (p9 : Int32) (p10 : Int32) (p11 : Int32) (p12 : Int32) (p13 : Int32) (p14 : Int32) (p15 : Int32) (p16 : Int32) (p17 : Int32) (h0 : Heap) (n0 : Nat) (Z0 : n0 ≤ h0.size) (E_w0 : Exa Z h0 w0 "[B") (V_w0 : Arv Z h0 w0 kw0 .byte (0 : Int32) [] (.int (0 : Int32))) (g_w0 : n0 ≤ w0) (E_w2 : Exa Z h0 w2 "[B") (V_w2 : Arv Z h0 w2 kw2 .byte (0 : Int32) [] (.int (0 : Int32))) (g_w2 : n0 ≤ w2) (E_w4 : Exa Z h0 w4 "[B") (V_w4 : Arv Z h0 w4 kw4 .byte (4 : Int32) [(.int p6), (.int p7), (.int p8), (.int p9)] (.int (0 : Int32))) (g_w4 : n0 ≤ w4) (ne_w0_w2 : w0 ≠ w2) (ne_w0_w4 : w0 ≠ w4) (ne_w2_w4 : w2 ≠ w4) (hp0 : p10.toInt8.toInt32 = p6) (hp1 : p11.toInt8.toInt32 = p7) (hp2 : p12.toInt8.toInt32 = p8) (hp3 : p13.toInt8.toInt32 = p9) (hp4 : own_F_pick p14 = p10) (hp5 : own_F_pick p15 = p11) (hp6 : own_F_pick p16 = p12) (hp7 : own_F_pick p17 = p13) :
    MetFree l (⟨"com/example/keyer/keyer/QuerySuccessorPinLaw", "ok", "([B[B[BIII)Z"⟩ : MethodName) (head1 (Jvm.Cond.code (⟨"com/example/keyer/keyer/QuerySuccessorPinLaw", "ok", "([B[B[BIII)Z"⟩ : MethodName) method_3_code 6 (some .boolean) :: ws) ({ frames := 0, cells := 0, slots := 0, locals := 0 } : Room)) (fun a U => a = #[(.ref w0), (.ref w2), (.ref w4), (.int (0 : Int32)), (.int (0 : Int32)), (.int (0 : Int32))] ∧ Z.Warmed39 U.vm ∧ U.heap = h0) (fun _ _ _ _ _ => True) (fun _ U o U' => ∃ v L, o = .returned v ∧ (Fr n0 L ∧ Q_3 Z w0 kw0 w2 kw2 w4 kw4 p6 p7 p8 p9 p10 p11 p12 p13 p14 p15 p16 p17 h0 n0 v U'.heap) ∧ FrameEnd U o U' L ({ frames := 0, cells := 0, slots := 0, locals := 0 } : Room).cells ({ frames := 0, cells := 0, slots := 0, locals := 0 } : Room).slots) := by
  refine own_enter (Q := Q_3 Z w0 kw0 w2 kw2 w4 kw4 p6 p7 p8 p9 p10 p11 p12 p13 p14 p15 p16 p17 h0 n0) (F := fun m => mkF m 0 #[.val (.ref w0), .val (.ref w2), .val (.ref w4), .val (.int (0 : Int32)), .val (.int (0 : Int32)), .val (.int (0 : Int32))] []) (plainFor_of_name pn_0) (fun m => by first | (simp [entryFrame, mkF, argsToLocals, Value.category]; done) | rfl) ?_
  intro p e s m below meth c s₁ B X0
  have K : Keep h0 h0 [] := Keep.refl h0 _
  refine own_iload (pc' := 2) B X0 d3_0 rfl rfl ?_
  refine own_iloadN (pc' := 3) B X0 d3_2 rfl rfl ?_
  refine own_icmpNo (pc' := 6) B X0 d3_3 (flt (by decide : ¬ ((0 : Int32) < (0 : Int32)))).1 rfl ?_
  refine own_iconst (pc' := 7) B X0 (z := (1 : Int32)) d3_6 rfl rfl ?_
  exact own_retN B X0 (t := .boolean) (z' := (1 : Int32)) (by simp) (by decide) d3_7 (by decide) (by decide) (⟨rfl, rfl⟩)
def Q_4 (Z : State) (w0 : Addr) (kw0 : ClassId) (w2 : Addr) (kw2 : ClassId) (w4 : Addr) (kw4 : ClassId) (p6 : Int32) (p7 : Int32) (p8 : Int32) (p9 : Int32) (p10 : Int32) (p11 : Int32) (p12 : Int32) (p13 : Int32) (p14 : Int32) (p15 : Int32) (p16 : Int32) (p17 : Int32) (h0 : Heap) (n0 : Nat) (v : Option Value) (h : Heap) : Prop :=
  (v = some (.int (1 : Int32)) ∧ h0 = h)
set_option maxRecDepth 65536 in
set_option maxHeartbeats 40000000 in
theorem rm_4 (l : Launch) (Z : State) (a0 : Array Value) (hw : ∀ d ∈ tables_1, d.before a0 Z = true) (ws : List Jvm.Cond) (w0 : Addr) (kw0 : ClassId) (w2 : Addr) (kw2 : ClassId) (w4 : Addr) (kw4 : ClassId) (p6 : Int32) (p7 : Int32) (p8 : Int32) (p9 : Int32) (p10 : Int32) (p11 : Int32) (p12 : Int32) (p13 : Int32) (p14 : Int32) (p15 : Int32) (p16 : Int32) (p17 : Int32) (h0 : Heap) (n0 : Nat) (Z0 : n0 ≤ h0.size) (E_w0 : Exa Z h0 w0 "[B") (V_w0 : Arv Z h0 w0 kw0 .byte (0 : Int32) [] (.int (0 : Int32))) (g_w0 : n0 ≤ w0) (E_w2 : Exa Z h0 w2 "[B") (V_w2 : Arv Z h0 w2 kw2 .byte (0 : Int32) [] (.int (0 : Int32))) (g_w2 : n0 ≤ w2) (E_w4 : Exa Z h0 w4 "[B") (V_w4 : Arv Z h0 w4 kw4 .byte (4 : Int32) [(.int p6), (.int p7), (.int p8), (.int p9)] (.int (0 : Int32))) (g_w4 : n0 ≤ w4) (ne_w0_w2 : w0 ≠ w2) (ne_w0_w4 : w0 ≠ w4) (ne_w2_w4 : w2 ≠ w4) (hp0 : p10.toInt8.toInt32 = p6) (hp1 : p11.toInt8.toInt32 = p7) (hp2 : p12.toInt8.toInt32 = p8) (hp3 : p13.toInt8.toInt32 = p9) (hp4 : own_F_pick p14 = p10) (hp5 : own_F_pick p15 = p11) (hp6 : own_F_pick p16 = p12) (hp7 : own_F_pick p17 = p13) :
    MetFree l (⟨"com/example/keyer/keyer/QuerySuccessorPinLaw", "ok", "([B[B[BIII)Z"⟩ : MethodName) (head1 (Jvm.Cond.code (⟨"com/example/keyer/keyer/QuerySuccessorPinLaw", "ok", "([B[B[BIII)Z"⟩ : MethodName) method_3_code 6 (some .boolean) :: ws) ({ frames := 0, cells := 0, slots := 0, locals := 0 } : Room)) (fun a U => a = #[(.ref w0), (.ref w2), (.ref w4), (.int (0 : Int32)), (.int (0 : Int32)), (.int (1 : Int32))] ∧ Z.Warmed39 U.vm ∧ U.heap = h0) (fun _ _ _ _ _ => True) (fun _ U o U' => ∃ v L, o = .returned v ∧ (Fr n0 L ∧ Q_4 Z w0 kw0 w2 kw2 w4 kw4 p6 p7 p8 p9 p10 p11 p12 p13 p14 p15 p16 p17 h0 n0 v U'.heap) ∧ FrameEnd U o U' L ({ frames := 0, cells := 0, slots := 0, locals := 0 } : Room).cells ({ frames := 0, cells := 0, slots := 0, locals := 0 } : Room).slots) := by
  refine own_enter (Q := Q_4 Z w0 kw0 w2 kw2 w4 kw4 p6 p7 p8 p9 p10 p11 p12 p13 p14 p15 p16 p17 h0 n0) (F := fun m => mkF m 0 #[.val (.ref w0), .val (.ref w2), .val (.ref w4), .val (.int (0 : Int32)), .val (.int (0 : Int32)), .val (.int (1 : Int32))] []) (plainFor_of_name pn_0) (fun m => by first | (simp [entryFrame, mkF, argsToLocals, Value.category]; done) | rfl) ?_
  intro p e s m below meth c s₁ B X0
  have K : Keep h0 h0 [] := Keep.refl h0 _
  refine own_iload (pc' := 2) B X0 d3_0 rfl rfl ?_
  refine own_iloadN (pc' := 3) B X0 d3_2 rfl rfl ?_
  refine own_icmpNo (pc' := 6) B X0 d3_3 (flt (by decide : ¬ ((1 : Int32) < (0 : Int32)))).1 rfl ?_
  refine own_iconst (pc' := 7) B X0 (z := (1 : Int32)) d3_6 rfl rfl ?_
  exact own_retN B X0 (t := .boolean) (z' := (1 : Int32)) (by simp) (by decide) d3_7 (by decide) (by decide) (⟨rfl, rfl⟩)
def Q_5 (Z : State) (w0 : Addr) (kw0 : ClassId) (w2 : Addr) (kw2 : ClassId) (w4 : Addr) (kw4 : ClassId) (p6 : Int32) (p7 : Int32) (p8 : Int32) (p9 : Int32) (p10 : Int32) (p11 : Int32) (p12 : Int32) (p13 : Int32) (p14 : Int32) (p15 : Int32) (p16 : Int32) (p17 : Int32) (h0 : Heap) (n0 : Nat) (v : Option Value) (h : Heap) : Prop :=
  (v = some (.int (1 : Int32)) ∧ h0 = h)
set_option maxRecDepth 65536 in
set_option maxHeartbeats 40000000 in
theorem rm_5 (l : Launch) (Z : State) (a0 : Array Value) (hw : ∀ d ∈ tables_1, d.before a0 Z = true) (ws : List Jvm.Cond) (w0 : Addr) (kw0 : ClassId) (w2 : Addr) (kw2 : ClassId) (w4 : Addr) (kw4 : ClassId) (p6 : Int32) (p7 : Int32) (p8 : Int32) (p9 : Int32) (p10 : Int32) (p11 : Int32) (p12 : Int32) (p13 : Int32) (p14 : Int32) (p15 : Int32) (p16 : Int32) (p17 : Int32) (h0 : Heap) (n0 : Nat) (Z0 : n0 ≤ h0.size) (E_w0 : Exa Z h0 w0 "[B") (V_w0 : Arv Z h0 w0 kw0 .byte (0 : Int32) [] (.int (0 : Int32))) (g_w0 : n0 ≤ w0) (E_w2 : Exa Z h0 w2 "[B") (V_w2 : Arv Z h0 w2 kw2 .byte (0 : Int32) [] (.int (0 : Int32))) (g_w2 : n0 ≤ w2) (E_w4 : Exa Z h0 w4 "[B") (V_w4 : Arv Z h0 w4 kw4 .byte (4 : Int32) [(.int p6), (.int p7), (.int p8), (.int p9)] (.int (0 : Int32))) (g_w4 : n0 ≤ w4) (ne_w0_w2 : w0 ≠ w2) (ne_w0_w4 : w0 ≠ w4) (ne_w2_w4 : w2 ≠ w4) (hp0 : p10.toInt8.toInt32 = p6) (hp1 : p11.toInt8.toInt32 = p7) (hp2 : p12.toInt8.toInt32 = p8) (hp3 : p13.toInt8.toInt32 = p9) (hp4 : own_F_pick p14 = p10) (hp5 : own_F_pick p15 = p11) (hp6 : own_F_pick p16 = p12) (hp7 : own_F_pick p17 = p13) :
    MetFree l (⟨"com/example/keyer/keyer/QuerySuccessorPinLaw", "ok", "([B[B[BIII)Z"⟩ : MethodName) (head1 (Jvm.Cond.code (⟨"com/example/keyer/keyer/QuerySuccessorPinLaw", "ok", "([B[B[BIII)Z"⟩ : MethodName) method_3_code 6 (some .boolean) :: ws) ({ frames := 0, cells := 0, slots := 0, locals := 0 } : Room)) (fun a U => a = #[(.ref w0), (.ref w2), (.ref w4), (.int (0 : Int32)), (.int (0 : Int32)), (.int (2 : Int32))] ∧ Z.Warmed39 U.vm ∧ U.heap = h0) (fun _ _ _ _ _ => True) (fun _ U o U' => ∃ v L, o = .returned v ∧ (Fr n0 L ∧ Q_5 Z w0 kw0 w2 kw2 w4 kw4 p6 p7 p8 p9 p10 p11 p12 p13 p14 p15 p16 p17 h0 n0 v U'.heap) ∧ FrameEnd U o U' L ({ frames := 0, cells := 0, slots := 0, locals := 0 } : Room).cells ({ frames := 0, cells := 0, slots := 0, locals := 0 } : Room).slots) := by
  refine own_enter (Q := Q_5 Z w0 kw0 w2 kw2 w4 kw4 p6 p7 p8 p9 p10 p11 p12 p13 p14 p15 p16 p17 h0 n0) (F := fun m => mkF m 0 #[.val (.ref w0), .val (.ref w2), .val (.ref w4), .val (.int (0 : Int32)), .val (.int (0 : Int32)), .val (.int (2 : Int32))] []) (plainFor_of_name pn_0) (fun m => by first | (simp [entryFrame, mkF, argsToLocals, Value.category]; done) | rfl) ?_
  intro p e s m below meth c s₁ B X0
  have K : Keep h0 h0 [] := Keep.refl h0 _
  refine own_iload (pc' := 2) B X0 d3_0 rfl rfl ?_
  refine own_iloadN (pc' := 3) B X0 d3_2 rfl rfl ?_
  refine own_icmpNo (pc' := 6) B X0 d3_3 (flt (by decide : ¬ ((2 : Int32) < (0 : Int32)))).1 rfl ?_
  refine own_iconst (pc' := 7) B X0 (z := (1 : Int32)) d3_6 rfl rfl ?_
  exact own_retN B X0 (t := .boolean) (z' := (1 : Int32)) (by simp) (by decide) d3_7 (by decide) (by decide) (⟨rfl, rfl⟩)
def Q_6 (Z : State) (w0 : Addr) (kw0 : ClassId) (w2 : Addr) (kw2 : ClassId) (w4 : Addr) (kw4 : ClassId) (p6 : Int32) (p7 : Int32) (p8 : Int32) (p9 : Int32) (p10 : Int32) (p11 : Int32) (p12 : Int32) (p13 : Int32) (p14 : Int32) (p15 : Int32) (p16 : Int32) (p17 : Int32) (h0 : Heap) (n0 : Nat) (v : Option Value) (h : Heap) : Prop :=
  (v = some (.int (1 : Int32)) ∧ h0 = h)
set_option maxRecDepth 65536 in
set_option maxHeartbeats 40000000 in
theorem rm_6 (l : Launch) (Z : State) (a0 : Array Value) (hw : ∀ d ∈ tables_1, d.before a0 Z = true) (ws : List Jvm.Cond) (w0 : Addr) (kw0 : ClassId) (w2 : Addr) (kw2 : ClassId) (w4 : Addr) (kw4 : ClassId) (p6 : Int32) (p7 : Int32) (p8 : Int32) (p9 : Int32) (p10 : Int32) (p11 : Int32) (p12 : Int32) (p13 : Int32) (p14 : Int32) (p15 : Int32) (p16 : Int32) (p17 : Int32) (h0 : Heap) (n0 : Nat) (Z0 : n0 ≤ h0.size) (E_w0 : Exa Z h0 w0 "[B") (V_w0 : Arv Z h0 w0 kw0 .byte (0 : Int32) [] (.int (0 : Int32))) (g_w0 : n0 ≤ w0) (E_w2 : Exa Z h0 w2 "[B") (V_w2 : Arv Z h0 w2 kw2 .byte (0 : Int32) [] (.int (0 : Int32))) (g_w2 : n0 ≤ w2) (E_w4 : Exa Z h0 w4 "[B") (V_w4 : Arv Z h0 w4 kw4 .byte (4 : Int32) [(.int p6), (.int p7), (.int p8), (.int p9)] (.int (0 : Int32))) (g_w4 : n0 ≤ w4) (ne_w0_w2 : w0 ≠ w2) (ne_w0_w4 : w0 ≠ w4) (ne_w2_w4 : w2 ≠ w4) (hp0 : p10.toInt8.toInt32 = p6) (hp1 : p11.toInt8.toInt32 = p7) (hp2 : p12.toInt8.toInt32 = p8) (hp3 : p13.toInt8.toInt32 = p9) (hp4 : own_F_pick p14 = p10) (hp5 : own_F_pick p15 = p11) (hp6 : own_F_pick p16 = p12) (hp7 : own_F_pick p17 = p13) :
    MetFree l (⟨"com/example/keyer/keyer/QuerySuccessorPinLaw", "ok", "([B[B[BIII)Z"⟩ : MethodName) (head1 (Jvm.Cond.code (⟨"com/example/keyer/keyer/QuerySuccessorPinLaw", "ok", "([B[B[BIII)Z"⟩ : MethodName) method_3_code 6 (some .boolean) :: ws) ({ frames := 0, cells := 0, slots := 0, locals := 0 } : Room)) (fun a U => a = #[(.ref w0), (.ref w2), (.ref w4), (.int (0 : Int32)), (.int (0 : Int32)), (.int (3 : Int32))] ∧ Z.Warmed39 U.vm ∧ U.heap = h0) (fun _ _ _ _ _ => True) (fun _ U o U' => ∃ v L, o = .returned v ∧ (Fr n0 L ∧ Q_6 Z w0 kw0 w2 kw2 w4 kw4 p6 p7 p8 p9 p10 p11 p12 p13 p14 p15 p16 p17 h0 n0 v U'.heap) ∧ FrameEnd U o U' L ({ frames := 0, cells := 0, slots := 0, locals := 0 } : Room).cells ({ frames := 0, cells := 0, slots := 0, locals := 0 } : Room).slots) := by
  refine own_enter (Q := Q_6 Z w0 kw0 w2 kw2 w4 kw4 p6 p7 p8 p9 p10 p11 p12 p13 p14 p15 p16 p17 h0 n0) (F := fun m => mkF m 0 #[.val (.ref w0), .val (.ref w2), .val (.ref w4), .val (.int (0 : Int32)), .val (.int (0 : Int32)), .val (.int (3 : Int32))] []) (plainFor_of_name pn_0) (fun m => by first | (simp [entryFrame, mkF, argsToLocals, Value.category]; done) | rfl) ?_
  intro p e s m below meth c s₁ B X0
  have K : Keep h0 h0 [] := Keep.refl h0 _
  refine own_iload (pc' := 2) B X0 d3_0 rfl rfl ?_
  refine own_iloadN (pc' := 3) B X0 d3_2 rfl rfl ?_
  refine own_icmpNo (pc' := 6) B X0 d3_3 (flt (by decide : ¬ ((3 : Int32) < (0 : Int32)))).1 rfl ?_
  refine own_iconst (pc' := 7) B X0 (z := (1 : Int32)) d3_6 rfl rfl ?_
  exact own_retN B X0 (t := .boolean) (z' := (1 : Int32)) (by simp) (by decide) d3_7 (by decide) (by decide) (⟨rfl, rfl⟩)
def Q_8 (Z : State) (w0 : Addr) (kw0 : ClassId) (p2 : Int32) (h0 : Heap) (n0 : Nat) (v : Option Value) (h : Heap) : Prop :=
  (∃ (b1 : Addr), v = some (.ref b1) ∧ Keep h0 h [] ∧ h0.size ≤ b1 ∧ Exa Z h b1 "[B" ∧ Arv Z h b1 kw0 .byte (1 : Int32) [(.int p2)] (.int (0 : Int32)))
set_option maxRecDepth 65536 in
set_option maxHeartbeats 40000000 in
theorem rm_8 (l : Launch) (Z : State) (a0 : Array Value) (hw : ∀ d ∈ tables_1, d.before a0 Z = true) (ws : List Jvm.Cond) (w0 : Addr) (kw0 : ClassId) (p2 : Int32) (h0 : Heap) (n0 : Nat) (Z0 : n0 ≤ h0.size) (E_w0 : Exa Z h0 w0 "[B") (V_w0 : Arv Z h0 w0 kw0 .byte (1 : Int32) [(.int p2)] (.int (0 : Int32))) (g_w0 : n0 ≤ w0) :
    MetFree l (⟨"java/util/Arrays", "copyOf", "([BI)[B"⟩ : MethodName) (head1 (Jvm.Cond.code (⟨"java/util/Arrays", "copyOf", "([BI)[B"⟩ : MethodName) jdk_65_method_121_code 3 (some (.array .byte)) :: ws) ({ frames := 1, cells := 1, slots := 1, locals := 14 } : Room)) (fun a U => a = #[(.ref w0), (.int (1 : Int32))] ∧ Z.Warmed39 U.vm ∧ U.heap = h0) (fun _ _ _ _ _ => True) (fun _ U o U' => ∃ v L, o = .returned v ∧ (Fr n0 L ∧ Q_8 Z w0 kw0 p2 h0 n0 v U'.heap) ∧ FrameEnd U o U' L ({ frames := 1, cells := 1, slots := 1, locals := 14 } : Room).cells ({ frames := 1, cells := 1, slots := 1, locals := 14 } : Room).slots) := by
  refine own_enter (Q := Q_8 Z w0 kw0 p2 h0 n0) (F := fun m => mkF m 0 #[.val (.ref w0), .val (.int (1 : Int32)), .unset] []) (plainFor_of_name pn_2) (fun m => by first | (simp [entryFrame, mkF, argsToLocals, Value.category]; done) | rfl) ?_
  intro p e s m below meth c s₁ B X0
  have K : Keep h0 h0 [] := Keep.refl h0 _
  refine own_iloadN (pc' := 1) B X0 d4_0 rfl rfl ?_
  refine own_aloadN (pc' := 2) B X0 d4_1 rfl rfl rfl ?_
  refine own_arraylength (pc' := 3) B X0 V_w0 d4_2 rfl ?_
  refine own_icmpNo (pc' := 6) B X0 d4_3 (teq (by decide : (1 : Int32) = (1 : Int32))).2 rfl ?_
  refine own_aloadN (pc' := 7) B X0 d4_6 rfl rfl rfl ?_
  refine own_clone (pc' := 10) B X0 (own_w hw 17 rfl) (own_w hw 18 rfl) (own_w hw 22 rfl) (own_w hw 20 rfl) (own_w hw 21 rfl) (own_w hw 23 rfl) V_w0 E_w0 d4_7 rfl rfl (by decide) 0 1 (Nat.le_of_eq rfl) (by decide) (by decide) (k' := 1) (n' := 1) rfl rfl (by decide) (by decide) ?_
  intro T1 h1 b1 X1 g1 E1 V_b1 E_b1
  have ne_w0_b1 : w0 ≠ b1 := own_ne E_w0.lt g1
  have sz_b1 : h0.size ≤ b1 := own_sz K g1
  have g_b1 : n0 ≤ b1 := Nat.le_trans Z0 sz_b1
  replace K := K.ext E1
  replace E_w0 := E_w0.ext E1
  replace V_w0 := V_w0.ext E1
  refine own_checkcast (pc' := 13) B X1 (own_w hw 24 rfl) (Ins.self E_b1) d4_10 rfl ?_
  intro T2 X2
  exact own_retA B X2 (t := (.array .byte)) rfl rfl rfl d4_13 (by decide) (by decide) (⟨b1, rfl, K, sz_b1, E_b1, V_b1⟩)
def Q_7 (Z : State) (w0 : Addr) (kw0 : ClassId) (p2 : Int32) (p3 : Int32) (p4 : Int32) (h0 : Heap) (n0 : Nat) (v : Option Value) (h : Heap) : Prop :=
  (∃ (b2 : Addr) (kb2 : ClassId), p2 = (-1 : Int32) ∧ v = some (.ref b2) ∧ Keep h0 h [] ∧ h0.size ≤ b2 ∧ Exa Z h b2 "[B" ∧ Arv Z h b2 kb2 .byte (0 : Int32) [] (.int (0 : Int32))) ∨
  (∃ (y5 : Int32) (y6 : Int32) (b4 : Addr), ¬ (p2 = (-1 : Int32)) ∧ p2 + (1 : Int32) = y5 ∧ y5.toInt8.toInt32 = y6 ∧ v = some (.ref b4) ∧ Keep h0 h [] ∧ h0.size ≤ b4 ∧ Exa Z h b4 "[B" ∧ Arv Z h b4 kw0 .byte (1 : Int32) [(.int y6)] (.int (0 : Int32)))
set_option maxRecDepth 65536 in
set_option maxHeartbeats 40000000 in
theorem rm_7 (l : Launch) (Z : State) (a0 : Array Value) (hw : ∀ d ∈ tables_1, d.before a0 Z = true) (ws : List Jvm.Cond) (w0 : Addr) (kw0 : ClassId) (p2 : Int32) (p3 : Int32) (p4 : Int32) (h0 : Heap) (n0 : Nat) (Z0 : n0 ≤ h0.size) (E_w0 : Exa Z h0 w0 "[B") (V_w0 : Arv Z h0 w0 kw0 .byte (1 : Int32) [(.int p2)] (.int (0 : Int32))) (g_w0 : n0 ≤ w0) (hp0 : p3.toInt8.toInt32 = p2) (hp1 : own_F_pick p4 = p3) :
    MetFree l (⟨"com/example/keyer/keyer/Query", "successor", "([B)[B"⟩ : MethodName) (head1 (Jvm.Cond.code (⟨"com/example/keyer/keyer/Query", "successor", "([B)[B"⟩ : MethodName) prog_18_method_14_code 3 (some (.array .byte)) :: ws) ({ frames := 2, cells := 1, slots := 1, locals := 28 } : Room)) (fun a U => a = #[(.ref w0)] ∧ Z.Warmed39 U.vm ∧ U.heap = h0) (fun _ _ _ _ _ => True) (fun _ U o U' => ∃ v L, o = .returned v ∧ (Fr n0 L ∧ Q_7 Z w0 kw0 p2 p3 p4 h0 n0 v U'.heap) ∧ FrameEnd U o U' L ({ frames := 2, cells := 1, slots := 1, locals := 28 } : Room).cells ({ frames := 2, cells := 1, slots := 1, locals := 28 } : Room).slots) := by
  refine own_enter (Q := Q_7 Z w0 kw0 p2 p3 p4 h0 n0) (F := fun m => mkF m 0 #[.val (.ref w0), .unset, .unset] []) (plainFor_of_name pn_1) (fun m => by first | (simp [entryFrame, mkF, argsToLocals, Value.category]; done) | rfl) ?_
  intro p e s m below meth c s₁ B X0
  have K : Keep h0 h0 [] := Keep.refl h0 _
  refine own_aloadN (pc' := 1) B X0 d2_0 rfl rfl rfl ?_
  refine own_arraylength (pc' := 2) B X0 V_w0 d2_1 rfl ?_
  refine own_istoreN (pc' := 3) B X0 (Ls' := #[.val (.ref w0), .val (.int (1 : Int32)), .unset]) d2_2 rfl rfl ?_
  refine own_iloadN (pc' := 4) B X0 d2_3 rfl rfl ?_
  refine own_ifNo (pc' := 7) B X0 d2_4 ((if0 _ _).trans (tlt (by decide : (0 : Int32) < (1 : Int32))).2.2.2) rfl ?_
  refine own_aloadN (pc' := 8) B X0 d2_7 rfl rfl rfl ?_
  refine own_iloadN (pc' := 9) B X0 d2_8 rfl rfl ?_
  refine own_iconst (pc' := 10) B X0 (z := (1 : Int32)) d2_9 rfl rfl ?_
  refine own_isub (pc' := 11) B X0 (z := (0 : Int32)) d2_10 rfl (by decide) ?_
  refine own_baload (pc' := 12) B X0 V_w0 (v := (.int p2)) ⟨by decide, by decide⟩ rfl d2_11 rfl ?_
  refine own_iconst (pc' := 13) B X0 (z := (-1 : Int32)) d2_12 rfl rfl ?_
  by_cases c1 : p2 = (-1 : Int32)
  · refine own_icmpNo (pc' := 16) B X0 d2_13 (teq c1).2 rfl ?_
    refine own_iinc (pc' := 19) B X0 (Ls' := #[.val (.ref w0), .val (.int (0 : Int32)), .unset]) d2_16 rfl rfl (z := (0 : Int32)) (by decide) rfl ?_
    refine own_goto (pc' := 3) B X0 d2_19 (by decide) rfl ?_
    refine own_iloadN (pc' := 4) B X0 d2_3 rfl rfl ?_
    refine own_ifYes (pc' := 22) B X0 d2_4 ((if0 _ _).trans (flt (by decide : ¬ ((0 : Int32) < (0 : Int32)))).2.2.2) (by decide) rfl ?_
    refine own_iloadN (pc' := 23) B X0 d2_22 rfl rfl ?_
    refine own_ifNo (pc' := 26) B X0 d2_23 ((if0 _ _).trans (teq (by decide : (0 : Int32) = (0 : Int32))).2) rfl ?_
    refine own_iconst (pc' := 27) B X0 (z := (0 : Int32)) d2_26 rfl rfl ?_
    refine own_newarray (pc' := 29) B X0 (own_w hw 1 rfl) d2_27 rfl rfl (by decide) 0 (by decide) (by decide) (k' := 1) (n' := 0) rfl rfl (by decide) (by decide) "[B" (by decide) (.int (0 : Int32)) rfl ?_
    intro T2 h2 b2 kb2 X2 g2 E2 V_b2 E_b2
    have ne_w0_b2 : w0 ≠ b2 := own_ne E_w0.lt g2
    have sz_b2 : h0.size ≤ b2 := own_sz K g2
    have g_b2 : n0 ≤ b2 := Nat.le_trans Z0 sz_b2
    replace K := K.ext E2
    replace E_w0 := E_w0.ext E2
    replace V_w0 := V_w0.ext E2
    exact own_retA B X2 (t := (.array .byte)) rfl rfl rfl d2_29 (by decide) (by decide) (Or.inl ⟨b2, kb2, c1, rfl, K, sz_b2, E_b2, V_b2⟩)
  · refine own_icmpYes (pc' := 22) B X0 d2_13 (feq c1).2 (by decide) rfl ?_
    refine own_iloadN (pc' := 23) B X0 d2_22 rfl rfl ?_
    refine own_ifYes (pc' := 30) B X0 d2_23 ((if0 _ _).trans (feq (by decide : ¬ ((1 : Int32) = (0 : Int32)))).2) (by decide) rfl ?_
    refine own_aloadN (pc' := 31) B X0 d2_30 rfl rfl rfl ?_
    refine own_iloadN (pc' := 32) B X0 d2_31 rfl rfl ?_
    refine own_callS (pc' := 35) B X0 (own_w hw 13 rfl) (own_w hw 14 rfl) (own_w hw 15 rfl) (own_w hw 16 rfl) (by decide) [(.ref w0), (.int (1 : Int32))] [] (rm_8 l Z a0 hw [] w0 kw0 (p2) h0 n0 (Nat.le_trans Z0 K.1) E_w0 V_w0 g_w0) 0 (by decide) (by decide) rfl pd_3 rfl rfl (Nat.le_of_eq rfl) d2_32 rfl (k' := 1) (n' := 1) rfl rfl (by decide) (by decide) ?_
    intro T3 v3 h3 X3 q3
    have lt_w0 := E_w0.lt
    obtain ⟨b4, rfl, K3, z_b4, E_b4, V_b4⟩ := q3
    have ne_w0_b4 : w0 ≠ b4 := own_ne' lt_w0 z_b4
    have sz_b4 : h0.size ≤ b4 := Nat.le_trans K.1 z_b4
    have g_b4 : n0 ≤ b4 := Nat.le_trans Z0 sz_b4
    replace K := K.trans K3 all0
    replace E_w0 := E_w0.keep K3
    replace V_w0 := V_w0.keep K3 nin0
    show own_Go p e below (T3.setTop (mkF m 35 #[.val (.ref w0), .val (.int (1 : Int32)), .unset] [(.ref b4)])) _
    refine own_astoreN (pc' := 36) B X3 (Ls' := #[.val (.ref w0), .val (.int (1 : Int32)), .val (.ref b4)]) d2_35 rfl rfl rfl ?_
    refine own_aloadN (pc' := 37) B X3 d2_36 rfl rfl rfl ?_
    refine own_iloadN (pc' := 38) B X3 d2_37 rfl rfl ?_
    refine own_iconst (pc' := 39) B X3 (z := (1 : Int32)) d2_38 rfl rfl ?_
    refine own_isub (pc' := 40) B X3 (z := (0 : Int32)) d2_39 rfl (by decide) ?_
    refine own_dup2 (pc' := 41) B X3 d2_40 rfl rfl rfl ?_
    refine own_baload (pc' := 42) B X3 V_b4 (v := (.int p2)) ⟨by decide, by decide⟩ rfl d2_41 rfl ?_
    refine own_iconst (pc' := 43) B X3 (z := (1 : Int32)) d2_42 rfl rfl ?_
    obtain ⟨y5, hy5⟩ : ∃ z : Int32, p2 + (1 : Int32) = z := ⟨_, rfl⟩
    refine own_iadd (pc' := 44) B X3 d2_43 rfl hy5 ?_
    obtain ⟨y6, hy6⟩ : ∃ z : Int32, y5.toInt8.toInt32 = z := ⟨_, rfl⟩
    refine own_i2b (pc' := 45) B X3 d2_44 rfl hy6 ?_
    refine own_bastore (pc' := 46) B X3 (x' := y6) V_b4 g_b4 ⟨by decide, by decide⟩ 0 (by decide) (Nat.le_of_ble_eq_true rfl) (own_idem_i2b hy6) d2_45 rfl ?_
    intro T7 h7 X7 W7 V_b4
    replace V_b4 : Arv Z h7 b4 kw0 .byte (1 : Int32) [(.int y6)] (.int (0 : Int32)) := V_b4
    replace E_w0 := E_w0.wr W7
    replace V_w0 := V_w0.other W7 ne_w0_b4
    replace E_b4 := E_b4.wr W7
    replace K := K.wr W7 (Or.inr sz_b4)
    refine own_aloadN (pc' := 47) B X7 d2_46 rfl rfl rfl ?_
    exact own_retA B X7 (t := (.array .byte)) rfl rfl rfl d2_47 (by decide) (by decide) (Or.inr (⟨y5, y6, b4, c1, hy5, hy6, rfl, K, sz_b4, E_b4, V_b4⟩))
def Q_9 (Z : State) (w0 : Addr) (kw0 : ClassId) (p2 : Int32) (w3 : Addr) (kw3 : ClassId) (w5 : Addr) (kw5 : ClassId) (p7 : Int32) (p8 : Int32) (p9 : Int32) (p10 : Int32) (p11 : Int32) (p12 : Int32) (p13 : Int32) (p14 : Int32) (p15 : Int32) (p16 : Int32) (p17 : Int32) (h0 : Heap) (n0 : Nat) (v : Option Value) (h : Heap) : Prop :=
  (v = some (.int (1 : Int32)) ∧ h0 = h)
set_option maxRecDepth 65536 in
set_option maxHeartbeats 40000000 in
theorem rm_9 (l : Launch) (Z : State) (a0 : Array Value) (hw : ∀ d ∈ tables_1, d.before a0 Z = true) (ws : List Jvm.Cond) (w0 : Addr) (kw0 : ClassId) (p2 : Int32) (w3 : Addr) (kw3 : ClassId) (w5 : Addr) (kw5 : ClassId) (p7 : Int32) (p8 : Int32) (p9 : Int32) (p10 : Int32) (p11 : Int32) (p12 : Int32) (p13 : Int32) (p14 : Int32) (p15 : Int32) (p16 : Int32) (p17 : Int32) (h0 : Heap) (n0 : Nat) (Z0 : n0 ≤ h0.size) (E_w0 : Exa Z h0 w0 "[B") (V_w0 : Arv Z h0 w0 kw0 .byte (1 : Int32) [(.int p2)] (.int (0 : Int32))) (g_w0 : n0 ≤ w0) (E_w3 : Exa Z h0 w3 "[B") (V_w3 : Arv Z h0 w3 kw3 .byte (0 : Int32) [] (.int (0 : Int32))) (g_w3 : n0 ≤ w3) (E_w5 : Exa Z h0 w5 "[B") (V_w5 : Arv Z h0 w5 kw5 .byte (4 : Int32) [(.int p2), (.int p7), (.int p8), (.int p9)] (.int (0 : Int32))) (g_w5 : n0 ≤ w5) (ne_w0_w3 : w0 ≠ w3) (ne_w0_w5 : w0 ≠ w5) (ne_w3_w5 : w3 ≠ w5) (hp0 : p10.toInt8.toInt32 = p2) (hp1 : p11.toInt8.toInt32 = p7) (hp2 : p12.toInt8.toInt32 = p8) (hp3 : p13.toInt8.toInt32 = p9) (hp4 : own_F_pick p14 = p10) (hp5 : own_F_pick p15 = p11) (hp6 : own_F_pick p16 = p12) (hp7 : own_F_pick p17 = p13) (hp8 : p2 = (-1 : Int32)) :
    MetFree l (⟨"com/example/keyer/keyer/QuerySuccessorPinLaw", "ok", "([B[B[BIII)Z"⟩ : MethodName) (head1 (Jvm.Cond.code (⟨"com/example/keyer/keyer/QuerySuccessorPinLaw", "ok", "([B[B[BIII)Z"⟩ : MethodName) method_3_code 6 (some .boolean) :: ws) ({ frames := 0, cells := 0, slots := 0, locals := 0 } : Room)) (fun a U => a = #[(.ref w0), (.ref w3), (.ref w5), (.int (1 : Int32)), (.int (0 : Int32)), (.int (0 : Int32))] ∧ Z.Warmed39 U.vm ∧ U.heap = h0) (fun _ _ _ _ _ => True) (fun _ U o U' => ∃ v L, o = .returned v ∧ (Fr n0 L ∧ Q_9 Z w0 kw0 p2 w3 kw3 w5 kw5 p7 p8 p9 p10 p11 p12 p13 p14 p15 p16 p17 h0 n0 v U'.heap) ∧ FrameEnd U o U' L ({ frames := 0, cells := 0, slots := 0, locals := 0 } : Room).cells ({ frames := 0, cells := 0, slots := 0, locals := 0 } : Room).slots) := by
  refine own_enter (Q := Q_9 Z w0 kw0 p2 w3 kw3 w5 kw5 p7 p8 p9 p10 p11 p12 p13 p14 p15 p16 p17 h0 n0) (F := fun m => mkF m 0 #[.val (.ref w0), .val (.ref w3), .val (.ref w5), .val (.int (1 : Int32)), .val (.int (0 : Int32)), .val (.int (0 : Int32))] []) (plainFor_of_name pn_0) (fun m => by first | (simp [entryFrame, mkF, argsToLocals, Value.category]; done) | rfl) ?_
  intro p e s m below meth c s₁ B X0
  have K : Keep h0 h0 [] := Keep.refl h0 _
  refine own_iload (pc' := 2) B X0 d3_0 rfl rfl ?_
  refine own_iloadN (pc' := 3) B X0 d3_2 rfl rfl ?_
  refine own_icmpYes (pc' := 8) B X0 d3_3 (tlt (by decide : (0 : Int32) < (1 : Int32))).1 (by decide) rfl ?_
  refine own_aloadN (pc' := 9) B X0 d3_8 rfl rfl rfl ?_
  refine own_iload (pc' := 11) B X0 d3_9 rfl rfl ?_
  refine own_baload (pc' := 12) B X0 V_w0 (v := (.int p2)) ⟨by decide, by decide⟩ rfl d3_11 rfl ?_
  refine own_aloadN (pc' := 13) B X0 d3_12 rfl rfl rfl ?_
  refine own_iload (pc' := 15) B X0 d3_13 rfl rfl ?_
  refine own_baload (pc' := 16) B X0 V_w5 (v := (.int p2)) ⟨by decide, by decide⟩ rfl d3_15 rfl ?_
  refine own_icmpYes (pc' := 21) B X0 d3_16 (teq rfl).1 (by decide) rfl ?_
  refine own_iload (pc' := 23) B X0 d3_21 rfl rfl ?_
  refine own_iload (pc' := 25) B X0 d3_23 rfl rfl ?_
  refine own_icmpNo (pc' := 28) B X0 d3_25 (flt (by decide : ¬ ((0 : Int32) < (0 : Int32)))).1 rfl ?_
  refine own_aloadN (pc' := 29) B X0 d3_28 rfl rfl rfl ?_
  refine own_iload (pc' := 31) B X0 d3_29 rfl rfl ?_
  refine own_baload (pc' := 32) B X0 V_w0 (v := (.int p2)) ⟨by decide, by decide⟩ rfl d3_31 rfl ?_
  refine own_iconst (pc' := 33) B X0 (z := (-1 : Int32)) d3_32 rfl rfl ?_
  refine own_icmpNo (pc' := 36) B X0 d3_33 (teq hp8).2 rfl ?_
  refine own_iconst (pc' := 37) B X0 (z := (1 : Int32)) d3_36 rfl rfl ?_
  refine own_goto (pc' := 41) B X0 d3_37 (by decide) rfl ?_
  exact own_retN B X0 (t := .boolean) (z' := (1 : Int32)) (by simp) (by decide) d3_41 (by decide) (by decide) (⟨rfl, rfl⟩)
def Q_10 (Z : State) (w0 : Addr) (kw0 : ClassId) (p2 : Int32) (w3 : Addr) (kw3 : ClassId) (w5 : Addr) (kw5 : ClassId) (p7 : Int32) (p8 : Int32) (p9 : Int32) (p10 : Int32) (p11 : Int32) (p12 : Int32) (p13 : Int32) (p14 : Int32) (p15 : Int32) (p16 : Int32) (p17 : Int32) (h0 : Heap) (n0 : Nat) (v : Option Value) (h : Heap) : Prop :=
  (v = some (.int (1 : Int32)) ∧ h0 = h)
set_option maxRecDepth 65536 in
set_option maxHeartbeats 40000000 in
theorem rm_10 (l : Launch) (Z : State) (a0 : Array Value) (hw : ∀ d ∈ tables_1, d.before a0 Z = true) (ws : List Jvm.Cond) (w0 : Addr) (kw0 : ClassId) (p2 : Int32) (w3 : Addr) (kw3 : ClassId) (w5 : Addr) (kw5 : ClassId) (p7 : Int32) (p8 : Int32) (p9 : Int32) (p10 : Int32) (p11 : Int32) (p12 : Int32) (p13 : Int32) (p14 : Int32) (p15 : Int32) (p16 : Int32) (p17 : Int32) (h0 : Heap) (n0 : Nat) (Z0 : n0 ≤ h0.size) (E_w0 : Exa Z h0 w0 "[B") (V_w0 : Arv Z h0 w0 kw0 .byte (1 : Int32) [(.int p2)] (.int (0 : Int32))) (g_w0 : n0 ≤ w0) (E_w3 : Exa Z h0 w3 "[B") (V_w3 : Arv Z h0 w3 kw3 .byte (0 : Int32) [] (.int (0 : Int32))) (g_w3 : n0 ≤ w3) (E_w5 : Exa Z h0 w5 "[B") (V_w5 : Arv Z h0 w5 kw5 .byte (4 : Int32) [(.int p2), (.int p7), (.int p8), (.int p9)] (.int (0 : Int32))) (g_w5 : n0 ≤ w5) (ne_w0_w3 : w0 ≠ w3) (ne_w0_w5 : w0 ≠ w5) (ne_w3_w5 : w3 ≠ w5) (hp0 : p10.toInt8.toInt32 = p2) (hp1 : p11.toInt8.toInt32 = p7) (hp2 : p12.toInt8.toInt32 = p8) (hp3 : p13.toInt8.toInt32 = p9) (hp4 : own_F_pick p14 = p10) (hp5 : own_F_pick p15 = p11) (hp6 : own_F_pick p16 = p12) (hp7 : own_F_pick p17 = p13) (hp8 : p2 = (-1 : Int32)) :
    MetFree l (⟨"com/example/keyer/keyer/QuerySuccessorPinLaw", "ok", "([B[B[BIII)Z"⟩ : MethodName) (head1 (Jvm.Cond.code (⟨"com/example/keyer/keyer/QuerySuccessorPinLaw", "ok", "([B[B[BIII)Z"⟩ : MethodName) method_3_code 6 (some .boolean) :: ws) ({ frames := 0, cells := 0, slots := 0, locals := 0 } : Room)) (fun a U => a = #[(.ref w0), (.ref w3), (.ref w5), (.int (1 : Int32)), (.int (0 : Int32)), (.int (1 : Int32))] ∧ Z.Warmed39 U.vm ∧ U.heap = h0) (fun _ _ _ _ _ => True) (fun _ U o U' => ∃ v L, o = .returned v ∧ (Fr n0 L ∧ Q_10 Z w0 kw0 p2 w3 kw3 w5 kw5 p7 p8 p9 p10 p11 p12 p13 p14 p15 p16 p17 h0 n0 v U'.heap) ∧ FrameEnd U o U' L ({ frames := 0, cells := 0, slots := 0, locals := 0 } : Room).cells ({ frames := 0, cells := 0, slots := 0, locals := 0 } : Room).slots) := by
  refine own_enter (Q := Q_10 Z w0 kw0 p2 w3 kw3 w5 kw5 p7 p8 p9 p10 p11 p12 p13 p14 p15 p16 p17 h0 n0) (F := fun m => mkF m 0 #[.val (.ref w0), .val (.ref w3), .val (.ref w5), .val (.int (1 : Int32)), .val (.int (0 : Int32)), .val (.int (1 : Int32))] []) (plainFor_of_name pn_0) (fun m => by first | (simp [entryFrame, mkF, argsToLocals, Value.category]; done) | rfl) ?_
  intro p e s m below meth c s₁ B X0
  have K : Keep h0 h0 [] := Keep.refl h0 _
  refine own_iload (pc' := 2) B X0 d3_0 rfl rfl ?_
  refine own_iloadN (pc' := 3) B X0 d3_2 rfl rfl ?_
  refine own_icmpNo (pc' := 6) B X0 d3_3 (flt (by decide : ¬ ((1 : Int32) < (1 : Int32)))).1 rfl ?_
  refine own_iconst (pc' := 7) B X0 (z := (1 : Int32)) d3_6 rfl rfl ?_
  exact own_retN B X0 (t := .boolean) (z' := (1 : Int32)) (by simp) (by decide) d3_7 (by decide) (by decide) (⟨rfl, rfl⟩)
def Q_11 (Z : State) (w0 : Addr) (kw0 : ClassId) (p2 : Int32) (w3 : Addr) (kw3 : ClassId) (w5 : Addr) (kw5 : ClassId) (p7 : Int32) (p8 : Int32) (p9 : Int32) (p10 : Int32) (p11 : Int32) (p12 : Int32) (p13 : Int32) (p14 : Int32) (p15 : Int32) (p16 : Int32) (p17 : Int32) (h0 : Heap) (n0 : Nat) (v : Option Value) (h : Heap) : Prop :=
  (v = some (.int (1 : Int32)) ∧ h0 = h)
set_option maxRecDepth 65536 in
set_option maxHeartbeats 40000000 in
theorem rm_11 (l : Launch) (Z : State) (a0 : Array Value) (hw : ∀ d ∈ tables_1, d.before a0 Z = true) (ws : List Jvm.Cond) (w0 : Addr) (kw0 : ClassId) (p2 : Int32) (w3 : Addr) (kw3 : ClassId) (w5 : Addr) (kw5 : ClassId) (p7 : Int32) (p8 : Int32) (p9 : Int32) (p10 : Int32) (p11 : Int32) (p12 : Int32) (p13 : Int32) (p14 : Int32) (p15 : Int32) (p16 : Int32) (p17 : Int32) (h0 : Heap) (n0 : Nat) (Z0 : n0 ≤ h0.size) (E_w0 : Exa Z h0 w0 "[B") (V_w0 : Arv Z h0 w0 kw0 .byte (1 : Int32) [(.int p2)] (.int (0 : Int32))) (g_w0 : n0 ≤ w0) (E_w3 : Exa Z h0 w3 "[B") (V_w3 : Arv Z h0 w3 kw3 .byte (0 : Int32) [] (.int (0 : Int32))) (g_w3 : n0 ≤ w3) (E_w5 : Exa Z h0 w5 "[B") (V_w5 : Arv Z h0 w5 kw5 .byte (4 : Int32) [(.int p2), (.int p7), (.int p8), (.int p9)] (.int (0 : Int32))) (g_w5 : n0 ≤ w5) (ne_w0_w3 : w0 ≠ w3) (ne_w0_w5 : w0 ≠ w5) (ne_w3_w5 : w3 ≠ w5) (hp0 : p10.toInt8.toInt32 = p2) (hp1 : p11.toInt8.toInt32 = p7) (hp2 : p12.toInt8.toInt32 = p8) (hp3 : p13.toInt8.toInt32 = p9) (hp4 : own_F_pick p14 = p10) (hp5 : own_F_pick p15 = p11) (hp6 : own_F_pick p16 = p12) (hp7 : own_F_pick p17 = p13) (hp8 : p2 = (-1 : Int32)) :
    MetFree l (⟨"com/example/keyer/keyer/QuerySuccessorPinLaw", "ok", "([B[B[BIII)Z"⟩ : MethodName) (head1 (Jvm.Cond.code (⟨"com/example/keyer/keyer/QuerySuccessorPinLaw", "ok", "([B[B[BIII)Z"⟩ : MethodName) method_3_code 6 (some .boolean) :: ws) ({ frames := 0, cells := 0, slots := 0, locals := 0 } : Room)) (fun a U => a = #[(.ref w0), (.ref w3), (.ref w5), (.int (1 : Int32)), (.int (0 : Int32)), (.int (2 : Int32))] ∧ Z.Warmed39 U.vm ∧ U.heap = h0) (fun _ _ _ _ _ => True) (fun _ U o U' => ∃ v L, o = .returned v ∧ (Fr n0 L ∧ Q_11 Z w0 kw0 p2 w3 kw3 w5 kw5 p7 p8 p9 p10 p11 p12 p13 p14 p15 p16 p17 h0 n0 v U'.heap) ∧ FrameEnd U o U' L ({ frames := 0, cells := 0, slots := 0, locals := 0 } : Room).cells ({ frames := 0, cells := 0, slots := 0, locals := 0 } : Room).slots) := by
  refine own_enter (Q := Q_11 Z w0 kw0 p2 w3 kw3 w5 kw5 p7 p8 p9 p10 p11 p12 p13 p14 p15 p16 p17 h0 n0) (F := fun m => mkF m 0 #[.val (.ref w0), .val (.ref w3), .val (.ref w5), .val (.int (1 : Int32)), .val (.int (0 : Int32)), .val (.int (2 : Int32))] []) (plainFor_of_name pn_0) (fun m => by first | (simp [entryFrame, mkF, argsToLocals, Value.category]; done) | rfl) ?_
  intro p e s m below meth c s₁ B X0
  have K : Keep h0 h0 [] := Keep.refl h0 _
  refine own_iload (pc' := 2) B X0 d3_0 rfl rfl ?_
  refine own_iloadN (pc' := 3) B X0 d3_2 rfl rfl ?_
  refine own_icmpNo (pc' := 6) B X0 d3_3 (flt (by decide : ¬ ((2 : Int32) < (1 : Int32)))).1 rfl ?_
  refine own_iconst (pc' := 7) B X0 (z := (1 : Int32)) d3_6 rfl rfl ?_
  exact own_retN B X0 (t := .boolean) (z' := (1 : Int32)) (by simp) (by decide) d3_7 (by decide) (by decide) (⟨rfl, rfl⟩)
def Q_12 (Z : State) (w0 : Addr) (kw0 : ClassId) (p2 : Int32) (w3 : Addr) (kw3 : ClassId) (w5 : Addr) (kw5 : ClassId) (p7 : Int32) (p8 : Int32) (p9 : Int32) (p10 : Int32) (p11 : Int32) (p12 : Int32) (p13 : Int32) (p14 : Int32) (p15 : Int32) (p16 : Int32) (p17 : Int32) (h0 : Heap) (n0 : Nat) (v : Option Value) (h : Heap) : Prop :=
  (v = some (.int (1 : Int32)) ∧ h0 = h)
set_option maxRecDepth 65536 in
set_option maxHeartbeats 40000000 in
theorem rm_12 (l : Launch) (Z : State) (a0 : Array Value) (hw : ∀ d ∈ tables_1, d.before a0 Z = true) (ws : List Jvm.Cond) (w0 : Addr) (kw0 : ClassId) (p2 : Int32) (w3 : Addr) (kw3 : ClassId) (w5 : Addr) (kw5 : ClassId) (p7 : Int32) (p8 : Int32) (p9 : Int32) (p10 : Int32) (p11 : Int32) (p12 : Int32) (p13 : Int32) (p14 : Int32) (p15 : Int32) (p16 : Int32) (p17 : Int32) (h0 : Heap) (n0 : Nat) (Z0 : n0 ≤ h0.size) (E_w0 : Exa Z h0 w0 "[B") (V_w0 : Arv Z h0 w0 kw0 .byte (1 : Int32) [(.int p2)] (.int (0 : Int32))) (g_w0 : n0 ≤ w0) (E_w3 : Exa Z h0 w3 "[B") (V_w3 : Arv Z h0 w3 kw3 .byte (0 : Int32) [] (.int (0 : Int32))) (g_w3 : n0 ≤ w3) (E_w5 : Exa Z h0 w5 "[B") (V_w5 : Arv Z h0 w5 kw5 .byte (4 : Int32) [(.int p2), (.int p7), (.int p8), (.int p9)] (.int (0 : Int32))) (g_w5 : n0 ≤ w5) (ne_w0_w3 : w0 ≠ w3) (ne_w0_w5 : w0 ≠ w5) (ne_w3_w5 : w3 ≠ w5) (hp0 : p10.toInt8.toInt32 = p2) (hp1 : p11.toInt8.toInt32 = p7) (hp2 : p12.toInt8.toInt32 = p8) (hp3 : p13.toInt8.toInt32 = p9) (hp4 : own_F_pick p14 = p10) (hp5 : own_F_pick p15 = p11) (hp6 : own_F_pick p16 = p12) (hp7 : own_F_pick p17 = p13) (hp8 : p2 = (-1 : Int32)) :
    MetFree l (⟨"com/example/keyer/keyer/QuerySuccessorPinLaw", "ok", "([B[B[BIII)Z"⟩ : MethodName) (head1 (Jvm.Cond.code (⟨"com/example/keyer/keyer/QuerySuccessorPinLaw", "ok", "([B[B[BIII)Z"⟩ : MethodName) method_3_code 6 (some .boolean) :: ws) ({ frames := 0, cells := 0, slots := 0, locals := 0 } : Room)) (fun a U => a = #[(.ref w0), (.ref w3), (.ref w5), (.int (1 : Int32)), (.int (0 : Int32)), (.int (3 : Int32))] ∧ Z.Warmed39 U.vm ∧ U.heap = h0) (fun _ _ _ _ _ => True) (fun _ U o U' => ∃ v L, o = .returned v ∧ (Fr n0 L ∧ Q_12 Z w0 kw0 p2 w3 kw3 w5 kw5 p7 p8 p9 p10 p11 p12 p13 p14 p15 p16 p17 h0 n0 v U'.heap) ∧ FrameEnd U o U' L ({ frames := 0, cells := 0, slots := 0, locals := 0 } : Room).cells ({ frames := 0, cells := 0, slots := 0, locals := 0 } : Room).slots) := by
  refine own_enter (Q := Q_12 Z w0 kw0 p2 w3 kw3 w5 kw5 p7 p8 p9 p10 p11 p12 p13 p14 p15 p16 p17 h0 n0) (F := fun m => mkF m 0 #[.val (.ref w0), .val (.ref w3), .val (.ref w5), .val (.int (1 : Int32)), .val (.int (0 : Int32)), .val (.int (3 : Int32))] []) (plainFor_of_name pn_0) (fun m => by first | (simp [entryFrame, mkF, argsToLocals, Value.category]; done) | rfl) ?_
  intro p e s m below meth c s₁ B X0
  have K : Keep h0 h0 [] := Keep.refl h0 _
  refine own_iload (pc' := 2) B X0 d3_0 rfl rfl ?_
  refine own_iloadN (pc' := 3) B X0 d3_2 rfl rfl ?_
  refine own_icmpNo (pc' := 6) B X0 d3_3 (flt (by decide : ¬ ((3 : Int32) < (1 : Int32)))).1 rfl ?_
  refine own_iconst (pc' := 7) B X0 (z := (1 : Int32)) d3_6 rfl rfl ?_
  exact own_retN B X0 (t := .boolean) (z' := (1 : Int32)) (by simp) (by decide) d3_7 (by decide) (by decide) (⟨rfl, rfl⟩)
def Q_13 (Z : State) (w0 : Addr) (kw0 : ClassId) (p2 : Int32) (w3 : Addr) (kw3 : ClassId) (p5 : Int32) (w6 : Addr) (kw6 : ClassId) (p8 : Int32) (p9 : Int32) (p10 : Int32) (p11 : Int32) (p12 : Int32) (p13 : Int32) (p14 : Int32) (p15 : Int32) (p16 : Int32) (p17 : Int32) (p18 : Int32) (p19 : Int32) (h0 : Heap) (n0 : Nat) (v : Option Value) (h : Heap) : Prop :=
  (v = some (.int (1 : Int32)) ∧ h0 = h)
set_option maxRecDepth 65536 in
set_option maxHeartbeats 40000000 in
theorem rm_13 (l : Launch) (Z : State) (a0 : Array Value) (hw : ∀ d ∈ tables_1, d.before a0 Z = true) (ws : List Jvm.Cond) (w0 : Addr) (kw0 : ClassId) (p2 : Int32) (w3 : Addr) (kw3 : ClassId) (p5 : Int32) (w6 : Addr) (kw6 : ClassId) (p8 : Int32) (p9 : Int32) (p10 : Int32) (p11 : Int32) (p12 : Int32) (p13 : Int32) (p14 : Int32) (p15 : Int32) (p16 : Int32) (p17 : Int32) (p18 : Int32) (p19 : Int32) (h0 : Heap) (n0 : Nat) (Z0 : n0 ≤ h0.size) (E_w0 : Exa Z h0 w0 "[B") (V_w0 : Arv Z h0 w0 kw0 .byte (1 : Int32) [(.int p2)] (.int (0 : Int32))) (g_w0 : n0 ≤ w0) (E_w3 : Exa Z h0 w3 "[B") (V_w3 : Arv Z h0 w3 kw3 .byte (1 : Int32) [(.int p5)] (.int (0 : Int32))) (g_w3 : n0 ≤ w3) (E_w6 : Exa Z h0 w6 "[B") (V_w6 : Arv Z h0 w6 kw6 .byte (4 : Int32) [(.int p2), (.int p8), (.int p9), (.int p10)] (.int (0 : Int32))) (g_w6 : n0 ≤ w6) (ne_w0_w3 : w0 ≠ w3) (ne_w0_w6 : w0 ≠ w6) (ne_w3_w6 : w3 ≠ w6) (hp0 : p11.toInt8.toInt32 = p2) (hp1 : p12.toInt8.toInt32 = p8) (hp2 : p13.toInt8.toInt32 = p9) (hp3 : p14.toInt8.toInt32 = p10) (hp4 : p15.toInt8.toInt32 = p5) (hp5 : own_F_pick p16 = p11) (hp6 : own_F_pick p17 = p12) (hp7 : own_F_pick p18 = p13) (hp8 : own_F_pick p19 = p14) (hp9 : p2 + (1 : Int32) = p15) (hp10 : ¬ (p2 = (-1 : Int32))) :
    MetFree l (⟨"com/example/keyer/keyer/QuerySuccessorPinLaw", "ok", "([B[B[BIII)Z"⟩ : MethodName) (head1 (Jvm.Cond.code (⟨"com/example/keyer/keyer/QuerySuccessorPinLaw", "ok", "([B[B[BIII)Z"⟩ : MethodName) method_3_code 6 (some .boolean) :: ws) ({ frames := 0, cells := 0, slots := 0, locals := 0 } : Room)) (fun a U => a = #[(.ref w0), (.ref w3), (.ref w6), (.int (1 : Int32)), (.int (1 : Int32)), (.int (0 : Int32))] ∧ Z.Warmed39 U.vm ∧ U.heap = h0) (fun _ _ _ _ _ => True) (fun _ U o U' => ∃ v L, o = .returned v ∧ (Fr n0 L ∧ Q_13 Z w0 kw0 p2 w3 kw3 p5 w6 kw6 p8 p9 p10 p11 p12 p13 p14 p15 p16 p17 p18 p19 h0 n0 v U'.heap) ∧ FrameEnd U o U' L ({ frames := 0, cells := 0, slots := 0, locals := 0 } : Room).cells ({ frames := 0, cells := 0, slots := 0, locals := 0 } : Room).slots) := by
  refine own_enter (Q := Q_13 Z w0 kw0 p2 w3 kw3 p5 w6 kw6 p8 p9 p10 p11 p12 p13 p14 p15 p16 p17 p18 p19 h0 n0) (F := fun m => mkF m 0 #[.val (.ref w0), .val (.ref w3), .val (.ref w6), .val (.int (1 : Int32)), .val (.int (1 : Int32)), .val (.int (0 : Int32))] []) (plainFor_of_name pn_0) (fun m => by first | (simp [entryFrame, mkF, argsToLocals, Value.category]; done) | rfl) ?_
  intro p e s m below meth c s₁ B X0
  have K : Keep h0 h0 [] := Keep.refl h0 _
  refine own_iload (pc' := 2) B X0 d3_0 rfl rfl ?_
  refine own_iloadN (pc' := 3) B X0 d3_2 rfl rfl ?_
  refine own_icmpYes (pc' := 8) B X0 d3_3 (tlt (by decide : (0 : Int32) < (1 : Int32))).1 (by decide) rfl ?_
  refine own_aloadN (pc' := 9) B X0 d3_8 rfl rfl rfl ?_
  refine own_iload (pc' := 11) B X0 d3_9 rfl rfl ?_
  refine own_baload (pc' := 12) B X0 V_w0 (v := (.int p2)) ⟨by decide, by decide⟩ rfl d3_11 rfl ?_
  refine own_aloadN (pc' := 13) B X0 d3_12 rfl rfl rfl ?_
  refine own_iload (pc' := 15) B X0 d3_13 rfl rfl ?_
  refine own_baload (pc' := 16) B X0 V_w6 (v := (.int p2)) ⟨by decide, by decide⟩ rfl d3_15 rfl ?_
  refine own_icmpYes (pc' := 21) B X0 d3_16 (teq rfl).1 (by decide) rfl ?_
  refine own_iload (pc' := 23) B X0 d3_21 rfl rfl ?_
  refine own_iload (pc' := 25) B X0 d3_23 rfl rfl ?_
  refine own_icmpYes (pc' := 42) B X0 d3_25 (tlt (by decide : (0 : Int32) < (1 : Int32))).1 (by decide) rfl ?_
  refine own_iload (pc' := 44) B X0 d3_42 rfl rfl ?_
  refine own_iload (pc' := 46) B X0 d3_44 rfl rfl ?_
  refine own_iconst (pc' := 47) B X0 (z := (1 : Int32)) d3_46 rfl rfl ?_
  refine own_isub (pc' := 48) B X0 (z := (0 : Int32)) d3_47 rfl (by decide) ?_
  refine own_icmpYes (pc' := 68) B X0 d3_48 (flt (by decide : ¬ ((0 : Int32) < (0 : Int32)))).2.1 (by decide) rfl ?_
  refine own_aloadN (pc' := 69) B X0 d3_68 rfl rfl rfl ?_
  refine own_iload (pc' := 71) B X0 d3_69 rfl rfl ?_
  refine own_baload (pc' := 72) B X0 V_w0 (v := (.int p2)) ⟨by decide, by decide⟩ rfl d3_71 rfl ?_
  refine own_iconst (pc' := 73) B X0 (z := (-1 : Int32)) d3_72 rfl rfl ?_
  refine own_icmpNo (pc' := 76) B X0 d3_73 (feq hp10).1 rfl ?_
  refine own_aloadN (pc' := 77) B X0 d3_76 rfl rfl rfl ?_
  refine own_iload (pc' := 79) B X0 d3_77 rfl rfl ?_
  refine own_baload (pc' := 80) B X0 V_w3 (v := (.int p5)) ⟨by decide, by decide⟩ rfl d3_79 rfl ?_
  refine own_aloadN (pc' := 81) B X0 d3_80 rfl rfl rfl ?_
  refine own_iload (pc' := 83) B X0 d3_81 rfl rfl ?_
  refine own_baload (pc' := 84) B X0 V_w0 (v := (.int p2)) ⟨by decide, by decide⟩ rfl d3_83 rfl ?_
  refine own_iconst (pc' := 85) B X0 (z := (1 : Int32)) d3_84 rfl rfl ?_
  refine own_iadd (pc' := 86) B X0 d3_85 rfl hp9 ?_
  refine own_i2b (pc' := 87) B X0 d3_86 rfl hp4 ?_
  refine own_icmpNo (pc' := 90) B X0 d3_87 (teq rfl).2 rfl ?_
  refine own_iconst (pc' := 91) B X0 (z := (1 : Int32)) d3_90 rfl rfl ?_
  refine own_goto (pc' := 95) B X0 d3_91 (by decide) rfl ?_
  exact own_retN B X0 (t := .boolean) (z' := (1 : Int32)) (by simp) (by decide) d3_95 (by decide) (by decide) (⟨rfl, rfl⟩)
def Q_14 (Z : State) (w0 : Addr) (kw0 : ClassId) (p2 : Int32) (w3 : Addr) (kw3 : ClassId) (p5 : Int32) (w6 : Addr) (kw6 : ClassId) (p8 : Int32) (p9 : Int32) (p10 : Int32) (p11 : Int32) (p12 : Int32) (p13 : Int32) (p14 : Int32) (p15 : Int32) (p16 : Int32) (p17 : Int32) (p18 : Int32) (p19 : Int32) (h0 : Heap) (n0 : Nat) (v : Option Value) (h : Heap) : Prop :=
  (v = some (.int (1 : Int32)) ∧ h0 = h)
set_option maxRecDepth 65536 in
set_option maxHeartbeats 40000000 in
theorem rm_14 (l : Launch) (Z : State) (a0 : Array Value) (hw : ∀ d ∈ tables_1, d.before a0 Z = true) (ws : List Jvm.Cond) (w0 : Addr) (kw0 : ClassId) (p2 : Int32) (w3 : Addr) (kw3 : ClassId) (p5 : Int32) (w6 : Addr) (kw6 : ClassId) (p8 : Int32) (p9 : Int32) (p10 : Int32) (p11 : Int32) (p12 : Int32) (p13 : Int32) (p14 : Int32) (p15 : Int32) (p16 : Int32) (p17 : Int32) (p18 : Int32) (p19 : Int32) (h0 : Heap) (n0 : Nat) (Z0 : n0 ≤ h0.size) (E_w0 : Exa Z h0 w0 "[B") (V_w0 : Arv Z h0 w0 kw0 .byte (1 : Int32) [(.int p2)] (.int (0 : Int32))) (g_w0 : n0 ≤ w0) (E_w3 : Exa Z h0 w3 "[B") (V_w3 : Arv Z h0 w3 kw3 .byte (1 : Int32) [(.int p5)] (.int (0 : Int32))) (g_w3 : n0 ≤ w3) (E_w6 : Exa Z h0 w6 "[B") (V_w6 : Arv Z h0 w6 kw6 .byte (4 : Int32) [(.int p2), (.int p8), (.int p9), (.int p10)] (.int (0 : Int32))) (g_w6 : n0 ≤ w6) (ne_w0_w3 : w0 ≠ w3) (ne_w0_w6 : w0 ≠ w6) (ne_w3_w6 : w3 ≠ w6) (hp0 : p11.toInt8.toInt32 = p2) (hp1 : p12.toInt8.toInt32 = p8) (hp2 : p13.toInt8.toInt32 = p9) (hp3 : p14.toInt8.toInt32 = p10) (hp4 : p15.toInt8.toInt32 = p5) (hp5 : own_F_pick p16 = p11) (hp6 : own_F_pick p17 = p12) (hp7 : own_F_pick p18 = p13) (hp8 : own_F_pick p19 = p14) (hp9 : p2 + (1 : Int32) = p15) (hp10 : ¬ (p2 = (-1 : Int32))) :
    MetFree l (⟨"com/example/keyer/keyer/QuerySuccessorPinLaw", "ok", "([B[B[BIII)Z"⟩ : MethodName) (head1 (Jvm.Cond.code (⟨"com/example/keyer/keyer/QuerySuccessorPinLaw", "ok", "([B[B[BIII)Z"⟩ : MethodName) method_3_code 6 (some .boolean) :: ws) ({ frames := 0, cells := 0, slots := 0, locals := 0 } : Room)) (fun a U => a = #[(.ref w0), (.ref w3), (.ref w6), (.int (1 : Int32)), (.int (1 : Int32)), (.int (1 : Int32))] ∧ Z.Warmed39 U.vm ∧ U.heap = h0) (fun _ _ _ _ _ => True) (fun _ U o U' => ∃ v L, o = .returned v ∧ (Fr n0 L ∧ Q_14 Z w0 kw0 p2 w3 kw3 p5 w6 kw6 p8 p9 p10 p11 p12 p13 p14 p15 p16 p17 p18 p19 h0 n0 v U'.heap) ∧ FrameEnd U o U' L ({ frames := 0, cells := 0, slots := 0, locals := 0 } : Room).cells ({ frames := 0, cells := 0, slots := 0, locals := 0 } : Room).slots) := by
  refine own_enter (Q := Q_14 Z w0 kw0 p2 w3 kw3 p5 w6 kw6 p8 p9 p10 p11 p12 p13 p14 p15 p16 p17 p18 p19 h0 n0) (F := fun m => mkF m 0 #[.val (.ref w0), .val (.ref w3), .val (.ref w6), .val (.int (1 : Int32)), .val (.int (1 : Int32)), .val (.int (1 : Int32))] []) (plainFor_of_name pn_0) (fun m => by first | (simp [entryFrame, mkF, argsToLocals, Value.category]; done) | rfl) ?_
  intro p e s m below meth c s₁ B X0
  have K : Keep h0 h0 [] := Keep.refl h0 _
  refine own_iload (pc' := 2) B X0 d3_0 rfl rfl ?_
  refine own_iloadN (pc' := 3) B X0 d3_2 rfl rfl ?_
  refine own_icmpNo (pc' := 6) B X0 d3_3 (flt (by decide : ¬ ((1 : Int32) < (1 : Int32)))).1 rfl ?_
  refine own_iconst (pc' := 7) B X0 (z := (1 : Int32)) d3_6 rfl rfl ?_
  exact own_retN B X0 (t := .boolean) (z' := (1 : Int32)) (by simp) (by decide) d3_7 (by decide) (by decide) (⟨rfl, rfl⟩)
def Q_15 (Z : State) (w0 : Addr) (kw0 : ClassId) (p2 : Int32) (w3 : Addr) (kw3 : ClassId) (p5 : Int32) (w6 : Addr) (kw6 : ClassId) (p8 : Int32) (p9 : Int32) (p10 : Int32) (p11 : Int32) (p12 : Int32) (p13 : Int32) (p14 : Int32) (p15 : Int32) (p16 : Int32) (p17 : Int32) (p18 : Int32) (p19 : Int32) (h0 : Heap) (n0 : Nat) (v : Option Value) (h : Heap) : Prop :=
  (v = some (.int (1 : Int32)) ∧ h0 = h)
set_option maxRecDepth 65536 in
set_option maxHeartbeats 40000000 in
theorem rm_15 (l : Launch) (Z : State) (a0 : Array Value) (hw : ∀ d ∈ tables_1, d.before a0 Z = true) (ws : List Jvm.Cond) (w0 : Addr) (kw0 : ClassId) (p2 : Int32) (w3 : Addr) (kw3 : ClassId) (p5 : Int32) (w6 : Addr) (kw6 : ClassId) (p8 : Int32) (p9 : Int32) (p10 : Int32) (p11 : Int32) (p12 : Int32) (p13 : Int32) (p14 : Int32) (p15 : Int32) (p16 : Int32) (p17 : Int32) (p18 : Int32) (p19 : Int32) (h0 : Heap) (n0 : Nat) (Z0 : n0 ≤ h0.size) (E_w0 : Exa Z h0 w0 "[B") (V_w0 : Arv Z h0 w0 kw0 .byte (1 : Int32) [(.int p2)] (.int (0 : Int32))) (g_w0 : n0 ≤ w0) (E_w3 : Exa Z h0 w3 "[B") (V_w3 : Arv Z h0 w3 kw3 .byte (1 : Int32) [(.int p5)] (.int (0 : Int32))) (g_w3 : n0 ≤ w3) (E_w6 : Exa Z h0 w6 "[B") (V_w6 : Arv Z h0 w6 kw6 .byte (4 : Int32) [(.int p2), (.int p8), (.int p9), (.int p10)] (.int (0 : Int32))) (g_w6 : n0 ≤ w6) (ne_w0_w3 : w0 ≠ w3) (ne_w0_w6 : w0 ≠ w6) (ne_w3_w6 : w3 ≠ w6) (hp0 : p11.toInt8.toInt32 = p2) (hp1 : p12.toInt8.toInt32 = p8) (hp2 : p13.toInt8.toInt32 = p9) (hp3 : p14.toInt8.toInt32 = p10) (hp4 : p15.toInt8.toInt32 = p5) (hp5 : own_F_pick p16 = p11) (hp6 : own_F_pick p17 = p12) (hp7 : own_F_pick p18 = p13) (hp8 : own_F_pick p19 = p14) (hp9 : p2 + (1 : Int32) = p15) (hp10 : ¬ (p2 = (-1 : Int32))) :
    MetFree l (⟨"com/example/keyer/keyer/QuerySuccessorPinLaw", "ok", "([B[B[BIII)Z"⟩ : MethodName) (head1 (Jvm.Cond.code (⟨"com/example/keyer/keyer/QuerySuccessorPinLaw", "ok", "([B[B[BIII)Z"⟩ : MethodName) method_3_code 6 (some .boolean) :: ws) ({ frames := 0, cells := 0, slots := 0, locals := 0 } : Room)) (fun a U => a = #[(.ref w0), (.ref w3), (.ref w6), (.int (1 : Int32)), (.int (1 : Int32)), (.int (2 : Int32))] ∧ Z.Warmed39 U.vm ∧ U.heap = h0) (fun _ _ _ _ _ => True) (fun _ U o U' => ∃ v L, o = .returned v ∧ (Fr n0 L ∧ Q_15 Z w0 kw0 p2 w3 kw3 p5 w6 kw6 p8 p9 p10 p11 p12 p13 p14 p15 p16 p17 p18 p19 h0 n0 v U'.heap) ∧ FrameEnd U o U' L ({ frames := 0, cells := 0, slots := 0, locals := 0 } : Room).cells ({ frames := 0, cells := 0, slots := 0, locals := 0 } : Room).slots) := by
  refine own_enter (Q := Q_15 Z w0 kw0 p2 w3 kw3 p5 w6 kw6 p8 p9 p10 p11 p12 p13 p14 p15 p16 p17 p18 p19 h0 n0) (F := fun m => mkF m 0 #[.val (.ref w0), .val (.ref w3), .val (.ref w6), .val (.int (1 : Int32)), .val (.int (1 : Int32)), .val (.int (2 : Int32))] []) (plainFor_of_name pn_0) (fun m => by first | (simp [entryFrame, mkF, argsToLocals, Value.category]; done) | rfl) ?_
  intro p e s m below meth c s₁ B X0
  have K : Keep h0 h0 [] := Keep.refl h0 _
  refine own_iload (pc' := 2) B X0 d3_0 rfl rfl ?_
  refine own_iloadN (pc' := 3) B X0 d3_2 rfl rfl ?_
  refine own_icmpNo (pc' := 6) B X0 d3_3 (flt (by decide : ¬ ((2 : Int32) < (1 : Int32)))).1 rfl ?_
  refine own_iconst (pc' := 7) B X0 (z := (1 : Int32)) d3_6 rfl rfl ?_
  exact own_retN B X0 (t := .boolean) (z' := (1 : Int32)) (by simp) (by decide) d3_7 (by decide) (by decide) (⟨rfl, rfl⟩)
def Q_16 (Z : State) (w0 : Addr) (kw0 : ClassId) (p2 : Int32) (w3 : Addr) (kw3 : ClassId) (p5 : Int32) (w6 : Addr) (kw6 : ClassId) (p8 : Int32) (p9 : Int32) (p10 : Int32) (p11 : Int32) (p12 : Int32) (p13 : Int32) (p14 : Int32) (p15 : Int32) (p16 : Int32) (p17 : Int32) (p18 : Int32) (p19 : Int32) (h0 : Heap) (n0 : Nat) (v : Option Value) (h : Heap) : Prop :=
  (v = some (.int (1 : Int32)) ∧ h0 = h)
set_option maxRecDepth 65536 in
set_option maxHeartbeats 40000000 in
theorem rm_16 (l : Launch) (Z : State) (a0 : Array Value) (hw : ∀ d ∈ tables_1, d.before a0 Z = true) (ws : List Jvm.Cond) (w0 : Addr) (kw0 : ClassId) (p2 : Int32) (w3 : Addr) (kw3 : ClassId) (p5 : Int32) (w6 : Addr) (kw6 : ClassId) (p8 : Int32) (p9 : Int32) (p10 : Int32) (p11 : Int32) (p12 : Int32) (p13 : Int32) (p14 : Int32) (p15 : Int32) (p16 : Int32) (p17 : Int32) (p18 : Int32) (p19 : Int32) (h0 : Heap) (n0 : Nat) (Z0 : n0 ≤ h0.size) (E_w0 : Exa Z h0 w0 "[B") (V_w0 : Arv Z h0 w0 kw0 .byte (1 : Int32) [(.int p2)] (.int (0 : Int32))) (g_w0 : n0 ≤ w0) (E_w3 : Exa Z h0 w3 "[B") (V_w3 : Arv Z h0 w3 kw3 .byte (1 : Int32) [(.int p5)] (.int (0 : Int32))) (g_w3 : n0 ≤ w3) (E_w6 : Exa Z h0 w6 "[B") (V_w6 : Arv Z h0 w6 kw6 .byte (4 : Int32) [(.int p2), (.int p8), (.int p9), (.int p10)] (.int (0 : Int32))) (g_w6 : n0 ≤ w6) (ne_w0_w3 : w0 ≠ w3) (ne_w0_w6 : w0 ≠ w6) (ne_w3_w6 : w3 ≠ w6) (hp0 : p11.toInt8.toInt32 = p2) (hp1 : p12.toInt8.toInt32 = p8) (hp2 : p13.toInt8.toInt32 = p9) (hp3 : p14.toInt8.toInt32 = p10) (hp4 : p15.toInt8.toInt32 = p5) (hp5 : own_F_pick p16 = p11) (hp6 : own_F_pick p17 = p12) (hp7 : own_F_pick p18 = p13) (hp8 : own_F_pick p19 = p14) (hp9 : p2 + (1 : Int32) = p15) (hp10 : ¬ (p2 = (-1 : Int32))) :
    MetFree l (⟨"com/example/keyer/keyer/QuerySuccessorPinLaw", "ok", "([B[B[BIII)Z"⟩ : MethodName) (head1 (Jvm.Cond.code (⟨"com/example/keyer/keyer/QuerySuccessorPinLaw", "ok", "([B[B[BIII)Z"⟩ : MethodName) method_3_code 6 (some .boolean) :: ws) ({ frames := 0, cells := 0, slots := 0, locals := 0 } : Room)) (fun a U => a = #[(.ref w0), (.ref w3), (.ref w6), (.int (1 : Int32)), (.int (1 : Int32)), (.int (3 : Int32))] ∧ Z.Warmed39 U.vm ∧ U.heap = h0) (fun _ _ _ _ _ => True) (fun _ U o U' => ∃ v L, o = .returned v ∧ (Fr n0 L ∧ Q_16 Z w0 kw0 p2 w3 kw3 p5 w6 kw6 p8 p9 p10 p11 p12 p13 p14 p15 p16 p17 p18 p19 h0 n0 v U'.heap) ∧ FrameEnd U o U' L ({ frames := 0, cells := 0, slots := 0, locals := 0 } : Room).cells ({ frames := 0, cells := 0, slots := 0, locals := 0 } : Room).slots) := by
  refine own_enter (Q := Q_16 Z w0 kw0 p2 w3 kw3 p5 w6 kw6 p8 p9 p10 p11 p12 p13 p14 p15 p16 p17 p18 p19 h0 n0) (F := fun m => mkF m 0 #[.val (.ref w0), .val (.ref w3), .val (.ref w6), .val (.int (1 : Int32)), .val (.int (1 : Int32)), .val (.int (3 : Int32))] []) (plainFor_of_name pn_0) (fun m => by first | (simp [entryFrame, mkF, argsToLocals, Value.category]; done) | rfl) ?_
  intro p e s m below meth c s₁ B X0
  have K : Keep h0 h0 [] := Keep.refl h0 _
  refine own_iload (pc' := 2) B X0 d3_0 rfl rfl ?_
  refine own_iloadN (pc' := 3) B X0 d3_2 rfl rfl ?_
  refine own_icmpNo (pc' := 6) B X0 d3_3 (flt (by decide : ¬ ((3 : Int32) < (1 : Int32)))).1 rfl ?_
  refine own_iconst (pc' := 7) B X0 (z := (1 : Int32)) d3_6 rfl rfl ?_
  exact own_retN B X0 (t := .boolean) (z' := (1 : Int32)) (by simp) (by decide) d3_7 (by decide) (by decide) (⟨rfl, rfl⟩)
def Q_19 (Z : State)  (h0 : Heap) (n0 : Nat) (v : Option Value) (h : Heap) : Prop :=
  (v = some (.int (1 : Int32)) ∧ h0 = h)
set_option maxRecDepth 65536 in
set_option maxHeartbeats 40000000 in
theorem rm_19 (l : Launch) (Z : State) (a0 : Array Value) (hw : ∀ d ∈ tables_1, d.before a0 Z = true) (ws : List Jvm.Cond)  (h0 : Heap) (n0 : Nat) (Z0 : n0 ≤ h0.size)  :
    MetFree l (⟨"java/lang/Math", "min", "(II)I"⟩ : MethodName) (head1 (Jvm.Cond.code (⟨"java/lang/Math", "min", "(II)I"⟩ : MethodName) jdk_29_method_69_code 2 (some .int) :: ws) ({ frames := 0, cells := 0, slots := 0, locals := 0 } : Room)) (fun a U => a = #[(.int (2 : Int32)), (.int (1 : Int32))] ∧ Z.Warmed39 U.vm ∧ U.heap = h0) (fun _ _ _ _ _ => True) (fun _ U o U' => ∃ v L, o = .returned v ∧ (Fr n0 L ∧ Q_19 Z  h0 n0 v U'.heap) ∧ FrameEnd U o U' L ({ frames := 0, cells := 0, slots := 0, locals := 0 } : Room).cells ({ frames := 0, cells := 0, slots := 0, locals := 0 } : Room).slots) := by
  refine own_enter (Q := Q_19 Z  h0 n0) (F := fun m => mkF m 0 #[.val (.int (2 : Int32)), .val (.int (1 : Int32))] []) (Jvm.Free.JP.mathPlain rfl (by decide +kernel)) (fun m => by first | (simp [entryFrame, mkF, argsToLocals, Value.category]; done) | rfl) ?_
  intro p e s m below meth c s₁ B X0
  have K : Keep h0 h0 [] := Keep.refl h0 _
  refine own_iloadN (pc' := 1) B X0 d5_0 rfl rfl ?_
  refine own_iloadN (pc' := 2) B X0 d5_1 rfl rfl ?_
  refine own_icmpYes (pc' := 9) B X0 d5_2 (tlt (by decide : (1 : Int32) < (2 : Int32))).2.2.1 (by decide) rfl ?_
  refine own_iloadN (pc' := 10) B X0 d5_9 rfl rfl ?_
  exact own_retI B X0 d5_10 (by decide) (by decide) (⟨rfl, rfl⟩)
def Q_18 (Z : State) (w0 : Addr) (kw0 : ClassId) (p2 : Int32) (p3 : Int32) (h0 : Heap) (n0 : Nat) (v : Option Value) (h : Heap) : Prop :=
  (∃ (b1 : Addr) (kb1 : ClassId), v = some (.ref b1) ∧ Keep h0 h [] ∧ h0.size ≤ b1 ∧ Exa Z h b1 "[B" ∧ Arv Z h b1 kb1 .byte (1 : Int32) [(.int p2)] (.int (0 : Int32)))
set_option maxRecDepth 65536 in
set_option maxHeartbeats 40000000 in
theorem rm_18 (l : Launch) (Z : State) (a0 : Array Value) (hw : ∀ d ∈ tables_1, d.before a0 Z = true) (ws : List Jvm.Cond) (w0 : Addr) (kw0 : ClassId) (p2 : Int32) (p3 : Int32) (h0 : Heap) (n0 : Nat) (Z0 : n0 ≤ h0.size) (E_w0 : Exa Z h0 w0 "[B") (V_w0 : Arv Z h0 w0 kw0 .byte (2 : Int32) [(.int p2), (.int p3)] (.int (0 : Int32))) (g_w0 : n0 ≤ w0) :
    MetFree l (⟨"java/util/Arrays", "copyOf", "([BI)[B"⟩ : MethodName) (head1 (Jvm.Cond.code (⟨"java/util/Arrays", "copyOf", "([BI)[B"⟩ : MethodName) jdk_65_method_121_code 3 (some (.array .byte)) :: ws) ({ frames := 1, cells := 1, slots := 1, locals := 40 } : Room)) (fun a U => a = #[(.ref w0), (.int (1 : Int32))] ∧ Z.Warmed39 U.vm ∧ U.heap = h0) (fun _ _ _ _ _ => True) (fun _ U o U' => ∃ v L, o = .returned v ∧ (Fr n0 L ∧ Q_18 Z w0 kw0 p2 p3 h0 n0 v U'.heap) ∧ FrameEnd U o U' L ({ frames := 1, cells := 1, slots := 1, locals := 40 } : Room).cells ({ frames := 1, cells := 1, slots := 1, locals := 40 } : Room).slots) := by
  refine own_enter (Q := Q_18 Z w0 kw0 p2 p3 h0 n0) (F := fun m => mkF m 0 #[.val (.ref w0), .val (.int (1 : Int32)), .unset] []) (plainFor_of_name pn_2) (fun m => by first | (simp [entryFrame, mkF, argsToLocals, Value.category]; done) | rfl) ?_
  intro p e s m below meth c s₁ B X0
  have K : Keep h0 h0 [] := Keep.refl h0 _
  refine own_iloadN (pc' := 1) B X0 d4_0 rfl rfl ?_
  refine own_aloadN (pc' := 2) B X0 d4_1 rfl rfl rfl ?_
  refine own_arraylength (pc' := 3) B X0 V_w0 d4_2 rfl ?_
  refine own_icmpYes (pc' := 14) B X0 d4_3 (feq (by decide : ¬ ((1 : Int32) = (2 : Int32)))).2 (by decide) rfl ?_
  refine own_iloadN (pc' := 15) B X0 d4_14 rfl rfl ?_
  refine own_newarray (pc' := 17) B X0 (own_w hw 1 rfl) d4_15 rfl rfl (by decide) 1 (by decide) (by decide) (k' := 1) (n' := 1) rfl rfl (by decide) (by decide) "[B" (by decide) (.int (0 : Int32)) rfl ?_
  intro T1 h1 b1 kb1 X1 g1 E1 V_b1 E_b1
  have ne_w0_b1 : w0 ≠ b1 := own_ne E_w0.lt g1
  have sz_b1 : h0.size ≤ b1 := own_sz K g1
  have g_b1 : n0 ≤ b1 := Nat.le_trans Z0 sz_b1
  replace K := K.ext E1
  replace E_w0 := E_w0.ext E1
  replace V_w0 := V_w0.ext E1
  replace V_b1 : Arv Z h1 b1 kb1 .byte (1 : Int32) [(.int (0 : Int32))] (.int (0 : Int32)) := V_b1.pad (pad_rep [] (.int (0 : Int32)) 1)
  refine own_astoreN (pc' := 18) B X1 (Ls' := #[.val (.ref w0), .val (.int (1 : Int32)), .val (.ref b1)]) d4_17 rfl rfl rfl ?_
  refine own_aloadN (pc' := 19) B X1 d4_18 rfl rfl rfl ?_
  refine own_iconst (pc' := 20) B X1 (z := (0 : Int32)) d4_19 rfl rfl ?_
  refine own_aloadN (pc' := 21) B X1 d4_20 rfl rfl rfl ?_
  refine own_iconst (pc' := 22) B X1 (z := (0 : Int32)) d4_21 rfl rfl ?_
  refine own_aloadN (pc' := 23) B X1 d4_22 rfl rfl rfl ?_
  refine own_arraylength (pc' := 24) B X1 V_w0 d4_23 rfl ?_
  refine own_iloadN (pc' := 25) B X1 d4_24 rfl rfl ?_
  refine own_callS (pc' := 28) B X1 (own_w hw 26 rfl) (own_w hw 27 rfl) (own_w hw 28 rfl) (own_w hw 29 rfl) (by decide) [(.int (2 : Int32)), (.int (1 : Int32))] [(.int (0 : Int32)), (.ref b1), (.int (0 : Int32)), (.ref w0)] (rm_19 l Z a0 hw []  h1 n0 (Nat.le_trans Z0 K.1) ) 4 (by decide) (by decide) rfl pd_4 rfl rfl (Nat.le_of_eq rfl) d4_25 rfl (k' := 1) (n' := 1) rfl rfl (by decide) (by decide) ?_
  intro T2 v2 h2 X2 q2
  obtain ⟨rfl, rfl⟩ := q2
  show own_Go p e below (T2.setTop (mkF m 28 #[.val (.ref w0), .val (.int (1 : Int32)), .val (.ref b1)] [(.int (1 : Int32)), (.int (0 : Int32)), (.ref b1), (.int (0 : Int32)), (.ref w0)])) _
  refine own_arraycopy (pc' := 31) B X2 (own_w hw 30 rfl) (own_w hw 33 rfl) (own_w hw 31 rfl) (own_w hw 32 rfl) V_w0 V_b1 rfl g_b1 (by decide) (by decide) (by decide) (by decide) (by decide) (us := [(.int p2)]) rfl (Nat.le_of_ble_eq_true rfl) (rs := [(.int p2)]) rfl d4_28 rfl rfl (by decide) 0 (Nat.le_of_eq rfl) (by decide) ?_
  intro T3 h3 X3 K3 V_b1
  replace K := K.trans K3 (allS (Or.inr sz_b1) all0)
  replace E_w0 := E_w0.keep K3
  replace V_w0 := V_w0.keep K3 (ninS ne_w0_b1 nin0)
  replace E_b1 := E_b1.keep K3
  refine own_aloadN (pc' := 32) B X3 d4_31 rfl rfl rfl ?_
  exact own_retA B X3 (t := (.array .byte)) rfl rfl rfl d4_32 (by decide) (by decide) (⟨b1, kb1, rfl, K, sz_b1, E_b1, V_b1⟩)
def Q_20 (Z : State) (w0 : Addr) (kw0 : ClassId) (p2 : Int32) (p3 : Int32) (h0 : Heap) (n0 : Nat) (v : Option Value) (h : Heap) : Prop :=
  (∃ (b1 : Addr), v = some (.ref b1) ∧ Keep h0 h [] ∧ h0.size ≤ b1 ∧ Exa Z h b1 "[B" ∧ Arv Z h b1 kw0 .byte (2 : Int32) [(.int p2), (.int p3)] (.int (0 : Int32)))
set_option maxRecDepth 65536 in
set_option maxHeartbeats 40000000 in
theorem rm_20 (l : Launch) (Z : State) (a0 : Array Value) (hw : ∀ d ∈ tables_1, d.before a0 Z = true) (ws : List Jvm.Cond) (w0 : Addr) (kw0 : ClassId) (p2 : Int32) (p3 : Int32) (h0 : Heap) (n0 : Nat) (Z0 : n0 ≤ h0.size) (E_w0 : Exa Z h0 w0 "[B") (V_w0 : Arv Z h0 w0 kw0 .byte (2 : Int32) [(.int p2), (.int p3)] (.int (0 : Int32))) (g_w0 : n0 ≤ w0) :
    MetFree l (⟨"java/util/Arrays", "copyOf", "([BI)[B"⟩ : MethodName) (head1 (Jvm.Cond.code (⟨"java/util/Arrays", "copyOf", "([BI)[B"⟩ : MethodName) jdk_65_method_121_code 3 (some (.array .byte)) :: ws) ({ frames := 1, cells := 1, slots := 2, locals := 14 } : Room)) (fun a U => a = #[(.ref w0), (.int (2 : Int32))] ∧ Z.Warmed39 U.vm ∧ U.heap = h0) (fun _ _ _ _ _ => True) (fun _ U o U' => ∃ v L, o = .returned v ∧ (Fr n0 L ∧ Q_20 Z w0 kw0 p2 p3 h0 n0 v U'.heap) ∧ FrameEnd U o U' L ({ frames := 1, cells := 1, slots := 2, locals := 14 } : Room).cells ({ frames := 1, cells := 1, slots := 2, locals := 14 } : Room).slots) := by
  refine own_enter (Q := Q_20 Z w0 kw0 p2 p3 h0 n0) (F := fun m => mkF m 0 #[.val (.ref w0), .val (.int (2 : Int32)), .unset] []) (plainFor_of_name pn_2) (fun m => by first | (simp [entryFrame, mkF, argsToLocals, Value.category]; done) | rfl) ?_
  intro p e s m below meth c s₁ B X0
  have K : Keep h0 h0 [] := Keep.refl h0 _
  refine own_iloadN (pc' := 1) B X0 d4_0 rfl rfl ?_
  refine own_aloadN (pc' := 2) B X0 d4_1 rfl rfl rfl ?_
  refine own_arraylength (pc' := 3) B X0 V_w0 d4_2 rfl ?_
  refine own_icmpNo (pc' := 6) B X0 d4_3 (teq (by decide : (2 : Int32) = (2 : Int32))).2 rfl ?_
  refine own_aloadN (pc' := 7) B X0 d4_6 rfl rfl rfl ?_
  refine own_clone (pc' := 10) B X0 (own_w hw 17 rfl) (own_w hw 18 rfl) (own_w hw 22 rfl) (own_w hw 20 rfl) (own_w hw 21 rfl) (own_w hw 23 rfl) V_w0 E_w0 d4_7 rfl rfl (by decide) 0 2 (Nat.le_of_eq rfl) (by decide) (by decide) (k' := 1) (n' := 2) rfl rfl (by decide) (by decide) ?_
  intro T1 h1 b1 X1 g1 E1 V_b1 E_b1
  have ne_w0_b1 : w0 ≠ b1 := own_ne E_w0.lt g1
  have sz_b1 : h0.size ≤ b1 := own_sz K g1
  have g_b1 : n0 ≤ b1 := Nat.le_trans Z0 sz_b1
  replace K := K.ext E1
  replace E_w0 := E_w0.ext E1
  replace V_w0 := V_w0.ext E1
  refine own_checkcast (pc' := 13) B X1 (own_w hw 24 rfl) (Ins.self E_b1) d4_10 rfl ?_
  intro T2 X2
  exact own_retA B X2 (t := (.array .byte)) rfl rfl rfl d4_13 (by decide) (by decide) (⟨b1, rfl, K, sz_b1, E_b1, V_b1⟩)
def Q_17 (Z : State) (w0 : Addr) (kw0 : ClassId) (p2 : Int32) (p3 : Int32) (p4 : Int32) (p5 : Int32) (p6 : Int32) (p7 : Int32) (h0 : Heap) (n0 : Nat) (v : Option Value) (h : Heap) : Prop :=
  (∃ (b3 : Addr) (kb3 : ClassId), p3 = (-1 : Int32) ∧ p2 = (-1 : Int32) ∧ v = some (.ref b3) ∧ Keep h0 h [] ∧ h0.size ≤ b3 ∧ Exa Z h b3 "[B" ∧ Arv Z h b3 kb3 .byte (0 : Int32) [] (.int (0 : Int32))) ∨
  (∃ (y7 : Int32) (y8 : Int32) (b5 : Addr) (k6 : ClassId), p3 = (-1 : Int32) ∧ ¬ (p2 = (-1 : Int32)) ∧ p2 + (1 : Int32) = y7 ∧ y7.toInt8.toInt32 = y8 ∧ v = some (.ref b5) ∧ Keep h0 h [] ∧ h0.size ≤ b5 ∧ Exa Z h b5 "[B" ∧ Arv Z h b5 k6 .byte (1 : Int32) [(.int y8)] (.int (0 : Int32))) ∨
  (∃ (y12 : Int32) (y13 : Int32) (b11 : Addr), ¬ (p3 = (-1 : Int32)) ∧ p3 + (1 : Int32) = y12 ∧ y12.toInt8.toInt32 = y13 ∧ v = some (.ref b11) ∧ Keep h0 h [] ∧ h0.size ≤ b11 ∧ Exa Z h b11 "[B" ∧ Arv Z h b11 kw0 .byte (2 : Int32) [(.int p2), (.int y13)] (.int (0 : Int32)))
set_option maxRecDepth 65536 in
set_option maxHeartbeats 40000000 in
theorem rm_17 (l : Launch) (Z : State) (a0 : Array Value) (hw : ∀ d ∈ tables_1, d.before a0 Z = true) (ws : List Jvm.Cond) (w0 : Addr) (kw0 : ClassId) (p2 : Int32) (p3 : Int32) (p4 : Int32) (p5 : Int32) (p6 : Int32) (p7 : Int32) (h0 : Heap) (n0 : Nat) (Z0 : n0 ≤ h0.size) (E_w0 : Exa Z h0 w0 "[B") (V_w0 : Arv Z h0 w0 kw0 .byte (2 : Int32) [(.int p2), (.int p3)] (.int (0 : Int32))) (g_w0 : n0 ≤ w0) (hp0 : p4.toInt8.toInt32 = p2) (hp1 : p5.toInt8.toInt32 = p3) (hp2 : own_F_pick p6 = p4) (hp3 : own_F_pick p7 = p5) :
    MetFree l (⟨"com/example/keyer/keyer/Query", "successor", "([B)[B"⟩ : MethodName) (head1 (Jvm.Cond.code (⟨"com/example/keyer/keyer/Query", "successor", "([B)[B"⟩ : MethodName) prog_18_method_14_code 3 (some (.array .byte)) :: ws) ({ frames := 2, cells := 1, slots := 2, locals := 54 } : Room)) (fun a U => a = #[(.ref w0)] ∧ Z.Warmed39 U.vm ∧ U.heap = h0) (fun _ _ _ _ _ => True) (fun _ U o U' => ∃ v L, o = .returned v ∧ (Fr n0 L ∧ Q_17 Z w0 kw0 p2 p3 p4 p5 p6 p7 h0 n0 v U'.heap) ∧ FrameEnd U o U' L ({ frames := 2, cells := 1, slots := 2, locals := 54 } : Room).cells ({ frames := 2, cells := 1, slots := 2, locals := 54 } : Room).slots) := by
  refine own_enter (Q := Q_17 Z w0 kw0 p2 p3 p4 p5 p6 p7 h0 n0) (F := fun m => mkF m 0 #[.val (.ref w0), .unset, .unset] []) (plainFor_of_name pn_1) (fun m => by first | (simp [entryFrame, mkF, argsToLocals, Value.category]; done) | rfl) ?_
  intro p e s m below meth c s₁ B X0
  have K : Keep h0 h0 [] := Keep.refl h0 _
  refine own_aloadN (pc' := 1) B X0 d2_0 rfl rfl rfl ?_
  refine own_arraylength (pc' := 2) B X0 V_w0 d2_1 rfl ?_
  refine own_istoreN (pc' := 3) B X0 (Ls' := #[.val (.ref w0), .val (.int (2 : Int32)), .unset]) d2_2 rfl rfl ?_
  refine own_iloadN (pc' := 4) B X0 d2_3 rfl rfl ?_
  refine own_ifNo (pc' := 7) B X0 d2_4 ((if0 _ _).trans (tlt (by decide : (0 : Int32) < (2 : Int32))).2.2.2) rfl ?_
  refine own_aloadN (pc' := 8) B X0 d2_7 rfl rfl rfl ?_
  refine own_iloadN (pc' := 9) B X0 d2_8 rfl rfl ?_
  refine own_iconst (pc' := 10) B X0 (z := (1 : Int32)) d2_9 rfl rfl ?_
  refine own_isub (pc' := 11) B X0 (z := (1 : Int32)) d2_10 rfl (by decide) ?_
  refine own_baload (pc' := 12) B X0 V_w0 (v := (.int p3)) ⟨by decide, by decide⟩ rfl d2_11 rfl ?_
  refine own_iconst (pc' := 13) B X0 (z := (-1 : Int32)) d2_12 rfl rfl ?_
  by_cases c1 : p3 = (-1 : Int32)
  · refine own_icmpNo (pc' := 16) B X0 d2_13 (teq c1).2 rfl ?_
    refine own_iinc (pc' := 19) B X0 (Ls' := #[.val (.ref w0), .val (.int (1 : Int32)), .unset]) d2_16 rfl rfl (z := (1 : Int32)) (by decide) rfl ?_
    refine own_goto (pc' := 3) B X0 d2_19 (by decide) rfl ?_
    refine own_iloadN (pc' := 4) B X0 d2_3 rfl rfl ?_
    refine own_ifNo (pc' := 7) B X0 d2_4 ((if0 _ _).trans (tlt (by decide : (0 : Int32) < (1 : Int32))).2.2.2) rfl ?_
    refine own_aloadN (pc' := 8) B X0 d2_7 rfl rfl rfl ?_
    refine own_iloadN (pc' := 9) B X0 d2_8 rfl rfl ?_
    refine own_iconst (pc' := 10) B X0 (z := (1 : Int32)) d2_9 rfl rfl ?_
    refine own_isub (pc' := 11) B X0 (z := (0 : Int32)) d2_10 rfl (by decide) ?_
    refine own_baload (pc' := 12) B X0 V_w0 (v := (.int p2)) ⟨by decide, by decide⟩ rfl d2_11 rfl ?_
    refine own_iconst (pc' := 13) B X0 (z := (-1 : Int32)) d2_12 rfl rfl ?_
    by_cases c2 : p2 = (-1 : Int32)
    · refine own_icmpNo (pc' := 16) B X0 d2_13 (teq c2).2 rfl ?_
      refine own_iinc (pc' := 19) B X0 (Ls' := #[.val (.ref w0), .val (.int (0 : Int32)), .unset]) d2_16 rfl rfl (z := (0 : Int32)) (by decide) rfl ?_
      refine own_goto (pc' := 3) B X0 d2_19 (by decide) rfl ?_
      refine own_iloadN (pc' := 4) B X0 d2_3 rfl rfl ?_
      refine own_ifYes (pc' := 22) B X0 d2_4 ((if0 _ _).trans (flt (by decide : ¬ ((0 : Int32) < (0 : Int32)))).2.2.2) (by decide) rfl ?_
      refine own_iloadN (pc' := 23) B X0 d2_22 rfl rfl ?_
      refine own_ifNo (pc' := 26) B X0 d2_23 ((if0 _ _).trans (teq (by decide : (0 : Int32) = (0 : Int32))).2) rfl ?_
      refine own_iconst (pc' := 27) B X0 (z := (0 : Int32)) d2_26 rfl rfl ?_
      refine own_newarray (pc' := 29) B X0 (own_w hw 1 rfl) d2_27 rfl rfl (by decide) 0 (by decide) (by decide) (k' := 1) (n' := 0) rfl rfl (by decide) (by decide) "[B" (by decide) (.int (0 : Int32)) rfl ?_
      intro T3 h3 b3 kb3 X3 g3 E3 V_b3 E_b3
      have ne_w0_b3 : w0 ≠ b3 := own_ne E_w0.lt g3
      have sz_b3 : h0.size ≤ b3 := own_sz K g3
      have g_b3 : n0 ≤ b3 := Nat.le_trans Z0 sz_b3
      replace K := K.ext E3
      replace E_w0 := E_w0.ext E3
      replace V_w0 := V_w0.ext E3
      exact own_retA B X3 (t := (.array .byte)) rfl rfl rfl d2_29 (by decide) (by decide) (Or.inl ⟨b3, kb3, c1, c2, rfl, K, sz_b3, E_b3, V_b3⟩)
    · refine own_icmpYes (pc' := 22) B X0 d2_13 (feq c2).2 (by decide) rfl ?_
      refine own_iloadN (pc' := 23) B X0 d2_22 rfl rfl ?_
      refine own_ifYes (pc' := 30) B X0 d2_23 ((if0 _ _).trans (feq (by decide : ¬ ((1 : Int32) = (0 : Int32)))).2) (by decide) rfl ?_
      refine own_aloadN (pc' := 31) B X0 d2_30 rfl rfl rfl ?_
      refine own_iloadN (pc' := 32) B X0 d2_31 rfl rfl ?_
      refine own_callS (pc' := 35) B X0 (own_w hw 13 rfl) (own_w hw 14 rfl) (own_w hw 15 rfl) (own_w hw 16 rfl) (by decide) [(.ref w0), (.int (1 : Int32))] [] (rm_18 l Z a0 hw [] w0 kw0 (p2) (p3) h0 n0 (Nat.le_trans Z0 K.1) E_w0 V_w0 g_w0) 0 (by decide) (by decide) rfl pd_3 rfl rfl (Nat.le_of_eq rfl) d2_32 rfl (k' := 1) (n' := 1) rfl rfl (by decide) (by decide) ?_
      intro T4 v4 h4 X4 q4
      have lt_w0 := E_w0.lt
      obtain ⟨b5, k6, rfl, K4, z_b5, E_b5, V_b5⟩ := q4
      have ne_w0_b5 : w0 ≠ b5 := own_ne' lt_w0 z_b5
      have sz_b5 : h0.size ≤ b5 := Nat.le_trans K.1 z_b5
      have g_b5 : n0 ≤ b5 := Nat.le_trans Z0 sz_b5
      replace K := K.trans K4 all0
      replace E_w0 := E_w0.keep K4
      replace V_w0 := V_w0.keep K4 nin0
      show own_Go p e below (T4.setTop (mkF m 35 #[.val (.ref w0), .val (.int (1 : Int32)), .unset] [(.ref b5)])) _
      refine own_astoreN (pc' := 36) B X4 (Ls' := #[.val (.ref w0), .val (.int (1 : Int32)), .val (.ref b5)]) d2_35 rfl rfl rfl ?_
      refine own_aloadN (pc' := 37) B X4 d2_36 rfl rfl rfl ?_
      refine own_iloadN (pc' := 38) B X4 d2_37 rfl rfl ?_
      refine own_iconst (pc' := 39) B X4 (z := (1 : Int32)) d2_38 rfl rfl ?_
      refine own_isub (pc' := 40) B X4 (z := (0 : Int32)) d2_39 rfl (by decide) ?_
      refine own_dup2 (pc' := 41) B X4 d2_40 rfl rfl rfl ?_
      refine own_baload (pc' := 42) B X4 V_b5 (v := (.int p2)) ⟨by decide, by decide⟩ rfl d2_41 rfl ?_
      refine own_iconst (pc' := 43) B X4 (z := (1 : Int32)) d2_42 rfl rfl ?_
      obtain ⟨y7, hy7⟩ : ∃ z : Int32, p2 + (1 : Int32) = z := ⟨_, rfl⟩
      refine own_iadd (pc' := 44) B X4 d2_43 rfl hy7 ?_
      obtain ⟨y8, hy8⟩ : ∃ z : Int32, y7.toInt8.toInt32 = z := ⟨_, rfl⟩
      refine own_i2b (pc' := 45) B X4 d2_44 rfl hy8 ?_
      refine own_bastore (pc' := 46) B X4 (x' := y8) V_b5 g_b5 ⟨by decide, by decide⟩ 0 (by decide) (Nat.le_of_ble_eq_true rfl) (own_idem_i2b hy8) d2_45 rfl ?_
      intro T9 h9 X9 W9 V_b5
      replace V_b5 : Arv Z h9 b5 k6 .byte (1 : Int32) [(.int y8)] (.int (0 : Int32)) := V_b5
      replace E_w0 := E_w0.wr W9
      replace V_w0 := V_w0.other W9 ne_w0_b5
      replace E_b5 := E_b5.wr W9
      replace K := K.wr W9 (Or.inr sz_b5)
      refine own_aloadN (pc' := 47) B X9 d2_46 rfl rfl rfl ?_
      exact own_retA B X9 (t := (.array .byte)) rfl rfl rfl d2_47 (by decide) (by decide) (Or.inr (Or.inl ⟨y7, y8, b5, k6, c1, c2, hy7, hy8, rfl, K, sz_b5, E_b5, V_b5⟩))
  · refine own_icmpYes (pc' := 22) B X0 d2_13 (feq c1).2 (by decide) rfl ?_
    refine own_iloadN (pc' := 23) B X0 d2_22 rfl rfl ?_
    refine own_ifYes (pc' := 30) B X0 d2_23 ((if0 _ _).trans (feq (by decide : ¬ ((2 : Int32) = (0 : Int32)))).2) (by decide) rfl ?_
    refine own_aloadN (pc' := 31) B X0 d2_30 rfl rfl rfl ?_
    refine own_iloadN (pc' := 32) B X0 d2_31 rfl rfl ?_
    refine own_callS (pc' := 35) B X0 (own_w hw 13 rfl) (own_w hw 14 rfl) (own_w hw 15 rfl) (own_w hw 16 rfl) (by decide) [(.ref w0), (.int (2 : Int32))] [] (rm_20 l Z a0 hw [] w0 kw0 (p2) (p3) h0 n0 (Nat.le_trans Z0 K.1) E_w0 V_w0 g_w0) 0 (by decide) (by decide) rfl pd_3 rfl rfl (Nat.le_of_eq rfl) d2_32 rfl (k' := 1) (n' := 2) rfl rfl (by decide) (by decide) ?_
    intro T10 v10 h10 X10 q10
    have lt_w0 := E_w0.lt
    obtain ⟨b11, rfl, K10, z_b11, E_b11, V_b11⟩ := q10
    have ne_w0_b11 : w0 ≠ b11 := own_ne' lt_w0 z_b11
    have sz_b11 : h0.size ≤ b11 := Nat.le_trans K.1 z_b11
    have g_b11 : n0 ≤ b11 := Nat.le_trans Z0 sz_b11
    replace K := K.trans K10 all0
    replace E_w0 := E_w0.keep K10
    replace V_w0 := V_w0.keep K10 nin0
    show own_Go p e below (T10.setTop (mkF m 35 #[.val (.ref w0), .val (.int (2 : Int32)), .unset] [(.ref b11)])) _
    refine own_astoreN (pc' := 36) B X10 (Ls' := #[.val (.ref w0), .val (.int (2 : Int32)), .val (.ref b11)]) d2_35 rfl rfl rfl ?_
    refine own_aloadN (pc' := 37) B X10 d2_36 rfl rfl rfl ?_
    refine own_iloadN (pc' := 38) B X10 d2_37 rfl rfl ?_
    refine own_iconst (pc' := 39) B X10 (z := (1 : Int32)) d2_38 rfl rfl ?_
    refine own_isub (pc' := 40) B X10 (z := (1 : Int32)) d2_39 rfl (by decide) ?_
    refine own_dup2 (pc' := 41) B X10 d2_40 rfl rfl rfl ?_
    refine own_baload (pc' := 42) B X10 V_b11 (v := (.int p3)) ⟨by decide, by decide⟩ rfl d2_41 rfl ?_
    refine own_iconst (pc' := 43) B X10 (z := (1 : Int32)) d2_42 rfl rfl ?_
    obtain ⟨y12, hy12⟩ : ∃ z : Int32, p3 + (1 : Int32) = z := ⟨_, rfl⟩
    refine own_iadd (pc' := 44) B X10 d2_43 rfl hy12 ?_
    obtain ⟨y13, hy13⟩ : ∃ z : Int32, y12.toInt8.toInt32 = z := ⟨_, rfl⟩
    refine own_i2b (pc' := 45) B X10 d2_44 rfl hy13 ?_
    refine own_bastore (pc' := 46) B X10 (x' := y13) V_b11 g_b11 ⟨by decide, by decide⟩ 1 (by decide) (Nat.le_of_ble_eq_true rfl) (own_idem_i2b hy13) d2_45 rfl ?_
    intro T14 h14 X14 W14 V_b11
    replace V_b11 : Arv Z h14 b11 kw0 .byte (2 : Int32) [(.int p2), (.int y13)] (.int (0 : Int32)) := V_b11
    replace E_w0 := E_w0.wr W14
    replace V_w0 := V_w0.other W14 ne_w0_b11
    replace E_b11 := E_b11.wr W14
    replace K := K.wr W14 (Or.inr sz_b11)
    refine own_aloadN (pc' := 47) B X14 d2_46 rfl rfl rfl ?_
    exact own_retA B X14 (t := (.array .byte)) rfl rfl rfl d2_47 (by decide) (by decide) (Or.inr (Or.inr (⟨y12, y13, b11, c1, hy12, hy13, rfl, K, sz_b11, E_b11, V_b11⟩)))
def Q_21 (Z : State) (w0 : Addr) (kw0 : ClassId) (p2 : Int32) (p3 : Int32) (w4 : Addr) (kw4 : ClassId) (w6 : Addr) (kw6 : ClassId) (p8 : Int32) (p9 : Int32) (p10 : Int32) (p11 : Int32) (p12 : Int32) (p13 : Int32) (p14 : Int32) (p15 : Int32) (p16 : Int32) (p17 : Int32) (h0 : Heap) (n0 : Nat) (v : Option Value) (h : Heap) : Prop :=
  (v = some (.int (1 : Int32)) ∧ h0 = h)
set_option maxRecDepth 65536 in
set_option maxHeartbeats 40000000 in
theorem rm_21 (l : Launch) (Z : State) (a0 : Array Value) (hw : ∀ d ∈ tables_1, d.before a0 Z = true) (ws : List Jvm.Cond) (w0 : Addr) (kw0 : ClassId) (p2 : Int32) (p3 : Int32) (w4 : Addr) (kw4 : ClassId) (w6 : Addr) (kw6 : ClassId) (p8 : Int32) (p9 : Int32) (p10 : Int32) (p11 : Int32) (p12 : Int32) (p13 : Int32) (p14 : Int32) (p15 : Int32) (p16 : Int32) (p17 : Int32) (h0 : Heap) (n0 : Nat) (Z0 : n0 ≤ h0.size) (E_w0 : Exa Z h0 w0 "[B") (V_w0 : Arv Z h0 w0 kw0 .byte (2 : Int32) [(.int p2), (.int p3)] (.int (0 : Int32))) (g_w0 : n0 ≤ w0) (E_w4 : Exa Z h0 w4 "[B") (V_w4 : Arv Z h0 w4 kw4 .byte (0 : Int32) [] (.int (0 : Int32))) (g_w4 : n0 ≤ w4) (E_w6 : Exa Z h0 w6 "[B") (V_w6 : Arv Z h0 w6 kw6 .byte (4 : Int32) [(.int p2), (.int p3), (.int p8), (.int p9)] (.int (0 : Int32))) (g_w6 : n0 ≤ w6) (ne_w0_w4 : w0 ≠ w4) (ne_w0_w6 : w0 ≠ w6) (ne_w4_w6 : w4 ≠ w6) (hp0 : p10.toInt8.toInt32 = p2) (hp1 : p11.toInt8.toInt32 = p3) (hp2 : p12.toInt8.toInt32 = p8) (hp3 : p13.toInt8.toInt32 = p9) (hp4 : own_F_pick p14 = p10) (hp5 : own_F_pick p15 = p11) (hp6 : own_F_pick p16 = p12) (hp7 : own_F_pick p17 = p13) (hp8 : p3 = (-1 : Int32)) (hp9 : p2 = (-1 : Int32)) :
    MetFree l (⟨"com/example/keyer/keyer/QuerySuccessorPinLaw", "ok", "([B[B[BIII)Z"⟩ : MethodName) (head1 (Jvm.Cond.code (⟨"com/example/keyer/keyer/QuerySuccessorPinLaw", "ok", "([B[B[BIII)Z"⟩ : MethodName) method_3_code 6 (some .boolean) :: ws) ({ frames := 0, cells := 0, slots := 0, locals := 0 } : Room)) (fun a U => a = #[(.ref w0), (.ref w4), (.ref w6), (.int (2 : Int32)), (.int (0 : Int32)), (.int (0 : Int32))] ∧ Z.Warmed39 U.vm ∧ U.heap = h0) (fun _ _ _ _ _ => True) (fun _ U o U' => ∃ v L, o = .returned v ∧ (Fr n0 L ∧ Q_21 Z w0 kw0 p2 p3 w4 kw4 w6 kw6 p8 p9 p10 p11 p12 p13 p14 p15 p16 p17 h0 n0 v U'.heap) ∧ FrameEnd U o U' L ({ frames := 0, cells := 0, slots := 0, locals := 0 } : Room).cells ({ frames := 0, cells := 0, slots := 0, locals := 0 } : Room).slots) := by
  refine own_enter (Q := Q_21 Z w0 kw0 p2 p3 w4 kw4 w6 kw6 p8 p9 p10 p11 p12 p13 p14 p15 p16 p17 h0 n0) (F := fun m => mkF m 0 #[.val (.ref w0), .val (.ref w4), .val (.ref w6), .val (.int (2 : Int32)), .val (.int (0 : Int32)), .val (.int (0 : Int32))] []) (plainFor_of_name pn_0) (fun m => by first | (simp [entryFrame, mkF, argsToLocals, Value.category]; done) | rfl) ?_
  intro p e s m below meth c s₁ B X0
  have K : Keep h0 h0 [] := Keep.refl h0 _
  refine own_iload (pc' := 2) B X0 d3_0 rfl rfl ?_
  refine own_iloadN (pc' := 3) B X0 d3_2 rfl rfl ?_
  refine own_icmpYes (pc' := 8) B X0 d3_3 (tlt (by decide : (0 : Int32) < (2 : Int32))).1 (by decide) rfl ?_
  refine own_aloadN (pc' := 9) B X0 d3_8 rfl rfl rfl ?_
  refine own_iload (pc' := 11) B X0 d3_9 rfl rfl ?_
  refine own_baload (pc' := 12) B X0 V_w0 (v := (.int p2)) ⟨by decide, by decide⟩ rfl d3_11 rfl ?_
  refine own_aloadN (pc' := 13) B X0 d3_12 rfl rfl rfl ?_
  refine own_iload (pc' := 15) B X0 d3_13 rfl rfl ?_
  refine own_baload (pc' := 16) B X0 V_w6 (v := (.int p2)) ⟨by decide, by decide⟩ rfl d3_15 rfl ?_
  refine own_icmpYes (pc' := 21) B X0 d3_16 (teq rfl).1 (by decide) rfl ?_
  refine own_iload (pc' := 23) B X0 d3_21 rfl rfl ?_
  refine own_iload (pc' := 25) B X0 d3_23 rfl rfl ?_
  refine own_icmpNo (pc' := 28) B X0 d3_25 (flt (by decide : ¬ ((0 : Int32) < (0 : Int32)))).1 rfl ?_
  refine own_aloadN (pc' := 29) B X0 d3_28 rfl rfl rfl ?_
  refine own_iload (pc' := 31) B X0 d3_29 rfl rfl ?_
  refine own_baload (pc' := 32) B X0 V_w0 (v := (.int p2)) ⟨by decide, by decide⟩ rfl d3_31 rfl ?_
  refine own_iconst (pc' := 33) B X0 (z := (-1 : Int32)) d3_32 rfl rfl ?_
  refine own_icmpNo (pc' := 36) B X0 d3_33 (teq hp9).2 rfl ?_
  refine own_iconst (pc' := 37) B X0 (z := (1 : Int32)) d3_36 rfl rfl ?_
  refine own_goto (pc' := 41) B X0 d3_37 (by decide) rfl ?_
  exact own_retN B X0 (t := .boolean) (z' := (1 : Int32)) (by simp) (by decide) d3_41 (by decide) (by decide) (⟨rfl, rfl⟩)
def Q_22 (Z : State) (w0 : Addr) (kw0 : ClassId) (p2 : Int32) (p3 : Int32) (w4 : Addr) (kw4 : ClassId) (w6 : Addr) (kw6 : ClassId) (p8 : Int32) (p9 : Int32) (p10 : Int32) (p11 : Int32) (p12 : Int32) (p13 : Int32) (p14 : Int32) (p15 : Int32) (p16 : Int32) (p17 : Int32) (h0 : Heap) (n0 : Nat) (v : Option Value) (h : Heap) : Prop :=
  (v = some (.int (1 : Int32)) ∧ h0 = h)
set_option maxRecDepth 65536 in
set_option maxHeartbeats 40000000 in
theorem rm_22 (l : Launch) (Z : State) (a0 : Array Value) (hw : ∀ d ∈ tables_1, d.before a0 Z = true) (ws : List Jvm.Cond) (w0 : Addr) (kw0 : ClassId) (p2 : Int32) (p3 : Int32) (w4 : Addr) (kw4 : ClassId) (w6 : Addr) (kw6 : ClassId) (p8 : Int32) (p9 : Int32) (p10 : Int32) (p11 : Int32) (p12 : Int32) (p13 : Int32) (p14 : Int32) (p15 : Int32) (p16 : Int32) (p17 : Int32) (h0 : Heap) (n0 : Nat) (Z0 : n0 ≤ h0.size) (E_w0 : Exa Z h0 w0 "[B") (V_w0 : Arv Z h0 w0 kw0 .byte (2 : Int32) [(.int p2), (.int p3)] (.int (0 : Int32))) (g_w0 : n0 ≤ w0) (E_w4 : Exa Z h0 w4 "[B") (V_w4 : Arv Z h0 w4 kw4 .byte (0 : Int32) [] (.int (0 : Int32))) (g_w4 : n0 ≤ w4) (E_w6 : Exa Z h0 w6 "[B") (V_w6 : Arv Z h0 w6 kw6 .byte (4 : Int32) [(.int p2), (.int p3), (.int p8), (.int p9)] (.int (0 : Int32))) (g_w6 : n0 ≤ w6) (ne_w0_w4 : w0 ≠ w4) (ne_w0_w6 : w0 ≠ w6) (ne_w4_w6 : w4 ≠ w6) (hp0 : p10.toInt8.toInt32 = p2) (hp1 : p11.toInt8.toInt32 = p3) (hp2 : p12.toInt8.toInt32 = p8) (hp3 : p13.toInt8.toInt32 = p9) (hp4 : own_F_pick p14 = p10) (hp5 : own_F_pick p15 = p11) (hp6 : own_F_pick p16 = p12) (hp7 : own_F_pick p17 = p13) (hp8 : p3 = (-1 : Int32)) (hp9 : p2 = (-1 : Int32)) :
    MetFree l (⟨"com/example/keyer/keyer/QuerySuccessorPinLaw", "ok", "([B[B[BIII)Z"⟩ : MethodName) (head1 (Jvm.Cond.code (⟨"com/example/keyer/keyer/QuerySuccessorPinLaw", "ok", "([B[B[BIII)Z"⟩ : MethodName) method_3_code 6 (some .boolean) :: ws) ({ frames := 0, cells := 0, slots := 0, locals := 0 } : Room)) (fun a U => a = #[(.ref w0), (.ref w4), (.ref w6), (.int (2 : Int32)), (.int (0 : Int32)), (.int (1 : Int32))] ∧ Z.Warmed39 U.vm ∧ U.heap = h0) (fun _ _ _ _ _ => True) (fun _ U o U' => ∃ v L, o = .returned v ∧ (Fr n0 L ∧ Q_22 Z w0 kw0 p2 p3 w4 kw4 w6 kw6 p8 p9 p10 p11 p12 p13 p14 p15 p16 p17 h0 n0 v U'.heap) ∧ FrameEnd U o U' L ({ frames := 0, cells := 0, slots := 0, locals := 0 } : Room).cells ({ frames := 0, cells := 0, slots := 0, locals := 0 } : Room).slots) := by
  refine own_enter (Q := Q_22 Z w0 kw0 p2 p3 w4 kw4 w6 kw6 p8 p9 p10 p11 p12 p13 p14 p15 p16 p17 h0 n0) (F := fun m => mkF m 0 #[.val (.ref w0), .val (.ref w4), .val (.ref w6), .val (.int (2 : Int32)), .val (.int (0 : Int32)), .val (.int (1 : Int32))] []) (plainFor_of_name pn_0) (fun m => by first | (simp [entryFrame, mkF, argsToLocals, Value.category]; done) | rfl) ?_
  intro p e s m below meth c s₁ B X0
  have K : Keep h0 h0 [] := Keep.refl h0 _
  refine own_iload (pc' := 2) B X0 d3_0 rfl rfl ?_
  refine own_iloadN (pc' := 3) B X0 d3_2 rfl rfl ?_
  refine own_icmpYes (pc' := 8) B X0 d3_3 (tlt (by decide : (1 : Int32) < (2 : Int32))).1 (by decide) rfl ?_
  refine own_aloadN (pc' := 9) B X0 d3_8 rfl rfl rfl ?_
  refine own_iload (pc' := 11) B X0 d3_9 rfl rfl ?_
  refine own_baload (pc' := 12) B X0 V_w0 (v := (.int p3)) ⟨by decide, by decide⟩ rfl d3_11 rfl ?_
  refine own_aloadN (pc' := 13) B X0 d3_12 rfl rfl rfl ?_
  refine own_iload (pc' := 15) B X0 d3_13 rfl rfl ?_
  refine own_baload (pc' := 16) B X0 V_w6 (v := (.int p3)) ⟨by decide, by decide⟩ rfl d3_15 rfl ?_
  refine own_icmpYes (pc' := 21) B X0 d3_16 (teq rfl).1 (by decide) rfl ?_
  refine own_iload (pc' := 23) B X0 d3_21 rfl rfl ?_
  refine own_iload (pc' := 25) B X0 d3_23 rfl rfl ?_
  refine own_icmpNo (pc' := 28) B X0 d3_25 (flt (by decide : ¬ ((1 : Int32) < (0 : Int32)))).1 rfl ?_
  refine own_aloadN (pc' := 29) B X0 d3_28 rfl rfl rfl ?_
  refine own_iload (pc' := 31) B X0 d3_29 rfl rfl ?_
  refine own_baload (pc' := 32) B X0 V_w0 (v := (.int p3)) ⟨by decide, by decide⟩ rfl d3_31 rfl ?_
  refine own_iconst (pc' := 33) B X0 (z := (-1 : Int32)) d3_32 rfl rfl ?_
  refine own_icmpNo (pc' := 36) B X0 d3_33 (teq hp8).2 rfl ?_
  refine own_iconst (pc' := 37) B X0 (z := (1 : Int32)) d3_36 rfl rfl ?_
  refine own_goto (pc' := 41) B X0 d3_37 (by decide) rfl ?_
  exact own_retN B X0 (t := .boolean) (z' := (1 : Int32)) (by simp) (by decide) d3_41 (by decide) (by decide) (⟨rfl, rfl⟩)
def Q_23 (Z : State) (w0 : Addr) (kw0 : ClassId) (p2 : Int32) (p3 : Int32) (w4 : Addr) (kw4 : ClassId) (w6 : Addr) (kw6 : ClassId) (p8 : Int32) (p9 : Int32) (p10 : Int32) (p11 : Int32) (p12 : Int32) (p13 : Int32) (p14 : Int32) (p15 : Int32) (p16 : Int32) (p17 : Int32) (h0 : Heap) (n0 : Nat) (v : Option Value) (h : Heap) : Prop :=
  (v = some (.int (1 : Int32)) ∧ h0 = h)
set_option maxRecDepth 65536 in
set_option maxHeartbeats 40000000 in
theorem rm_23 (l : Launch) (Z : State) (a0 : Array Value) (hw : ∀ d ∈ tables_1, d.before a0 Z = true) (ws : List Jvm.Cond) (w0 : Addr) (kw0 : ClassId) (p2 : Int32) (p3 : Int32) (w4 : Addr) (kw4 : ClassId) (w6 : Addr) (kw6 : ClassId) (p8 : Int32) (p9 : Int32) (p10 : Int32) (p11 : Int32) (p12 : Int32) (p13 : Int32) (p14 : Int32) (p15 : Int32) (p16 : Int32) (p17 : Int32) (h0 : Heap) (n0 : Nat) (Z0 : n0 ≤ h0.size) (E_w0 : Exa Z h0 w0 "[B") (V_w0 : Arv Z h0 w0 kw0 .byte (2 : Int32) [(.int p2), (.int p3)] (.int (0 : Int32))) (g_w0 : n0 ≤ w0) (E_w4 : Exa Z h0 w4 "[B") (V_w4 : Arv Z h0 w4 kw4 .byte (0 : Int32) [] (.int (0 : Int32))) (g_w4 : n0 ≤ w4) (E_w6 : Exa Z h0 w6 "[B") (V_w6 : Arv Z h0 w6 kw6 .byte (4 : Int32) [(.int p2), (.int p3), (.int p8), (.int p9)] (.int (0 : Int32))) (g_w6 : n0 ≤ w6) (ne_w0_w4 : w0 ≠ w4) (ne_w0_w6 : w0 ≠ w6) (ne_w4_w6 : w4 ≠ w6) (hp0 : p10.toInt8.toInt32 = p2) (hp1 : p11.toInt8.toInt32 = p3) (hp2 : p12.toInt8.toInt32 = p8) (hp3 : p13.toInt8.toInt32 = p9) (hp4 : own_F_pick p14 = p10) (hp5 : own_F_pick p15 = p11) (hp6 : own_F_pick p16 = p12) (hp7 : own_F_pick p17 = p13) (hp8 : p3 = (-1 : Int32)) (hp9 : p2 = (-1 : Int32)) :
    MetFree l (⟨"com/example/keyer/keyer/QuerySuccessorPinLaw", "ok", "([B[B[BIII)Z"⟩ : MethodName) (head1 (Jvm.Cond.code (⟨"com/example/keyer/keyer/QuerySuccessorPinLaw", "ok", "([B[B[BIII)Z"⟩ : MethodName) method_3_code 6 (some .boolean) :: ws) ({ frames := 0, cells := 0, slots := 0, locals := 0 } : Room)) (fun a U => a = #[(.ref w0), (.ref w4), (.ref w6), (.int (2 : Int32)), (.int (0 : Int32)), (.int (2 : Int32))] ∧ Z.Warmed39 U.vm ∧ U.heap = h0) (fun _ _ _ _ _ => True) (fun _ U o U' => ∃ v L, o = .returned v ∧ (Fr n0 L ∧ Q_23 Z w0 kw0 p2 p3 w4 kw4 w6 kw6 p8 p9 p10 p11 p12 p13 p14 p15 p16 p17 h0 n0 v U'.heap) ∧ FrameEnd U o U' L ({ frames := 0, cells := 0, slots := 0, locals := 0 } : Room).cells ({ frames := 0, cells := 0, slots := 0, locals := 0 } : Room).slots) := by
  refine own_enter (Q := Q_23 Z w0 kw0 p2 p3 w4 kw4 w6 kw6 p8 p9 p10 p11 p12 p13 p14 p15 p16 p17 h0 n0) (F := fun m => mkF m 0 #[.val (.ref w0), .val (.ref w4), .val (.ref w6), .val (.int (2 : Int32)), .val (.int (0 : Int32)), .val (.int (2 : Int32))] []) (plainFor_of_name pn_0) (fun m => by first | (simp [entryFrame, mkF, argsToLocals, Value.category]; done) | rfl) ?_
  intro p e s m below meth c s₁ B X0
  have K : Keep h0 h0 [] := Keep.refl h0 _
  refine own_iload (pc' := 2) B X0 d3_0 rfl rfl ?_
  refine own_iloadN (pc' := 3) B X0 d3_2 rfl rfl ?_
  refine own_icmpNo (pc' := 6) B X0 d3_3 (flt (by decide : ¬ ((2 : Int32) < (2 : Int32)))).1 rfl ?_
  refine own_iconst (pc' := 7) B X0 (z := (1 : Int32)) d3_6 rfl rfl ?_
  exact own_retN B X0 (t := .boolean) (z' := (1 : Int32)) (by simp) (by decide) d3_7 (by decide) (by decide) (⟨rfl, rfl⟩)
def Q_24 (Z : State) (w0 : Addr) (kw0 : ClassId) (p2 : Int32) (p3 : Int32) (w4 : Addr) (kw4 : ClassId) (w6 : Addr) (kw6 : ClassId) (p8 : Int32) (p9 : Int32) (p10 : Int32) (p11 : Int32) (p12 : Int32) (p13 : Int32) (p14 : Int32) (p15 : Int32) (p16 : Int32) (p17 : Int32) (h0 : Heap) (n0 : Nat) (v : Option Value) (h : Heap) : Prop :=
  (v = some (.int (1 : Int32)) ∧ h0 = h)
set_option maxRecDepth 65536 in
set_option maxHeartbeats 40000000 in
theorem rm_24 (l : Launch) (Z : State) (a0 : Array Value) (hw : ∀ d ∈ tables_1, d.before a0 Z = true) (ws : List Jvm.Cond) (w0 : Addr) (kw0 : ClassId) (p2 : Int32) (p3 : Int32) (w4 : Addr) (kw4 : ClassId) (w6 : Addr) (kw6 : ClassId) (p8 : Int32) (p9 : Int32) (p10 : Int32) (p11 : Int32) (p12 : Int32) (p13 : Int32) (p14 : Int32) (p15 : Int32) (p16 : Int32) (p17 : Int32) (h0 : Heap) (n0 : Nat) (Z0 : n0 ≤ h0.size) (E_w0 : Exa Z h0 w0 "[B") (V_w0 : Arv Z h0 w0 kw0 .byte (2 : Int32) [(.int p2), (.int p3)] (.int (0 : Int32))) (g_w0 : n0 ≤ w0) (E_w4 : Exa Z h0 w4 "[B") (V_w4 : Arv Z h0 w4 kw4 .byte (0 : Int32) [] (.int (0 : Int32))) (g_w4 : n0 ≤ w4) (E_w6 : Exa Z h0 w6 "[B") (V_w6 : Arv Z h0 w6 kw6 .byte (4 : Int32) [(.int p2), (.int p3), (.int p8), (.int p9)] (.int (0 : Int32))) (g_w6 : n0 ≤ w6) (ne_w0_w4 : w0 ≠ w4) (ne_w0_w6 : w0 ≠ w6) (ne_w4_w6 : w4 ≠ w6) (hp0 : p10.toInt8.toInt32 = p2) (hp1 : p11.toInt8.toInt32 = p3) (hp2 : p12.toInt8.toInt32 = p8) (hp3 : p13.toInt8.toInt32 = p9) (hp4 : own_F_pick p14 = p10) (hp5 : own_F_pick p15 = p11) (hp6 : own_F_pick p16 = p12) (hp7 : own_F_pick p17 = p13) (hp8 : p3 = (-1 : Int32)) (hp9 : p2 = (-1 : Int32)) :
    MetFree l (⟨"com/example/keyer/keyer/QuerySuccessorPinLaw", "ok", "([B[B[BIII)Z"⟩ : MethodName) (head1 (Jvm.Cond.code (⟨"com/example/keyer/keyer/QuerySuccessorPinLaw", "ok", "([B[B[BIII)Z"⟩ : MethodName) method_3_code 6 (some .boolean) :: ws) ({ frames := 0, cells := 0, slots := 0, locals := 0 } : Room)) (fun a U => a = #[(.ref w0), (.ref w4), (.ref w6), (.int (2 : Int32)), (.int (0 : Int32)), (.int (3 : Int32))] ∧ Z.Warmed39 U.vm ∧ U.heap = h0) (fun _ _ _ _ _ => True) (fun _ U o U' => ∃ v L, o = .returned v ∧ (Fr n0 L ∧ Q_24 Z w0 kw0 p2 p3 w4 kw4 w6 kw6 p8 p9 p10 p11 p12 p13 p14 p15 p16 p17 h0 n0 v U'.heap) ∧ FrameEnd U o U' L ({ frames := 0, cells := 0, slots := 0, locals := 0 } : Room).cells ({ frames := 0, cells := 0, slots := 0, locals := 0 } : Room).slots) := by
  refine own_enter (Q := Q_24 Z w0 kw0 p2 p3 w4 kw4 w6 kw6 p8 p9 p10 p11 p12 p13 p14 p15 p16 p17 h0 n0) (F := fun m => mkF m 0 #[.val (.ref w0), .val (.ref w4), .val (.ref w6), .val (.int (2 : Int32)), .val (.int (0 : Int32)), .val (.int (3 : Int32))] []) (plainFor_of_name pn_0) (fun m => by first | (simp [entryFrame, mkF, argsToLocals, Value.category]; done) | rfl) ?_
  intro p e s m below meth c s₁ B X0
  have K : Keep h0 h0 [] := Keep.refl h0 _
  refine own_iload (pc' := 2) B X0 d3_0 rfl rfl ?_
  refine own_iloadN (pc' := 3) B X0 d3_2 rfl rfl ?_
  refine own_icmpNo (pc' := 6) B X0 d3_3 (flt (by decide : ¬ ((3 : Int32) < (2 : Int32)))).1 rfl ?_
  refine own_iconst (pc' := 7) B X0 (z := (1 : Int32)) d3_6 rfl rfl ?_
  exact own_retN B X0 (t := .boolean) (z' := (1 : Int32)) (by simp) (by decide) d3_7 (by decide) (by decide) (⟨rfl, rfl⟩)
def Q_25 (Z : State) (w0 : Addr) (kw0 : ClassId) (p2 : Int32) (p3 : Int32) (w4 : Addr) (kw4 : ClassId) (p6 : Int32) (w7 : Addr) (kw7 : ClassId) (p9 : Int32) (p10 : Int32) (p11 : Int32) (p12 : Int32) (p13 : Int32) (p14 : Int32) (p15 : Int32) (p16 : Int32) (p17 : Int32) (p18 : Int32) (p19 : Int32) (h0 : Heap) (n0 : Nat) (v : Option Value) (h : Heap) : Prop :=
  (v = some (.int (1 : Int32)) ∧ h0 = h)
set_option maxRecDepth 65536 in
set_option maxHeartbeats 40000000 in
theorem rm_25 (l : Launch) (Z : State) (a0 : Array Value) (hw : ∀ d ∈ tables_1, d.before a0 Z = true) (ws : List Jvm.Cond) (w0 : Addr) (kw0 : ClassId) (p2 : Int32) (p3 : Int32) (w4 : Addr) (kw4 : ClassId) (p6 : Int32) (w7 : Addr) (kw7 : ClassId) (p9 : Int32) (p10 : Int32) (p11 : Int32) (p12 : Int32) (p13 : Int32) (p14 : Int32) (p15 : Int32) (p16 : Int32) (p17 : Int32) (p18 : Int32) (p19 : Int32) (h0 : Heap) (n0 : Nat) (Z0 : n0 ≤ h0.size) (E_w0 : Exa Z h0 w0 "[B") (V_w0 : Arv Z h0 w0 kw0 .byte (2 : Int32) [(.int p2), (.int p3)] (.int (0 : Int32))) (g_w0 : n0 ≤ w0) (E_w4 : Exa Z h0 w4 "[B") (V_w4 : Arv Z h0 w4 kw4 .byte (1 : Int32) [(.int p6)] (.int (0 : Int32))) (g_w4 : n0 ≤ w4) (E_w7 : Exa Z h0 w7 "[B") (V_w7 : Arv Z h0 w7 kw7 .byte (4 : Int32) [(.int p2), (.int p3), (.int p9), (.int p10)] (.int (0 : Int32))) (g_w7 : n0 ≤ w7) (ne_w0_w4 : w0 ≠ w4) (ne_w0_w7 : w0 ≠ w7) (ne_w4_w7 : w4 ≠ w7) (hp0 : p11.toInt8.toInt32 = p2) (hp1 : p12.toInt8.toInt32 = p3) (hp2 : p13.toInt8.toInt32 = p9) (hp3 : p14.toInt8.toInt32 = p10) (hp4 : p15.toInt8.toInt32 = p6) (hp5 : own_F_pick p16 = p11) (hp6 : own_F_pick p17 = p12) (hp7 : own_F_pick p18 = p13) (hp8 : own_F_pick p19 = p14) (hp9 : p2 + (1 : Int32) = p15) (hp10 : p3 = (-1 : Int32)) (hp11 : ¬ (p2 = (-1 : Int32))) :
    MetFree l (⟨"com/example/keyer/keyer/QuerySuccessorPinLaw", "ok", "([B[B[BIII)Z"⟩ : MethodName) (head1 (Jvm.Cond.code (⟨"com/example/keyer/keyer/QuerySuccessorPinLaw", "ok", "([B[B[BIII)Z"⟩ : MethodName) method_3_code 6 (some .boolean) :: ws) ({ frames := 0, cells := 0, slots := 0, locals := 0 } : Room)) (fun a U => a = #[(.ref w0), (.ref w4), (.ref w7), (.int (2 : Int32)), (.int (1 : Int32)), (.int (0 : Int32))] ∧ Z.Warmed39 U.vm ∧ U.heap = h0) (fun _ _ _ _ _ => True) (fun _ U o U' => ∃ v L, o = .returned v ∧ (Fr n0 L ∧ Q_25 Z w0 kw0 p2 p3 w4 kw4 p6 w7 kw7 p9 p10 p11 p12 p13 p14 p15 p16 p17 p18 p19 h0 n0 v U'.heap) ∧ FrameEnd U o U' L ({ frames := 0, cells := 0, slots := 0, locals := 0 } : Room).cells ({ frames := 0, cells := 0, slots := 0, locals := 0 } : Room).slots) := by
  refine own_enter (Q := Q_25 Z w0 kw0 p2 p3 w4 kw4 p6 w7 kw7 p9 p10 p11 p12 p13 p14 p15 p16 p17 p18 p19 h0 n0) (F := fun m => mkF m 0 #[.val (.ref w0), .val (.ref w4), .val (.ref w7), .val (.int (2 : Int32)), .val (.int (1 : Int32)), .val (.int (0 : Int32))] []) (plainFor_of_name pn_0) (fun m => by first | (simp [entryFrame, mkF, argsToLocals, Value.category]; done) | rfl) ?_
  intro p e s m below meth c s₁ B X0
  have K : Keep h0 h0 [] := Keep.refl h0 _
  refine own_iload (pc' := 2) B X0 d3_0 rfl rfl ?_
  refine own_iloadN (pc' := 3) B X0 d3_2 rfl rfl ?_
  refine own_icmpYes (pc' := 8) B X0 d3_3 (tlt (by decide : (0 : Int32) < (2 : Int32))).1 (by decide) rfl ?_
  refine own_aloadN (pc' := 9) B X0 d3_8 rfl rfl rfl ?_
  refine own_iload (pc' := 11) B X0 d3_9 rfl rfl ?_
  refine own_baload (pc' := 12) B X0 V_w0 (v := (.int p2)) ⟨by decide, by decide⟩ rfl d3_11 rfl ?_
  refine own_aloadN (pc' := 13) B X0 d3_12 rfl rfl rfl ?_
  refine own_iload (pc' := 15) B X0 d3_13 rfl rfl ?_
  refine own_baload (pc' := 16) B X0 V_w7 (v := (.int p2)) ⟨by decide, by decide⟩ rfl d3_15 rfl ?_
  refine own_icmpYes (pc' := 21) B X0 d3_16 (teq rfl).1 (by decide) rfl ?_
  refine own_iload (pc' := 23) B X0 d3_21 rfl rfl ?_
  refine own_iload (pc' := 25) B X0 d3_23 rfl rfl ?_
  refine own_icmpYes (pc' := 42) B X0 d3_25 (tlt (by decide : (0 : Int32) < (1 : Int32))).1 (by decide) rfl ?_
  refine own_iload (pc' := 44) B X0 d3_42 rfl rfl ?_
  refine own_iload (pc' := 46) B X0 d3_44 rfl rfl ?_
  refine own_iconst (pc' := 47) B X0 (z := (1 : Int32)) d3_46 rfl rfl ?_
  refine own_isub (pc' := 48) B X0 (z := (0 : Int32)) d3_47 rfl (by decide) ?_
  refine own_icmpYes (pc' := 68) B X0 d3_48 (flt (by decide : ¬ ((0 : Int32) < (0 : Int32)))).2.1 (by decide) rfl ?_
  refine own_aloadN (pc' := 69) B X0 d3_68 rfl rfl rfl ?_
  refine own_iload (pc' := 71) B X0 d3_69 rfl rfl ?_
  refine own_baload (pc' := 72) B X0 V_w0 (v := (.int p2)) ⟨by decide, by decide⟩ rfl d3_71 rfl ?_
  refine own_iconst (pc' := 73) B X0 (z := (-1 : Int32)) d3_72 rfl rfl ?_
  refine own_icmpNo (pc' := 76) B X0 d3_73 (feq hp11).1 rfl ?_
  refine own_aloadN (pc' := 77) B X0 d3_76 rfl rfl rfl ?_
  refine own_iload (pc' := 79) B X0 d3_77 rfl rfl ?_
  refine own_baload (pc' := 80) B X0 V_w4 (v := (.int p6)) ⟨by decide, by decide⟩ rfl d3_79 rfl ?_
  refine own_aloadN (pc' := 81) B X0 d3_80 rfl rfl rfl ?_
  refine own_iload (pc' := 83) B X0 d3_81 rfl rfl ?_
  refine own_baload (pc' := 84) B X0 V_w0 (v := (.int p2)) ⟨by decide, by decide⟩ rfl d3_83 rfl ?_
  refine own_iconst (pc' := 85) B X0 (z := (1 : Int32)) d3_84 rfl rfl ?_
  refine own_iadd (pc' := 86) B X0 d3_85 rfl hp9 ?_
  refine own_i2b (pc' := 87) B X0 d3_86 rfl hp4 ?_
  refine own_icmpNo (pc' := 90) B X0 d3_87 (teq rfl).2 rfl ?_
  refine own_iconst (pc' := 91) B X0 (z := (1 : Int32)) d3_90 rfl rfl ?_
  refine own_goto (pc' := 95) B X0 d3_91 (by decide) rfl ?_
  exact own_retN B X0 (t := .boolean) (z' := (1 : Int32)) (by simp) (by decide) d3_95 (by decide) (by decide) (⟨rfl, rfl⟩)
def Q_26 (Z : State) (w0 : Addr) (kw0 : ClassId) (p2 : Int32) (p3 : Int32) (w4 : Addr) (kw4 : ClassId) (p6 : Int32) (w7 : Addr) (kw7 : ClassId) (p9 : Int32) (p10 : Int32) (p11 : Int32) (p12 : Int32) (p13 : Int32) (p14 : Int32) (p15 : Int32) (p16 : Int32) (p17 : Int32) (p18 : Int32) (p19 : Int32) (h0 : Heap) (n0 : Nat) (v : Option Value) (h : Heap) : Prop :=
  (v = some (.int (1 : Int32)) ∧ h0 = h)
set_option maxRecDepth 65536 in
set_option maxHeartbeats 40000000 in
theorem rm_26 (l : Launch) (Z : State) (a0 : Array Value) (hw : ∀ d ∈ tables_1, d.before a0 Z = true) (ws : List Jvm.Cond) (w0 : Addr) (kw0 : ClassId) (p2 : Int32) (p3 : Int32) (w4 : Addr) (kw4 : ClassId) (p6 : Int32) (w7 : Addr) (kw7 : ClassId) (p9 : Int32) (p10 : Int32) (p11 : Int32) (p12 : Int32) (p13 : Int32) (p14 : Int32) (p15 : Int32) (p16 : Int32) (p17 : Int32) (p18 : Int32) (p19 : Int32) (h0 : Heap) (n0 : Nat) (Z0 : n0 ≤ h0.size) (E_w0 : Exa Z h0 w0 "[B") (V_w0 : Arv Z h0 w0 kw0 .byte (2 : Int32) [(.int p2), (.int p3)] (.int (0 : Int32))) (g_w0 : n0 ≤ w0) (E_w4 : Exa Z h0 w4 "[B") (V_w4 : Arv Z h0 w4 kw4 .byte (1 : Int32) [(.int p6)] (.int (0 : Int32))) (g_w4 : n0 ≤ w4) (E_w7 : Exa Z h0 w7 "[B") (V_w7 : Arv Z h0 w7 kw7 .byte (4 : Int32) [(.int p2), (.int p3), (.int p9), (.int p10)] (.int (0 : Int32))) (g_w7 : n0 ≤ w7) (ne_w0_w4 : w0 ≠ w4) (ne_w0_w7 : w0 ≠ w7) (ne_w4_w7 : w4 ≠ w7) (hp0 : p11.toInt8.toInt32 = p2) (hp1 : p12.toInt8.toInt32 = p3) (hp2 : p13.toInt8.toInt32 = p9) (hp3 : p14.toInt8.toInt32 = p10) (hp4 : p15.toInt8.toInt32 = p6) (hp5 : own_F_pick p16 = p11) (hp6 : own_F_pick p17 = p12) (hp7 : own_F_pick p18 = p13) (hp8 : own_F_pick p19 = p14) (hp9 : p2 + (1 : Int32) = p15) (hp10 : p3 = (-1 : Int32)) (hp11 : ¬ (p2 = (-1 : Int32))) :
    MetFree l (⟨"com/example/keyer/keyer/QuerySuccessorPinLaw", "ok", "([B[B[BIII)Z"⟩ : MethodName) (head1 (Jvm.Cond.code (⟨"com/example/keyer/keyer/QuerySuccessorPinLaw", "ok", "([B[B[BIII)Z"⟩ : MethodName) method_3_code 6 (some .boolean) :: ws) ({ frames := 0, cells := 0, slots := 0, locals := 0 } : Room)) (fun a U => a = #[(.ref w0), (.ref w4), (.ref w7), (.int (2 : Int32)), (.int (1 : Int32)), (.int (1 : Int32))] ∧ Z.Warmed39 U.vm ∧ U.heap = h0) (fun _ _ _ _ _ => True) (fun _ U o U' => ∃ v L, o = .returned v ∧ (Fr n0 L ∧ Q_26 Z w0 kw0 p2 p3 w4 kw4 p6 w7 kw7 p9 p10 p11 p12 p13 p14 p15 p16 p17 p18 p19 h0 n0 v U'.heap) ∧ FrameEnd U o U' L ({ frames := 0, cells := 0, slots := 0, locals := 0 } : Room).cells ({ frames := 0, cells := 0, slots := 0, locals := 0 } : Room).slots) := by
  refine own_enter (Q := Q_26 Z w0 kw0 p2 p3 w4 kw4 p6 w7 kw7 p9 p10 p11 p12 p13 p14 p15 p16 p17 p18 p19 h0 n0) (F := fun m => mkF m 0 #[.val (.ref w0), .val (.ref w4), .val (.ref w7), .val (.int (2 : Int32)), .val (.int (1 : Int32)), .val (.int (1 : Int32))] []) (plainFor_of_name pn_0) (fun m => by first | (simp [entryFrame, mkF, argsToLocals, Value.category]; done) | rfl) ?_
  intro p e s m below meth c s₁ B X0
  have K : Keep h0 h0 [] := Keep.refl h0 _
  refine own_iload (pc' := 2) B X0 d3_0 rfl rfl ?_
  refine own_iloadN (pc' := 3) B X0 d3_2 rfl rfl ?_
  refine own_icmpYes (pc' := 8) B X0 d3_3 (tlt (by decide : (1 : Int32) < (2 : Int32))).1 (by decide) rfl ?_
  refine own_aloadN (pc' := 9) B X0 d3_8 rfl rfl rfl ?_
  refine own_iload (pc' := 11) B X0 d3_9 rfl rfl ?_
  refine own_baload (pc' := 12) B X0 V_w0 (v := (.int p3)) ⟨by decide, by decide⟩ rfl d3_11 rfl ?_
  refine own_aloadN (pc' := 13) B X0 d3_12 rfl rfl rfl ?_
  refine own_iload (pc' := 15) B X0 d3_13 rfl rfl ?_
  refine own_baload (pc' := 16) B X0 V_w7 (v := (.int p3)) ⟨by decide, by decide⟩ rfl d3_15 rfl ?_
  refine own_icmpYes (pc' := 21) B X0 d3_16 (teq rfl).1 (by decide) rfl ?_
  refine own_iload (pc' := 23) B X0 d3_21 rfl rfl ?_
  refine own_iload (pc' := 25) B X0 d3_23 rfl rfl ?_
  refine own_icmpNo (pc' := 28) B X0 d3_25 (flt (by decide : ¬ ((1 : Int32) < (1 : Int32)))).1 rfl ?_
  refine own_aloadN (pc' := 29) B X0 d3_28 rfl rfl rfl ?_
  refine own_iload (pc' := 31) B X0 d3_29 rfl rfl ?_
  refine own_baload (pc' := 32) B X0 V_w0 (v := (.int p3)) ⟨by decide, by decide⟩ rfl d3_31 rfl ?_
  refine own_iconst (pc' := 33) B X0 (z := (-1 : Int32)) d3_32 rfl rfl ?_
  refine own_icmpNo (pc' := 36) B X0 d3_33 (teq hp10).2 rfl ?_
  refine own_iconst (pc' := 37) B X0 (z := (1 : Int32)) d3_36 rfl rfl ?_
  refine own_goto (pc' := 41) B X0 d3_37 (by decide) rfl ?_
  exact own_retN B X0 (t := .boolean) (z' := (1 : Int32)) (by simp) (by decide) d3_41 (by decide) (by decide) (⟨rfl, rfl⟩)
def Q_27 (Z : State) (w0 : Addr) (kw0 : ClassId) (p2 : Int32) (p3 : Int32) (w4 : Addr) (kw4 : ClassId) (p6 : Int32) (w7 : Addr) (kw7 : ClassId) (p9 : Int32) (p10 : Int32) (p11 : Int32) (p12 : Int32) (p13 : Int32) (p14 : Int32) (p15 : Int32) (p16 : Int32) (p17 : Int32) (p18 : Int32) (p19 : Int32) (h0 : Heap) (n0 : Nat) (v : Option Value) (h : Heap) : Prop :=
  (v = some (.int (1 : Int32)) ∧ h0 = h)
set_option maxRecDepth 65536 in
set_option maxHeartbeats 40000000 in
theorem rm_27 (l : Launch) (Z : State) (a0 : Array Value) (hw : ∀ d ∈ tables_1, d.before a0 Z = true) (ws : List Jvm.Cond) (w0 : Addr) (kw0 : ClassId) (p2 : Int32) (p3 : Int32) (w4 : Addr) (kw4 : ClassId) (p6 : Int32) (w7 : Addr) (kw7 : ClassId) (p9 : Int32) (p10 : Int32) (p11 : Int32) (p12 : Int32) (p13 : Int32) (p14 : Int32) (p15 : Int32) (p16 : Int32) (p17 : Int32) (p18 : Int32) (p19 : Int32) (h0 : Heap) (n0 : Nat) (Z0 : n0 ≤ h0.size) (E_w0 : Exa Z h0 w0 "[B") (V_w0 : Arv Z h0 w0 kw0 .byte (2 : Int32) [(.int p2), (.int p3)] (.int (0 : Int32))) (g_w0 : n0 ≤ w0) (E_w4 : Exa Z h0 w4 "[B") (V_w4 : Arv Z h0 w4 kw4 .byte (1 : Int32) [(.int p6)] (.int (0 : Int32))) (g_w4 : n0 ≤ w4) (E_w7 : Exa Z h0 w7 "[B") (V_w7 : Arv Z h0 w7 kw7 .byte (4 : Int32) [(.int p2), (.int p3), (.int p9), (.int p10)] (.int (0 : Int32))) (g_w7 : n0 ≤ w7) (ne_w0_w4 : w0 ≠ w4) (ne_w0_w7 : w0 ≠ w7) (ne_w4_w7 : w4 ≠ w7) (hp0 : p11.toInt8.toInt32 = p2) (hp1 : p12.toInt8.toInt32 = p3) (hp2 : p13.toInt8.toInt32 = p9) (hp3 : p14.toInt8.toInt32 = p10) (hp4 : p15.toInt8.toInt32 = p6) (hp5 : own_F_pick p16 = p11) (hp6 : own_F_pick p17 = p12) (hp7 : own_F_pick p18 = p13) (hp8 : own_F_pick p19 = p14) (hp9 : p2 + (1 : Int32) = p15) (hp10 : p3 = (-1 : Int32)) (hp11 : ¬ (p2 = (-1 : Int32))) :
    MetFree l (⟨"com/example/keyer/keyer/QuerySuccessorPinLaw", "ok", "([B[B[BIII)Z"⟩ : MethodName) (head1 (Jvm.Cond.code (⟨"com/example/keyer/keyer/QuerySuccessorPinLaw", "ok", "([B[B[BIII)Z"⟩ : MethodName) method_3_code 6 (some .boolean) :: ws) ({ frames := 0, cells := 0, slots := 0, locals := 0 } : Room)) (fun a U => a = #[(.ref w0), (.ref w4), (.ref w7), (.int (2 : Int32)), (.int (1 : Int32)), (.int (2 : Int32))] ∧ Z.Warmed39 U.vm ∧ U.heap = h0) (fun _ _ _ _ _ => True) (fun _ U o U' => ∃ v L, o = .returned v ∧ (Fr n0 L ∧ Q_27 Z w0 kw0 p2 p3 w4 kw4 p6 w7 kw7 p9 p10 p11 p12 p13 p14 p15 p16 p17 p18 p19 h0 n0 v U'.heap) ∧ FrameEnd U o U' L ({ frames := 0, cells := 0, slots := 0, locals := 0 } : Room).cells ({ frames := 0, cells := 0, slots := 0, locals := 0 } : Room).slots) := by
  refine own_enter (Q := Q_27 Z w0 kw0 p2 p3 w4 kw4 p6 w7 kw7 p9 p10 p11 p12 p13 p14 p15 p16 p17 p18 p19 h0 n0) (F := fun m => mkF m 0 #[.val (.ref w0), .val (.ref w4), .val (.ref w7), .val (.int (2 : Int32)), .val (.int (1 : Int32)), .val (.int (2 : Int32))] []) (plainFor_of_name pn_0) (fun m => by first | (simp [entryFrame, mkF, argsToLocals, Value.category]; done) | rfl) ?_
  intro p e s m below meth c s₁ B X0
  have K : Keep h0 h0 [] := Keep.refl h0 _
  refine own_iload (pc' := 2) B X0 d3_0 rfl rfl ?_
  refine own_iloadN (pc' := 3) B X0 d3_2 rfl rfl ?_
  refine own_icmpNo (pc' := 6) B X0 d3_3 (flt (by decide : ¬ ((2 : Int32) < (2 : Int32)))).1 rfl ?_
  refine own_iconst (pc' := 7) B X0 (z := (1 : Int32)) d3_6 rfl rfl ?_
  exact own_retN B X0 (t := .boolean) (z' := (1 : Int32)) (by simp) (by decide) d3_7 (by decide) (by decide) (⟨rfl, rfl⟩)
def Q_28 (Z : State) (w0 : Addr) (kw0 : ClassId) (p2 : Int32) (p3 : Int32) (w4 : Addr) (kw4 : ClassId) (p6 : Int32) (w7 : Addr) (kw7 : ClassId) (p9 : Int32) (p10 : Int32) (p11 : Int32) (p12 : Int32) (p13 : Int32) (p14 : Int32) (p15 : Int32) (p16 : Int32) (p17 : Int32) (p18 : Int32) (p19 : Int32) (h0 : Heap) (n0 : Nat) (v : Option Value) (h : Heap) : Prop :=
  (v = some (.int (1 : Int32)) ∧ h0 = h)
set_option maxRecDepth 65536 in
set_option maxHeartbeats 40000000 in
theorem rm_28 (l : Launch) (Z : State) (a0 : Array Value) (hw : ∀ d ∈ tables_1, d.before a0 Z = true) (ws : List Jvm.Cond) (w0 : Addr) (kw0 : ClassId) (p2 : Int32) (p3 : Int32) (w4 : Addr) (kw4 : ClassId) (p6 : Int32) (w7 : Addr) (kw7 : ClassId) (p9 : Int32) (p10 : Int32) (p11 : Int32) (p12 : Int32) (p13 : Int32) (p14 : Int32) (p15 : Int32) (p16 : Int32) (p17 : Int32) (p18 : Int32) (p19 : Int32) (h0 : Heap) (n0 : Nat) (Z0 : n0 ≤ h0.size) (E_w0 : Exa Z h0 w0 "[B") (V_w0 : Arv Z h0 w0 kw0 .byte (2 : Int32) [(.int p2), (.int p3)] (.int (0 : Int32))) (g_w0 : n0 ≤ w0) (E_w4 : Exa Z h0 w4 "[B") (V_w4 : Arv Z h0 w4 kw4 .byte (1 : Int32) [(.int p6)] (.int (0 : Int32))) (g_w4 : n0 ≤ w4) (E_w7 : Exa Z h0 w7 "[B") (V_w7 : Arv Z h0 w7 kw7 .byte (4 : Int32) [(.int p2), (.int p3), (.int p9), (.int p10)] (.int (0 : Int32))) (g_w7 : n0 ≤ w7) (ne_w0_w4 : w0 ≠ w4) (ne_w0_w7 : w0 ≠ w7) (ne_w4_w7 : w4 ≠ w7) (hp0 : p11.toInt8.toInt32 = p2) (hp1 : p12.toInt8.toInt32 = p3) (hp2 : p13.toInt8.toInt32 = p9) (hp3 : p14.toInt8.toInt32 = p10) (hp4 : p15.toInt8.toInt32 = p6) (hp5 : own_F_pick p16 = p11) (hp6 : own_F_pick p17 = p12) (hp7 : own_F_pick p18 = p13) (hp8 : own_F_pick p19 = p14) (hp9 : p2 + (1 : Int32) = p15) (hp10 : p3 = (-1 : Int32)) (hp11 : ¬ (p2 = (-1 : Int32))) :
    MetFree l (⟨"com/example/keyer/keyer/QuerySuccessorPinLaw", "ok", "([B[B[BIII)Z"⟩ : MethodName) (head1 (Jvm.Cond.code (⟨"com/example/keyer/keyer/QuerySuccessorPinLaw", "ok", "([B[B[BIII)Z"⟩ : MethodName) method_3_code 6 (some .boolean) :: ws) ({ frames := 0, cells := 0, slots := 0, locals := 0 } : Room)) (fun a U => a = #[(.ref w0), (.ref w4), (.ref w7), (.int (2 : Int32)), (.int (1 : Int32)), (.int (3 : Int32))] ∧ Z.Warmed39 U.vm ∧ U.heap = h0) (fun _ _ _ _ _ => True) (fun _ U o U' => ∃ v L, o = .returned v ∧ (Fr n0 L ∧ Q_28 Z w0 kw0 p2 p3 w4 kw4 p6 w7 kw7 p9 p10 p11 p12 p13 p14 p15 p16 p17 p18 p19 h0 n0 v U'.heap) ∧ FrameEnd U o U' L ({ frames := 0, cells := 0, slots := 0, locals := 0 } : Room).cells ({ frames := 0, cells := 0, slots := 0, locals := 0 } : Room).slots) := by
  refine own_enter (Q := Q_28 Z w0 kw0 p2 p3 w4 kw4 p6 w7 kw7 p9 p10 p11 p12 p13 p14 p15 p16 p17 p18 p19 h0 n0) (F := fun m => mkF m 0 #[.val (.ref w0), .val (.ref w4), .val (.ref w7), .val (.int (2 : Int32)), .val (.int (1 : Int32)), .val (.int (3 : Int32))] []) (plainFor_of_name pn_0) (fun m => by first | (simp [entryFrame, mkF, argsToLocals, Value.category]; done) | rfl) ?_
  intro p e s m below meth c s₁ B X0
  have K : Keep h0 h0 [] := Keep.refl h0 _
  refine own_iload (pc' := 2) B X0 d3_0 rfl rfl ?_
  refine own_iloadN (pc' := 3) B X0 d3_2 rfl rfl ?_
  refine own_icmpNo (pc' := 6) B X0 d3_3 (flt (by decide : ¬ ((3 : Int32) < (2 : Int32)))).1 rfl ?_
  refine own_iconst (pc' := 7) B X0 (z := (1 : Int32)) d3_6 rfl rfl ?_
  exact own_retN B X0 (t := .boolean) (z' := (1 : Int32)) (by simp) (by decide) d3_7 (by decide) (by decide) (⟨rfl, rfl⟩)
def Q_29 (Z : State) (w0 : Addr) (kw0 : ClassId) (p2 : Int32) (p3 : Int32) (w4 : Addr) (kw4 : ClassId) (p6 : Int32) (w7 : Addr) (kw7 : ClassId) (p9 : Int32) (p10 : Int32) (p11 : Int32) (p12 : Int32) (p13 : Int32) (p14 : Int32) (p15 : Int32) (p16 : Int32) (p17 : Int32) (p18 : Int32) (p19 : Int32) (h0 : Heap) (n0 : Nat) (v : Option Value) (h : Heap) : Prop :=
  (v = some (.int (1 : Int32)) ∧ h0 = h)
set_option maxRecDepth 65536 in
set_option maxHeartbeats 40000000 in
theorem rm_29 (l : Launch) (Z : State) (a0 : Array Value) (hw : ∀ d ∈ tables_1, d.before a0 Z = true) (ws : List Jvm.Cond) (w0 : Addr) (kw0 : ClassId) (p2 : Int32) (p3 : Int32) (w4 : Addr) (kw4 : ClassId) (p6 : Int32) (w7 : Addr) (kw7 : ClassId) (p9 : Int32) (p10 : Int32) (p11 : Int32) (p12 : Int32) (p13 : Int32) (p14 : Int32) (p15 : Int32) (p16 : Int32) (p17 : Int32) (p18 : Int32) (p19 : Int32) (h0 : Heap) (n0 : Nat) (Z0 : n0 ≤ h0.size) (E_w0 : Exa Z h0 w0 "[B") (V_w0 : Arv Z h0 w0 kw0 .byte (2 : Int32) [(.int p2), (.int p3)] (.int (0 : Int32))) (g_w0 : n0 ≤ w0) (E_w4 : Exa Z h0 w4 "[B") (V_w4 : Arv Z h0 w4 kw4 .byte (2 : Int32) [(.int p2), (.int p6)] (.int (0 : Int32))) (g_w4 : n0 ≤ w4) (E_w7 : Exa Z h0 w7 "[B") (V_w7 : Arv Z h0 w7 kw7 .byte (4 : Int32) [(.int p2), (.int p3), (.int p9), (.int p10)] (.int (0 : Int32))) (g_w7 : n0 ≤ w7) (ne_w0_w4 : w0 ≠ w4) (ne_w0_w7 : w0 ≠ w7) (ne_w4_w7 : w4 ≠ w7) (hp0 : p11.toInt8.toInt32 = p2) (hp1 : p12.toInt8.toInt32 = p3) (hp2 : p13.toInt8.toInt32 = p9) (hp3 : p14.toInt8.toInt32 = p10) (hp4 : p15.toInt8.toInt32 = p6) (hp5 : own_F_pick p16 = p11) (hp6 : own_F_pick p17 = p12) (hp7 : own_F_pick p18 = p13) (hp8 : own_F_pick p19 = p14) (hp9 : p3 + (1 : Int32) = p15) (hp10 : ¬ (p3 = (-1 : Int32))) :
    MetFree l (⟨"com/example/keyer/keyer/QuerySuccessorPinLaw", "ok", "([B[B[BIII)Z"⟩ : MethodName) (head1 (Jvm.Cond.code (⟨"com/example/keyer/keyer/QuerySuccessorPinLaw", "ok", "([B[B[BIII)Z"⟩ : MethodName) method_3_code 6 (some .boolean) :: ws) ({ frames := 0, cells := 0, slots := 0, locals := 0 } : Room)) (fun a U => a = #[(.ref w0), (.ref w4), (.ref w7), (.int (2 : Int32)), (.int (2 : Int32)), (.int (0 : Int32))] ∧ Z.Warmed39 U.vm ∧ U.heap = h0) (fun _ _ _ _ _ => True) (fun _ U o U' => ∃ v L, o = .returned v ∧ (Fr n0 L ∧ Q_29 Z w0 kw0 p2 p3 w4 kw4 p6 w7 kw7 p9 p10 p11 p12 p13 p14 p15 p16 p17 p18 p19 h0 n0 v U'.heap) ∧ FrameEnd U o U' L ({ frames := 0, cells := 0, slots := 0, locals := 0 } : Room).cells ({ frames := 0, cells := 0, slots := 0, locals := 0 } : Room).slots) := by
  refine own_enter (Q := Q_29 Z w0 kw0 p2 p3 w4 kw4 p6 w7 kw7 p9 p10 p11 p12 p13 p14 p15 p16 p17 p18 p19 h0 n0) (F := fun m => mkF m 0 #[.val (.ref w0), .val (.ref w4), .val (.ref w7), .val (.int (2 : Int32)), .val (.int (2 : Int32)), .val (.int (0 : Int32))] []) (plainFor_of_name pn_0) (fun m => by first | (simp [entryFrame, mkF, argsToLocals, Value.category]; done) | rfl) ?_
  intro p e s m below meth c s₁ B X0
  have K : Keep h0 h0 [] := Keep.refl h0 _
  refine own_iload (pc' := 2) B X0 d3_0 rfl rfl ?_
  refine own_iloadN (pc' := 3) B X0 d3_2 rfl rfl ?_
  refine own_icmpYes (pc' := 8) B X0 d3_3 (tlt (by decide : (0 : Int32) < (2 : Int32))).1 (by decide) rfl ?_
  refine own_aloadN (pc' := 9) B X0 d3_8 rfl rfl rfl ?_
  refine own_iload (pc' := 11) B X0 d3_9 rfl rfl ?_
  refine own_baload (pc' := 12) B X0 V_w0 (v := (.int p2)) ⟨by decide, by decide⟩ rfl d3_11 rfl ?_
  refine own_aloadN (pc' := 13) B X0 d3_12 rfl rfl rfl ?_
  refine own_iload (pc' := 15) B X0 d3_13 rfl rfl ?_
  refine own_baload (pc' := 16) B X0 V_w7 (v := (.int p2)) ⟨by decide, by decide⟩ rfl d3_15 rfl ?_
  refine own_icmpYes (pc' := 21) B X0 d3_16 (teq rfl).1 (by decide) rfl ?_
  refine own_iload (pc' := 23) B X0 d3_21 rfl rfl ?_
  refine own_iload (pc' := 25) B X0 d3_23 rfl rfl ?_
  refine own_icmpYes (pc' := 42) B X0 d3_25 (tlt (by decide : (0 : Int32) < (2 : Int32))).1 (by decide) rfl ?_
  refine own_iload (pc' := 44) B X0 d3_42 rfl rfl ?_
  refine own_iload (pc' := 46) B X0 d3_44 rfl rfl ?_
  refine own_iconst (pc' := 47) B X0 (z := (1 : Int32)) d3_46 rfl rfl ?_
  refine own_isub (pc' := 48) B X0 (z := (1 : Int32)) d3_47 rfl (by decide) ?_
  refine own_icmpNo (pc' := 51) B X0 d3_48 (tlt (by decide : (0 : Int32) < (1 : Int32))).2.1 rfl ?_
  refine own_aloadN (pc' := 52) B X0 d3_51 rfl rfl rfl ?_
  refine own_iload (pc' := 54) B X0 d3_52 rfl rfl ?_
  refine own_baload (pc' := 55) B X0 V_w4 (v := (.int p2)) ⟨by decide, by decide⟩ rfl d3_54 rfl ?_
  refine own_aloadN (pc' := 56) B X0 d3_55 rfl rfl rfl ?_
  refine own_iload (pc' := 58) B X0 d3_56 rfl rfl ?_
  refine own_baload (pc' := 59) B X0 V_w0 (v := (.int p2)) ⟨by decide, by decide⟩ rfl d3_58 rfl ?_
  refine own_icmpNo (pc' := 62) B X0 d3_59 (teq rfl).2 rfl ?_
  refine own_iconst (pc' := 63) B X0 (z := (1 : Int32)) d3_62 rfl rfl ?_
  refine own_goto (pc' := 67) B X0 d3_63 (by decide) rfl ?_
  exact own_retN B X0 (t := .boolean) (z' := (1 : Int32)) (by simp) (by decide) d3_67 (by decide) (by decide) (⟨rfl, rfl⟩)
def Q_30 (Z : State) (w0 : Addr) (kw0 : ClassId) (p2 : Int32) (p3 : Int32) (w4 : Addr) (kw4 : ClassId) (p6 : Int32) (w7 : Addr) (kw7 : ClassId) (p9 : Int32) (p10 : Int32) (p11 : Int32) (p12 : Int32) (p13 : Int32) (p14 : Int32) (p15 : Int32) (p16 : Int32) (p17 : Int32) (p18 : Int32) (p19 : Int32) (h0 : Heap) (n0 : Nat) (v : Option Value) (h : Heap) : Prop :=
  (v = some (.int (1 : Int32)) ∧ h0 = h)
set_option maxRecDepth 65536 in
set_option maxHeartbeats 40000000 in
theorem rm_30 (l : Launch) (Z : State) (a0 : Array Value) (hw : ∀ d ∈ tables_1, d.before a0 Z = true) (ws : List Jvm.Cond) (w0 : Addr) (kw0 : ClassId) (p2 : Int32) (p3 : Int32) (w4 : Addr) (kw4 : ClassId) (p6 : Int32) (w7 : Addr) (kw7 : ClassId) (p9 : Int32) (p10 : Int32) (p11 : Int32) (p12 : Int32) (p13 : Int32) (p14 : Int32) (p15 : Int32) (p16 : Int32) (p17 : Int32) (p18 : Int32) (p19 : Int32) (h0 : Heap) (n0 : Nat) (Z0 : n0 ≤ h0.size) (E_w0 : Exa Z h0 w0 "[B") (V_w0 : Arv Z h0 w0 kw0 .byte (2 : Int32) [(.int p2), (.int p3)] (.int (0 : Int32))) (g_w0 : n0 ≤ w0) (E_w4 : Exa Z h0 w4 "[B") (V_w4 : Arv Z h0 w4 kw4 .byte (2 : Int32) [(.int p2), (.int p6)] (.int (0 : Int32))) (g_w4 : n0 ≤ w4) (E_w7 : Exa Z h0 w7 "[B") (V_w7 : Arv Z h0 w7 kw7 .byte (4 : Int32) [(.int p2), (.int p3), (.int p9), (.int p10)] (.int (0 : Int32))) (g_w7 : n0 ≤ w7) (ne_w0_w4 : w0 ≠ w4) (ne_w0_w7 : w0 ≠ w7) (ne_w4_w7 : w4 ≠ w7) (hp0 : p11.toInt8.toInt32 = p2) (hp1 : p12.toInt8.toInt32 = p3) (hp2 : p13.toInt8.toInt32 = p9) (hp3 : p14.toInt8.toInt32 = p10) (hp4 : p15.toInt8.toInt32 = p6) (hp5 : own_F_pick p16 = p11) (hp6 : own_F_pick p17 = p12) (hp7 : own_F_pick p18 = p13) (hp8 : own_F_pick p19 = p14) (hp9 : p3 + (1 : Int32) = p15) (hp10 : ¬ (p3 = (-1 : Int32))) :
    MetFree l (⟨"com/example/keyer/keyer/QuerySuccessorPinLaw", "ok", "([B[B[BIII)Z"⟩ : MethodName) (head1 (Jvm.Cond.code (⟨"com/example/keyer/keyer/QuerySuccessorPinLaw", "ok", "([B[B[BIII)Z"⟩ : MethodName) method_3_code 6 (some .boolean) :: ws) ({ frames := 0, cells := 0, slots := 0, locals := 0 } : Room)) (fun a U => a = #[(.ref w0), (.ref w4), (.ref w7), (.int (2 : Int32)), (.int (2 : Int32)), (.int (1 : Int32))] ∧ Z.Warmed39 U.vm ∧ U.heap = h0) (fun _ _ _ _ _ => True) (fun _ U o U' => ∃ v L, o = .returned v ∧ (Fr n0 L ∧ Q_30 Z w0 kw0 p2 p3 w4 kw4 p6 w7 kw7 p9 p10 p11 p12 p13 p14 p15 p16 p17 p18 p19 h0 n0 v U'.heap) ∧ FrameEnd U o U' L ({ frames := 0, cells := 0, slots := 0, locals := 0 } : Room).cells ({ frames := 0, cells := 0, slots := 0, locals := 0 } : Room).slots) := by
  refine own_enter (Q := Q_30 Z w0 kw0 p2 p3 w4 kw4 p6 w7 kw7 p9 p10 p11 p12 p13 p14 p15 p16 p17 p18 p19 h0 n0) (F := fun m => mkF m 0 #[.val (.ref w0), .val (.ref w4), .val (.ref w7), .val (.int (2 : Int32)), .val (.int (2 : Int32)), .val (.int (1 : Int32))] []) (plainFor_of_name pn_0) (fun m => by first | (simp [entryFrame, mkF, argsToLocals, Value.category]; done) | rfl) ?_
  intro p e s m below meth c s₁ B X0
  have K : Keep h0 h0 [] := Keep.refl h0 _
  refine own_iload (pc' := 2) B X0 d3_0 rfl rfl ?_
  refine own_iloadN (pc' := 3) B X0 d3_2 rfl rfl ?_
  refine own_icmpYes (pc' := 8) B X0 d3_3 (tlt (by decide : (1 : Int32) < (2 : Int32))).1 (by decide) rfl ?_
  refine own_aloadN (pc' := 9) B X0 d3_8 rfl rfl rfl ?_
  refine own_iload (pc' := 11) B X0 d3_9 rfl rfl ?_
  refine own_baload (pc' := 12) B X0 V_w0 (v := (.int p3)) ⟨by decide, by decide⟩ rfl d3_11 rfl ?_
  refine own_aloadN (pc' := 13) B X0 d3_12 rfl rfl rfl ?_
  refine own_iload (pc' := 15) B X0 d3_13 rfl rfl ?_
  refine own_baload (pc' := 16) B X0 V_w7 (v := (.int p3)) ⟨by decide, by decide⟩ rfl d3_15 rfl ?_
  refine own_icmpYes (pc' := 21) B X0 d3_16 (teq rfl).1 (by decide) rfl ?_
  refine own_iload (pc' := 23) B X0 d3_21 rfl rfl ?_
  refine own_iload (pc' := 25) B X0 d3_23 rfl rfl ?_
  refine own_icmpYes (pc' := 42) B X0 d3_25 (tlt (by decide : (1 : Int32) < (2 : Int32))).1 (by decide) rfl ?_
  refine own_iload (pc' := 44) B X0 d3_42 rfl rfl ?_
  refine own_iload (pc' := 46) B X0 d3_44 rfl rfl ?_
  refine own_iconst (pc' := 47) B X0 (z := (1 : Int32)) d3_46 rfl rfl ?_
  refine own_isub (pc' := 48) B X0 (z := (1 : Int32)) d3_47 rfl (by decide) ?_
  refine own_icmpYes (pc' := 68) B X0 d3_48 (flt (by decide : ¬ ((1 : Int32) < (1 : Int32)))).2.1 (by decide) rfl ?_
  refine own_aloadN (pc' := 69) B X0 d3_68 rfl rfl rfl ?_
  refine own_iload (pc' := 71) B X0 d3_69 rfl rfl ?_
  refine own_baload (pc' := 72) B X0 V_w0 (v := (.int p3)) ⟨by decide, by decide⟩ rfl d3_71 rfl ?_
  refine own_iconst (pc' := 73) B X0 (z := (-1 : Int32)) d3_72 rfl rfl ?_
  refine own_icmpNo (pc' := 76) B X0 d3_73 (feq hp10).1 rfl ?_
  refine own_aloadN (pc' := 77) B X0 d3_76 rfl rfl rfl ?_
  refine own_iload (pc' := 79) B X0 d3_77 rfl rfl ?_
  refine own_baload (pc' := 80) B X0 V_w4 (v := (.int p6)) ⟨by decide, by decide⟩ rfl d3_79 rfl ?_
  refine own_aloadN (pc' := 81) B X0 d3_80 rfl rfl rfl ?_
  refine own_iload (pc' := 83) B X0 d3_81 rfl rfl ?_
  refine own_baload (pc' := 84) B X0 V_w0 (v := (.int p3)) ⟨by decide, by decide⟩ rfl d3_83 rfl ?_
  refine own_iconst (pc' := 85) B X0 (z := (1 : Int32)) d3_84 rfl rfl ?_
  refine own_iadd (pc' := 86) B X0 d3_85 rfl hp9 ?_
  refine own_i2b (pc' := 87) B X0 d3_86 rfl hp4 ?_
  refine own_icmpNo (pc' := 90) B X0 d3_87 (teq rfl).2 rfl ?_
  refine own_iconst (pc' := 91) B X0 (z := (1 : Int32)) d3_90 rfl rfl ?_
  refine own_goto (pc' := 95) B X0 d3_91 (by decide) rfl ?_
  exact own_retN B X0 (t := .boolean) (z' := (1 : Int32)) (by simp) (by decide) d3_95 (by decide) (by decide) (⟨rfl, rfl⟩)
def Q_31 (Z : State) (w0 : Addr) (kw0 : ClassId) (p2 : Int32) (p3 : Int32) (w4 : Addr) (kw4 : ClassId) (p6 : Int32) (w7 : Addr) (kw7 : ClassId) (p9 : Int32) (p10 : Int32) (p11 : Int32) (p12 : Int32) (p13 : Int32) (p14 : Int32) (p15 : Int32) (p16 : Int32) (p17 : Int32) (p18 : Int32) (p19 : Int32) (h0 : Heap) (n0 : Nat) (v : Option Value) (h : Heap) : Prop :=
  (v = some (.int (1 : Int32)) ∧ h0 = h)
set_option maxRecDepth 65536 in
set_option maxHeartbeats 40000000 in
theorem rm_31 (l : Launch) (Z : State) (a0 : Array Value) (hw : ∀ d ∈ tables_1, d.before a0 Z = true) (ws : List Jvm.Cond) (w0 : Addr) (kw0 : ClassId) (p2 : Int32) (p3 : Int32) (w4 : Addr) (kw4 : ClassId) (p6 : Int32) (w7 : Addr) (kw7 : ClassId) (p9 : Int32) (p10 : Int32) (p11 : Int32) (p12 : Int32) (p13 : Int32) (p14 : Int32) (p15 : Int32) (p16 : Int32) (p17 : Int32) (p18 : Int32) (p19 : Int32) (h0 : Heap) (n0 : Nat) (Z0 : n0 ≤ h0.size) (E_w0 : Exa Z h0 w0 "[B") (V_w0 : Arv Z h0 w0 kw0 .byte (2 : Int32) [(.int p2), (.int p3)] (.int (0 : Int32))) (g_w0 : n0 ≤ w0) (E_w4 : Exa Z h0 w4 "[B") (V_w4 : Arv Z h0 w4 kw4 .byte (2 : Int32) [(.int p2), (.int p6)] (.int (0 : Int32))) (g_w4 : n0 ≤ w4) (E_w7 : Exa Z h0 w7 "[B") (V_w7 : Arv Z h0 w7 kw7 .byte (4 : Int32) [(.int p2), (.int p3), (.int p9), (.int p10)] (.int (0 : Int32))) (g_w7 : n0 ≤ w7) (ne_w0_w4 : w0 ≠ w4) (ne_w0_w7 : w0 ≠ w7) (ne_w4_w7 : w4 ≠ w7) (hp0 : p11.toInt8.toInt32 = p2) (hp1 : p12.toInt8.toInt32 = p3) (hp2 : p13.toInt8.toInt32 = p9) (hp3 : p14.toInt8.toInt32 = p10) (hp4 : p15.toInt8.toInt32 = p6) (hp5 : own_F_pick p16 = p11) (hp6 : own_F_pick p17 = p12) (hp7 : own_F_pick p18 = p13) (hp8 : own_F_pick p19 = p14) (hp9 : p3 + (1 : Int32) = p15) (hp10 : ¬ (p3 = (-1 : Int32))) :
    MetFree l (⟨"com/example/keyer/keyer/QuerySuccessorPinLaw", "ok", "([B[B[BIII)Z"⟩ : MethodName) (head1 (Jvm.Cond.code (⟨"com/example/keyer/keyer/QuerySuccessorPinLaw", "ok", "([B[B[BIII)Z"⟩ : MethodName) method_3_code 6 (some .boolean) :: ws) ({ frames := 0, cells := 0, slots := 0, locals := 0 } : Room)) (fun a U => a = #[(.ref w0), (.ref w4), (.ref w7), (.int (2 : Int32)), (.int (2 : Int32)), (.int (2 : Int32))] ∧ Z.Warmed39 U.vm ∧ U.heap = h0) (fun _ _ _ _ _ => True) (fun _ U o U' => ∃ v L, o = .returned v ∧ (Fr n0 L ∧ Q_31 Z w0 kw0 p2 p3 w4 kw4 p6 w7 kw7 p9 p10 p11 p12 p13 p14 p15 p16 p17 p18 p19 h0 n0 v U'.heap) ∧ FrameEnd U o U' L ({ frames := 0, cells := 0, slots := 0, locals := 0 } : Room).cells ({ frames := 0, cells := 0, slots := 0, locals := 0 } : Room).slots) := by
  refine own_enter (Q := Q_31 Z w0 kw0 p2 p3 w4 kw4 p6 w7 kw7 p9 p10 p11 p12 p13 p14 p15 p16 p17 p18 p19 h0 n0) (F := fun m => mkF m 0 #[.val (.ref w0), .val (.ref w4), .val (.ref w7), .val (.int (2 : Int32)), .val (.int (2 : Int32)), .val (.int (2 : Int32))] []) (plainFor_of_name pn_0) (fun m => by first | (simp [entryFrame, mkF, argsToLocals, Value.category]; done) | rfl) ?_
  intro p e s m below meth c s₁ B X0
  have K : Keep h0 h0 [] := Keep.refl h0 _
  refine own_iload (pc' := 2) B X0 d3_0 rfl rfl ?_
  refine own_iloadN (pc' := 3) B X0 d3_2 rfl rfl ?_
  refine own_icmpNo (pc' := 6) B X0 d3_3 (flt (by decide : ¬ ((2 : Int32) < (2 : Int32)))).1 rfl ?_
  refine own_iconst (pc' := 7) B X0 (z := (1 : Int32)) d3_6 rfl rfl ?_
  exact own_retN B X0 (t := .boolean) (z' := (1 : Int32)) (by simp) (by decide) d3_7 (by decide) (by decide) (⟨rfl, rfl⟩)
def Q_32 (Z : State) (w0 : Addr) (kw0 : ClassId) (p2 : Int32) (p3 : Int32) (w4 : Addr) (kw4 : ClassId) (p6 : Int32) (w7 : Addr) (kw7 : ClassId) (p9 : Int32) (p10 : Int32) (p11 : Int32) (p12 : Int32) (p13 : Int32) (p14 : Int32) (p15 : Int32) (p16 : Int32) (p17 : Int32) (p18 : Int32) (p19 : Int32) (h0 : Heap) (n0 : Nat) (v : Option Value) (h : Heap) : Prop :=
  (v = some (.int (1 : Int32)) ∧ h0 = h)
set_option maxRecDepth 65536 in
set_option maxHeartbeats 40000000 in
theorem rm_32 (l : Launch) (Z : State) (a0 : Array Value) (hw : ∀ d ∈ tables_1, d.before a0 Z = true) (ws : List Jvm.Cond) (w0 : Addr) (kw0 : ClassId) (p2 : Int32) (p3 : Int32) (w4 : Addr) (kw4 : ClassId) (p6 : Int32) (w7 : Addr) (kw7 : ClassId) (p9 : Int32) (p10 : Int32) (p11 : Int32) (p12 : Int32) (p13 : Int32) (p14 : Int32) (p15 : Int32) (p16 : Int32) (p17 : Int32) (p18 : Int32) (p19 : Int32) (h0 : Heap) (n0 : Nat) (Z0 : n0 ≤ h0.size) (E_w0 : Exa Z h0 w0 "[B") (V_w0 : Arv Z h0 w0 kw0 .byte (2 : Int32) [(.int p2), (.int p3)] (.int (0 : Int32))) (g_w0 : n0 ≤ w0) (E_w4 : Exa Z h0 w4 "[B") (V_w4 : Arv Z h0 w4 kw4 .byte (2 : Int32) [(.int p2), (.int p6)] (.int (0 : Int32))) (g_w4 : n0 ≤ w4) (E_w7 : Exa Z h0 w7 "[B") (V_w7 : Arv Z h0 w7 kw7 .byte (4 : Int32) [(.int p2), (.int p3), (.int p9), (.int p10)] (.int (0 : Int32))) (g_w7 : n0 ≤ w7) (ne_w0_w4 : w0 ≠ w4) (ne_w0_w7 : w0 ≠ w7) (ne_w4_w7 : w4 ≠ w7) (hp0 : p11.toInt8.toInt32 = p2) (hp1 : p12.toInt8.toInt32 = p3) (hp2 : p13.toInt8.toInt32 = p9) (hp3 : p14.toInt8.toInt32 = p10) (hp4 : p15.toInt8.toInt32 = p6) (hp5 : own_F_pick p16 = p11) (hp6 : own_F_pick p17 = p12) (hp7 : own_F_pick p18 = p13) (hp8 : own_F_pick p19 = p14) (hp9 : p3 + (1 : Int32) = p15) (hp10 : ¬ (p3 = (-1 : Int32))) :
    MetFree l (⟨"com/example/keyer/keyer/QuerySuccessorPinLaw", "ok", "([B[B[BIII)Z"⟩ : MethodName) (head1 (Jvm.Cond.code (⟨"com/example/keyer/keyer/QuerySuccessorPinLaw", "ok", "([B[B[BIII)Z"⟩ : MethodName) method_3_code 6 (some .boolean) :: ws) ({ frames := 0, cells := 0, slots := 0, locals := 0 } : Room)) (fun a U => a = #[(.ref w0), (.ref w4), (.ref w7), (.int (2 : Int32)), (.int (2 : Int32)), (.int (3 : Int32))] ∧ Z.Warmed39 U.vm ∧ U.heap = h0) (fun _ _ _ _ _ => True) (fun _ U o U' => ∃ v L, o = .returned v ∧ (Fr n0 L ∧ Q_32 Z w0 kw0 p2 p3 w4 kw4 p6 w7 kw7 p9 p10 p11 p12 p13 p14 p15 p16 p17 p18 p19 h0 n0 v U'.heap) ∧ FrameEnd U o U' L ({ frames := 0, cells := 0, slots := 0, locals := 0 } : Room).cells ({ frames := 0, cells := 0, slots := 0, locals := 0 } : Room).slots) := by
  refine own_enter (Q := Q_32 Z w0 kw0 p2 p3 w4 kw4 p6 w7 kw7 p9 p10 p11 p12 p13 p14 p15 p16 p17 p18 p19 h0 n0) (F := fun m => mkF m 0 #[.val (.ref w0), .val (.ref w4), .val (.ref w7), .val (.int (2 : Int32)), .val (.int (2 : Int32)), .val (.int (3 : Int32))] []) (plainFor_of_name pn_0) (fun m => by first | (simp [entryFrame, mkF, argsToLocals, Value.category]; done) | rfl) ?_
  intro p e s m below meth c s₁ B X0
  have K : Keep h0 h0 [] := Keep.refl h0 _
  refine own_iload (pc' := 2) B X0 d3_0 rfl rfl ?_
  refine own_iloadN (pc' := 3) B X0 d3_2 rfl rfl ?_
  refine own_icmpNo (pc' := 6) B X0 d3_3 (flt (by decide : ¬ ((3 : Int32) < (2 : Int32)))).1 rfl ?_
  refine own_iconst (pc' := 7) B X0 (z := (1 : Int32)) d3_6 rfl rfl ?_
  exact own_retN B X0 (t := .boolean) (z' := (1 : Int32)) (by simp) (by decide) d3_7 (by decide) (by decide) (⟨rfl, rfl⟩)
def Q_35 (Z : State)  (h0 : Heap) (n0 : Nat) (v : Option Value) (h : Heap) : Prop :=
  (v = some (.int (1 : Int32)) ∧ h0 = h)
set_option maxRecDepth 65536 in
set_option maxHeartbeats 40000000 in
theorem rm_35 (l : Launch) (Z : State) (a0 : Array Value) (hw : ∀ d ∈ tables_1, d.before a0 Z = true) (ws : List Jvm.Cond)  (h0 : Heap) (n0 : Nat) (Z0 : n0 ≤ h0.size)  :
    MetFree l (⟨"java/lang/Math", "min", "(II)I"⟩ : MethodName) (head1 (Jvm.Cond.code (⟨"java/lang/Math", "min", "(II)I"⟩ : MethodName) jdk_29_method_69_code 2 (some .int) :: ws) ({ frames := 0, cells := 0, slots := 0, locals := 0 } : Room)) (fun a U => a = #[(.int (3 : Int32)), (.int (1 : Int32))] ∧ Z.Warmed39 U.vm ∧ U.heap = h0) (fun _ _ _ _ _ => True) (fun _ U o U' => ∃ v L, o = .returned v ∧ (Fr n0 L ∧ Q_35 Z  h0 n0 v U'.heap) ∧ FrameEnd U o U' L ({ frames := 0, cells := 0, slots := 0, locals := 0 } : Room).cells ({ frames := 0, cells := 0, slots := 0, locals := 0 } : Room).slots) := by
  refine own_enter (Q := Q_35 Z  h0 n0) (F := fun m => mkF m 0 #[.val (.int (3 : Int32)), .val (.int (1 : Int32))] []) (Jvm.Free.JP.mathPlain rfl (by decide +kernel)) (fun m => by first | (simp [entryFrame, mkF, argsToLocals, Value.category]; done) | rfl) ?_
  intro p e s m below meth c s₁ B X0
  have K : Keep h0 h0 [] := Keep.refl h0 _
  refine own_iloadN (pc' := 1) B X0 d5_0 rfl rfl ?_
  refine own_iloadN (pc' := 2) B X0 d5_1 rfl rfl ?_
  refine own_icmpYes (pc' := 9) B X0 d5_2 (tlt (by decide : (1 : Int32) < (3 : Int32))).2.2.1 (by decide) rfl ?_
  refine own_iloadN (pc' := 10) B X0 d5_9 rfl rfl ?_
  exact own_retI B X0 d5_10 (by decide) (by decide) (⟨rfl, rfl⟩)
def Q_34 (Z : State) (w0 : Addr) (kw0 : ClassId) (p2 : Int32) (p3 : Int32) (p4 : Int32) (h0 : Heap) (n0 : Nat) (v : Option Value) (h : Heap) : Prop :=
  (∃ (b1 : Addr) (kb1 : ClassId), v = some (.ref b1) ∧ Keep h0 h [] ∧ h0.size ≤ b1 ∧ Exa Z h b1 "[B" ∧ Arv Z h b1 kb1 .byte (1 : Int32) [(.int p2)] (.int (0 : Int32)))
set_option maxRecDepth 65536 in
set_option maxHeartbeats 40000000 in
theorem rm_34 (l : Launch) (Z : State) (a0 : Array Value) (hw : ∀ d ∈ tables_1, d.before a0 Z = true) (ws : List Jvm.Cond) (w0 : Addr) (kw0 : ClassId) (p2 : Int32) (p3 : Int32) (p4 : Int32) (h0 : Heap) (n0 : Nat) (Z0 : n0 ≤ h0.size) (E_w0 : Exa Z h0 w0 "[B") (V_w0 : Arv Z h0 w0 kw0 .byte (3 : Int32) [(.int p2), (.int p3), (.int p4)] (.int (0 : Int32))) (g_w0 : n0 ≤ w0) :
    MetFree l (⟨"java/util/Arrays", "copyOf", "([BI)[B"⟩ : MethodName) (head1 (Jvm.Cond.code (⟨"java/util/Arrays", "copyOf", "([BI)[B"⟩ : MethodName) jdk_65_method_121_code 3 (some (.array .byte)) :: ws) ({ frames := 1, cells := 1, slots := 1, locals := 40 } : Room)) (fun a U => a = #[(.ref w0), (.int (1 : Int32))] ∧ Z.Warmed39 U.vm ∧ U.heap = h0) (fun _ _ _ _ _ => True) (fun _ U o U' => ∃ v L, o = .returned v ∧ (Fr n0 L ∧ Q_34 Z w0 kw0 p2 p3 p4 h0 n0 v U'.heap) ∧ FrameEnd U o U' L ({ frames := 1, cells := 1, slots := 1, locals := 40 } : Room).cells ({ frames := 1, cells := 1, slots := 1, locals := 40 } : Room).slots) := by
  refine own_enter (Q := Q_34 Z w0 kw0 p2 p3 p4 h0 n0) (F := fun m => mkF m 0 #[.val (.ref w0), .val (.int (1 : Int32)), .unset] []) (plainFor_of_name pn_2) (fun m => by first | (simp [entryFrame, mkF, argsToLocals, Value.category]; done) | rfl) ?_
  intro p e s m below meth c s₁ B X0
  have K : Keep h0 h0 [] := Keep.refl h0 _
  refine own_iloadN (pc' := 1) B X0 d4_0 rfl rfl ?_
  refine own_aloadN (pc' := 2) B X0 d4_1 rfl rfl rfl ?_
  refine own_arraylength (pc' := 3) B X0 V_w0 d4_2 rfl ?_
  refine own_icmpYes (pc' := 14) B X0 d4_3 (feq (by decide : ¬ ((1 : Int32) = (3 : Int32)))).2 (by decide) rfl ?_
  refine own_iloadN (pc' := 15) B X0 d4_14 rfl rfl ?_
  refine own_newarray (pc' := 17) B X0 (own_w hw 1 rfl) d4_15 rfl rfl (by decide) 1 (by decide) (by decide) (k' := 1) (n' := 1) rfl rfl (by decide) (by decide) "[B" (by decide) (.int (0 : Int32)) rfl ?_
  intro T1 h1 b1 kb1 X1 g1 E1 V_b1 E_b1
  have ne_w0_b1 : w0 ≠ b1 := own_ne E_w0.lt g1
  have sz_b1 : h0.size ≤ b1 := own_sz K g1
  have g_b1 : n0 ≤ b1 := Nat.le_trans Z0 sz_b1
  replace K := K.ext E1
  replace E_w0 := E_w0.ext E1
  replace V_w0 := V_w0.ext E1
  replace V_b1 : Arv Z h1 b1 kb1 .byte (1 : Int32) [(.int (0 : Int32))] (.int (0 : Int32)) := V_b1.pad (pad_rep [] (.int (0 : Int32)) 1)
  refine own_astoreN (pc' := 18) B X1 (Ls' := #[.val (.ref w0), .val (.int (1 : Int32)), .val (.ref b1)]) d4_17 rfl rfl rfl ?_
  refine own_aloadN (pc' := 19) B X1 d4_18 rfl rfl rfl ?_
  refine own_iconst (pc' := 20) B X1 (z := (0 : Int32)) d4_19 rfl rfl ?_
  refine own_aloadN (pc' := 21) B X1 d4_20 rfl rfl rfl ?_
  refine own_iconst (pc' := 22) B X1 (z := (0 : Int32)) d4_21 rfl rfl ?_
  refine own_aloadN (pc' := 23) B X1 d4_22 rfl rfl rfl ?_
  refine own_arraylength (pc' := 24) B X1 V_w0 d4_23 rfl ?_
  refine own_iloadN (pc' := 25) B X1 d4_24 rfl rfl ?_
  refine own_callS (pc' := 28) B X1 (own_w hw 26 rfl) (own_w hw 27 rfl) (own_w hw 28 rfl) (own_w hw 29 rfl) (by decide) [(.int (3 : Int32)), (.int (1 : Int32))] [(.int (0 : Int32)), (.ref b1), (.int (0 : Int32)), (.ref w0)] (rm_35 l Z a0 hw []  h1 n0 (Nat.le_trans Z0 K.1) ) 4 (by decide) (by decide) rfl pd_4 rfl rfl (Nat.le_of_eq rfl) d4_25 rfl (k' := 1) (n' := 1) rfl rfl (by decide) (by decide) ?_
  intro T2 v2 h2 X2 q2
  obtain ⟨rfl, rfl⟩ := q2
  show own_Go p e below (T2.setTop (mkF m 28 #[.val (.ref w0), .val (.int (1 : Int32)), .val (.ref b1)] [(.int (1 : Int32)), (.int (0 : Int32)), (.ref b1), (.int (0 : Int32)), (.ref w0)])) _
  refine own_arraycopy (pc' := 31) B X2 (own_w hw 30 rfl) (own_w hw 33 rfl) (own_w hw 31 rfl) (own_w hw 32 rfl) V_w0 V_b1 rfl g_b1 (by decide) (by decide) (by decide) (by decide) (by decide) (us := [(.int p2)]) rfl (Nat.le_of_ble_eq_true rfl) (rs := [(.int p2)]) rfl d4_28 rfl rfl (by decide) 0 (Nat.le_of_eq rfl) (by decide) ?_
  intro T3 h3 X3 K3 V_b1
  replace K := K.trans K3 (allS (Or.inr sz_b1) all0)
  replace E_w0 := E_w0.keep K3
  replace V_w0 := V_w0.keep K3 (ninS ne_w0_b1 nin0)
  replace E_b1 := E_b1.keep K3
  refine own_aloadN (pc' := 32) B X3 d4_31 rfl rfl rfl ?_
  exact own_retA B X3 (t := (.array .byte)) rfl rfl rfl d4_32 (by decide) (by decide) (⟨b1, kb1, rfl, K, sz_b1, E_b1, V_b1⟩)
def Q_37 (Z : State)  (h0 : Heap) (n0 : Nat) (v : Option Value) (h : Heap) : Prop :=
  (v = some (.int (2 : Int32)) ∧ h0 = h)
set_option maxRecDepth 65536 in
set_option maxHeartbeats 40000000 in
theorem rm_37 (l : Launch) (Z : State) (a0 : Array Value) (hw : ∀ d ∈ tables_1, d.before a0 Z = true) (ws : List Jvm.Cond)  (h0 : Heap) (n0 : Nat) (Z0 : n0 ≤ h0.size)  :
    MetFree l (⟨"java/lang/Math", "min", "(II)I"⟩ : MethodName) (head1 (Jvm.Cond.code (⟨"java/lang/Math", "min", "(II)I"⟩ : MethodName) jdk_29_method_69_code 2 (some .int) :: ws) ({ frames := 0, cells := 0, slots := 0, locals := 0 } : Room)) (fun a U => a = #[(.int (3 : Int32)), (.int (2 : Int32))] ∧ Z.Warmed39 U.vm ∧ U.heap = h0) (fun _ _ _ _ _ => True) (fun _ U o U' => ∃ v L, o = .returned v ∧ (Fr n0 L ∧ Q_37 Z  h0 n0 v U'.heap) ∧ FrameEnd U o U' L ({ frames := 0, cells := 0, slots := 0, locals := 0 } : Room).cells ({ frames := 0, cells := 0, slots := 0, locals := 0 } : Room).slots) := by
  refine own_enter (Q := Q_37 Z  h0 n0) (F := fun m => mkF m 0 #[.val (.int (3 : Int32)), .val (.int (2 : Int32))] []) (Jvm.Free.JP.mathPlain rfl (by decide +kernel)) (fun m => by first | (simp [entryFrame, mkF, argsToLocals, Value.category]; done) | rfl) ?_
  intro p e s m below meth c s₁ B X0
  have K : Keep h0 h0 [] := Keep.refl h0 _
  refine own_iloadN (pc' := 1) B X0 d5_0 rfl rfl ?_
  refine own_iloadN (pc' := 2) B X0 d5_1 rfl rfl ?_
  refine own_icmpYes (pc' := 9) B X0 d5_2 (tlt (by decide : (2 : Int32) < (3 : Int32))).2.2.1 (by decide) rfl ?_
  refine own_iloadN (pc' := 10) B X0 d5_9 rfl rfl ?_
  exact own_retI B X0 d5_10 (by decide) (by decide) (⟨rfl, rfl⟩)
def Q_36 (Z : State) (w0 : Addr) (kw0 : ClassId) (p2 : Int32) (p3 : Int32) (p4 : Int32) (h0 : Heap) (n0 : Nat) (v : Option Value) (h : Heap) : Prop :=
  (∃ (b1 : Addr) (kb1 : ClassId), v = some (.ref b1) ∧ Keep h0 h [] ∧ h0.size ≤ b1 ∧ Exa Z h b1 "[B" ∧ Arv Z h b1 kb1 .byte (2 : Int32) [(.int p2), (.int p3)] (.int (0 : Int32)))
set_option maxRecDepth 65536 in
set_option maxHeartbeats 40000000 in
theorem rm_36 (l : Launch) (Z : State) (a0 : Array Value) (hw : ∀ d ∈ tables_1, d.before a0 Z = true) (ws : List Jvm.Cond) (w0 : Addr) (kw0 : ClassId) (p2 : Int32) (p3 : Int32) (p4 : Int32) (h0 : Heap) (n0 : Nat) (Z0 : n0 ≤ h0.size) (E_w0 : Exa Z h0 w0 "[B") (V_w0 : Arv Z h0 w0 kw0 .byte (3 : Int32) [(.int p2), (.int p3), (.int p4)] (.int (0 : Int32))) (g_w0 : n0 ≤ w0) :
    MetFree l (⟨"java/util/Arrays", "copyOf", "([BI)[B"⟩ : MethodName) (head1 (Jvm.Cond.code (⟨"java/util/Arrays", "copyOf", "([BI)[B"⟩ : MethodName) jdk_65_method_121_code 3 (some (.array .byte)) :: ws) ({ frames := 1, cells := 1, slots := 2, locals := 40 } : Room)) (fun a U => a = #[(.ref w0), (.int (2 : Int32))] ∧ Z.Warmed39 U.vm ∧ U.heap = h0) (fun _ _ _ _ _ => True) (fun _ U o U' => ∃ v L, o = .returned v ∧ (Fr n0 L ∧ Q_36 Z w0 kw0 p2 p3 p4 h0 n0 v U'.heap) ∧ FrameEnd U o U' L ({ frames := 1, cells := 1, slots := 2, locals := 40 } : Room).cells ({ frames := 1, cells := 1, slots := 2, locals := 40 } : Room).slots) := by
  refine own_enter (Q := Q_36 Z w0 kw0 p2 p3 p4 h0 n0) (F := fun m => mkF m 0 #[.val (.ref w0), .val (.int (2 : Int32)), .unset] []) (plainFor_of_name pn_2) (fun m => by first | (simp [entryFrame, mkF, argsToLocals, Value.category]; done) | rfl) ?_
  intro p e s m below meth c s₁ B X0
  have K : Keep h0 h0 [] := Keep.refl h0 _
  refine own_iloadN (pc' := 1) B X0 d4_0 rfl rfl ?_
  refine own_aloadN (pc' := 2) B X0 d4_1 rfl rfl rfl ?_
  refine own_arraylength (pc' := 3) B X0 V_w0 d4_2 rfl ?_
  refine own_icmpYes (pc' := 14) B X0 d4_3 (feq (by decide : ¬ ((2 : Int32) = (3 : Int32)))).2 (by decide) rfl ?_
  refine own_iloadN (pc' := 15) B X0 d4_14 rfl rfl ?_
  refine own_newarray (pc' := 17) B X0 (own_w hw 1 rfl) d4_15 rfl rfl (by decide) 2 (by decide) (by decide) (k' := 1) (n' := 2) rfl rfl (by decide) (by decide) "[B" (by decide) (.int (0 : Int32)) rfl ?_
  intro T1 h1 b1 kb1 X1 g1 E1 V_b1 E_b1
  have ne_w0_b1 : w0 ≠ b1 := own_ne E_w0.lt g1
  have sz_b1 : h0.size ≤ b1 := own_sz K g1
  have g_b1 : n0 ≤ b1 := Nat.le_trans Z0 sz_b1
  replace K := K.ext E1
  replace E_w0 := E_w0.ext E1
  replace V_w0 := V_w0.ext E1
  replace V_b1 : Arv Z h1 b1 kb1 .byte (2 : Int32) [(.int (0 : Int32)), (.int (0 : Int32))] (.int (0 : Int32)) := V_b1.pad (pad_rep [] (.int (0 : Int32)) 2)
  refine own_astoreN (pc' := 18) B X1 (Ls' := #[.val (.ref w0), .val (.int (2 : Int32)), .val (.ref b1)]) d4_17 rfl rfl rfl ?_
  refine own_aloadN (pc' := 19) B X1 d4_18 rfl rfl rfl ?_
  refine own_iconst (pc' := 20) B X1 (z := (0 : Int32)) d4_19 rfl rfl ?_
  refine own_aloadN (pc' := 21) B X1 d4_20 rfl rfl rfl ?_
  refine own_iconst (pc' := 22) B X1 (z := (0 : Int32)) d4_21 rfl rfl ?_
  refine own_aloadN (pc' := 23) B X1 d4_22 rfl rfl rfl ?_
  refine own_arraylength (pc' := 24) B X1 V_w0 d4_23 rfl ?_
  refine own_iloadN (pc' := 25) B X1 d4_24 rfl rfl ?_
  refine own_callS (pc' := 28) B X1 (own_w hw 26 rfl) (own_w hw 27 rfl) (own_w hw 28 rfl) (own_w hw 29 rfl) (by decide) [(.int (3 : Int32)), (.int (2 : Int32))] [(.int (0 : Int32)), (.ref b1), (.int (0 : Int32)), (.ref w0)] (rm_37 l Z a0 hw []  h1 n0 (Nat.le_trans Z0 K.1) ) 4 (by decide) (by decide) rfl pd_4 rfl rfl (Nat.le_of_eq rfl) d4_25 rfl (k' := 1) (n' := 2) rfl rfl (by decide) (by decide) ?_
  intro T2 v2 h2 X2 q2
  obtain ⟨rfl, rfl⟩ := q2
  show own_Go p e below (T2.setTop (mkF m 28 #[.val (.ref w0), .val (.int (2 : Int32)), .val (.ref b1)] [(.int (2 : Int32)), (.int (0 : Int32)), (.ref b1), (.int (0 : Int32)), (.ref w0)])) _
  refine own_arraycopy (pc' := 31) B X2 (own_w hw 30 rfl) (own_w hw 33 rfl) (own_w hw 31 rfl) (own_w hw 32 rfl) V_w0 V_b1 rfl g_b1 (by decide) (by decide) (by decide) (by decide) (by decide) (us := [(.int p2), (.int p3)]) rfl (Nat.le_of_ble_eq_true rfl) (rs := [(.int p2), (.int p3)]) rfl d4_28 rfl rfl (by decide) 0 (Nat.le_of_eq rfl) (by decide) ?_
  intro T3 h3 X3 K3 V_b1
  replace K := K.trans K3 (allS (Or.inr sz_b1) all0)
  replace E_w0 := E_w0.keep K3
  replace V_w0 := V_w0.keep K3 (ninS ne_w0_b1 nin0)
  replace E_b1 := E_b1.keep K3
  refine own_aloadN (pc' := 32) B X3 d4_31 rfl rfl rfl ?_
  exact own_retA B X3 (t := (.array .byte)) rfl rfl rfl d4_32 (by decide) (by decide) (⟨b1, kb1, rfl, K, sz_b1, E_b1, V_b1⟩)
def Q_38 (Z : State) (w0 : Addr) (kw0 : ClassId) (p2 : Int32) (p3 : Int32) (p4 : Int32) (h0 : Heap) (n0 : Nat) (v : Option Value) (h : Heap) : Prop :=
  (∃ (b1 : Addr), v = some (.ref b1) ∧ Keep h0 h [] ∧ h0.size ≤ b1 ∧ Exa Z h b1 "[B" ∧ Arv Z h b1 kw0 .byte (3 : Int32) [(.int p2), (.int p3), (.int p4)] (.int (0 : Int32)))
set_option maxRecDepth 65536 in
set_option maxHeartbeats 40000000 in
theorem rm_38 (l : Launch) (Z : State) (a0 : Array Value) (hw : ∀ d ∈ tables_1, d.before a0 Z = true) (ws : List Jvm.Cond) (w0 : Addr) (kw0 : ClassId) (p2 : Int32) (p3 : Int32) (p4 : Int32) (h0 : Heap) (n0 : Nat) (Z0 : n0 ≤ h0.size) (E_w0 : Exa Z h0 w0 "[B") (V_w0 : Arv Z h0 w0 kw0 .byte (3 : Int32) [(.int p2), (.int p3), (.int p4)] (.int (0 : Int32))) (g_w0 : n0 ≤ w0) :
    MetFree l (⟨"java/util/Arrays", "copyOf", "([BI)[B"⟩ : MethodName) (head1 (Jvm.Cond.code (⟨"java/util/Arrays", "copyOf", "([BI)[B"⟩ : MethodName) jdk_65_method_121_code 3 (some (.array .byte)) :: ws) ({ frames := 1, cells := 1, slots := 3, locals := 14 } : Room)) (fun a U => a = #[(.ref w0), (.int (3 : Int32))] ∧ Z.Warmed39 U.vm ∧ U.heap = h0) (fun _ _ _ _ _ => True) (fun _ U o U' => ∃ v L, o = .returned v ∧ (Fr n0 L ∧ Q_38 Z w0 kw0 p2 p3 p4 h0 n0 v U'.heap) ∧ FrameEnd U o U' L ({ frames := 1, cells := 1, slots := 3, locals := 14 } : Room).cells ({ frames := 1, cells := 1, slots := 3, locals := 14 } : Room).slots) := by
  refine own_enter (Q := Q_38 Z w0 kw0 p2 p3 p4 h0 n0) (F := fun m => mkF m 0 #[.val (.ref w0), .val (.int (3 : Int32)), .unset] []) (plainFor_of_name pn_2) (fun m => by first | (simp [entryFrame, mkF, argsToLocals, Value.category]; done) | rfl) ?_
  intro p e s m below meth c s₁ B X0
  have K : Keep h0 h0 [] := Keep.refl h0 _
  refine own_iloadN (pc' := 1) B X0 d4_0 rfl rfl ?_
  refine own_aloadN (pc' := 2) B X0 d4_1 rfl rfl rfl ?_
  refine own_arraylength (pc' := 3) B X0 V_w0 d4_2 rfl ?_
  refine own_icmpNo (pc' := 6) B X0 d4_3 (teq (by decide : (3 : Int32) = (3 : Int32))).2 rfl ?_
  refine own_aloadN (pc' := 7) B X0 d4_6 rfl rfl rfl ?_
  refine own_clone (pc' := 10) B X0 (own_w hw 17 rfl) (own_w hw 18 rfl) (own_w hw 22 rfl) (own_w hw 20 rfl) (own_w hw 21 rfl) (own_w hw 23 rfl) V_w0 E_w0 d4_7 rfl rfl (by decide) 0 3 (Nat.le_of_eq rfl) (by decide) (by decide) (k' := 1) (n' := 3) rfl rfl (by decide) (by decide) ?_
  intro T1 h1 b1 X1 g1 E1 V_b1 E_b1
  have ne_w0_b1 : w0 ≠ b1 := own_ne E_w0.lt g1
  have sz_b1 : h0.size ≤ b1 := own_sz K g1
  have g_b1 : n0 ≤ b1 := Nat.le_trans Z0 sz_b1
  replace K := K.ext E1
  replace E_w0 := E_w0.ext E1
  replace V_w0 := V_w0.ext E1
  refine own_checkcast (pc' := 13) B X1 (own_w hw 24 rfl) (Ins.self E_b1) d4_10 rfl ?_
  intro T2 X2
  exact own_retA B X2 (t := (.array .byte)) rfl rfl rfl d4_13 (by decide) (by decide) (⟨b1, rfl, K, sz_b1, E_b1, V_b1⟩)
def Q_33 (Z : State) (w0 : Addr) (kw0 : ClassId) (p2 : Int32) (p3 : Int32) (p4 : Int32) (p5 : Int32) (p6 : Int32) (p7 : Int32) (p8 : Int32) (p9 : Int32) (p10 : Int32) (h0 : Heap) (n0 : Nat) (v : Option Value) (h : Heap) : Prop :=
  (∃ (b4 : Addr) (kb4 : ClassId), p4 = (-1 : Int32) ∧ p3 = (-1 : Int32) ∧ p2 = (-1 : Int32) ∧ v = some (.ref b4) ∧ Keep h0 h [] ∧ h0.size ≤ b4 ∧ Exa Z h b4 "[B" ∧ Arv Z h b4 kb4 .byte (0 : Int32) [] (.int (0 : Int32))) ∨
  (∃ (y8 : Int32) (y9 : Int32) (b6 : Addr) (k7 : ClassId), p4 = (-1 : Int32) ∧ p3 = (-1 : Int32) ∧ ¬ (p2 = (-1 : Int32)) ∧ p2 + (1 : Int32) = y8 ∧ y8.toInt8.toInt32 = y9 ∧ v = some (.ref b6) ∧ Keep h0 h [] ∧ h0.size ≤ b6 ∧ Exa Z h b6 "[B" ∧ Arv Z h b6 k7 .byte (1 : Int32) [(.int y9)] (.int (0 : Int32))) ∨
  (∃ (y14 : Int32) (y15 : Int32) (b12 : Addr) (k13 : ClassId), p4 = (-1 : Int32) ∧ ¬ (p3 = (-1 : Int32)) ∧ p3 + (1 : Int32) = y14 ∧ y14.toInt8.toInt32 = y15 ∧ v = some (.ref b12) ∧ Keep h0 h [] ∧ h0.size ≤ b12 ∧ Exa Z h b12 "[B" ∧ Arv Z h b12 k13 .byte (2 : Int32) [(.int p2), (.int y15)] (.int (0 : Int32))) ∨
  (∃ (y19 : Int32) (y20 : Int32) (b18 : Addr), ¬ (p4 = (-1 : Int32)) ∧ p4 + (1 : Int32) = y19 ∧ y19.toInt8.toInt32 = y20 ∧ v = some (.ref b18) ∧ Keep h0 h [] ∧ h0.size ≤ b18 ∧ Exa Z h b18 "[B" ∧ Arv Z h b18 kw0 .byte (3 : Int32) [(.int p2), (.int p3), (.int y20)] (.int (0 : Int32)))
set_option maxRecDepth 65536 in
set_option maxHeartbeats 40000000 in
theorem rm_33 (l : Launch) (Z : State) (a0 : Array Value) (hw : ∀ d ∈ tables_1, d.before a0 Z = true) (ws : List Jvm.Cond) (w0 : Addr) (kw0 : ClassId) (p2 : Int32) (p3 : Int32) (p4 : Int32) (p5 : Int32) (p6 : Int32) (p7 : Int32) (p8 : Int32) (p9 : Int32) (p10 : Int32) (h0 : Heap) (n0 : Nat) (Z0 : n0 ≤ h0.size) (E_w0 : Exa Z h0 w0 "[B") (V_w0 : Arv Z h0 w0 kw0 .byte (3 : Int32) [(.int p2), (.int p3), (.int p4)] (.int (0 : Int32))) (g_w0 : n0 ≤ w0) (hp0 : p5.toInt8.toInt32 = p2) (hp1 : p6.toInt8.toInt32 = p3) (hp2 : p7.toInt8.toInt32 = p4) (hp3 : own_F_pick p8 = p5) (hp4 : own_F_pick p9 = p6) (hp5 : own_F_pick p10 = p7) :
    MetFree l (⟨"com/example/keyer/keyer/Query", "successor", "([B)[B"⟩ : MethodName) (head1 (Jvm.Cond.code (⟨"com/example/keyer/keyer/Query", "successor", "([B)[B"⟩ : MethodName) prog_18_method_14_code 3 (some (.array .byte)) :: ws) ({ frames := 2, cells := 1, slots := 3, locals := 54 } : Room)) (fun a U => a = #[(.ref w0)] ∧ Z.Warmed39 U.vm ∧ U.heap = h0) (fun _ _ _ _ _ => True) (fun _ U o U' => ∃ v L, o = .returned v ∧ (Fr n0 L ∧ Q_33 Z w0 kw0 p2 p3 p4 p5 p6 p7 p8 p9 p10 h0 n0 v U'.heap) ∧ FrameEnd U o U' L ({ frames := 2, cells := 1, slots := 3, locals := 54 } : Room).cells ({ frames := 2, cells := 1, slots := 3, locals := 54 } : Room).slots) := by
  refine own_enter (Q := Q_33 Z w0 kw0 p2 p3 p4 p5 p6 p7 p8 p9 p10 h0 n0) (F := fun m => mkF m 0 #[.val (.ref w0), .unset, .unset] []) (plainFor_of_name pn_1) (fun m => by first | (simp [entryFrame, mkF, argsToLocals, Value.category]; done) | rfl) ?_
  intro p e s m below meth c s₁ B X0
  have K : Keep h0 h0 [] := Keep.refl h0 _
  refine own_aloadN (pc' := 1) B X0 d2_0 rfl rfl rfl ?_
  refine own_arraylength (pc' := 2) B X0 V_w0 d2_1 rfl ?_
  refine own_istoreN (pc' := 3) B X0 (Ls' := #[.val (.ref w0), .val (.int (3 : Int32)), .unset]) d2_2 rfl rfl ?_
  refine own_iloadN (pc' := 4) B X0 d2_3 rfl rfl ?_
  refine own_ifNo (pc' := 7) B X0 d2_4 ((if0 _ _).trans (tlt (by decide : (0 : Int32) < (3 : Int32))).2.2.2) rfl ?_
  refine own_aloadN (pc' := 8) B X0 d2_7 rfl rfl rfl ?_
  refine own_iloadN (pc' := 9) B X0 d2_8 rfl rfl ?_
  refine own_iconst (pc' := 10) B X0 (z := (1 : Int32)) d2_9 rfl rfl ?_
  refine own_isub (pc' := 11) B X0 (z := (2 : Int32)) d2_10 rfl (by decide) ?_
  refine own_baload (pc' := 12) B X0 V_w0 (v := (.int p4)) ⟨by decide, by decide⟩ rfl d2_11 rfl ?_
  refine own_iconst (pc' := 13) B X0 (z := (-1 : Int32)) d2_12 rfl rfl ?_
  by_cases c1 : p4 = (-1 : Int32)
  · refine own_icmpNo (pc' := 16) B X0 d2_13 (teq c1).2 rfl ?_
    refine own_iinc (pc' := 19) B X0 (Ls' := #[.val (.ref w0), .val (.int (2 : Int32)), .unset]) d2_16 rfl rfl (z := (2 : Int32)) (by decide) rfl ?_
    refine own_goto (pc' := 3) B X0 d2_19 (by decide) rfl ?_
    refine own_iloadN (pc' := 4) B X0 d2_3 rfl rfl ?_
    refine own_ifNo (pc' := 7) B X0 d2_4 ((if0 _ _).trans (tlt (by decide : (0 : Int32) < (2 : Int32))).2.2.2) rfl ?_
    refine own_aloadN (pc' := 8) B X0 d2_7 rfl rfl rfl ?_
    refine own_iloadN (pc' := 9) B X0 d2_8 rfl rfl ?_
    refine own_iconst (pc' := 10) B X0 (z := (1 : Int32)) d2_9 rfl rfl ?_
    refine own_isub (pc' := 11) B X0 (z := (1 : Int32)) d2_10 rfl (by decide) ?_
    refine own_baload (pc' := 12) B X0 V_w0 (v := (.int p3)) ⟨by decide, by decide⟩ rfl d2_11 rfl ?_
    refine own_iconst (pc' := 13) B X0 (z := (-1 : Int32)) d2_12 rfl rfl ?_
    by_cases c2 : p3 = (-1 : Int32)
    · refine own_icmpNo (pc' := 16) B X0 d2_13 (teq c2).2 rfl ?_
      refine own_iinc (pc' := 19) B X0 (Ls' := #[.val (.ref w0), .val (.int (1 : Int32)), .unset]) d2_16 rfl rfl (z := (1 : Int32)) (by decide) rfl ?_
      refine own_goto (pc' := 3) B X0 d2_19 (by decide) rfl ?_
      refine own_iloadN (pc' := 4) B X0 d2_3 rfl rfl ?_
      refine own_ifNo (pc' := 7) B X0 d2_4 ((if0 _ _).trans (tlt (by decide : (0 : Int32) < (1 : Int32))).2.2.2) rfl ?_
      refine own_aloadN (pc' := 8) B X0 d2_7 rfl rfl rfl ?_
      refine own_iloadN (pc' := 9) B X0 d2_8 rfl rfl ?_
      refine own_iconst (pc' := 10) B X0 (z := (1 : Int32)) d2_9 rfl rfl ?_
      refine own_isub (pc' := 11) B X0 (z := (0 : Int32)) d2_10 rfl (by decide) ?_
      refine own_baload (pc' := 12) B X0 V_w0 (v := (.int p2)) ⟨by decide, by decide⟩ rfl d2_11 rfl ?_
      refine own_iconst (pc' := 13) B X0 (z := (-1 : Int32)) d2_12 rfl rfl ?_
      by_cases c3 : p2 = (-1 : Int32)
      · refine own_icmpNo (pc' := 16) B X0 d2_13 (teq c3).2 rfl ?_
        refine own_iinc (pc' := 19) B X0 (Ls' := #[.val (.ref w0), .val (.int (0 : Int32)), .unset]) d2_16 rfl rfl (z := (0 : Int32)) (by decide) rfl ?_
        refine own_goto (pc' := 3) B X0 d2_19 (by decide) rfl ?_
        refine own_iloadN (pc' := 4) B X0 d2_3 rfl rfl ?_
        refine own_ifYes (pc' := 22) B X0 d2_4 ((if0 _ _).trans (flt (by decide : ¬ ((0 : Int32) < (0 : Int32)))).2.2.2) (by decide) rfl ?_
        refine own_iloadN (pc' := 23) B X0 d2_22 rfl rfl ?_
        refine own_ifNo (pc' := 26) B X0 d2_23 ((if0 _ _).trans (teq (by decide : (0 : Int32) = (0 : Int32))).2) rfl ?_
        refine own_iconst (pc' := 27) B X0 (z := (0 : Int32)) d2_26 rfl rfl ?_
        refine own_newarray (pc' := 29) B X0 (own_w hw 1 rfl) d2_27 rfl rfl (by decide) 0 (by decide) (by decide) (k' := 1) (n' := 0) rfl rfl (by decide) (by decide) "[B" (by decide) (.int (0 : Int32)) rfl ?_
        intro T4 h4 b4 kb4 X4 g4 E4 V_b4 E_b4
        have ne_w0_b4 : w0 ≠ b4 := own_ne E_w0.lt g4
        have sz_b4 : h0.size ≤ b4 := own_sz K g4
        have g_b4 : n0 ≤ b4 := Nat.le_trans Z0 sz_b4
        replace K := K.ext E4
        replace E_w0 := E_w0.ext E4
        replace V_w0 := V_w0.ext E4
        exact own_retA B X4 (t := (.array .byte)) rfl rfl rfl d2_29 (by decide) (by decide) (Or.inl ⟨b4, kb4, c1, c2, c3, rfl, K, sz_b4, E_b4, V_b4⟩)
      · refine own_icmpYes (pc' := 22) B X0 d2_13 (feq c3).2 (by decide) rfl ?_
        refine own_iloadN (pc' := 23) B X0 d2_22 rfl rfl ?_
        refine own_ifYes (pc' := 30) B X0 d2_23 ((if0 _ _).trans (feq (by decide : ¬ ((1 : Int32) = (0 : Int32)))).2) (by decide) rfl ?_
        refine own_aloadN (pc' := 31) B X0 d2_30 rfl rfl rfl ?_
        refine own_iloadN (pc' := 32) B X0 d2_31 rfl rfl ?_
        refine own_callS (pc' := 35) B X0 (own_w hw 13 rfl) (own_w hw 14 rfl) (own_w hw 15 rfl) (own_w hw 16 rfl) (by decide) [(.ref w0), (.int (1 : Int32))] [] (rm_34 l Z a0 hw [] w0 kw0 (p2) (p3) (p4) h0 n0 (Nat.le_trans Z0 K.1) E_w0 V_w0 g_w0) 0 (by decide) (by decide) rfl pd_3 rfl rfl (Nat.le_of_eq rfl) d2_32 rfl (k' := 1) (n' := 1) rfl rfl (by decide) (by decide) ?_
        intro T5 v5 h5 X5 q5
        have lt_w0 := E_w0.lt
        obtain ⟨b6, k7, rfl, K5, z_b6, E_b6, V_b6⟩ := q5
        have ne_w0_b6 : w0 ≠ b6 := own_ne' lt_w0 z_b6
        have sz_b6 : h0.size ≤ b6 := Nat.le_trans K.1 z_b6
        have g_b6 : n0 ≤ b6 := Nat.le_trans Z0 sz_b6
        replace K := K.trans K5 all0
        replace E_w0 := E_w0.keep K5
        replace V_w0 := V_w0.keep K5 nin0
        show own_Go p e below (T5.setTop (mkF m 35 #[.val (.ref w0), .val (.int (1 : Int32)), .unset] [(.ref b6)])) _
        refine own_astoreN (pc' := 36) B X5 (Ls' := #[.val (.ref w0), .val (.int (1 : Int32)), .val (.ref b6)]) d2_35 rfl rfl rfl ?_
        refine own_aloadN (pc' := 37) B X5 d2_36 rfl rfl rfl ?_
        refine own_iloadN (pc' := 38) B X5 d2_37 rfl rfl ?_
        refine own_iconst (pc' := 39) B X5 (z := (1 : Int32)) d2_38 rfl rfl ?_
        refine own_isub (pc' := 40) B X5 (z := (0 : Int32)) d2_39 rfl (by decide) ?_
        refine own_dup2 (pc' := 41) B X5 d2_40 rfl rfl rfl ?_
        refine own_baload (pc' := 42) B X5 V_b6 (v := (.int p2)) ⟨by decide, by decide⟩ rfl d2_41 rfl ?_
        refine own_iconst (pc' := 43) B X5 (z := (1 : Int32)) d2_42 rfl rfl ?_
        obtain ⟨y8, hy8⟩ : ∃ z : Int32, p2 + (1 : Int32) = z := ⟨_, rfl⟩
        refine own_iadd (pc' := 44) B X5 d2_43 rfl hy8 ?_
        obtain ⟨y9, hy9⟩ : ∃ z : Int32, y8.toInt8.toInt32 = z := ⟨_, rfl⟩
        refine own_i2b (pc' := 45) B X5 d2_44 rfl hy9 ?_
        refine own_bastore (pc' := 46) B X5 (x' := y9) V_b6 g_b6 ⟨by decide, by decide⟩ 0 (by decide) (Nat.le_of_ble_eq_true rfl) (own_idem_i2b hy9) d2_45 rfl ?_
        intro T10 h10 X10 W10 V_b6
        replace V_b6 : Arv Z h10 b6 k7 .byte (1 : Int32) [(.int y9)] (.int (0 : Int32)) := V_b6
        replace E_w0 := E_w0.wr W10
        replace V_w0 := V_w0.other W10 ne_w0_b6
        replace E_b6 := E_b6.wr W10
        replace K := K.wr W10 (Or.inr sz_b6)
        refine own_aloadN (pc' := 47) B X10 d2_46 rfl rfl rfl ?_
        exact own_retA B X10 (t := (.array .byte)) rfl rfl rfl d2_47 (by decide) (by decide) (Or.inr (Or.inl ⟨y8, y9, b6, k7, c1, c2, c3, hy8, hy9, rfl, K, sz_b6, E_b6, V_b6⟩))
    · refine own_icmpYes (pc' := 22) B X0 d2_13 (feq c2).2 (by decide) rfl ?_
      refine own_iloadN (pc' := 23) B X0 d2_22 rfl rfl ?_
      refine own_ifYes (pc' := 30) B X0 d2_23 ((if0 _ _).trans (feq (by decide : ¬ ((2 : Int32) = (0 : Int32)))).2) (by decide) rfl ?_
      refine own_aloadN (pc' := 31) B X0 d2_30 rfl rfl rfl ?_
      refine own_iloadN (pc' := 32) B X0 d2_31 rfl rfl ?_
      refine own_callS (pc' := 35) B X0 (own_w hw 13 rfl) (own_w hw 14 rfl) (own_w hw 15 rfl) (own_w hw 16 rfl) (by decide) [(.ref w0), (.int (2 : Int32))] [] (rm_36 l Z a0 hw [] w0 kw0 (p2) (p3) (p4) h0 n0 (Nat.le_trans Z0 K.1) E_w0 V_w0 g_w0) 0 (by decide) (by decide) rfl pd_3 rfl rfl (Nat.le_of_eq rfl) d2_32 rfl (k' := 1) (n' := 2) rfl rfl (by decide) (by decide) ?_
      intro T11 v11 h11 X11 q11
      have lt_w0 := E_w0.lt
      obtain ⟨b12, k13, rfl, K11, z_b12, E_b12, V_b12⟩ := q11
      have ne_w0_b12 : w0 ≠ b12 := own_ne' lt_w0 z_b12
      have sz_b12 : h0.size ≤ b12 := Nat.le_trans K.1 z_b12
      have g_b12 : n0 ≤ b12 := Nat.le_trans Z0 sz_b12
      replace K := K.trans K11 all0
      replace E_w0 := E_w0.keep K11
      replace V_w0 := V_w0.keep K11 nin0
      show own_Go p e below (T11.setTop (mkF m 35 #[.val (.ref w0), .val (.int (2 : Int32)), .unset] [(.ref b12)])) _
      refine own_astoreN (pc' := 36) B X11 (Ls' := #[.val (.ref w0), .val (.int (2 : Int32)), .val (.ref b12)]) d2_35 rfl rfl rfl ?_
      refine own_aloadN (pc' := 37) B X11 d2_36 rfl rfl rfl ?_
      refine own_iloadN (pc' := 38) B X11 d2_37 rfl rfl ?_
      refine own_iconst (pc' := 39) B X11 (z := (1 : Int32)) d2_38 rfl rfl ?_
      refine own_isub (pc' := 40) B X11 (z := (1 : Int32)) d2_39 rfl (by decide) ?_
      refine own_dup2 (pc' := 41) B X11 d2_40 rfl rfl rfl ?_
      refine own_baload (pc' := 42) B X11 V_b12 (v := (.int p3)) ⟨by decide, by decide⟩ rfl d2_41 rfl ?_
      refine own_iconst (pc' := 43) B X11 (z := (1 : Int32)) d2_42 rfl rfl ?_
      obtain ⟨y14, hy14⟩ : ∃ z : Int32, p3 + (1 : Int32) = z := ⟨_, rfl⟩
      refine own_iadd (pc' := 44) B X11 d2_43 rfl hy14 ?_
      obtain ⟨y15, hy15⟩ : ∃ z : Int32, y14.toInt8.toInt32 = z := ⟨_, rfl⟩
      refine own_i2b (pc' := 45) B X11 d2_44 rfl hy15 ?_
      refine own_bastore (pc' := 46) B X11 (x' := y15) V_b12 g_b12 ⟨by decide, by decide⟩ 1 (by decide) (Nat.le_of_ble_eq_true rfl) (own_idem_i2b hy15) d2_45 rfl ?_
      intro T16 h16 X16 W16 V_b12
      replace V_b12 : Arv Z h16 b12 k13 .byte (2 : Int32) [(.int p2), (.int y15)] (.int (0 : Int32)) := V_b12
      replace E_w0 := E_w0.wr W16
      replace V_w0 := V_w0.other W16 ne_w0_b12
      replace E_b12 := E_b12.wr W16
      replace K := K.wr W16 (Or.inr sz_b12)
      refine own_aloadN (pc' := 47) B X16 d2_46 rfl rfl rfl ?_
      exact own_retA B X16 (t := (.array .byte)) rfl rfl rfl d2_47 (by decide) (by decide) (Or.inr (Or.inr (Or.inl ⟨y14, y15, b12, k13, c1, c2, hy14, hy15, rfl, K, sz_b12, E_b12, V_b12⟩)))
  · refine own_icmpYes (pc' := 22) B X0 d2_13 (feq c1).2 (by decide) rfl ?_
    refine own_iloadN (pc' := 23) B X0 d2_22 rfl rfl ?_
    refine own_ifYes (pc' := 30) B X0 d2_23 ((if0 _ _).trans (feq (by decide : ¬ ((3 : Int32) = (0 : Int32)))).2) (by decide) rfl ?_
    refine own_aloadN (pc' := 31) B X0 d2_30 rfl rfl rfl ?_
    refine own_iloadN (pc' := 32) B X0 d2_31 rfl rfl ?_
    refine own_callS (pc' := 35) B X0 (own_w hw 13 rfl) (own_w hw 14 rfl) (own_w hw 15 rfl) (own_w hw 16 rfl) (by decide) [(.ref w0), (.int (3 : Int32))] [] (rm_38 l Z a0 hw [] w0 kw0 (p2) (p3) (p4) h0 n0 (Nat.le_trans Z0 K.1) E_w0 V_w0 g_w0) 0 (by decide) (by decide) rfl pd_3 rfl rfl (Nat.le_of_eq rfl) d2_32 rfl (k' := 1) (n' := 3) rfl rfl (by decide) (by decide) ?_
    intro T17 v17 h17 X17 q17
    have lt_w0 := E_w0.lt
    obtain ⟨b18, rfl, K17, z_b18, E_b18, V_b18⟩ := q17
    have ne_w0_b18 : w0 ≠ b18 := own_ne' lt_w0 z_b18
    have sz_b18 : h0.size ≤ b18 := Nat.le_trans K.1 z_b18
    have g_b18 : n0 ≤ b18 := Nat.le_trans Z0 sz_b18
    replace K := K.trans K17 all0
    replace E_w0 := E_w0.keep K17
    replace V_w0 := V_w0.keep K17 nin0
    show own_Go p e below (T17.setTop (mkF m 35 #[.val (.ref w0), .val (.int (3 : Int32)), .unset] [(.ref b18)])) _
    refine own_astoreN (pc' := 36) B X17 (Ls' := #[.val (.ref w0), .val (.int (3 : Int32)), .val (.ref b18)]) d2_35 rfl rfl rfl ?_
    refine own_aloadN (pc' := 37) B X17 d2_36 rfl rfl rfl ?_
    refine own_iloadN (pc' := 38) B X17 d2_37 rfl rfl ?_
    refine own_iconst (pc' := 39) B X17 (z := (1 : Int32)) d2_38 rfl rfl ?_
    refine own_isub (pc' := 40) B X17 (z := (2 : Int32)) d2_39 rfl (by decide) ?_
    refine own_dup2 (pc' := 41) B X17 d2_40 rfl rfl rfl ?_
    refine own_baload (pc' := 42) B X17 V_b18 (v := (.int p4)) ⟨by decide, by decide⟩ rfl d2_41 rfl ?_
    refine own_iconst (pc' := 43) B X17 (z := (1 : Int32)) d2_42 rfl rfl ?_
    obtain ⟨y19, hy19⟩ : ∃ z : Int32, p4 + (1 : Int32) = z := ⟨_, rfl⟩
    refine own_iadd (pc' := 44) B X17 d2_43 rfl hy19 ?_
    obtain ⟨y20, hy20⟩ : ∃ z : Int32, y19.toInt8.toInt32 = z := ⟨_, rfl⟩
    refine own_i2b (pc' := 45) B X17 d2_44 rfl hy20 ?_
    refine own_bastore (pc' := 46) B X17 (x' := y20) V_b18 g_b18 ⟨by decide, by decide⟩ 2 (by decide) (Nat.le_of_ble_eq_true rfl) (own_idem_i2b hy20) d2_45 rfl ?_
    intro T21 h21 X21 W21 V_b18
    replace V_b18 : Arv Z h21 b18 kw0 .byte (3 : Int32) [(.int p2), (.int p3), (.int y20)] (.int (0 : Int32)) := V_b18
    replace E_w0 := E_w0.wr W21
    replace V_w0 := V_w0.other W21 ne_w0_b18
    replace E_b18 := E_b18.wr W21
    replace K := K.wr W21 (Or.inr sz_b18)
    refine own_aloadN (pc' := 47) B X21 d2_46 rfl rfl rfl ?_
    exact own_retA B X21 (t := (.array .byte)) rfl rfl rfl d2_47 (by decide) (by decide) (Or.inr (Or.inr (Or.inr (⟨y19, y20, b18, c1, hy19, hy20, rfl, K, sz_b18, E_b18, V_b18⟩))))
def Q_39 (Z : State) (w0 : Addr) (kw0 : ClassId) (p2 : Int32) (p3 : Int32) (p4 : Int32) (w5 : Addr) (kw5 : ClassId) (w7 : Addr) (kw7 : ClassId) (p9 : Int32) (p10 : Int32) (p11 : Int32) (p12 : Int32) (p13 : Int32) (p14 : Int32) (p15 : Int32) (p16 : Int32) (p17 : Int32) (h0 : Heap) (n0 : Nat) (v : Option Value) (h : Heap) : Prop :=
  (v = some (.int (1 : Int32)) ∧ h0 = h)
set_option maxRecDepth 65536 in
set_option maxHeartbeats 40000000 in
theorem rm_39 (l : Launch) (Z : State) (a0 : Array Value) (hw : ∀ d ∈ tables_1, d.before a0 Z = true) (ws : List Jvm.Cond) (w0 : Addr) (kw0 : ClassId) (p2 : Int32) (p3 : Int32) (p4 : Int32) (w5 : Addr) (kw5 : ClassId) (w7 : Addr) (kw7 : ClassId) (p9 : Int32) (p10 : Int32) (p11 : Int32) (p12 : Int32) (p13 : Int32) (p14 : Int32) (p15 : Int32) (p16 : Int32) (p17 : Int32) (h0 : Heap) (n0 : Nat) (Z0 : n0 ≤ h0.size) (E_w0 : Exa Z h0 w0 "[B") (V_w0 : Arv Z h0 w0 kw0 .byte (3 : Int32) [(.int p2), (.int p3), (.int p4)] (.int (0 : Int32))) (g_w0 : n0 ≤ w0) (E_w5 : Exa Z h0 w5 "[B") (V_w5 : Arv Z h0 w5 kw5 .byte (0 : Int32) [] (.int (0 : Int32))) (g_w5 : n0 ≤ w5) (E_w7 : Exa Z h0 w7 "[B") (V_w7 : Arv Z h0 w7 kw7 .byte (4 : Int32) [(.int p2), (.int p3), (.int p4), (.int p9)] (.int (0 : Int32))) (g_w7 : n0 ≤ w7) (ne_w0_w5 : w0 ≠ w5) (ne_w0_w7 : w0 ≠ w7) (ne_w5_w7 : w5 ≠ w7) (hp0 : p10.toInt8.toInt32 = p2) (hp1 : p11.toInt8.toInt32 = p3) (hp2 : p12.toInt8.toInt32 = p4) (hp3 : p13.toInt8.toInt32 = p9) (hp4 : own_F_pick p14 = p10) (hp5 : own_F_pick p15 = p11) (hp6 : own_F_pick p16 = p12) (hp7 : own_F_pick p17 = p13) (hp8 : p4 = (-1 : Int32)) (hp9 : p3 = (-1 : Int32)) (hp10 : p2 = (-1 : Int32)) :
    MetFree l (⟨"com/example/keyer/keyer/QuerySuccessorPinLaw", "ok", "([B[B[BIII)Z"⟩ : MethodName) (head1 (Jvm.Cond.code (⟨"com/example/keyer/keyer/QuerySuccessorPinLaw", "ok", "([B[B[BIII)Z"⟩ : MethodName) method_3_code 6 (some .boolean) :: ws) ({ frames := 0, cells := 0, slots := 0, locals := 0 } : Room)) (fun a U => a = #[(.ref w0), (.ref w5), (.ref w7), (.int (3 : Int32)), (.int (0 : Int32)), (.int (0 : Int32))] ∧ Z.Warmed39 U.vm ∧ U.heap = h0) (fun _ _ _ _ _ => True) (fun _ U o U' => ∃ v L, o = .returned v ∧ (Fr n0 L ∧ Q_39 Z w0 kw0 p2 p3 p4 w5 kw5 w7 kw7 p9 p10 p11 p12 p13 p14 p15 p16 p17 h0 n0 v U'.heap) ∧ FrameEnd U o U' L ({ frames := 0, cells := 0, slots := 0, locals := 0 } : Room).cells ({ frames := 0, cells := 0, slots := 0, locals := 0 } : Room).slots) := by
  refine own_enter (Q := Q_39 Z w0 kw0 p2 p3 p4 w5 kw5 w7 kw7 p9 p10 p11 p12 p13 p14 p15 p16 p17 h0 n0) (F := fun m => mkF m 0 #[.val (.ref w0), .val (.ref w5), .val (.ref w7), .val (.int (3 : Int32)), .val (.int (0 : Int32)), .val (.int (0 : Int32))] []) (plainFor_of_name pn_0) (fun m => by first | (simp [entryFrame, mkF, argsToLocals, Value.category]; done) | rfl) ?_
  intro p e s m below meth c s₁ B X0
  have K : Keep h0 h0 [] := Keep.refl h0 _
  refine own_iload (pc' := 2) B X0 d3_0 rfl rfl ?_
  refine own_iloadN (pc' := 3) B X0 d3_2 rfl rfl ?_
  refine own_icmpYes (pc' := 8) B X0 d3_3 (tlt (by decide : (0 : Int32) < (3 : Int32))).1 (by decide) rfl ?_
  refine own_aloadN (pc' := 9) B X0 d3_8 rfl rfl rfl ?_
  refine own_iload (pc' := 11) B X0 d3_9 rfl rfl ?_
  refine own_baload (pc' := 12) B X0 V_w0 (v := (.int p2)) ⟨by decide, by decide⟩ rfl d3_11 rfl ?_
  refine own_aloadN (pc' := 13) B X0 d3_12 rfl rfl rfl ?_
  refine own_iload (pc' := 15) B X0 d3_13 rfl rfl ?_
  refine own_baload (pc' := 16) B X0 V_w7 (v := (.int p2)) ⟨by decide, by decide⟩ rfl d3_15 rfl ?_
  refine own_icmpYes (pc' := 21) B X0 d3_16 (teq rfl).1 (by decide) rfl ?_
  refine own_iload (pc' := 23) B X0 d3_21 rfl rfl ?_
  refine own_iload (pc' := 25) B X0 d3_23 rfl rfl ?_
  refine own_icmpNo (pc' := 28) B X0 d3_25 (flt (by decide : ¬ ((0 : Int32) < (0 : Int32)))).1 rfl ?_
  refine own_aloadN (pc' := 29) B X0 d3_28 rfl rfl rfl ?_
  refine own_iload (pc' := 31) B X0 d3_29 rfl rfl ?_
  refine own_baload (pc' := 32) B X0 V_w0 (v := (.int p2)) ⟨by decide, by decide⟩ rfl d3_31 rfl ?_
  refine own_iconst (pc' := 33) B X0 (z := (-1 : Int32)) d3_32 rfl rfl ?_
  refine own_icmpNo (pc' := 36) B X0 d3_33 (teq hp10).2 rfl ?_
  refine own_iconst (pc' := 37) B X0 (z := (1 : Int32)) d3_36 rfl rfl ?_
  refine own_goto (pc' := 41) B X0 d3_37 (by decide) rfl ?_
  exact own_retN B X0 (t := .boolean) (z' := (1 : Int32)) (by simp) (by decide) d3_41 (by decide) (by decide) (⟨rfl, rfl⟩)
def Q_40 (Z : State) (w0 : Addr) (kw0 : ClassId) (p2 : Int32) (p3 : Int32) (p4 : Int32) (w5 : Addr) (kw5 : ClassId) (w7 : Addr) (kw7 : ClassId) (p9 : Int32) (p10 : Int32) (p11 : Int32) (p12 : Int32) (p13 : Int32) (p14 : Int32) (p15 : Int32) (p16 : Int32) (p17 : Int32) (h0 : Heap) (n0 : Nat) (v : Option Value) (h : Heap) : Prop :=
  (v = some (.int (1 : Int32)) ∧ h0 = h)
set_option maxRecDepth 65536 in
set_option maxHeartbeats 40000000 in
theorem rm_40 (l : Launch) (Z : State) (a0 : Array Value) (hw : ∀ d ∈ tables_1, d.before a0 Z = true) (ws : List Jvm.Cond) (w0 : Addr) (kw0 : ClassId) (p2 : Int32) (p3 : Int32) (p4 : Int32) (w5 : Addr) (kw5 : ClassId) (w7 : Addr) (kw7 : ClassId) (p9 : Int32) (p10 : Int32) (p11 : Int32) (p12 : Int32) (p13 : Int32) (p14 : Int32) (p15 : Int32) (p16 : Int32) (p17 : Int32) (h0 : Heap) (n0 : Nat) (Z0 : n0 ≤ h0.size) (E_w0 : Exa Z h0 w0 "[B") (V_w0 : Arv Z h0 w0 kw0 .byte (3 : Int32) [(.int p2), (.int p3), (.int p4)] (.int (0 : Int32))) (g_w0 : n0 ≤ w0) (E_w5 : Exa Z h0 w5 "[B") (V_w5 : Arv Z h0 w5 kw5 .byte (0 : Int32) [] (.int (0 : Int32))) (g_w5 : n0 ≤ w5) (E_w7 : Exa Z h0 w7 "[B") (V_w7 : Arv Z h0 w7 kw7 .byte (4 : Int32) [(.int p2), (.int p3), (.int p4), (.int p9)] (.int (0 : Int32))) (g_w7 : n0 ≤ w7) (ne_w0_w5 : w0 ≠ w5) (ne_w0_w7 : w0 ≠ w7) (ne_w5_w7 : w5 ≠ w7) (hp0 : p10.toInt8.toInt32 = p2) (hp1 : p11.toInt8.toInt32 = p3) (hp2 : p12.toInt8.toInt32 = p4) (hp3 : p13.toInt8.toInt32 = p9) (hp4 : own_F_pick p14 = p10) (hp5 : own_F_pick p15 = p11) (hp6 : own_F_pick p16 = p12) (hp7 : own_F_pick p17 = p13) (hp8 : p4 = (-1 : Int32)) (hp9 : p3 = (-1 : Int32)) (hp10 : p2 = (-1 : Int32)) :
    MetFree l (⟨"com/example/keyer/keyer/QuerySuccessorPinLaw", "ok", "([B[B[BIII)Z"⟩ : MethodName) (head1 (Jvm.Cond.code (⟨"com/example/keyer/keyer/QuerySuccessorPinLaw", "ok", "([B[B[BIII)Z"⟩ : MethodName) method_3_code 6 (some .boolean) :: ws) ({ frames := 0, cells := 0, slots := 0, locals := 0 } : Room)) (fun a U => a = #[(.ref w0), (.ref w5), (.ref w7), (.int (3 : Int32)), (.int (0 : Int32)), (.int (1 : Int32))] ∧ Z.Warmed39 U.vm ∧ U.heap = h0) (fun _ _ _ _ _ => True) (fun _ U o U' => ∃ v L, o = .returned v ∧ (Fr n0 L ∧ Q_40 Z w0 kw0 p2 p3 p4 w5 kw5 w7 kw7 p9 p10 p11 p12 p13 p14 p15 p16 p17 h0 n0 v U'.heap) ∧ FrameEnd U o U' L ({ frames := 0, cells := 0, slots := 0, locals := 0 } : Room).cells ({ frames := 0, cells := 0, slots := 0, locals := 0 } : Room).slots) := by
  refine own_enter (Q := Q_40 Z w0 kw0 p2 p3 p4 w5 kw5 w7 kw7 p9 p10 p11 p12 p13 p14 p15 p16 p17 h0 n0) (F := fun m => mkF m 0 #[.val (.ref w0), .val (.ref w5), .val (.ref w7), .val (.int (3 : Int32)), .val (.int (0 : Int32)), .val (.int (1 : Int32))] []) (plainFor_of_name pn_0) (fun m => by first | (simp [entryFrame, mkF, argsToLocals, Value.category]; done) | rfl) ?_
  intro p e s m below meth c s₁ B X0
  have K : Keep h0 h0 [] := Keep.refl h0 _
  refine own_iload (pc' := 2) B X0 d3_0 rfl rfl ?_
  refine own_iloadN (pc' := 3) B X0 d3_2 rfl rfl ?_
  refine own_icmpYes (pc' := 8) B X0 d3_3 (tlt (by decide : (1 : Int32) < (3 : Int32))).1 (by decide) rfl ?_
  refine own_aloadN (pc' := 9) B X0 d3_8 rfl rfl rfl ?_
  refine own_iload (pc' := 11) B X0 d3_9 rfl rfl ?_
  refine own_baload (pc' := 12) B X0 V_w0 (v := (.int p3)) ⟨by decide, by decide⟩ rfl d3_11 rfl ?_
  refine own_aloadN (pc' := 13) B X0 d3_12 rfl rfl rfl ?_
  refine own_iload (pc' := 15) B X0 d3_13 rfl rfl ?_
  refine own_baload (pc' := 16) B X0 V_w7 (v := (.int p3)) ⟨by decide, by decide⟩ rfl d3_15 rfl ?_
  refine own_icmpYes (pc' := 21) B X0 d3_16 (teq rfl).1 (by decide) rfl ?_
  refine own_iload (pc' := 23) B X0 d3_21 rfl rfl ?_
  refine own_iload (pc' := 25) B X0 d3_23 rfl rfl ?_
  refine own_icmpNo (pc' := 28) B X0 d3_25 (flt (by decide : ¬ ((1 : Int32) < (0 : Int32)))).1 rfl ?_
  refine own_aloadN (pc' := 29) B X0 d3_28 rfl rfl rfl ?_
  refine own_iload (pc' := 31) B X0 d3_29 rfl rfl ?_
  refine own_baload (pc' := 32) B X0 V_w0 (v := (.int p3)) ⟨by decide, by decide⟩ rfl d3_31 rfl ?_
  refine own_iconst (pc' := 33) B X0 (z := (-1 : Int32)) d3_32 rfl rfl ?_
  refine own_icmpNo (pc' := 36) B X0 d3_33 (teq hp9).2 rfl ?_
  refine own_iconst (pc' := 37) B X0 (z := (1 : Int32)) d3_36 rfl rfl ?_
  refine own_goto (pc' := 41) B X0 d3_37 (by decide) rfl ?_
  exact own_retN B X0 (t := .boolean) (z' := (1 : Int32)) (by simp) (by decide) d3_41 (by decide) (by decide) (⟨rfl, rfl⟩)
def Q_41 (Z : State) (w0 : Addr) (kw0 : ClassId) (p2 : Int32) (p3 : Int32) (p4 : Int32) (w5 : Addr) (kw5 : ClassId) (w7 : Addr) (kw7 : ClassId) (p9 : Int32) (p10 : Int32) (p11 : Int32) (p12 : Int32) (p13 : Int32) (p14 : Int32) (p15 : Int32) (p16 : Int32) (p17 : Int32) (h0 : Heap) (n0 : Nat) (v : Option Value) (h : Heap) : Prop :=
  (v = some (.int (1 : Int32)) ∧ h0 = h)
set_option maxRecDepth 65536 in
set_option maxHeartbeats 40000000 in
theorem rm_41 (l : Launch) (Z : State) (a0 : Array Value) (hw : ∀ d ∈ tables_1, d.before a0 Z = true) (ws : List Jvm.Cond) (w0 : Addr) (kw0 : ClassId) (p2 : Int32) (p3 : Int32) (p4 : Int32) (w5 : Addr) (kw5 : ClassId) (w7 : Addr) (kw7 : ClassId) (p9 : Int32) (p10 : Int32) (p11 : Int32) (p12 : Int32) (p13 : Int32) (p14 : Int32) (p15 : Int32) (p16 : Int32) (p17 : Int32) (h0 : Heap) (n0 : Nat) (Z0 : n0 ≤ h0.size) (E_w0 : Exa Z h0 w0 "[B") (V_w0 : Arv Z h0 w0 kw0 .byte (3 : Int32) [(.int p2), (.int p3), (.int p4)] (.int (0 : Int32))) (g_w0 : n0 ≤ w0) (E_w5 : Exa Z h0 w5 "[B") (V_w5 : Arv Z h0 w5 kw5 .byte (0 : Int32) [] (.int (0 : Int32))) (g_w5 : n0 ≤ w5) (E_w7 : Exa Z h0 w7 "[B") (V_w7 : Arv Z h0 w7 kw7 .byte (4 : Int32) [(.int p2), (.int p3), (.int p4), (.int p9)] (.int (0 : Int32))) (g_w7 : n0 ≤ w7) (ne_w0_w5 : w0 ≠ w5) (ne_w0_w7 : w0 ≠ w7) (ne_w5_w7 : w5 ≠ w7) (hp0 : p10.toInt8.toInt32 = p2) (hp1 : p11.toInt8.toInt32 = p3) (hp2 : p12.toInt8.toInt32 = p4) (hp3 : p13.toInt8.toInt32 = p9) (hp4 : own_F_pick p14 = p10) (hp5 : own_F_pick p15 = p11) (hp6 : own_F_pick p16 = p12) (hp7 : own_F_pick p17 = p13) (hp8 : p4 = (-1 : Int32)) (hp9 : p3 = (-1 : Int32)) (hp10 : p2 = (-1 : Int32)) :
    MetFree l (⟨"com/example/keyer/keyer/QuerySuccessorPinLaw", "ok", "([B[B[BIII)Z"⟩ : MethodName) (head1 (Jvm.Cond.code (⟨"com/example/keyer/keyer/QuerySuccessorPinLaw", "ok", "([B[B[BIII)Z"⟩ : MethodName) method_3_code 6 (some .boolean) :: ws) ({ frames := 0, cells := 0, slots := 0, locals := 0 } : Room)) (fun a U => a = #[(.ref w0), (.ref w5), (.ref w7), (.int (3 : Int32)), (.int (0 : Int32)), (.int (2 : Int32))] ∧ Z.Warmed39 U.vm ∧ U.heap = h0) (fun _ _ _ _ _ => True) (fun _ U o U' => ∃ v L, o = .returned v ∧ (Fr n0 L ∧ Q_41 Z w0 kw0 p2 p3 p4 w5 kw5 w7 kw7 p9 p10 p11 p12 p13 p14 p15 p16 p17 h0 n0 v U'.heap) ∧ FrameEnd U o U' L ({ frames := 0, cells := 0, slots := 0, locals := 0 } : Room).cells ({ frames := 0, cells := 0, slots := 0, locals := 0 } : Room).slots) := by
  refine own_enter (Q := Q_41 Z w0 kw0 p2 p3 p4 w5 kw5 w7 kw7 p9 p10 p11 p12 p13 p14 p15 p16 p17 h0 n0) (F := fun m => mkF m 0 #[.val (.ref w0), .val (.ref w5), .val (.ref w7), .val (.int (3 : Int32)), .val (.int (0 : Int32)), .val (.int (2 : Int32))] []) (plainFor_of_name pn_0) (fun m => by first | (simp [entryFrame, mkF, argsToLocals, Value.category]; done) | rfl) ?_
  intro p e s m below meth c s₁ B X0
  have K : Keep h0 h0 [] := Keep.refl h0 _
  refine own_iload (pc' := 2) B X0 d3_0 rfl rfl ?_
  refine own_iloadN (pc' := 3) B X0 d3_2 rfl rfl ?_
  refine own_icmpYes (pc' := 8) B X0 d3_3 (tlt (by decide : (2 : Int32) < (3 : Int32))).1 (by decide) rfl ?_
  refine own_aloadN (pc' := 9) B X0 d3_8 rfl rfl rfl ?_
  refine own_iload (pc' := 11) B X0 d3_9 rfl rfl ?_
  refine own_baload (pc' := 12) B X0 V_w0 (v := (.int p4)) ⟨by decide, by decide⟩ rfl d3_11 rfl ?_
  refine own_aloadN (pc' := 13) B X0 d3_12 rfl rfl rfl ?_
  refine own_iload (pc' := 15) B X0 d3_13 rfl rfl ?_
  refine own_baload (pc' := 16) B X0 V_w7 (v := (.int p4)) ⟨by decide, by decide⟩ rfl d3_15 rfl ?_
  refine own_icmpYes (pc' := 21) B X0 d3_16 (teq rfl).1 (by decide) rfl ?_
  refine own_iload (pc' := 23) B X0 d3_21 rfl rfl ?_
  refine own_iload (pc' := 25) B X0 d3_23 rfl rfl ?_
  refine own_icmpNo (pc' := 28) B X0 d3_25 (flt (by decide : ¬ ((2 : Int32) < (0 : Int32)))).1 rfl ?_
  refine own_aloadN (pc' := 29) B X0 d3_28 rfl rfl rfl ?_
  refine own_iload (pc' := 31) B X0 d3_29 rfl rfl ?_
  refine own_baload (pc' := 32) B X0 V_w0 (v := (.int p4)) ⟨by decide, by decide⟩ rfl d3_31 rfl ?_
  refine own_iconst (pc' := 33) B X0 (z := (-1 : Int32)) d3_32 rfl rfl ?_
  refine own_icmpNo (pc' := 36) B X0 d3_33 (teq hp8).2 rfl ?_
  refine own_iconst (pc' := 37) B X0 (z := (1 : Int32)) d3_36 rfl rfl ?_
  refine own_goto (pc' := 41) B X0 d3_37 (by decide) rfl ?_
  exact own_retN B X0 (t := .boolean) (z' := (1 : Int32)) (by simp) (by decide) d3_41 (by decide) (by decide) (⟨rfl, rfl⟩)
def Q_42 (Z : State) (w0 : Addr) (kw0 : ClassId) (p2 : Int32) (p3 : Int32) (p4 : Int32) (w5 : Addr) (kw5 : ClassId) (w7 : Addr) (kw7 : ClassId) (p9 : Int32) (p10 : Int32) (p11 : Int32) (p12 : Int32) (p13 : Int32) (p14 : Int32) (p15 : Int32) (p16 : Int32) (p17 : Int32) (h0 : Heap) (n0 : Nat) (v : Option Value) (h : Heap) : Prop :=
  (v = some (.int (1 : Int32)) ∧ h0 = h)
set_option maxRecDepth 65536 in
set_option maxHeartbeats 40000000 in
theorem rm_42 (l : Launch) (Z : State) (a0 : Array Value) (hw : ∀ d ∈ tables_1, d.before a0 Z = true) (ws : List Jvm.Cond) (w0 : Addr) (kw0 : ClassId) (p2 : Int32) (p3 : Int32) (p4 : Int32) (w5 : Addr) (kw5 : ClassId) (w7 : Addr) (kw7 : ClassId) (p9 : Int32) (p10 : Int32) (p11 : Int32) (p12 : Int32) (p13 : Int32) (p14 : Int32) (p15 : Int32) (p16 : Int32) (p17 : Int32) (h0 : Heap) (n0 : Nat) (Z0 : n0 ≤ h0.size) (E_w0 : Exa Z h0 w0 "[B") (V_w0 : Arv Z h0 w0 kw0 .byte (3 : Int32) [(.int p2), (.int p3), (.int p4)] (.int (0 : Int32))) (g_w0 : n0 ≤ w0) (E_w5 : Exa Z h0 w5 "[B") (V_w5 : Arv Z h0 w5 kw5 .byte (0 : Int32) [] (.int (0 : Int32))) (g_w5 : n0 ≤ w5) (E_w7 : Exa Z h0 w7 "[B") (V_w7 : Arv Z h0 w7 kw7 .byte (4 : Int32) [(.int p2), (.int p3), (.int p4), (.int p9)] (.int (0 : Int32))) (g_w7 : n0 ≤ w7) (ne_w0_w5 : w0 ≠ w5) (ne_w0_w7 : w0 ≠ w7) (ne_w5_w7 : w5 ≠ w7) (hp0 : p10.toInt8.toInt32 = p2) (hp1 : p11.toInt8.toInt32 = p3) (hp2 : p12.toInt8.toInt32 = p4) (hp3 : p13.toInt8.toInt32 = p9) (hp4 : own_F_pick p14 = p10) (hp5 : own_F_pick p15 = p11) (hp6 : own_F_pick p16 = p12) (hp7 : own_F_pick p17 = p13) (hp8 : p4 = (-1 : Int32)) (hp9 : p3 = (-1 : Int32)) (hp10 : p2 = (-1 : Int32)) :
    MetFree l (⟨"com/example/keyer/keyer/QuerySuccessorPinLaw", "ok", "([B[B[BIII)Z"⟩ : MethodName) (head1 (Jvm.Cond.code (⟨"com/example/keyer/keyer/QuerySuccessorPinLaw", "ok", "([B[B[BIII)Z"⟩ : MethodName) method_3_code 6 (some .boolean) :: ws) ({ frames := 0, cells := 0, slots := 0, locals := 0 } : Room)) (fun a U => a = #[(.ref w0), (.ref w5), (.ref w7), (.int (3 : Int32)), (.int (0 : Int32)), (.int (3 : Int32))] ∧ Z.Warmed39 U.vm ∧ U.heap = h0) (fun _ _ _ _ _ => True) (fun _ U o U' => ∃ v L, o = .returned v ∧ (Fr n0 L ∧ Q_42 Z w0 kw0 p2 p3 p4 w5 kw5 w7 kw7 p9 p10 p11 p12 p13 p14 p15 p16 p17 h0 n0 v U'.heap) ∧ FrameEnd U o U' L ({ frames := 0, cells := 0, slots := 0, locals := 0 } : Room).cells ({ frames := 0, cells := 0, slots := 0, locals := 0 } : Room).slots) := by
  refine own_enter (Q := Q_42 Z w0 kw0 p2 p3 p4 w5 kw5 w7 kw7 p9 p10 p11 p12 p13 p14 p15 p16 p17 h0 n0) (F := fun m => mkF m 0 #[.val (.ref w0), .val (.ref w5), .val (.ref w7), .val (.int (3 : Int32)), .val (.int (0 : Int32)), .val (.int (3 : Int32))] []) (plainFor_of_name pn_0) (fun m => by first | (simp [entryFrame, mkF, argsToLocals, Value.category]; done) | rfl) ?_
  intro p e s m below meth c s₁ B X0
  have K : Keep h0 h0 [] := Keep.refl h0 _
  refine own_iload (pc' := 2) B X0 d3_0 rfl rfl ?_
  refine own_iloadN (pc' := 3) B X0 d3_2 rfl rfl ?_
  refine own_icmpNo (pc' := 6) B X0 d3_3 (flt (by decide : ¬ ((3 : Int32) < (3 : Int32)))).1 rfl ?_
  refine own_iconst (pc' := 7) B X0 (z := (1 : Int32)) d3_6 rfl rfl ?_
  exact own_retN B X0 (t := .boolean) (z' := (1 : Int32)) (by simp) (by decide) d3_7 (by decide) (by decide) (⟨rfl, rfl⟩)
def Q_43 (Z : State) (w0 : Addr) (kw0 : ClassId) (p2 : Int32) (p3 : Int32) (p4 : Int32) (w5 : Addr) (kw5 : ClassId) (p7 : Int32) (w8 : Addr) (kw8 : ClassId) (p10 : Int32) (p11 : Int32) (p12 : Int32) (p13 : Int32) (p14 : Int32) (p15 : Int32) (p16 : Int32) (p17 : Int32) (p18 : Int32) (p19 : Int32) (h0 : Heap) (n0 : Nat) (v : Option Value) (h : Heap) : Prop :=
  (v = some (.int (1 : Int32)) ∧ h0 = h)
set_option maxRecDepth 65536 in
set_option maxHeartbeats 40000000 in
theorem rm_43 (l : Launch) (Z : State) (a0 : Array Value) (hw : ∀ d ∈ tables_1, d.before a0 Z = true) (ws : List Jvm.Cond) (w0 : Addr) (kw0 : ClassId) (p2 : Int32) (p3 : Int32) (p4 : Int32) (w5 : Addr) (kw5 : ClassId) (p7 : Int32) (w8 : Addr) (kw8 : ClassId) (p10 : Int32) (p11 : Int32) (p12 : Int32) (p13 : Int32) (p14 : Int32) (p15 : Int32) (p16 : Int32) (p17 : Int32) (p18 : Int32) (p19 : Int32) (h0 : Heap) (n0 : Nat) (Z0 : n0 ≤ h0.size) (E_w0 : Exa Z h0 w0 "[B") (V_w0 : Arv Z h0 w0 kw0 .byte (3 : Int32) [(.int p2), (.int p3), (.int p4)] (.int (0 : Int32))) (g_w0 : n0 ≤ w0) (E_w5 : Exa Z h0 w5 "[B") (V_w5 : Arv Z h0 w5 kw5 .byte (1 : Int32) [(.int p7)] (.int (0 : Int32))) (g_w5 : n0 ≤ w5) (E_w8 : Exa Z h0 w8 "[B") (V_w8 : Arv Z h0 w8 kw8 .byte (4 : Int32) [(.int p2), (.int p3), (.int p4), (.int p10)] (.int (0 : Int32))) (g_w8 : n0 ≤ w8) (ne_w0_w5 : w0 ≠ w5) (ne_w0_w8 : w0 ≠ w8) (ne_w5_w8 : w5 ≠ w8) (hp0 : p11.toInt8.toInt32 = p2) (hp1 : p12.toInt8.toInt32 = p3) (hp2 : p13.toInt8.toInt32 = p4) (hp3 : p14.toInt8.toInt32 = p10) (hp4 : p15.toInt8.toInt32 = p7) (hp5 : own_F_pick p16 = p11) (hp6 : own_F_pick p17 = p12) (hp7 : own_F_pick p18 = p13) (hp8 : own_F_pick p19 = p14) (hp9 : p2 + (1 : Int32) = p15) (hp10 : p4 = (-1 : Int32)) (hp11 : p3 = (-1 : Int32)) (hp12 : ¬ (p2 = (-1 : Int32))) :
    MetFree l (⟨"com/example/keyer/keyer/QuerySuccessorPinLaw", "ok", "([B[B[BIII)Z"⟩ : MethodName) (head1 (Jvm.Cond.code (⟨"com/example/keyer/keyer/QuerySuccessorPinLaw", "ok", "([B[B[BIII)Z"⟩ : MethodName) method_3_code 6 (some .boolean) :: ws) ({ frames := 0, cells := 0, slots := 0, locals := 0 } : Room)) (fun a U => a = #[(.ref w0), (.ref w5), (.ref w8), (.int (3 : Int32)), (.int (1 : Int32)), (.int (0 : Int32))] ∧ Z.Warmed39 U.vm ∧ U.heap = h0) (fun _ _ _ _ _ => True) (fun _ U o U' => ∃ v L, o = .returned v ∧ (Fr n0 L ∧ Q_43 Z w0 kw0 p2 p3 p4 w5 kw5 p7 w8 kw8 p10 p11 p12 p13 p14 p15 p16 p17 p18 p19 h0 n0 v U'.heap) ∧ FrameEnd U o U' L ({ frames := 0, cells := 0, slots := 0, locals := 0 } : Room).cells ({ frames := 0, cells := 0, slots := 0, locals := 0 } : Room).slots) := by
  refine own_enter (Q := Q_43 Z w0 kw0 p2 p3 p4 w5 kw5 p7 w8 kw8 p10 p11 p12 p13 p14 p15 p16 p17 p18 p19 h0 n0) (F := fun m => mkF m 0 #[.val (.ref w0), .val (.ref w5), .val (.ref w8), .val (.int (3 : Int32)), .val (.int (1 : Int32)), .val (.int (0 : Int32))] []) (plainFor_of_name pn_0) (fun m => by first | (simp [entryFrame, mkF, argsToLocals, Value.category]; done) | rfl) ?_
  intro p e s m below meth c s₁ B X0
  have K : Keep h0 h0 [] := Keep.refl h0 _
  refine own_iload (pc' := 2) B X0 d3_0 rfl rfl ?_
  refine own_iloadN (pc' := 3) B X0 d3_2 rfl rfl ?_
  refine own_icmpYes (pc' := 8) B X0 d3_3 (tlt (by decide : (0 : Int32) < (3 : Int32))).1 (by decide) rfl ?_
  refine own_aloadN (pc' := 9) B X0 d3_8 rfl rfl rfl ?_
  refine own_iload (pc' := 11) B X0 d3_9 rfl rfl ?_
  refine own_baload (pc' := 12) B X0 V_w0 (v := (.int p2)) ⟨by decide, by decide⟩ rfl d3_11 rfl ?_
  refine own_aloadN (pc' := 13) B X0 d3_12 rfl rfl rfl ?_
  refine own_iload (pc' := 15) B X0 d3_13 rfl rfl ?_
  refine own_baload (pc' := 16) B X0 V_w8 (v := (.int p2)) ⟨by decide, by decide⟩ rfl d3_15 rfl ?_
  refine own_icmpYes (pc' := 21) B X0 d3_16 (teq rfl).1 (by decide) rfl ?_
  refine own_iload (pc' := 23) B X0 d3_21 rfl rfl ?_
  refine own_iload (pc' := 25) B X0 d3_23 rfl rfl ?_
  refine own_icmpYes (pc' := 42) B X0 d3_25 (tlt (by decide : (0 : Int32) < (1 : Int32))).1 (by decide) rfl ?_
  refine own_iload (pc' := 44) B X0 d3_42 rfl rfl ?_
  refine own_iload (pc' := 46) B X0 d3_44 rfl rfl ?_
  refine own_iconst (pc' := 47) B X0 (z := (1 : Int32)) d3_46 rfl rfl ?_
  refine own_isub (pc' := 48) B X0 (z := (0 : Int32)) d3_47 rfl (by decide) ?_
  refine own_icmpYes (pc' := 68) B X0 d3_48 (flt (by decide : ¬ ((0 : Int32) < (0 : Int32)))).2.1 (by decide) rfl ?_
  refine own_aloadN (pc' := 69) B X0 d3_68 rfl rfl rfl ?_
  refine own_iload (pc' := 71) B X0 d3_69 rfl rfl ?_
  refine own_baload (pc' := 72) B X0 V_w0 (v := (.int p2)) ⟨by decide, by decide⟩ rfl d3_71 rfl ?_
  refine own_iconst (pc' := 73) B X0 (z := (-1 : Int32)) d3_72 rfl rfl ?_
  refine own_icmpNo (pc' := 76) B X0 d3_73 (feq hp12).1 rfl ?_
  refine own_aloadN (pc' := 77) B X0 d3_76 rfl rfl rfl ?_
  refine own_iload (pc' := 79) B X0 d3_77 rfl rfl ?_
  refine own_baload (pc' := 80) B X0 V_w5 (v := (.int p7)) ⟨by decide, by decide⟩ rfl d3_79 rfl ?_
  refine own_aloadN (pc' := 81) B X0 d3_80 rfl rfl rfl ?_
  refine own_iload (pc' := 83) B X0 d3_81 rfl rfl ?_
  refine own_baload (pc' := 84) B X0 V_w0 (v := (.int p2)) ⟨by decide, by decide⟩ rfl d3_83 rfl ?_
  refine own_iconst (pc' := 85) B X0 (z := (1 : Int32)) d3_84 rfl rfl ?_
  refine own_iadd (pc' := 86) B X0 d3_85 rfl hp9 ?_
  refine own_i2b (pc' := 87) B X0 d3_86 rfl hp4 ?_
  refine own_icmpNo (pc' := 90) B X0 d3_87 (teq rfl).2 rfl ?_
  refine own_iconst (pc' := 91) B X0 (z := (1 : Int32)) d3_90 rfl rfl ?_
  refine own_goto (pc' := 95) B X0 d3_91 (by decide) rfl ?_
  exact own_retN B X0 (t := .boolean) (z' := (1 : Int32)) (by simp) (by decide) d3_95 (by decide) (by decide) (⟨rfl, rfl⟩)
def Q_44 (Z : State) (w0 : Addr) (kw0 : ClassId) (p2 : Int32) (p3 : Int32) (p4 : Int32) (w5 : Addr) (kw5 : ClassId) (p7 : Int32) (w8 : Addr) (kw8 : ClassId) (p10 : Int32) (p11 : Int32) (p12 : Int32) (p13 : Int32) (p14 : Int32) (p15 : Int32) (p16 : Int32) (p17 : Int32) (p18 : Int32) (p19 : Int32) (h0 : Heap) (n0 : Nat) (v : Option Value) (h : Heap) : Prop :=
  (v = some (.int (1 : Int32)) ∧ h0 = h)
set_option maxRecDepth 65536 in
set_option maxHeartbeats 40000000 in
theorem rm_44 (l : Launch) (Z : State) (a0 : Array Value) (hw : ∀ d ∈ tables_1, d.before a0 Z = true) (ws : List Jvm.Cond) (w0 : Addr) (kw0 : ClassId) (p2 : Int32) (p3 : Int32) (p4 : Int32) (w5 : Addr) (kw5 : ClassId) (p7 : Int32) (w8 : Addr) (kw8 : ClassId) (p10 : Int32) (p11 : Int32) (p12 : Int32) (p13 : Int32) (p14 : Int32) (p15 : Int32) (p16 : Int32) (p17 : Int32) (p18 : Int32) (p19 : Int32) (h0 : Heap) (n0 : Nat) (Z0 : n0 ≤ h0.size) (E_w0 : Exa Z h0 w0 "[B") (V_w0 : Arv Z h0 w0 kw0 .byte (3 : Int32) [(.int p2), (.int p3), (.int p4)] (.int (0 : Int32))) (g_w0 : n0 ≤ w0) (E_w5 : Exa Z h0 w5 "[B") (V_w5 : Arv Z h0 w5 kw5 .byte (1 : Int32) [(.int p7)] (.int (0 : Int32))) (g_w5 : n0 ≤ w5) (E_w8 : Exa Z h0 w8 "[B") (V_w8 : Arv Z h0 w8 kw8 .byte (4 : Int32) [(.int p2), (.int p3), (.int p4), (.int p10)] (.int (0 : Int32))) (g_w8 : n0 ≤ w8) (ne_w0_w5 : w0 ≠ w5) (ne_w0_w8 : w0 ≠ w8) (ne_w5_w8 : w5 ≠ w8) (hp0 : p11.toInt8.toInt32 = p2) (hp1 : p12.toInt8.toInt32 = p3) (hp2 : p13.toInt8.toInt32 = p4) (hp3 : p14.toInt8.toInt32 = p10) (hp4 : p15.toInt8.toInt32 = p7) (hp5 : own_F_pick p16 = p11) (hp6 : own_F_pick p17 = p12) (hp7 : own_F_pick p18 = p13) (hp8 : own_F_pick p19 = p14) (hp9 : p2 + (1 : Int32) = p15) (hp10 : p4 = (-1 : Int32)) (hp11 : p3 = (-1 : Int32)) (hp12 : ¬ (p2 = (-1 : Int32))) :
    MetFree l (⟨"com/example/keyer/keyer/QuerySuccessorPinLaw", "ok", "([B[B[BIII)Z"⟩ : MethodName) (head1 (Jvm.Cond.code (⟨"com/example/keyer/keyer/QuerySuccessorPinLaw", "ok", "([B[B[BIII)Z"⟩ : MethodName) method_3_code 6 (some .boolean) :: ws) ({ frames := 0, cells := 0, slots := 0, locals := 0 } : Room)) (fun a U => a = #[(.ref w0), (.ref w5), (.ref w8), (.int (3 : Int32)), (.int (1 : Int32)), (.int (1 : Int32))] ∧ Z.Warmed39 U.vm ∧ U.heap = h0) (fun _ _ _ _ _ => True) (fun _ U o U' => ∃ v L, o = .returned v ∧ (Fr n0 L ∧ Q_44 Z w0 kw0 p2 p3 p4 w5 kw5 p7 w8 kw8 p10 p11 p12 p13 p14 p15 p16 p17 p18 p19 h0 n0 v U'.heap) ∧ FrameEnd U o U' L ({ frames := 0, cells := 0, slots := 0, locals := 0 } : Room).cells ({ frames := 0, cells := 0, slots := 0, locals := 0 } : Room).slots) := by
  refine own_enter (Q := Q_44 Z w0 kw0 p2 p3 p4 w5 kw5 p7 w8 kw8 p10 p11 p12 p13 p14 p15 p16 p17 p18 p19 h0 n0) (F := fun m => mkF m 0 #[.val (.ref w0), .val (.ref w5), .val (.ref w8), .val (.int (3 : Int32)), .val (.int (1 : Int32)), .val (.int (1 : Int32))] []) (plainFor_of_name pn_0) (fun m => by first | (simp [entryFrame, mkF, argsToLocals, Value.category]; done) | rfl) ?_
  intro p e s m below meth c s₁ B X0
  have K : Keep h0 h0 [] := Keep.refl h0 _
  refine own_iload (pc' := 2) B X0 d3_0 rfl rfl ?_
  refine own_iloadN (pc' := 3) B X0 d3_2 rfl rfl ?_
  refine own_icmpYes (pc' := 8) B X0 d3_3 (tlt (by decide : (1 : Int32) < (3 : Int32))).1 (by decide) rfl ?_
  refine own_aloadN (pc' := 9) B X0 d3_8 rfl rfl rfl ?_
  refine own_iload (pc' := 11) B X0 d3_9 rfl rfl ?_
  refine own_baload (pc' := 12) B X0 V_w0 (v := (.int p3)) ⟨by decide, by decide⟩ rfl d3_11 rfl ?_
  refine own_aloadN (pc' := 13) B X0 d3_12 rfl rfl rfl ?_
  refine own_iload (pc' := 15) B X0 d3_13 rfl rfl ?_
  refine own_baload (pc' := 16) B X0 V_w8 (v := (.int p3)) ⟨by decide, by decide⟩ rfl d3_15 rfl ?_
  refine own_icmpYes (pc' := 21) B X0 d3_16 (teq rfl).1 (by decide) rfl ?_
  refine own_iload (pc' := 23) B X0 d3_21 rfl rfl ?_
  refine own_iload (pc' := 25) B X0 d3_23 rfl rfl ?_
  refine own_icmpNo (pc' := 28) B X0 d3_25 (flt (by decide : ¬ ((1 : Int32) < (1 : Int32)))).1 rfl ?_
  refine own_aloadN (pc' := 29) B X0 d3_28 rfl rfl rfl ?_
  refine own_iload (pc' := 31) B X0 d3_29 rfl rfl ?_
  refine own_baload (pc' := 32) B X0 V_w0 (v := (.int p3)) ⟨by decide, by decide⟩ rfl d3_31 rfl ?_
  refine own_iconst (pc' := 33) B X0 (z := (-1 : Int32)) d3_32 rfl rfl ?_
  refine own_icmpNo (pc' := 36) B X0 d3_33 (teq hp11).2 rfl ?_
  refine own_iconst (pc' := 37) B X0 (z := (1 : Int32)) d3_36 rfl rfl ?_
  refine own_goto (pc' := 41) B X0 d3_37 (by decide) rfl ?_
  exact own_retN B X0 (t := .boolean) (z' := (1 : Int32)) (by simp) (by decide) d3_41 (by decide) (by decide) (⟨rfl, rfl⟩)
def Q_45 (Z : State) (w0 : Addr) (kw0 : ClassId) (p2 : Int32) (p3 : Int32) (p4 : Int32) (w5 : Addr) (kw5 : ClassId) (p7 : Int32) (w8 : Addr) (kw8 : ClassId) (p10 : Int32) (p11 : Int32) (p12 : Int32) (p13 : Int32) (p14 : Int32) (p15 : Int32) (p16 : Int32) (p17 : Int32) (p18 : Int32) (p19 : Int32) (h0 : Heap) (n0 : Nat) (v : Option Value) (h : Heap) : Prop :=
  (v = some (.int (1 : Int32)) ∧ h0 = h)
set_option maxRecDepth 65536 in
set_option maxHeartbeats 40000000 in
theorem rm_45 (l : Launch) (Z : State) (a0 : Array Value) (hw : ∀ d ∈ tables_1, d.before a0 Z = true) (ws : List Jvm.Cond) (w0 : Addr) (kw0 : ClassId) (p2 : Int32) (p3 : Int32) (p4 : Int32) (w5 : Addr) (kw5 : ClassId) (p7 : Int32) (w8 : Addr) (kw8 : ClassId) (p10 : Int32) (p11 : Int32) (p12 : Int32) (p13 : Int32) (p14 : Int32) (p15 : Int32) (p16 : Int32) (p17 : Int32) (p18 : Int32) (p19 : Int32) (h0 : Heap) (n0 : Nat) (Z0 : n0 ≤ h0.size) (E_w0 : Exa Z h0 w0 "[B") (V_w0 : Arv Z h0 w0 kw0 .byte (3 : Int32) [(.int p2), (.int p3), (.int p4)] (.int (0 : Int32))) (g_w0 : n0 ≤ w0) (E_w5 : Exa Z h0 w5 "[B") (V_w5 : Arv Z h0 w5 kw5 .byte (1 : Int32) [(.int p7)] (.int (0 : Int32))) (g_w5 : n0 ≤ w5) (E_w8 : Exa Z h0 w8 "[B") (V_w8 : Arv Z h0 w8 kw8 .byte (4 : Int32) [(.int p2), (.int p3), (.int p4), (.int p10)] (.int (0 : Int32))) (g_w8 : n0 ≤ w8) (ne_w0_w5 : w0 ≠ w5) (ne_w0_w8 : w0 ≠ w8) (ne_w5_w8 : w5 ≠ w8) (hp0 : p11.toInt8.toInt32 = p2) (hp1 : p12.toInt8.toInt32 = p3) (hp2 : p13.toInt8.toInt32 = p4) (hp3 : p14.toInt8.toInt32 = p10) (hp4 : p15.toInt8.toInt32 = p7) (hp5 : own_F_pick p16 = p11) (hp6 : own_F_pick p17 = p12) (hp7 : own_F_pick p18 = p13) (hp8 : own_F_pick p19 = p14) (hp9 : p2 + (1 : Int32) = p15) (hp10 : p4 = (-1 : Int32)) (hp11 : p3 = (-1 : Int32)) (hp12 : ¬ (p2 = (-1 : Int32))) :
    MetFree l (⟨"com/example/keyer/keyer/QuerySuccessorPinLaw", "ok", "([B[B[BIII)Z"⟩ : MethodName) (head1 (Jvm.Cond.code (⟨"com/example/keyer/keyer/QuerySuccessorPinLaw", "ok", "([B[B[BIII)Z"⟩ : MethodName) method_3_code 6 (some .boolean) :: ws) ({ frames := 0, cells := 0, slots := 0, locals := 0 } : Room)) (fun a U => a = #[(.ref w0), (.ref w5), (.ref w8), (.int (3 : Int32)), (.int (1 : Int32)), (.int (2 : Int32))] ∧ Z.Warmed39 U.vm ∧ U.heap = h0) (fun _ _ _ _ _ => True) (fun _ U o U' => ∃ v L, o = .returned v ∧ (Fr n0 L ∧ Q_45 Z w0 kw0 p2 p3 p4 w5 kw5 p7 w8 kw8 p10 p11 p12 p13 p14 p15 p16 p17 p18 p19 h0 n0 v U'.heap) ∧ FrameEnd U o U' L ({ frames := 0, cells := 0, slots := 0, locals := 0 } : Room).cells ({ frames := 0, cells := 0, slots := 0, locals := 0 } : Room).slots) := by
  refine own_enter (Q := Q_45 Z w0 kw0 p2 p3 p4 w5 kw5 p7 w8 kw8 p10 p11 p12 p13 p14 p15 p16 p17 p18 p19 h0 n0) (F := fun m => mkF m 0 #[.val (.ref w0), .val (.ref w5), .val (.ref w8), .val (.int (3 : Int32)), .val (.int (1 : Int32)), .val (.int (2 : Int32))] []) (plainFor_of_name pn_0) (fun m => by first | (simp [entryFrame, mkF, argsToLocals, Value.category]; done) | rfl) ?_
  intro p e s m below meth c s₁ B X0
  have K : Keep h0 h0 [] := Keep.refl h0 _
  refine own_iload (pc' := 2) B X0 d3_0 rfl rfl ?_
  refine own_iloadN (pc' := 3) B X0 d3_2 rfl rfl ?_
  refine own_icmpYes (pc' := 8) B X0 d3_3 (tlt (by decide : (2 : Int32) < (3 : Int32))).1 (by decide) rfl ?_
  refine own_aloadN (pc' := 9) B X0 d3_8 rfl rfl rfl ?_
  refine own_iload (pc' := 11) B X0 d3_9 rfl rfl ?_
  refine own_baload (pc' := 12) B X0 V_w0 (v := (.int p4)) ⟨by decide, by decide⟩ rfl d3_11 rfl ?_
  refine own_aloadN (pc' := 13) B X0 d3_12 rfl rfl rfl ?_
  refine own_iload (pc' := 15) B X0 d3_13 rfl rfl ?_
  refine own_baload (pc' := 16) B X0 V_w8 (v := (.int p4)) ⟨by decide, by decide⟩ rfl d3_15 rfl ?_
  refine own_icmpYes (pc' := 21) B X0 d3_16 (teq rfl).1 (by decide) rfl ?_
  refine own_iload (pc' := 23) B X0 d3_21 rfl rfl ?_
  refine own_iload (pc' := 25) B X0 d3_23 rfl rfl ?_
  refine own_icmpNo (pc' := 28) B X0 d3_25 (flt (by decide : ¬ ((2 : Int32) < (1 : Int32)))).1 rfl ?_
  refine own_aloadN (pc' := 29) B X0 d3_28 rfl rfl rfl ?_
  refine own_iload (pc' := 31) B X0 d3_29 rfl rfl ?_
  refine own_baload (pc' := 32) B X0 V_w0 (v := (.int p4)) ⟨by decide, by decide⟩ rfl d3_31 rfl ?_
  refine own_iconst (pc' := 33) B X0 (z := (-1 : Int32)) d3_32 rfl rfl ?_
  refine own_icmpNo (pc' := 36) B X0 d3_33 (teq hp10).2 rfl ?_
  refine own_iconst (pc' := 37) B X0 (z := (1 : Int32)) d3_36 rfl rfl ?_
  refine own_goto (pc' := 41) B X0 d3_37 (by decide) rfl ?_
  exact own_retN B X0 (t := .boolean) (z' := (1 : Int32)) (by simp) (by decide) d3_41 (by decide) (by decide) (⟨rfl, rfl⟩)
def Q_46 (Z : State) (w0 : Addr) (kw0 : ClassId) (p2 : Int32) (p3 : Int32) (p4 : Int32) (w5 : Addr) (kw5 : ClassId) (p7 : Int32) (w8 : Addr) (kw8 : ClassId) (p10 : Int32) (p11 : Int32) (p12 : Int32) (p13 : Int32) (p14 : Int32) (p15 : Int32) (p16 : Int32) (p17 : Int32) (p18 : Int32) (p19 : Int32) (h0 : Heap) (n0 : Nat) (v : Option Value) (h : Heap) : Prop :=
  (v = some (.int (1 : Int32)) ∧ h0 = h)
set_option maxRecDepth 65536 in
set_option maxHeartbeats 40000000 in
theorem rm_46 (l : Launch) (Z : State) (a0 : Array Value) (hw : ∀ d ∈ tables_1, d.before a0 Z = true) (ws : List Jvm.Cond) (w0 : Addr) (kw0 : ClassId) (p2 : Int32) (p3 : Int32) (p4 : Int32) (w5 : Addr) (kw5 : ClassId) (p7 : Int32) (w8 : Addr) (kw8 : ClassId) (p10 : Int32) (p11 : Int32) (p12 : Int32) (p13 : Int32) (p14 : Int32) (p15 : Int32) (p16 : Int32) (p17 : Int32) (p18 : Int32) (p19 : Int32) (h0 : Heap) (n0 : Nat) (Z0 : n0 ≤ h0.size) (E_w0 : Exa Z h0 w0 "[B") (V_w0 : Arv Z h0 w0 kw0 .byte (3 : Int32) [(.int p2), (.int p3), (.int p4)] (.int (0 : Int32))) (g_w0 : n0 ≤ w0) (E_w5 : Exa Z h0 w5 "[B") (V_w5 : Arv Z h0 w5 kw5 .byte (1 : Int32) [(.int p7)] (.int (0 : Int32))) (g_w5 : n0 ≤ w5) (E_w8 : Exa Z h0 w8 "[B") (V_w8 : Arv Z h0 w8 kw8 .byte (4 : Int32) [(.int p2), (.int p3), (.int p4), (.int p10)] (.int (0 : Int32))) (g_w8 : n0 ≤ w8) (ne_w0_w5 : w0 ≠ w5) (ne_w0_w8 : w0 ≠ w8) (ne_w5_w8 : w5 ≠ w8) (hp0 : p11.toInt8.toInt32 = p2) (hp1 : p12.toInt8.toInt32 = p3) (hp2 : p13.toInt8.toInt32 = p4) (hp3 : p14.toInt8.toInt32 = p10) (hp4 : p15.toInt8.toInt32 = p7) (hp5 : own_F_pick p16 = p11) (hp6 : own_F_pick p17 = p12) (hp7 : own_F_pick p18 = p13) (hp8 : own_F_pick p19 = p14) (hp9 : p2 + (1 : Int32) = p15) (hp10 : p4 = (-1 : Int32)) (hp11 : p3 = (-1 : Int32)) (hp12 : ¬ (p2 = (-1 : Int32))) :
    MetFree l (⟨"com/example/keyer/keyer/QuerySuccessorPinLaw", "ok", "([B[B[BIII)Z"⟩ : MethodName) (head1 (Jvm.Cond.code (⟨"com/example/keyer/keyer/QuerySuccessorPinLaw", "ok", "([B[B[BIII)Z"⟩ : MethodName) method_3_code 6 (some .boolean) :: ws) ({ frames := 0, cells := 0, slots := 0, locals := 0 } : Room)) (fun a U => a = #[(.ref w0), (.ref w5), (.ref w8), (.int (3 : Int32)), (.int (1 : Int32)), (.int (3 : Int32))] ∧ Z.Warmed39 U.vm ∧ U.heap = h0) (fun _ _ _ _ _ => True) (fun _ U o U' => ∃ v L, o = .returned v ∧ (Fr n0 L ∧ Q_46 Z w0 kw0 p2 p3 p4 w5 kw5 p7 w8 kw8 p10 p11 p12 p13 p14 p15 p16 p17 p18 p19 h0 n0 v U'.heap) ∧ FrameEnd U o U' L ({ frames := 0, cells := 0, slots := 0, locals := 0 } : Room).cells ({ frames := 0, cells := 0, slots := 0, locals := 0 } : Room).slots) := by
  refine own_enter (Q := Q_46 Z w0 kw0 p2 p3 p4 w5 kw5 p7 w8 kw8 p10 p11 p12 p13 p14 p15 p16 p17 p18 p19 h0 n0) (F := fun m => mkF m 0 #[.val (.ref w0), .val (.ref w5), .val (.ref w8), .val (.int (3 : Int32)), .val (.int (1 : Int32)), .val (.int (3 : Int32))] []) (plainFor_of_name pn_0) (fun m => by first | (simp [entryFrame, mkF, argsToLocals, Value.category]; done) | rfl) ?_
  intro p e s m below meth c s₁ B X0
  have K : Keep h0 h0 [] := Keep.refl h0 _
  refine own_iload (pc' := 2) B X0 d3_0 rfl rfl ?_
  refine own_iloadN (pc' := 3) B X0 d3_2 rfl rfl ?_
  refine own_icmpNo (pc' := 6) B X0 d3_3 (flt (by decide : ¬ ((3 : Int32) < (3 : Int32)))).1 rfl ?_
  refine own_iconst (pc' := 7) B X0 (z := (1 : Int32)) d3_6 rfl rfl ?_
  exact own_retN B X0 (t := .boolean) (z' := (1 : Int32)) (by simp) (by decide) d3_7 (by decide) (by decide) (⟨rfl, rfl⟩)
def Q_47 (Z : State) (w0 : Addr) (kw0 : ClassId) (p2 : Int32) (p3 : Int32) (p4 : Int32) (w5 : Addr) (kw5 : ClassId) (p7 : Int32) (w8 : Addr) (kw8 : ClassId) (p10 : Int32) (p11 : Int32) (p12 : Int32) (p13 : Int32) (p14 : Int32) (p15 : Int32) (p16 : Int32) (p17 : Int32) (p18 : Int32) (p19 : Int32) (h0 : Heap) (n0 : Nat) (v : Option Value) (h : Heap) : Prop :=
  (v = some (.int (1 : Int32)) ∧ h0 = h)
set_option maxRecDepth 65536 in
set_option maxHeartbeats 40000000 in
theorem rm_47 (l : Launch) (Z : State) (a0 : Array Value) (hw : ∀ d ∈ tables_1, d.before a0 Z = true) (ws : List Jvm.Cond) (w0 : Addr) (kw0 : ClassId) (p2 : Int32) (p3 : Int32) (p4 : Int32) (w5 : Addr) (kw5 : ClassId) (p7 : Int32) (w8 : Addr) (kw8 : ClassId) (p10 : Int32) (p11 : Int32) (p12 : Int32) (p13 : Int32) (p14 : Int32) (p15 : Int32) (p16 : Int32) (p17 : Int32) (p18 : Int32) (p19 : Int32) (h0 : Heap) (n0 : Nat) (Z0 : n0 ≤ h0.size) (E_w0 : Exa Z h0 w0 "[B") (V_w0 : Arv Z h0 w0 kw0 .byte (3 : Int32) [(.int p2), (.int p3), (.int p4)] (.int (0 : Int32))) (g_w0 : n0 ≤ w0) (E_w5 : Exa Z h0 w5 "[B") (V_w5 : Arv Z h0 w5 kw5 .byte (2 : Int32) [(.int p2), (.int p7)] (.int (0 : Int32))) (g_w5 : n0 ≤ w5) (E_w8 : Exa Z h0 w8 "[B") (V_w8 : Arv Z h0 w8 kw8 .byte (4 : Int32) [(.int p2), (.int p3), (.int p4), (.int p10)] (.int (0 : Int32))) (g_w8 : n0 ≤ w8) (ne_w0_w5 : w0 ≠ w5) (ne_w0_w8 : w0 ≠ w8) (ne_w5_w8 : w5 ≠ w8) (hp0 : p11.toInt8.toInt32 = p2) (hp1 : p12.toInt8.toInt32 = p3) (hp2 : p13.toInt8.toInt32 = p4) (hp3 : p14.toInt8.toInt32 = p10) (hp4 : p15.toInt8.toInt32 = p7) (hp5 : own_F_pick p16 = p11) (hp6 : own_F_pick p17 = p12) (hp7 : own_F_pick p18 = p13) (hp8 : own_F_pick p19 = p14) (hp9 : p3 + (1 : Int32) = p15) (hp10 : p4 = (-1 : Int32)) (hp11 : ¬ (p3 = (-1 : Int32))) :
    MetFree l (⟨"com/example/keyer/keyer/QuerySuccessorPinLaw", "ok", "([B[B[BIII)Z"⟩ : MethodName) (head1 (Jvm.Cond.code (⟨"com/example/keyer/keyer/QuerySuccessorPinLaw", "ok", "([B[B[BIII)Z"⟩ : MethodName) method_3_code 6 (some .boolean) :: ws) ({ frames := 0, cells := 0, slots := 0, locals := 0 } : Room)) (fun a U => a = #[(.ref w0), (.ref w5), (.ref w8), (.int (3 : Int32)), (.int (2 : Int32)), (.int (0 : Int32))] ∧ Z.Warmed39 U.vm ∧ U.heap = h0) (fun _ _ _ _ _ => True) (fun _ U o U' => ∃ v L, o = .returned v ∧ (Fr n0 L ∧ Q_47 Z w0 kw0 p2 p3 p4 w5 kw5 p7 w8 kw8 p10 p11 p12 p13 p14 p15 p16 p17 p18 p19 h0 n0 v U'.heap) ∧ FrameEnd U o U' L ({ frames := 0, cells := 0, slots := 0, locals := 0 } : Room).cells ({ frames := 0, cells := 0, slots := 0, locals := 0 } : Room).slots) := by
  refine own_enter (Q := Q_47 Z w0 kw0 p2 p3 p4 w5 kw5 p7 w8 kw8 p10 p11 p12 p13 p14 p15 p16 p17 p18 p19 h0 n0) (F := fun m => mkF m 0 #[.val (.ref w0), .val (.ref w5), .val (.ref w8), .val (.int (3 : Int32)), .val (.int (2 : Int32)), .val (.int (0 : Int32))] []) (plainFor_of_name pn_0) (fun m => by first | (simp [entryFrame, mkF, argsToLocals, Value.category]; done) | rfl) ?_
  intro p e s m below meth c s₁ B X0
  have K : Keep h0 h0 [] := Keep.refl h0 _
  refine own_iload (pc' := 2) B X0 d3_0 rfl rfl ?_
  refine own_iloadN (pc' := 3) B X0 d3_2 rfl rfl ?_
  refine own_icmpYes (pc' := 8) B X0 d3_3 (tlt (by decide : (0 : Int32) < (3 : Int32))).1 (by decide) rfl ?_
  refine own_aloadN (pc' := 9) B X0 d3_8 rfl rfl rfl ?_
  refine own_iload (pc' := 11) B X0 d3_9 rfl rfl ?_
  refine own_baload (pc' := 12) B X0 V_w0 (v := (.int p2)) ⟨by decide, by decide⟩ rfl d3_11 rfl ?_
  refine own_aloadN (pc' := 13) B X0 d3_12 rfl rfl rfl ?_
  refine own_iload (pc' := 15) B X0 d3_13 rfl rfl ?_
  refine own_baload (pc' := 16) B X0 V_w8 (v := (.int p2)) ⟨by decide, by decide⟩ rfl d3_15 rfl ?_
  refine own_icmpYes (pc' := 21) B X0 d3_16 (teq rfl).1 (by decide) rfl ?_
  refine own_iload (pc' := 23) B X0 d3_21 rfl rfl ?_
  refine own_iload (pc' := 25) B X0 d3_23 rfl rfl ?_
  refine own_icmpYes (pc' := 42) B X0 d3_25 (tlt (by decide : (0 : Int32) < (2 : Int32))).1 (by decide) rfl ?_
  refine own_iload (pc' := 44) B X0 d3_42 rfl rfl ?_
  refine own_iload (pc' := 46) B X0 d3_44 rfl rfl ?_
  refine own_iconst (pc' := 47) B X0 (z := (1 : Int32)) d3_46 rfl rfl ?_
  refine own_isub (pc' := 48) B X0 (z := (1 : Int32)) d3_47 rfl (by decide) ?_
  refine own_icmpNo (pc' := 51) B X0 d3_48 (tlt (by decide : (0 : Int32) < (1 : Int32))).2.1 rfl ?_
  refine own_aloadN (pc' := 52) B X0 d3_51 rfl rfl rfl ?_
  refine own_iload (pc' := 54) B X0 d3_52 rfl rfl ?_
  refine own_baload (pc' := 55) B X0 V_w5 (v := (.int p2)) ⟨by decide, by decide⟩ rfl d3_54 rfl ?_
  refine own_aloadN (pc' := 56) B X0 d3_55 rfl rfl rfl ?_
  refine own_iload (pc' := 58) B X0 d3_56 rfl rfl ?_
  refine own_baload (pc' := 59) B X0 V_w0 (v := (.int p2)) ⟨by decide, by decide⟩ rfl d3_58 rfl ?_
  refine own_icmpNo (pc' := 62) B X0 d3_59 (teq rfl).2 rfl ?_
  refine own_iconst (pc' := 63) B X0 (z := (1 : Int32)) d3_62 rfl rfl ?_
  refine own_goto (pc' := 67) B X0 d3_63 (by decide) rfl ?_
  exact own_retN B X0 (t := .boolean) (z' := (1 : Int32)) (by simp) (by decide) d3_67 (by decide) (by decide) (⟨rfl, rfl⟩)
def Q_48 (Z : State) (w0 : Addr) (kw0 : ClassId) (p2 : Int32) (p3 : Int32) (p4 : Int32) (w5 : Addr) (kw5 : ClassId) (p7 : Int32) (w8 : Addr) (kw8 : ClassId) (p10 : Int32) (p11 : Int32) (p12 : Int32) (p13 : Int32) (p14 : Int32) (p15 : Int32) (p16 : Int32) (p17 : Int32) (p18 : Int32) (p19 : Int32) (h0 : Heap) (n0 : Nat) (v : Option Value) (h : Heap) : Prop :=
  (v = some (.int (1 : Int32)) ∧ h0 = h)
set_option maxRecDepth 65536 in
set_option maxHeartbeats 40000000 in
theorem rm_48 (l : Launch) (Z : State) (a0 : Array Value) (hw : ∀ d ∈ tables_1, d.before a0 Z = true) (ws : List Jvm.Cond) (w0 : Addr) (kw0 : ClassId) (p2 : Int32) (p3 : Int32) (p4 : Int32) (w5 : Addr) (kw5 : ClassId) (p7 : Int32) (w8 : Addr) (kw8 : ClassId) (p10 : Int32) (p11 : Int32) (p12 : Int32) (p13 : Int32) (p14 : Int32) (p15 : Int32) (p16 : Int32) (p17 : Int32) (p18 : Int32) (p19 : Int32) (h0 : Heap) (n0 : Nat) (Z0 : n0 ≤ h0.size) (E_w0 : Exa Z h0 w0 "[B") (V_w0 : Arv Z h0 w0 kw0 .byte (3 : Int32) [(.int p2), (.int p3), (.int p4)] (.int (0 : Int32))) (g_w0 : n0 ≤ w0) (E_w5 : Exa Z h0 w5 "[B") (V_w5 : Arv Z h0 w5 kw5 .byte (2 : Int32) [(.int p2), (.int p7)] (.int (0 : Int32))) (g_w5 : n0 ≤ w5) (E_w8 : Exa Z h0 w8 "[B") (V_w8 : Arv Z h0 w8 kw8 .byte (4 : Int32) [(.int p2), (.int p3), (.int p4), (.int p10)] (.int (0 : Int32))) (g_w8 : n0 ≤ w8) (ne_w0_w5 : w0 ≠ w5) (ne_w0_w8 : w0 ≠ w8) (ne_w5_w8 : w5 ≠ w8) (hp0 : p11.toInt8.toInt32 = p2) (hp1 : p12.toInt8.toInt32 = p3) (hp2 : p13.toInt8.toInt32 = p4) (hp3 : p14.toInt8.toInt32 = p10) (hp4 : p15.toInt8.toInt32 = p7) (hp5 : own_F_pick p16 = p11) (hp6 : own_F_pick p17 = p12) (hp7 : own_F_pick p18 = p13) (hp8 : own_F_pick p19 = p14) (hp9 : p3 + (1 : Int32) = p15) (hp10 : p4 = (-1 : Int32)) (hp11 : ¬ (p3 = (-1 : Int32))) :
    MetFree l (⟨"com/example/keyer/keyer/QuerySuccessorPinLaw", "ok", "([B[B[BIII)Z"⟩ : MethodName) (head1 (Jvm.Cond.code (⟨"com/example/keyer/keyer/QuerySuccessorPinLaw", "ok", "([B[B[BIII)Z"⟩ : MethodName) method_3_code 6 (some .boolean) :: ws) ({ frames := 0, cells := 0, slots := 0, locals := 0 } : Room)) (fun a U => a = #[(.ref w0), (.ref w5), (.ref w8), (.int (3 : Int32)), (.int (2 : Int32)), (.int (1 : Int32))] ∧ Z.Warmed39 U.vm ∧ U.heap = h0) (fun _ _ _ _ _ => True) (fun _ U o U' => ∃ v L, o = .returned v ∧ (Fr n0 L ∧ Q_48 Z w0 kw0 p2 p3 p4 w5 kw5 p7 w8 kw8 p10 p11 p12 p13 p14 p15 p16 p17 p18 p19 h0 n0 v U'.heap) ∧ FrameEnd U o U' L ({ frames := 0, cells := 0, slots := 0, locals := 0 } : Room).cells ({ frames := 0, cells := 0, slots := 0, locals := 0 } : Room).slots) := by
  refine own_enter (Q := Q_48 Z w0 kw0 p2 p3 p4 w5 kw5 p7 w8 kw8 p10 p11 p12 p13 p14 p15 p16 p17 p18 p19 h0 n0) (F := fun m => mkF m 0 #[.val (.ref w0), .val (.ref w5), .val (.ref w8), .val (.int (3 : Int32)), .val (.int (2 : Int32)), .val (.int (1 : Int32))] []) (plainFor_of_name pn_0) (fun m => by first | (simp [entryFrame, mkF, argsToLocals, Value.category]; done) | rfl) ?_
  intro p e s m below meth c s₁ B X0
  have K : Keep h0 h0 [] := Keep.refl h0 _
  refine own_iload (pc' := 2) B X0 d3_0 rfl rfl ?_
  refine own_iloadN (pc' := 3) B X0 d3_2 rfl rfl ?_
  refine own_icmpYes (pc' := 8) B X0 d3_3 (tlt (by decide : (1 : Int32) < (3 : Int32))).1 (by decide) rfl ?_
  refine own_aloadN (pc' := 9) B X0 d3_8 rfl rfl rfl ?_
  refine own_iload (pc' := 11) B X0 d3_9 rfl rfl ?_
  refine own_baload (pc' := 12) B X0 V_w0 (v := (.int p3)) ⟨by decide, by decide⟩ rfl d3_11 rfl ?_
  refine own_aloadN (pc' := 13) B X0 d3_12 rfl rfl rfl ?_
  refine own_iload (pc' := 15) B X0 d3_13 rfl rfl ?_
  refine own_baload (pc' := 16) B X0 V_w8 (v := (.int p3)) ⟨by decide, by decide⟩ rfl d3_15 rfl ?_
  refine own_icmpYes (pc' := 21) B X0 d3_16 (teq rfl).1 (by decide) rfl ?_
  refine own_iload (pc' := 23) B X0 d3_21 rfl rfl ?_
  refine own_iload (pc' := 25) B X0 d3_23 rfl rfl ?_
  refine own_icmpYes (pc' := 42) B X0 d3_25 (tlt (by decide : (1 : Int32) < (2 : Int32))).1 (by decide) rfl ?_
  refine own_iload (pc' := 44) B X0 d3_42 rfl rfl ?_
  refine own_iload (pc' := 46) B X0 d3_44 rfl rfl ?_
  refine own_iconst (pc' := 47) B X0 (z := (1 : Int32)) d3_46 rfl rfl ?_
  refine own_isub (pc' := 48) B X0 (z := (1 : Int32)) d3_47 rfl (by decide) ?_
  refine own_icmpYes (pc' := 68) B X0 d3_48 (flt (by decide : ¬ ((1 : Int32) < (1 : Int32)))).2.1 (by decide) rfl ?_
  refine own_aloadN (pc' := 69) B X0 d3_68 rfl rfl rfl ?_
  refine own_iload (pc' := 71) B X0 d3_69 rfl rfl ?_
  refine own_baload (pc' := 72) B X0 V_w0 (v := (.int p3)) ⟨by decide, by decide⟩ rfl d3_71 rfl ?_
  refine own_iconst (pc' := 73) B X0 (z := (-1 : Int32)) d3_72 rfl rfl ?_
  refine own_icmpNo (pc' := 76) B X0 d3_73 (feq hp11).1 rfl ?_
  refine own_aloadN (pc' := 77) B X0 d3_76 rfl rfl rfl ?_
  refine own_iload (pc' := 79) B X0 d3_77 rfl rfl ?_
  refine own_baload (pc' := 80) B X0 V_w5 (v := (.int p7)) ⟨by decide, by decide⟩ rfl d3_79 rfl ?_
  refine own_aloadN (pc' := 81) B X0 d3_80 rfl rfl rfl ?_
  refine own_iload (pc' := 83) B X0 d3_81 rfl rfl ?_
  refine own_baload (pc' := 84) B X0 V_w0 (v := (.int p3)) ⟨by decide, by decide⟩ rfl d3_83 rfl ?_
  refine own_iconst (pc' := 85) B X0 (z := (1 : Int32)) d3_84 rfl rfl ?_
  refine own_iadd (pc' := 86) B X0 d3_85 rfl hp9 ?_
  refine own_i2b (pc' := 87) B X0 d3_86 rfl hp4 ?_
  refine own_icmpNo (pc' := 90) B X0 d3_87 (teq rfl).2 rfl ?_
  refine own_iconst (pc' := 91) B X0 (z := (1 : Int32)) d3_90 rfl rfl ?_
  refine own_goto (pc' := 95) B X0 d3_91 (by decide) rfl ?_
  exact own_retN B X0 (t := .boolean) (z' := (1 : Int32)) (by simp) (by decide) d3_95 (by decide) (by decide) (⟨rfl, rfl⟩)
def Q_49 (Z : State) (w0 : Addr) (kw0 : ClassId) (p2 : Int32) (p3 : Int32) (p4 : Int32) (w5 : Addr) (kw5 : ClassId) (p7 : Int32) (w8 : Addr) (kw8 : ClassId) (p10 : Int32) (p11 : Int32) (p12 : Int32) (p13 : Int32) (p14 : Int32) (p15 : Int32) (p16 : Int32) (p17 : Int32) (p18 : Int32) (p19 : Int32) (h0 : Heap) (n0 : Nat) (v : Option Value) (h : Heap) : Prop :=
  (v = some (.int (1 : Int32)) ∧ h0 = h)
set_option maxRecDepth 65536 in
set_option maxHeartbeats 40000000 in
theorem rm_49 (l : Launch) (Z : State) (a0 : Array Value) (hw : ∀ d ∈ tables_1, d.before a0 Z = true) (ws : List Jvm.Cond) (w0 : Addr) (kw0 : ClassId) (p2 : Int32) (p3 : Int32) (p4 : Int32) (w5 : Addr) (kw5 : ClassId) (p7 : Int32) (w8 : Addr) (kw8 : ClassId) (p10 : Int32) (p11 : Int32) (p12 : Int32) (p13 : Int32) (p14 : Int32) (p15 : Int32) (p16 : Int32) (p17 : Int32) (p18 : Int32) (p19 : Int32) (h0 : Heap) (n0 : Nat) (Z0 : n0 ≤ h0.size) (E_w0 : Exa Z h0 w0 "[B") (V_w0 : Arv Z h0 w0 kw0 .byte (3 : Int32) [(.int p2), (.int p3), (.int p4)] (.int (0 : Int32))) (g_w0 : n0 ≤ w0) (E_w5 : Exa Z h0 w5 "[B") (V_w5 : Arv Z h0 w5 kw5 .byte (2 : Int32) [(.int p2), (.int p7)] (.int (0 : Int32))) (g_w5 : n0 ≤ w5) (E_w8 : Exa Z h0 w8 "[B") (V_w8 : Arv Z h0 w8 kw8 .byte (4 : Int32) [(.int p2), (.int p3), (.int p4), (.int p10)] (.int (0 : Int32))) (g_w8 : n0 ≤ w8) (ne_w0_w5 : w0 ≠ w5) (ne_w0_w8 : w0 ≠ w8) (ne_w5_w8 : w5 ≠ w8) (hp0 : p11.toInt8.toInt32 = p2) (hp1 : p12.toInt8.toInt32 = p3) (hp2 : p13.toInt8.toInt32 = p4) (hp3 : p14.toInt8.toInt32 = p10) (hp4 : p15.toInt8.toInt32 = p7) (hp5 : own_F_pick p16 = p11) (hp6 : own_F_pick p17 = p12) (hp7 : own_F_pick p18 = p13) (hp8 : own_F_pick p19 = p14) (hp9 : p3 + (1 : Int32) = p15) (hp10 : p4 = (-1 : Int32)) (hp11 : ¬ (p3 = (-1 : Int32))) :
    MetFree l (⟨"com/example/keyer/keyer/QuerySuccessorPinLaw", "ok", "([B[B[BIII)Z"⟩ : MethodName) (head1 (Jvm.Cond.code (⟨"com/example/keyer/keyer/QuerySuccessorPinLaw", "ok", "([B[B[BIII)Z"⟩ : MethodName) method_3_code 6 (some .boolean) :: ws) ({ frames := 0, cells := 0, slots := 0, locals := 0 } : Room)) (fun a U => a = #[(.ref w0), (.ref w5), (.ref w8), (.int (3 : Int32)), (.int (2 : Int32)), (.int (2 : Int32))] ∧ Z.Warmed39 U.vm ∧ U.heap = h0) (fun _ _ _ _ _ => True) (fun _ U o U' => ∃ v L, o = .returned v ∧ (Fr n0 L ∧ Q_49 Z w0 kw0 p2 p3 p4 w5 kw5 p7 w8 kw8 p10 p11 p12 p13 p14 p15 p16 p17 p18 p19 h0 n0 v U'.heap) ∧ FrameEnd U o U' L ({ frames := 0, cells := 0, slots := 0, locals := 0 } : Room).cells ({ frames := 0, cells := 0, slots := 0, locals := 0 } : Room).slots) := by
  refine own_enter (Q := Q_49 Z w0 kw0 p2 p3 p4 w5 kw5 p7 w8 kw8 p10 p11 p12 p13 p14 p15 p16 p17 p18 p19 h0 n0) (F := fun m => mkF m 0 #[.val (.ref w0), .val (.ref w5), .val (.ref w8), .val (.int (3 : Int32)), .val (.int (2 : Int32)), .val (.int (2 : Int32))] []) (plainFor_of_name pn_0) (fun m => by first | (simp [entryFrame, mkF, argsToLocals, Value.category]; done) | rfl) ?_
  intro p e s m below meth c s₁ B X0
  have K : Keep h0 h0 [] := Keep.refl h0 _
  refine own_iload (pc' := 2) B X0 d3_0 rfl rfl ?_
  refine own_iloadN (pc' := 3) B X0 d3_2 rfl rfl ?_
  refine own_icmpYes (pc' := 8) B X0 d3_3 (tlt (by decide : (2 : Int32) < (3 : Int32))).1 (by decide) rfl ?_
  refine own_aloadN (pc' := 9) B X0 d3_8 rfl rfl rfl ?_
  refine own_iload (pc' := 11) B X0 d3_9 rfl rfl ?_
  refine own_baload (pc' := 12) B X0 V_w0 (v := (.int p4)) ⟨by decide, by decide⟩ rfl d3_11 rfl ?_
  refine own_aloadN (pc' := 13) B X0 d3_12 rfl rfl rfl ?_
  refine own_iload (pc' := 15) B X0 d3_13 rfl rfl ?_
  refine own_baload (pc' := 16) B X0 V_w8 (v := (.int p4)) ⟨by decide, by decide⟩ rfl d3_15 rfl ?_
  refine own_icmpYes (pc' := 21) B X0 d3_16 (teq rfl).1 (by decide) rfl ?_
  refine own_iload (pc' := 23) B X0 d3_21 rfl rfl ?_
  refine own_iload (pc' := 25) B X0 d3_23 rfl rfl ?_
  refine own_icmpNo (pc' := 28) B X0 d3_25 (flt (by decide : ¬ ((2 : Int32) < (2 : Int32)))).1 rfl ?_
  refine own_aloadN (pc' := 29) B X0 d3_28 rfl rfl rfl ?_
  refine own_iload (pc' := 31) B X0 d3_29 rfl rfl ?_
  refine own_baload (pc' := 32) B X0 V_w0 (v := (.int p4)) ⟨by decide, by decide⟩ rfl d3_31 rfl ?_
  refine own_iconst (pc' := 33) B X0 (z := (-1 : Int32)) d3_32 rfl rfl ?_
  refine own_icmpNo (pc' := 36) B X0 d3_33 (teq hp10).2 rfl ?_
  refine own_iconst (pc' := 37) B X0 (z := (1 : Int32)) d3_36 rfl rfl ?_
  refine own_goto (pc' := 41) B X0 d3_37 (by decide) rfl ?_
  exact own_retN B X0 (t := .boolean) (z' := (1 : Int32)) (by simp) (by decide) d3_41 (by decide) (by decide) (⟨rfl, rfl⟩)
def Q_50 (Z : State) (w0 : Addr) (kw0 : ClassId) (p2 : Int32) (p3 : Int32) (p4 : Int32) (w5 : Addr) (kw5 : ClassId) (p7 : Int32) (w8 : Addr) (kw8 : ClassId) (p10 : Int32) (p11 : Int32) (p12 : Int32) (p13 : Int32) (p14 : Int32) (p15 : Int32) (p16 : Int32) (p17 : Int32) (p18 : Int32) (p19 : Int32) (h0 : Heap) (n0 : Nat) (v : Option Value) (h : Heap) : Prop :=
  (v = some (.int (1 : Int32)) ∧ h0 = h)
set_option maxRecDepth 65536 in
set_option maxHeartbeats 40000000 in
theorem rm_50 (l : Launch) (Z : State) (a0 : Array Value) (hw : ∀ d ∈ tables_1, d.before a0 Z = true) (ws : List Jvm.Cond) (w0 : Addr) (kw0 : ClassId) (p2 : Int32) (p3 : Int32) (p4 : Int32) (w5 : Addr) (kw5 : ClassId) (p7 : Int32) (w8 : Addr) (kw8 : ClassId) (p10 : Int32) (p11 : Int32) (p12 : Int32) (p13 : Int32) (p14 : Int32) (p15 : Int32) (p16 : Int32) (p17 : Int32) (p18 : Int32) (p19 : Int32) (h0 : Heap) (n0 : Nat) (Z0 : n0 ≤ h0.size) (E_w0 : Exa Z h0 w0 "[B") (V_w0 : Arv Z h0 w0 kw0 .byte (3 : Int32) [(.int p2), (.int p3), (.int p4)] (.int (0 : Int32))) (g_w0 : n0 ≤ w0) (E_w5 : Exa Z h0 w5 "[B") (V_w5 : Arv Z h0 w5 kw5 .byte (2 : Int32) [(.int p2), (.int p7)] (.int (0 : Int32))) (g_w5 : n0 ≤ w5) (E_w8 : Exa Z h0 w8 "[B") (V_w8 : Arv Z h0 w8 kw8 .byte (4 : Int32) [(.int p2), (.int p3), (.int p4), (.int p10)] (.int (0 : Int32))) (g_w8 : n0 ≤ w8) (ne_w0_w5 : w0 ≠ w5) (ne_w0_w8 : w0 ≠ w8) (ne_w5_w8 : w5 ≠ w8) (hp0 : p11.toInt8.toInt32 = p2) (hp1 : p12.toInt8.toInt32 = p3) (hp2 : p13.toInt8.toInt32 = p4) (hp3 : p14.toInt8.toInt32 = p10) (hp4 : p15.toInt8.toInt32 = p7) (hp5 : own_F_pick p16 = p11) (hp6 : own_F_pick p17 = p12) (hp7 : own_F_pick p18 = p13) (hp8 : own_F_pick p19 = p14) (hp9 : p3 + (1 : Int32) = p15) (hp10 : p4 = (-1 : Int32)) (hp11 : ¬ (p3 = (-1 : Int32))) :
    MetFree l (⟨"com/example/keyer/keyer/QuerySuccessorPinLaw", "ok", "([B[B[BIII)Z"⟩ : MethodName) (head1 (Jvm.Cond.code (⟨"com/example/keyer/keyer/QuerySuccessorPinLaw", "ok", "([B[B[BIII)Z"⟩ : MethodName) method_3_code 6 (some .boolean) :: ws) ({ frames := 0, cells := 0, slots := 0, locals := 0 } : Room)) (fun a U => a = #[(.ref w0), (.ref w5), (.ref w8), (.int (3 : Int32)), (.int (2 : Int32)), (.int (3 : Int32))] ∧ Z.Warmed39 U.vm ∧ U.heap = h0) (fun _ _ _ _ _ => True) (fun _ U o U' => ∃ v L, o = .returned v ∧ (Fr n0 L ∧ Q_50 Z w0 kw0 p2 p3 p4 w5 kw5 p7 w8 kw8 p10 p11 p12 p13 p14 p15 p16 p17 p18 p19 h0 n0 v U'.heap) ∧ FrameEnd U o U' L ({ frames := 0, cells := 0, slots := 0, locals := 0 } : Room).cells ({ frames := 0, cells := 0, slots := 0, locals := 0 } : Room).slots) := by
  refine own_enter (Q := Q_50 Z w0 kw0 p2 p3 p4 w5 kw5 p7 w8 kw8 p10 p11 p12 p13 p14 p15 p16 p17 p18 p19 h0 n0) (F := fun m => mkF m 0 #[.val (.ref w0), .val (.ref w5), .val (.ref w8), .val (.int (3 : Int32)), .val (.int (2 : Int32)), .val (.int (3 : Int32))] []) (plainFor_of_name pn_0) (fun m => by first | (simp [entryFrame, mkF, argsToLocals, Value.category]; done) | rfl) ?_
  intro p e s m below meth c s₁ B X0
  have K : Keep h0 h0 [] := Keep.refl h0 _
  refine own_iload (pc' := 2) B X0 d3_0 rfl rfl ?_
  refine own_iloadN (pc' := 3) B X0 d3_2 rfl rfl ?_
  refine own_icmpNo (pc' := 6) B X0 d3_3 (flt (by decide : ¬ ((3 : Int32) < (3 : Int32)))).1 rfl ?_
  refine own_iconst (pc' := 7) B X0 (z := (1 : Int32)) d3_6 rfl rfl ?_
  exact own_retN B X0 (t := .boolean) (z' := (1 : Int32)) (by simp) (by decide) d3_7 (by decide) (by decide) (⟨rfl, rfl⟩)
def Q_51 (Z : State) (w0 : Addr) (kw0 : ClassId) (p2 : Int32) (p3 : Int32) (p4 : Int32) (w5 : Addr) (kw5 : ClassId) (p7 : Int32) (w8 : Addr) (kw8 : ClassId) (p10 : Int32) (p11 : Int32) (p12 : Int32) (p13 : Int32) (p14 : Int32) (p15 : Int32) (p16 : Int32) (p17 : Int32) (p18 : Int32) (p19 : Int32) (h0 : Heap) (n0 : Nat) (v : Option Value) (h : Heap) : Prop :=
  (v = some (.int (1 : Int32)) ∧ h0 = h)
set_option maxRecDepth 65536 in
set_option maxHeartbeats 40000000 in
theorem rm_51 (l : Launch) (Z : State) (a0 : Array Value) (hw : ∀ d ∈ tables_1, d.before a0 Z = true) (ws : List Jvm.Cond) (w0 : Addr) (kw0 : ClassId) (p2 : Int32) (p3 : Int32) (p4 : Int32) (w5 : Addr) (kw5 : ClassId) (p7 : Int32) (w8 : Addr) (kw8 : ClassId) (p10 : Int32) (p11 : Int32) (p12 : Int32) (p13 : Int32) (p14 : Int32) (p15 : Int32) (p16 : Int32) (p17 : Int32) (p18 : Int32) (p19 : Int32) (h0 : Heap) (n0 : Nat) (Z0 : n0 ≤ h0.size) (E_w0 : Exa Z h0 w0 "[B") (V_w0 : Arv Z h0 w0 kw0 .byte (3 : Int32) [(.int p2), (.int p3), (.int p4)] (.int (0 : Int32))) (g_w0 : n0 ≤ w0) (E_w5 : Exa Z h0 w5 "[B") (V_w5 : Arv Z h0 w5 kw5 .byte (3 : Int32) [(.int p2), (.int p3), (.int p7)] (.int (0 : Int32))) (g_w5 : n0 ≤ w5) (E_w8 : Exa Z h0 w8 "[B") (V_w8 : Arv Z h0 w8 kw8 .byte (4 : Int32) [(.int p2), (.int p3), (.int p4), (.int p10)] (.int (0 : Int32))) (g_w8 : n0 ≤ w8) (ne_w0_w5 : w0 ≠ w5) (ne_w0_w8 : w0 ≠ w8) (ne_w5_w8 : w5 ≠ w8) (hp0 : p11.toInt8.toInt32 = p2) (hp1 : p12.toInt8.toInt32 = p3) (hp2 : p13.toInt8.toInt32 = p4) (hp3 : p14.toInt8.toInt32 = p10) (hp4 : p15.toInt8.toInt32 = p7) (hp5 : own_F_pick p16 = p11) (hp6 : own_F_pick p17 = p12) (hp7 : own_F_pick p18 = p13) (hp8 : own_F_pick p19 = p14) (hp9 : p4 + (1 : Int32) = p15) (hp10 : ¬ (p4 = (-1 : Int32))) :
    MetFree l (⟨"com/example/keyer/keyer/QuerySuccessorPinLaw", "ok", "([B[B[BIII)Z"⟩ : MethodName) (head1 (Jvm.Cond.code (⟨"com/example/keyer/keyer/QuerySuccessorPinLaw", "ok", "([B[B[BIII)Z"⟩ : MethodName) method_3_code 6 (some .boolean) :: ws) ({ frames := 0, cells := 0, slots := 0, locals := 0 } : Room)) (fun a U => a = #[(.ref w0), (.ref w5), (.ref w8), (.int (3 : Int32)), (.int (3 : Int32)), (.int (0 : Int32))] ∧ Z.Warmed39 U.vm ∧ U.heap = h0) (fun _ _ _ _ _ => True) (fun _ U o U' => ∃ v L, o = .returned v ∧ (Fr n0 L ∧ Q_51 Z w0 kw0 p2 p3 p4 w5 kw5 p7 w8 kw8 p10 p11 p12 p13 p14 p15 p16 p17 p18 p19 h0 n0 v U'.heap) ∧ FrameEnd U o U' L ({ frames := 0, cells := 0, slots := 0, locals := 0 } : Room).cells ({ frames := 0, cells := 0, slots := 0, locals := 0 } : Room).slots) := by
  refine own_enter (Q := Q_51 Z w0 kw0 p2 p3 p4 w5 kw5 p7 w8 kw8 p10 p11 p12 p13 p14 p15 p16 p17 p18 p19 h0 n0) (F := fun m => mkF m 0 #[.val (.ref w0), .val (.ref w5), .val (.ref w8), .val (.int (3 : Int32)), .val (.int (3 : Int32)), .val (.int (0 : Int32))] []) (plainFor_of_name pn_0) (fun m => by first | (simp [entryFrame, mkF, argsToLocals, Value.category]; done) | rfl) ?_
  intro p e s m below meth c s₁ B X0
  have K : Keep h0 h0 [] := Keep.refl h0 _
  refine own_iload (pc' := 2) B X0 d3_0 rfl rfl ?_
  refine own_iloadN (pc' := 3) B X0 d3_2 rfl rfl ?_
  refine own_icmpYes (pc' := 8) B X0 d3_3 (tlt (by decide : (0 : Int32) < (3 : Int32))).1 (by decide) rfl ?_
  refine own_aloadN (pc' := 9) B X0 d3_8 rfl rfl rfl ?_
  refine own_iload (pc' := 11) B X0 d3_9 rfl rfl ?_
  refine own_baload (pc' := 12) B X0 V_w0 (v := (.int p2)) ⟨by decide, by decide⟩ rfl d3_11 rfl ?_
  refine own_aloadN (pc' := 13) B X0 d3_12 rfl rfl rfl ?_
  refine own_iload (pc' := 15) B X0 d3_13 rfl rfl ?_
  refine own_baload (pc' := 16) B X0 V_w8 (v := (.int p2)) ⟨by decide, by decide⟩ rfl d3_15 rfl ?_
  refine own_icmpYes (pc' := 21) B X0 d3_16 (teq rfl).1 (by decide) rfl ?_
  refine own_iload (pc' := 23) B X0 d3_21 rfl rfl ?_
  refine own_iload (pc' := 25) B X0 d3_23 rfl rfl ?_
  refine own_icmpYes (pc' := 42) B X0 d3_25 (tlt (by decide : (0 : Int32) < (3 : Int32))).1 (by decide) rfl ?_
  refine own_iload (pc' := 44) B X0 d3_42 rfl rfl ?_
  refine own_iload (pc' := 46) B X0 d3_44 rfl rfl ?_
  refine own_iconst (pc' := 47) B X0 (z := (1 : Int32)) d3_46 rfl rfl ?_
  refine own_isub (pc' := 48) B X0 (z := (2 : Int32)) d3_47 rfl (by decide) ?_
  refine own_icmpNo (pc' := 51) B X0 d3_48 (tlt (by decide : (0 : Int32) < (2 : Int32))).2.1 rfl ?_
  refine own_aloadN (pc' := 52) B X0 d3_51 rfl rfl rfl ?_
  refine own_iload (pc' := 54) B X0 d3_52 rfl rfl ?_
  refine own_baload (pc' := 55) B X0 V_w5 (v := (.int p2)) ⟨by decide, by decide⟩ rfl d3_54 rfl ?_
  refine own_aloadN (pc' := 56) B X0 d3_55 rfl rfl rfl ?_
  refine own_iload (pc' := 58) B X0 d3_56 rfl rfl ?_
  refine own_baload (pc' := 59) B X0 V_w0 (v := (.int p2)) ⟨by decide, by decide⟩ rfl d3_58 rfl ?_
  refine own_icmpNo (pc' := 62) B X0 d3_59 (teq rfl).2 rfl ?_
  refine own_iconst (pc' := 63) B X0 (z := (1 : Int32)) d3_62 rfl rfl ?_
  refine own_goto (pc' := 67) B X0 d3_63 (by decide) rfl ?_
  exact own_retN B X0 (t := .boolean) (z' := (1 : Int32)) (by simp) (by decide) d3_67 (by decide) (by decide) (⟨rfl, rfl⟩)
def Q_52 (Z : State) (w0 : Addr) (kw0 : ClassId) (p2 : Int32) (p3 : Int32) (p4 : Int32) (w5 : Addr) (kw5 : ClassId) (p7 : Int32) (w8 : Addr) (kw8 : ClassId) (p10 : Int32) (p11 : Int32) (p12 : Int32) (p13 : Int32) (p14 : Int32) (p15 : Int32) (p16 : Int32) (p17 : Int32) (p18 : Int32) (p19 : Int32) (h0 : Heap) (n0 : Nat) (v : Option Value) (h : Heap) : Prop :=
  (v = some (.int (1 : Int32)) ∧ h0 = h)
set_option maxRecDepth 65536 in
set_option maxHeartbeats 40000000 in
theorem rm_52 (l : Launch) (Z : State) (a0 : Array Value) (hw : ∀ d ∈ tables_1, d.before a0 Z = true) (ws : List Jvm.Cond) (w0 : Addr) (kw0 : ClassId) (p2 : Int32) (p3 : Int32) (p4 : Int32) (w5 : Addr) (kw5 : ClassId) (p7 : Int32) (w8 : Addr) (kw8 : ClassId) (p10 : Int32) (p11 : Int32) (p12 : Int32) (p13 : Int32) (p14 : Int32) (p15 : Int32) (p16 : Int32) (p17 : Int32) (p18 : Int32) (p19 : Int32) (h0 : Heap) (n0 : Nat) (Z0 : n0 ≤ h0.size) (E_w0 : Exa Z h0 w0 "[B") (V_w0 : Arv Z h0 w0 kw0 .byte (3 : Int32) [(.int p2), (.int p3), (.int p4)] (.int (0 : Int32))) (g_w0 : n0 ≤ w0) (E_w5 : Exa Z h0 w5 "[B") (V_w5 : Arv Z h0 w5 kw5 .byte (3 : Int32) [(.int p2), (.int p3), (.int p7)] (.int (0 : Int32))) (g_w5 : n0 ≤ w5) (E_w8 : Exa Z h0 w8 "[B") (V_w8 : Arv Z h0 w8 kw8 .byte (4 : Int32) [(.int p2), (.int p3), (.int p4), (.int p10)] (.int (0 : Int32))) (g_w8 : n0 ≤ w8) (ne_w0_w5 : w0 ≠ w5) (ne_w0_w8 : w0 ≠ w8) (ne_w5_w8 : w5 ≠ w8) (hp0 : p11.toInt8.toInt32 = p2) (hp1 : p12.toInt8.toInt32 = p3) (hp2 : p13.toInt8.toInt32 = p4) (hp3 : p14.toInt8.toInt32 = p10) (hp4 : p15.toInt8.toInt32 = p7) (hp5 : own_F_pick p16 = p11) (hp6 : own_F_pick p17 = p12) (hp7 : own_F_pick p18 = p13) (hp8 : own_F_pick p19 = p14) (hp9 : p4 + (1 : Int32) = p15) (hp10 : ¬ (p4 = (-1 : Int32))) :
    MetFree l (⟨"com/example/keyer/keyer/QuerySuccessorPinLaw", "ok", "([B[B[BIII)Z"⟩ : MethodName) (head1 (Jvm.Cond.code (⟨"com/example/keyer/keyer/QuerySuccessorPinLaw", "ok", "([B[B[BIII)Z"⟩ : MethodName) method_3_code 6 (some .boolean) :: ws) ({ frames := 0, cells := 0, slots := 0, locals := 0 } : Room)) (fun a U => a = #[(.ref w0), (.ref w5), (.ref w8), (.int (3 : Int32)), (.int (3 : Int32)), (.int (1 : Int32))] ∧ Z.Warmed39 U.vm ∧ U.heap = h0) (fun _ _ _ _ _ => True) (fun _ U o U' => ∃ v L, o = .returned v ∧ (Fr n0 L ∧ Q_52 Z w0 kw0 p2 p3 p4 w5 kw5 p7 w8 kw8 p10 p11 p12 p13 p14 p15 p16 p17 p18 p19 h0 n0 v U'.heap) ∧ FrameEnd U o U' L ({ frames := 0, cells := 0, slots := 0, locals := 0 } : Room).cells ({ frames := 0, cells := 0, slots := 0, locals := 0 } : Room).slots) := by
  refine own_enter (Q := Q_52 Z w0 kw0 p2 p3 p4 w5 kw5 p7 w8 kw8 p10 p11 p12 p13 p14 p15 p16 p17 p18 p19 h0 n0) (F := fun m => mkF m 0 #[.val (.ref w0), .val (.ref w5), .val (.ref w8), .val (.int (3 : Int32)), .val (.int (3 : Int32)), .val (.int (1 : Int32))] []) (plainFor_of_name pn_0) (fun m => by first | (simp [entryFrame, mkF, argsToLocals, Value.category]; done) | rfl) ?_
  intro p e s m below meth c s₁ B X0
  have K : Keep h0 h0 [] := Keep.refl h0 _
  refine own_iload (pc' := 2) B X0 d3_0 rfl rfl ?_
  refine own_iloadN (pc' := 3) B X0 d3_2 rfl rfl ?_
  refine own_icmpYes (pc' := 8) B X0 d3_3 (tlt (by decide : (1 : Int32) < (3 : Int32))).1 (by decide) rfl ?_
  refine own_aloadN (pc' := 9) B X0 d3_8 rfl rfl rfl ?_
  refine own_iload (pc' := 11) B X0 d3_9 rfl rfl ?_
  refine own_baload (pc' := 12) B X0 V_w0 (v := (.int p3)) ⟨by decide, by decide⟩ rfl d3_11 rfl ?_
  refine own_aloadN (pc' := 13) B X0 d3_12 rfl rfl rfl ?_
  refine own_iload (pc' := 15) B X0 d3_13 rfl rfl ?_
  refine own_baload (pc' := 16) B X0 V_w8 (v := (.int p3)) ⟨by decide, by decide⟩ rfl d3_15 rfl ?_
  refine own_icmpYes (pc' := 21) B X0 d3_16 (teq rfl).1 (by decide) rfl ?_
  refine own_iload (pc' := 23) B X0 d3_21 rfl rfl ?_
  refine own_iload (pc' := 25) B X0 d3_23 rfl rfl ?_
  refine own_icmpYes (pc' := 42) B X0 d3_25 (tlt (by decide : (1 : Int32) < (3 : Int32))).1 (by decide) rfl ?_
  refine own_iload (pc' := 44) B X0 d3_42 rfl rfl ?_
  refine own_iload (pc' := 46) B X0 d3_44 rfl rfl ?_
  refine own_iconst (pc' := 47) B X0 (z := (1 : Int32)) d3_46 rfl rfl ?_
  refine own_isub (pc' := 48) B X0 (z := (2 : Int32)) d3_47 rfl (by decide) ?_
  refine own_icmpNo (pc' := 51) B X0 d3_48 (tlt (by decide : (1 : Int32) < (2 : Int32))).2.1 rfl ?_
  refine own_aloadN (pc' := 52) B X0 d3_51 rfl rfl rfl ?_
  refine own_iload (pc' := 54) B X0 d3_52 rfl rfl ?_
  refine own_baload (pc' := 55) B X0 V_w5 (v := (.int p3)) ⟨by decide, by decide⟩ rfl d3_54 rfl ?_
  refine own_aloadN (pc' := 56) B X0 d3_55 rfl rfl rfl ?_
  refine own_iload (pc' := 58) B X0 d3_56 rfl rfl ?_
  refine own_baload (pc' := 59) B X0 V_w0 (v := (.int p3)) ⟨by decide, by decide⟩ rfl d3_58 rfl ?_
  refine own_icmpNo (pc' := 62) B X0 d3_59 (teq rfl).2 rfl ?_
  refine own_iconst (pc' := 63) B X0 (z := (1 : Int32)) d3_62 rfl rfl ?_
  refine own_goto (pc' := 67) B X0 d3_63 (by decide) rfl ?_
  exact own_retN B X0 (t := .boolean) (z' := (1 : Int32)) (by simp) (by decide) d3_67 (by decide) (by decide) (⟨rfl, rfl⟩)
def Q_53 (Z : State) (w0 : Addr) (kw0 : ClassId) (p2 : Int32) (p3 : Int32) (p4 : Int32) (w5 : Addr) (kw5 : ClassId) (p7 : Int32) (w8 : Addr) (kw8 : ClassId) (p10 : Int32) (p11 : Int32) (p12 : Int32) (p13 : Int32) (p14 : Int32) (p15 : Int32) (p16 : Int32) (p17 : Int32) (p18 : Int32) (p19 : Int32) (h0 : Heap) (n0 : Nat) (v : Option Value) (h : Heap) : Prop :=
  (v = some (.int (1 : Int32)) ∧ h0 = h)
set_option maxRecDepth 65536 in
set_option maxHeartbeats 40000000 in
theorem rm_53 (l : Launch) (Z : State) (a0 : Array Value) (hw : ∀ d ∈ tables_1, d.before a0 Z = true) (ws : List Jvm.Cond) (w0 : Addr) (kw0 : ClassId) (p2 : Int32) (p3 : Int32) (p4 : Int32) (w5 : Addr) (kw5 : ClassId) (p7 : Int32) (w8 : Addr) (kw8 : ClassId) (p10 : Int32) (p11 : Int32) (p12 : Int32) (p13 : Int32) (p14 : Int32) (p15 : Int32) (p16 : Int32) (p17 : Int32) (p18 : Int32) (p19 : Int32) (h0 : Heap) (n0 : Nat) (Z0 : n0 ≤ h0.size) (E_w0 : Exa Z h0 w0 "[B") (V_w0 : Arv Z h0 w0 kw0 .byte (3 : Int32) [(.int p2), (.int p3), (.int p4)] (.int (0 : Int32))) (g_w0 : n0 ≤ w0) (E_w5 : Exa Z h0 w5 "[B") (V_w5 : Arv Z h0 w5 kw5 .byte (3 : Int32) [(.int p2), (.int p3), (.int p7)] (.int (0 : Int32))) (g_w5 : n0 ≤ w5) (E_w8 : Exa Z h0 w8 "[B") (V_w8 : Arv Z h0 w8 kw8 .byte (4 : Int32) [(.int p2), (.int p3), (.int p4), (.int p10)] (.int (0 : Int32))) (g_w8 : n0 ≤ w8) (ne_w0_w5 : w0 ≠ w5) (ne_w0_w8 : w0 ≠ w8) (ne_w5_w8 : w5 ≠ w8) (hp0 : p11.toInt8.toInt32 = p2) (hp1 : p12.toInt8.toInt32 = p3) (hp2 : p13.toInt8.toInt32 = p4) (hp3 : p14.toInt8.toInt32 = p10) (hp4 : p15.toInt8.toInt32 = p7) (hp5 : own_F_pick p16 = p11) (hp6 : own_F_pick p17 = p12) (hp7 : own_F_pick p18 = p13) (hp8 : own_F_pick p19 = p14) (hp9 : p4 + (1 : Int32) = p15) (hp10 : ¬ (p4 = (-1 : Int32))) :
    MetFree l (⟨"com/example/keyer/keyer/QuerySuccessorPinLaw", "ok", "([B[B[BIII)Z"⟩ : MethodName) (head1 (Jvm.Cond.code (⟨"com/example/keyer/keyer/QuerySuccessorPinLaw", "ok", "([B[B[BIII)Z"⟩ : MethodName) method_3_code 6 (some .boolean) :: ws) ({ frames := 0, cells := 0, slots := 0, locals := 0 } : Room)) (fun a U => a = #[(.ref w0), (.ref w5), (.ref w8), (.int (3 : Int32)), (.int (3 : Int32)), (.int (2 : Int32))] ∧ Z.Warmed39 U.vm ∧ U.heap = h0) (fun _ _ _ _ _ => True) (fun _ U o U' => ∃ v L, o = .returned v ∧ (Fr n0 L ∧ Q_53 Z w0 kw0 p2 p3 p4 w5 kw5 p7 w8 kw8 p10 p11 p12 p13 p14 p15 p16 p17 p18 p19 h0 n0 v U'.heap) ∧ FrameEnd U o U' L ({ frames := 0, cells := 0, slots := 0, locals := 0 } : Room).cells ({ frames := 0, cells := 0, slots := 0, locals := 0 } : Room).slots) := by
  refine own_enter (Q := Q_53 Z w0 kw0 p2 p3 p4 w5 kw5 p7 w8 kw8 p10 p11 p12 p13 p14 p15 p16 p17 p18 p19 h0 n0) (F := fun m => mkF m 0 #[.val (.ref w0), .val (.ref w5), .val (.ref w8), .val (.int (3 : Int32)), .val (.int (3 : Int32)), .val (.int (2 : Int32))] []) (plainFor_of_name pn_0) (fun m => by first | (simp [entryFrame, mkF, argsToLocals, Value.category]; done) | rfl) ?_
  intro p e s m below meth c s₁ B X0
  have K : Keep h0 h0 [] := Keep.refl h0 _
  refine own_iload (pc' := 2) B X0 d3_0 rfl rfl ?_
  refine own_iloadN (pc' := 3) B X0 d3_2 rfl rfl ?_
  refine own_icmpYes (pc' := 8) B X0 d3_3 (tlt (by decide : (2 : Int32) < (3 : Int32))).1 (by decide) rfl ?_
  refine own_aloadN (pc' := 9) B X0 d3_8 rfl rfl rfl ?_
  refine own_iload (pc' := 11) B X0 d3_9 rfl rfl ?_
  refine own_baload (pc' := 12) B X0 V_w0 (v := (.int p4)) ⟨by decide, by decide⟩ rfl d3_11 rfl ?_
  refine own_aloadN (pc' := 13) B X0 d3_12 rfl rfl rfl ?_
  refine own_iload (pc' := 15) B X0 d3_13 rfl rfl ?_
  refine own_baload (pc' := 16) B X0 V_w8 (v := (.int p4)) ⟨by decide, by decide⟩ rfl d3_15 rfl ?_
  refine own_icmpYes (pc' := 21) B X0 d3_16 (teq rfl).1 (by decide) rfl ?_
  refine own_iload (pc' := 23) B X0 d3_21 rfl rfl ?_
  refine own_iload (pc' := 25) B X0 d3_23 rfl rfl ?_
  refine own_icmpYes (pc' := 42) B X0 d3_25 (tlt (by decide : (2 : Int32) < (3 : Int32))).1 (by decide) rfl ?_
  refine own_iload (pc' := 44) B X0 d3_42 rfl rfl ?_
  refine own_iload (pc' := 46) B X0 d3_44 rfl rfl ?_
  refine own_iconst (pc' := 47) B X0 (z := (1 : Int32)) d3_46 rfl rfl ?_
  refine own_isub (pc' := 48) B X0 (z := (2 : Int32)) d3_47 rfl (by decide) ?_
  refine own_icmpYes (pc' := 68) B X0 d3_48 (flt (by decide : ¬ ((2 : Int32) < (2 : Int32)))).2.1 (by decide) rfl ?_
  refine own_aloadN (pc' := 69) B X0 d3_68 rfl rfl rfl ?_
  refine own_iload (pc' := 71) B X0 d3_69 rfl rfl ?_
  refine own_baload (pc' := 72) B X0 V_w0 (v := (.int p4)) ⟨by decide, by decide⟩ rfl d3_71 rfl ?_
  refine own_iconst (pc' := 73) B X0 (z := (-1 : Int32)) d3_72 rfl rfl ?_
  refine own_icmpNo (pc' := 76) B X0 d3_73 (feq hp10).1 rfl ?_
  refine own_aloadN (pc' := 77) B X0 d3_76 rfl rfl rfl ?_
  refine own_iload (pc' := 79) B X0 d3_77 rfl rfl ?_
  refine own_baload (pc' := 80) B X0 V_w5 (v := (.int p7)) ⟨by decide, by decide⟩ rfl d3_79 rfl ?_
  refine own_aloadN (pc' := 81) B X0 d3_80 rfl rfl rfl ?_
  refine own_iload (pc' := 83) B X0 d3_81 rfl rfl ?_
  refine own_baload (pc' := 84) B X0 V_w0 (v := (.int p4)) ⟨by decide, by decide⟩ rfl d3_83 rfl ?_
  refine own_iconst (pc' := 85) B X0 (z := (1 : Int32)) d3_84 rfl rfl ?_
  refine own_iadd (pc' := 86) B X0 d3_85 rfl hp9 ?_
  refine own_i2b (pc' := 87) B X0 d3_86 rfl hp4 ?_
  refine own_icmpNo (pc' := 90) B X0 d3_87 (teq rfl).2 rfl ?_
  refine own_iconst (pc' := 91) B X0 (z := (1 : Int32)) d3_90 rfl rfl ?_
  refine own_goto (pc' := 95) B X0 d3_91 (by decide) rfl ?_
  exact own_retN B X0 (t := .boolean) (z' := (1 : Int32)) (by simp) (by decide) d3_95 (by decide) (by decide) (⟨rfl, rfl⟩)
def Q_54 (Z : State) (w0 : Addr) (kw0 : ClassId) (p2 : Int32) (p3 : Int32) (p4 : Int32) (w5 : Addr) (kw5 : ClassId) (p7 : Int32) (w8 : Addr) (kw8 : ClassId) (p10 : Int32) (p11 : Int32) (p12 : Int32) (p13 : Int32) (p14 : Int32) (p15 : Int32) (p16 : Int32) (p17 : Int32) (p18 : Int32) (p19 : Int32) (h0 : Heap) (n0 : Nat) (v : Option Value) (h : Heap) : Prop :=
  (v = some (.int (1 : Int32)) ∧ h0 = h)
set_option maxRecDepth 65536 in
set_option maxHeartbeats 40000000 in
theorem rm_54 (l : Launch) (Z : State) (a0 : Array Value) (hw : ∀ d ∈ tables_1, d.before a0 Z = true) (ws : List Jvm.Cond) (w0 : Addr) (kw0 : ClassId) (p2 : Int32) (p3 : Int32) (p4 : Int32) (w5 : Addr) (kw5 : ClassId) (p7 : Int32) (w8 : Addr) (kw8 : ClassId) (p10 : Int32) (p11 : Int32) (p12 : Int32) (p13 : Int32) (p14 : Int32) (p15 : Int32) (p16 : Int32) (p17 : Int32) (p18 : Int32) (p19 : Int32) (h0 : Heap) (n0 : Nat) (Z0 : n0 ≤ h0.size) (E_w0 : Exa Z h0 w0 "[B") (V_w0 : Arv Z h0 w0 kw0 .byte (3 : Int32) [(.int p2), (.int p3), (.int p4)] (.int (0 : Int32))) (g_w0 : n0 ≤ w0) (E_w5 : Exa Z h0 w5 "[B") (V_w5 : Arv Z h0 w5 kw5 .byte (3 : Int32) [(.int p2), (.int p3), (.int p7)] (.int (0 : Int32))) (g_w5 : n0 ≤ w5) (E_w8 : Exa Z h0 w8 "[B") (V_w8 : Arv Z h0 w8 kw8 .byte (4 : Int32) [(.int p2), (.int p3), (.int p4), (.int p10)] (.int (0 : Int32))) (g_w8 : n0 ≤ w8) (ne_w0_w5 : w0 ≠ w5) (ne_w0_w8 : w0 ≠ w8) (ne_w5_w8 : w5 ≠ w8) (hp0 : p11.toInt8.toInt32 = p2) (hp1 : p12.toInt8.toInt32 = p3) (hp2 : p13.toInt8.toInt32 = p4) (hp3 : p14.toInt8.toInt32 = p10) (hp4 : p15.toInt8.toInt32 = p7) (hp5 : own_F_pick p16 = p11) (hp6 : own_F_pick p17 = p12) (hp7 : own_F_pick p18 = p13) (hp8 : own_F_pick p19 = p14) (hp9 : p4 + (1 : Int32) = p15) (hp10 : ¬ (p4 = (-1 : Int32))) :
    MetFree l (⟨"com/example/keyer/keyer/QuerySuccessorPinLaw", "ok", "([B[B[BIII)Z"⟩ : MethodName) (head1 (Jvm.Cond.code (⟨"com/example/keyer/keyer/QuerySuccessorPinLaw", "ok", "([B[B[BIII)Z"⟩ : MethodName) method_3_code 6 (some .boolean) :: ws) ({ frames := 0, cells := 0, slots := 0, locals := 0 } : Room)) (fun a U => a = #[(.ref w0), (.ref w5), (.ref w8), (.int (3 : Int32)), (.int (3 : Int32)), (.int (3 : Int32))] ∧ Z.Warmed39 U.vm ∧ U.heap = h0) (fun _ _ _ _ _ => True) (fun _ U o U' => ∃ v L, o = .returned v ∧ (Fr n0 L ∧ Q_54 Z w0 kw0 p2 p3 p4 w5 kw5 p7 w8 kw8 p10 p11 p12 p13 p14 p15 p16 p17 p18 p19 h0 n0 v U'.heap) ∧ FrameEnd U o U' L ({ frames := 0, cells := 0, slots := 0, locals := 0 } : Room).cells ({ frames := 0, cells := 0, slots := 0, locals := 0 } : Room).slots) := by
  refine own_enter (Q := Q_54 Z w0 kw0 p2 p3 p4 w5 kw5 p7 w8 kw8 p10 p11 p12 p13 p14 p15 p16 p17 p18 p19 h0 n0) (F := fun m => mkF m 0 #[.val (.ref w0), .val (.ref w5), .val (.ref w8), .val (.int (3 : Int32)), .val (.int (3 : Int32)), .val (.int (3 : Int32))] []) (plainFor_of_name pn_0) (fun m => by first | (simp [entryFrame, mkF, argsToLocals, Value.category]; done) | rfl) ?_
  intro p e s m below meth c s₁ B X0
  have K : Keep h0 h0 [] := Keep.refl h0 _
  refine own_iload (pc' := 2) B X0 d3_0 rfl rfl ?_
  refine own_iloadN (pc' := 3) B X0 d3_2 rfl rfl ?_
  refine own_icmpNo (pc' := 6) B X0 d3_3 (flt (by decide : ¬ ((3 : Int32) < (3 : Int32)))).1 rfl ?_
  refine own_iconst (pc' := 7) B X0 (z := (1 : Int32)) d3_6 rfl rfl ?_
  exact own_retN B X0 (t := .boolean) (z' := (1 : Int32)) (by simp) (by decide) d3_7 (by decide) (by decide) (⟨rfl, rfl⟩)
def Q_57 (Z : State)  (h0 : Heap) (n0 : Nat) (v : Option Value) (h : Heap) : Prop :=
  (v = some (.int (1 : Int32)) ∧ h0 = h)
set_option maxRecDepth 65536 in
set_option maxHeartbeats 40000000 in
theorem rm_57 (l : Launch) (Z : State) (a0 : Array Value) (hw : ∀ d ∈ tables_1, d.before a0 Z = true) (ws : List Jvm.Cond)  (h0 : Heap) (n0 : Nat) (Z0 : n0 ≤ h0.size)  :
    MetFree l (⟨"java/lang/Math", "min", "(II)I"⟩ : MethodName) (head1 (Jvm.Cond.code (⟨"java/lang/Math", "min", "(II)I"⟩ : MethodName) jdk_29_method_69_code 2 (some .int) :: ws) ({ frames := 0, cells := 0, slots := 0, locals := 0 } : Room)) (fun a U => a = #[(.int (4 : Int32)), (.int (1 : Int32))] ∧ Z.Warmed39 U.vm ∧ U.heap = h0) (fun _ _ _ _ _ => True) (fun _ U o U' => ∃ v L, o = .returned v ∧ (Fr n0 L ∧ Q_57 Z  h0 n0 v U'.heap) ∧ FrameEnd U o U' L ({ frames := 0, cells := 0, slots := 0, locals := 0 } : Room).cells ({ frames := 0, cells := 0, slots := 0, locals := 0 } : Room).slots) := by
  refine own_enter (Q := Q_57 Z  h0 n0) (F := fun m => mkF m 0 #[.val (.int (4 : Int32)), .val (.int (1 : Int32))] []) (Jvm.Free.JP.mathPlain rfl (by decide +kernel)) (fun m => by first | (simp [entryFrame, mkF, argsToLocals, Value.category]; done) | rfl) ?_
  intro p e s m below meth c s₁ B X0
  have K : Keep h0 h0 [] := Keep.refl h0 _
  refine own_iloadN (pc' := 1) B X0 d5_0 rfl rfl ?_
  refine own_iloadN (pc' := 2) B X0 d5_1 rfl rfl ?_
  refine own_icmpYes (pc' := 9) B X0 d5_2 (tlt (by decide : (1 : Int32) < (4 : Int32))).2.2.1 (by decide) rfl ?_
  refine own_iloadN (pc' := 10) B X0 d5_9 rfl rfl ?_
  exact own_retI B X0 d5_10 (by decide) (by decide) (⟨rfl, rfl⟩)
def Q_56 (Z : State) (w0 : Addr) (kw0 : ClassId) (p2 : Int32) (p3 : Int32) (p4 : Int32) (p5 : Int32) (h0 : Heap) (n0 : Nat) (v : Option Value) (h : Heap) : Prop :=
  (∃ (b1 : Addr) (kb1 : ClassId), v = some (.ref b1) ∧ Keep h0 h [] ∧ h0.size ≤ b1 ∧ Exa Z h b1 "[B" ∧ Arv Z h b1 kb1 .byte (1 : Int32) [(.int p2)] (.int (0 : Int32)))
set_option maxRecDepth 65536 in
set_option maxHeartbeats 40000000 in
theorem rm_56 (l : Launch) (Z : State) (a0 : Array Value) (hw : ∀ d ∈ tables_1, d.before a0 Z = true) (ws : List Jvm.Cond) (w0 : Addr) (kw0 : ClassId) (p2 : Int32) (p3 : Int32) (p4 : Int32) (p5 : Int32) (h0 : Heap) (n0 : Nat) (Z0 : n0 ≤ h0.size) (E_w0 : Exa Z h0 w0 "[B") (V_w0 : Arv Z h0 w0 kw0 .byte (4 : Int32) [(.int p2), (.int p3), (.int p4), (.int p5)] (.int (0 : Int32))) (g_w0 : n0 ≤ w0) :
    MetFree l (⟨"java/util/Arrays", "copyOf", "([BI)[B"⟩ : MethodName) (head1 (Jvm.Cond.code (⟨"java/util/Arrays", "copyOf", "([BI)[B"⟩ : MethodName) jdk_65_method_121_code 3 (some (.array .byte)) :: ws) ({ frames := 1, cells := 1, slots := 1, locals := 40 } : Room)) (fun a U => a = #[(.ref w0), (.int (1 : Int32))] ∧ Z.Warmed39 U.vm ∧ U.heap = h0) (fun _ _ _ _ _ => True) (fun _ U o U' => ∃ v L, o = .returned v ∧ (Fr n0 L ∧ Q_56 Z w0 kw0 p2 p3 p4 p5 h0 n0 v U'.heap) ∧ FrameEnd U o U' L ({ frames := 1, cells := 1, slots := 1, locals := 40 } : Room).cells ({ frames := 1, cells := 1, slots := 1, locals := 40 } : Room).slots) := by
  refine own_enter (Q := Q_56 Z w0 kw0 p2 p3 p4 p5 h0 n0) (F := fun m => mkF m 0 #[.val (.ref w0), .val (.int (1 : Int32)), .unset] []) (plainFor_of_name pn_2) (fun m => by first | (simp [entryFrame, mkF, argsToLocals, Value.category]; done) | rfl) ?_
  intro p e s m below meth c s₁ B X0
  have K : Keep h0 h0 [] := Keep.refl h0 _
  refine own_iloadN (pc' := 1) B X0 d4_0 rfl rfl ?_
  refine own_aloadN (pc' := 2) B X0 d4_1 rfl rfl rfl ?_
  refine own_arraylength (pc' := 3) B X0 V_w0 d4_2 rfl ?_
  refine own_icmpYes (pc' := 14) B X0 d4_3 (feq (by decide : ¬ ((1 : Int32) = (4 : Int32)))).2 (by decide) rfl ?_
  refine own_iloadN (pc' := 15) B X0 d4_14 rfl rfl ?_
  refine own_newarray (pc' := 17) B X0 (own_w hw 1 rfl) d4_15 rfl rfl (by decide) 1 (by decide) (by decide) (k' := 1) (n' := 1) rfl rfl (by decide) (by decide) "[B" (by decide) (.int (0 : Int32)) rfl ?_
  intro T1 h1 b1 kb1 X1 g1 E1 V_b1 E_b1
  have ne_w0_b1 : w0 ≠ b1 := own_ne E_w0.lt g1
  have sz_b1 : h0.size ≤ b1 := own_sz K g1
  have g_b1 : n0 ≤ b1 := Nat.le_trans Z0 sz_b1
  replace K := K.ext E1
  replace E_w0 := E_w0.ext E1
  replace V_w0 := V_w0.ext E1
  replace V_b1 : Arv Z h1 b1 kb1 .byte (1 : Int32) [(.int (0 : Int32))] (.int (0 : Int32)) := V_b1.pad (pad_rep [] (.int (0 : Int32)) 1)
  refine own_astoreN (pc' := 18) B X1 (Ls' := #[.val (.ref w0), .val (.int (1 : Int32)), .val (.ref b1)]) d4_17 rfl rfl rfl ?_
  refine own_aloadN (pc' := 19) B X1 d4_18 rfl rfl rfl ?_
  refine own_iconst (pc' := 20) B X1 (z := (0 : Int32)) d4_19 rfl rfl ?_
  refine own_aloadN (pc' := 21) B X1 d4_20 rfl rfl rfl ?_
  refine own_iconst (pc' := 22) B X1 (z := (0 : Int32)) d4_21 rfl rfl ?_
  refine own_aloadN (pc' := 23) B X1 d4_22 rfl rfl rfl ?_
  refine own_arraylength (pc' := 24) B X1 V_w0 d4_23 rfl ?_
  refine own_iloadN (pc' := 25) B X1 d4_24 rfl rfl ?_
  refine own_callS (pc' := 28) B X1 (own_w hw 26 rfl) (own_w hw 27 rfl) (own_w hw 28 rfl) (own_w hw 29 rfl) (by decide) [(.int (4 : Int32)), (.int (1 : Int32))] [(.int (0 : Int32)), (.ref b1), (.int (0 : Int32)), (.ref w0)] (rm_57 l Z a0 hw []  h1 n0 (Nat.le_trans Z0 K.1) ) 4 (by decide) (by decide) rfl pd_4 rfl rfl (Nat.le_of_eq rfl) d4_25 rfl (k' := 1) (n' := 1) rfl rfl (by decide) (by decide) ?_
  intro T2 v2 h2 X2 q2
  obtain ⟨rfl, rfl⟩ := q2
  show own_Go p e below (T2.setTop (mkF m 28 #[.val (.ref w0), .val (.int (1 : Int32)), .val (.ref b1)] [(.int (1 : Int32)), (.int (0 : Int32)), (.ref b1), (.int (0 : Int32)), (.ref w0)])) _
  refine own_arraycopy (pc' := 31) B X2 (own_w hw 30 rfl) (own_w hw 33 rfl) (own_w hw 31 rfl) (own_w hw 32 rfl) V_w0 V_b1 rfl g_b1 (by decide) (by decide) (by decide) (by decide) (by decide) (us := [(.int p2)]) rfl (Nat.le_of_ble_eq_true rfl) (rs := [(.int p2)]) rfl d4_28 rfl rfl (by decide) 0 (Nat.le_of_eq rfl) (by decide) ?_
  intro T3 h3 X3 K3 V_b1
  replace K := K.trans K3 (allS (Or.inr sz_b1) all0)
  replace E_w0 := E_w0.keep K3
  replace V_w0 := V_w0.keep K3 (ninS ne_w0_b1 nin0)
  replace E_b1 := E_b1.keep K3
  refine own_aloadN (pc' := 32) B X3 d4_31 rfl rfl rfl ?_
  exact own_retA B X3 (t := (.array .byte)) rfl rfl rfl d4_32 (by decide) (by decide) (⟨b1, kb1, rfl, K, sz_b1, E_b1, V_b1⟩)
def Q_59 (Z : State)  (h0 : Heap) (n0 : Nat) (v : Option Value) (h : Heap) : Prop :=
  (v = some (.int (2 : Int32)) ∧ h0 = h)
set_option maxRecDepth 65536 in
set_option maxHeartbeats 40000000 in
theorem rm_59 (l : Launch) (Z : State) (a0 : Array Value) (hw : ∀ d ∈ tables_1, d.before a0 Z = true) (ws : List Jvm.Cond)  (h0 : Heap) (n0 : Nat) (Z0 : n0 ≤ h0.size)  :
    MetFree l (⟨"java/lang/Math", "min", "(II)I"⟩ : MethodName) (head1 (Jvm.Cond.code (⟨"java/lang/Math", "min", "(II)I"⟩ : MethodName) jdk_29_method_69_code 2 (some .int) :: ws) ({ frames := 0, cells := 0, slots := 0, locals := 0 } : Room)) (fun a U => a = #[(.int (4 : Int32)), (.int (2 : Int32))] ∧ Z.Warmed39 U.vm ∧ U.heap = h0) (fun _ _ _ _ _ => True) (fun _ U o U' => ∃ v L, o = .returned v ∧ (Fr n0 L ∧ Q_59 Z  h0 n0 v U'.heap) ∧ FrameEnd U o U' L ({ frames := 0, cells := 0, slots := 0, locals := 0 } : Room).cells ({ frames := 0, cells := 0, slots := 0, locals := 0 } : Room).slots) := by
  refine own_enter (Q := Q_59 Z  h0 n0) (F := fun m => mkF m 0 #[.val (.int (4 : Int32)), .val (.int (2 : Int32))] []) (Jvm.Free.JP.mathPlain rfl (by decide +kernel)) (fun m => by first | (simp [entryFrame, mkF, argsToLocals, Value.category]; done) | rfl) ?_
  intro p e s m below meth c s₁ B X0
  have K : Keep h0 h0 [] := Keep.refl h0 _
  refine own_iloadN (pc' := 1) B X0 d5_0 rfl rfl ?_
  refine own_iloadN (pc' := 2) B X0 d5_1 rfl rfl ?_
  refine own_icmpYes (pc' := 9) B X0 d5_2 (tlt (by decide : (2 : Int32) < (4 : Int32))).2.2.1 (by decide) rfl ?_
  refine own_iloadN (pc' := 10) B X0 d5_9 rfl rfl ?_
  exact own_retI B X0 d5_10 (by decide) (by decide) (⟨rfl, rfl⟩)
def Q_58 (Z : State) (w0 : Addr) (kw0 : ClassId) (p2 : Int32) (p3 : Int32) (p4 : Int32) (p5 : Int32) (h0 : Heap) (n0 : Nat) (v : Option Value) (h : Heap) : Prop :=
  (∃ (b1 : Addr) (kb1 : ClassId), v = some (.ref b1) ∧ Keep h0 h [] ∧ h0.size ≤ b1 ∧ Exa Z h b1 "[B" ∧ Arv Z h b1 kb1 .byte (2 : Int32) [(.int p2), (.int p3)] (.int (0 : Int32)))
set_option maxRecDepth 65536 in
set_option maxHeartbeats 40000000 in
theorem rm_58 (l : Launch) (Z : State) (a0 : Array Value) (hw : ∀ d ∈ tables_1, d.before a0 Z = true) (ws : List Jvm.Cond) (w0 : Addr) (kw0 : ClassId) (p2 : Int32) (p3 : Int32) (p4 : Int32) (p5 : Int32) (h0 : Heap) (n0 : Nat) (Z0 : n0 ≤ h0.size) (E_w0 : Exa Z h0 w0 "[B") (V_w0 : Arv Z h0 w0 kw0 .byte (4 : Int32) [(.int p2), (.int p3), (.int p4), (.int p5)] (.int (0 : Int32))) (g_w0 : n0 ≤ w0) :
    MetFree l (⟨"java/util/Arrays", "copyOf", "([BI)[B"⟩ : MethodName) (head1 (Jvm.Cond.code (⟨"java/util/Arrays", "copyOf", "([BI)[B"⟩ : MethodName) jdk_65_method_121_code 3 (some (.array .byte)) :: ws) ({ frames := 1, cells := 1, slots := 2, locals := 40 } : Room)) (fun a U => a = #[(.ref w0), (.int (2 : Int32))] ∧ Z.Warmed39 U.vm ∧ U.heap = h0) (fun _ _ _ _ _ => True) (fun _ U o U' => ∃ v L, o = .returned v ∧ (Fr n0 L ∧ Q_58 Z w0 kw0 p2 p3 p4 p5 h0 n0 v U'.heap) ∧ FrameEnd U o U' L ({ frames := 1, cells := 1, slots := 2, locals := 40 } : Room).cells ({ frames := 1, cells := 1, slots := 2, locals := 40 } : Room).slots) := by
  refine own_enter (Q := Q_58 Z w0 kw0 p2 p3 p4 p5 h0 n0) (F := fun m => mkF m 0 #[.val (.ref w0), .val (.int (2 : Int32)), .unset] []) (plainFor_of_name pn_2) (fun m => by first | (simp [entryFrame, mkF, argsToLocals, Value.category]; done) | rfl) ?_
  intro p e s m below meth c s₁ B X0
  have K : Keep h0 h0 [] := Keep.refl h0 _
  refine own_iloadN (pc' := 1) B X0 d4_0 rfl rfl ?_
  refine own_aloadN (pc' := 2) B X0 d4_1 rfl rfl rfl ?_
  refine own_arraylength (pc' := 3) B X0 V_w0 d4_2 rfl ?_
  refine own_icmpYes (pc' := 14) B X0 d4_3 (feq (by decide : ¬ ((2 : Int32) = (4 : Int32)))).2 (by decide) rfl ?_
  refine own_iloadN (pc' := 15) B X0 d4_14 rfl rfl ?_
  refine own_newarray (pc' := 17) B X0 (own_w hw 1 rfl) d4_15 rfl rfl (by decide) 2 (by decide) (by decide) (k' := 1) (n' := 2) rfl rfl (by decide) (by decide) "[B" (by decide) (.int (0 : Int32)) rfl ?_
  intro T1 h1 b1 kb1 X1 g1 E1 V_b1 E_b1
  have ne_w0_b1 : w0 ≠ b1 := own_ne E_w0.lt g1
  have sz_b1 : h0.size ≤ b1 := own_sz K g1
  have g_b1 : n0 ≤ b1 := Nat.le_trans Z0 sz_b1
  replace K := K.ext E1
  replace E_w0 := E_w0.ext E1
  replace V_w0 := V_w0.ext E1
  replace V_b1 : Arv Z h1 b1 kb1 .byte (2 : Int32) [(.int (0 : Int32)), (.int (0 : Int32))] (.int (0 : Int32)) := V_b1.pad (pad_rep [] (.int (0 : Int32)) 2)
  refine own_astoreN (pc' := 18) B X1 (Ls' := #[.val (.ref w0), .val (.int (2 : Int32)), .val (.ref b1)]) d4_17 rfl rfl rfl ?_
  refine own_aloadN (pc' := 19) B X1 d4_18 rfl rfl rfl ?_
  refine own_iconst (pc' := 20) B X1 (z := (0 : Int32)) d4_19 rfl rfl ?_
  refine own_aloadN (pc' := 21) B X1 d4_20 rfl rfl rfl ?_
  refine own_iconst (pc' := 22) B X1 (z := (0 : Int32)) d4_21 rfl rfl ?_
  refine own_aloadN (pc' := 23) B X1 d4_22 rfl rfl rfl ?_
  refine own_arraylength (pc' := 24) B X1 V_w0 d4_23 rfl ?_
  refine own_iloadN (pc' := 25) B X1 d4_24 rfl rfl ?_
  refine own_callS (pc' := 28) B X1 (own_w hw 26 rfl) (own_w hw 27 rfl) (own_w hw 28 rfl) (own_w hw 29 rfl) (by decide) [(.int (4 : Int32)), (.int (2 : Int32))] [(.int (0 : Int32)), (.ref b1), (.int (0 : Int32)), (.ref w0)] (rm_59 l Z a0 hw []  h1 n0 (Nat.le_trans Z0 K.1) ) 4 (by decide) (by decide) rfl pd_4 rfl rfl (Nat.le_of_eq rfl) d4_25 rfl (k' := 1) (n' := 2) rfl rfl (by decide) (by decide) ?_
  intro T2 v2 h2 X2 q2
  obtain ⟨rfl, rfl⟩ := q2
  show own_Go p e below (T2.setTop (mkF m 28 #[.val (.ref w0), .val (.int (2 : Int32)), .val (.ref b1)] [(.int (2 : Int32)), (.int (0 : Int32)), (.ref b1), (.int (0 : Int32)), (.ref w0)])) _
  refine own_arraycopy (pc' := 31) B X2 (own_w hw 30 rfl) (own_w hw 33 rfl) (own_w hw 31 rfl) (own_w hw 32 rfl) V_w0 V_b1 rfl g_b1 (by decide) (by decide) (by decide) (by decide) (by decide) (us := [(.int p2), (.int p3)]) rfl (Nat.le_of_ble_eq_true rfl) (rs := [(.int p2), (.int p3)]) rfl d4_28 rfl rfl (by decide) 0 (Nat.le_of_eq rfl) (by decide) ?_
  intro T3 h3 X3 K3 V_b1
  replace K := K.trans K3 (allS (Or.inr sz_b1) all0)
  replace E_w0 := E_w0.keep K3
  replace V_w0 := V_w0.keep K3 (ninS ne_w0_b1 nin0)
  replace E_b1 := E_b1.keep K3
  refine own_aloadN (pc' := 32) B X3 d4_31 rfl rfl rfl ?_
  exact own_retA B X3 (t := (.array .byte)) rfl rfl rfl d4_32 (by decide) (by decide) (⟨b1, kb1, rfl, K, sz_b1, E_b1, V_b1⟩)
def Q_61 (Z : State)  (h0 : Heap) (n0 : Nat) (v : Option Value) (h : Heap) : Prop :=
  (v = some (.int (3 : Int32)) ∧ h0 = h)
set_option maxRecDepth 65536 in
set_option maxHeartbeats 40000000 in
theorem rm_61 (l : Launch) (Z : State) (a0 : Array Value) (hw : ∀ d ∈ tables_1, d.before a0 Z = true) (ws : List Jvm.Cond)  (h0 : Heap) (n0 : Nat) (Z0 : n0 ≤ h0.size)  :
    MetFree l (⟨"java/lang/Math", "min", "(II)I"⟩ : MethodName) (head1 (Jvm.Cond.code (⟨"java/lang/Math", "min", "(II)I"⟩ : MethodName) jdk_29_method_69_code 2 (some .int) :: ws) ({ frames := 0, cells := 0, slots := 0, locals := 0 } : Room)) (fun a U => a = #[(.int (4 : Int32)), (.int (3 : Int32))] ∧ Z.Warmed39 U.vm ∧ U.heap = h0) (fun _ _ _ _ _ => True) (fun _ U o U' => ∃ v L, o = .returned v ∧ (Fr n0 L ∧ Q_61 Z  h0 n0 v U'.heap) ∧ FrameEnd U o U' L ({ frames := 0, cells := 0, slots := 0, locals := 0 } : Room).cells ({ frames := 0, cells := 0, slots := 0, locals := 0 } : Room).slots) := by
  refine own_enter (Q := Q_61 Z  h0 n0) (F := fun m => mkF m 0 #[.val (.int (4 : Int32)), .val (.int (3 : Int32))] []) (Jvm.Free.JP.mathPlain rfl (by decide +kernel)) (fun m => by first | (simp [entryFrame, mkF, argsToLocals, Value.category]; done) | rfl) ?_
  intro p e s m below meth c s₁ B X0
  have K : Keep h0 h0 [] := Keep.refl h0 _
  refine own_iloadN (pc' := 1) B X0 d5_0 rfl rfl ?_
  refine own_iloadN (pc' := 2) B X0 d5_1 rfl rfl ?_
  refine own_icmpYes (pc' := 9) B X0 d5_2 (tlt (by decide : (3 : Int32) < (4 : Int32))).2.2.1 (by decide) rfl ?_
  refine own_iloadN (pc' := 10) B X0 d5_9 rfl rfl ?_
  exact own_retI B X0 d5_10 (by decide) (by decide) (⟨rfl, rfl⟩)
def Q_60 (Z : State) (w0 : Addr) (kw0 : ClassId) (p2 : Int32) (p3 : Int32) (p4 : Int32) (p5 : Int32) (h0 : Heap) (n0 : Nat) (v : Option Value) (h : Heap) : Prop :=
  (∃ (b1 : Addr) (kb1 : ClassId), v = some (.ref b1) ∧ Keep h0 h [] ∧ h0.size ≤ b1 ∧ Exa Z h b1 "[B" ∧ Arv Z h b1 kb1 .byte (3 : Int32) [(.int p2), (.int p3), (.int p4)] (.int (0 : Int32)))
set_option maxRecDepth 65536 in
set_option maxHeartbeats 40000000 in
theorem rm_60 (l : Launch) (Z : State) (a0 : Array Value) (hw : ∀ d ∈ tables_1, d.before a0 Z = true) (ws : List Jvm.Cond) (w0 : Addr) (kw0 : ClassId) (p2 : Int32) (p3 : Int32) (p4 : Int32) (p5 : Int32) (h0 : Heap) (n0 : Nat) (Z0 : n0 ≤ h0.size) (E_w0 : Exa Z h0 w0 "[B") (V_w0 : Arv Z h0 w0 kw0 .byte (4 : Int32) [(.int p2), (.int p3), (.int p4), (.int p5)] (.int (0 : Int32))) (g_w0 : n0 ≤ w0) :
    MetFree l (⟨"java/util/Arrays", "copyOf", "([BI)[B"⟩ : MethodName) (head1 (Jvm.Cond.code (⟨"java/util/Arrays", "copyOf", "([BI)[B"⟩ : MethodName) jdk_65_method_121_code 3 (some (.array .byte)) :: ws) ({ frames := 1, cells := 1, slots := 3, locals := 40 } : Room)) (fun a U => a = #[(.ref w0), (.int (3 : Int32))] ∧ Z.Warmed39 U.vm ∧ U.heap = h0) (fun _ _ _ _ _ => True) (fun _ U o U' => ∃ v L, o = .returned v ∧ (Fr n0 L ∧ Q_60 Z w0 kw0 p2 p3 p4 p5 h0 n0 v U'.heap) ∧ FrameEnd U o U' L ({ frames := 1, cells := 1, slots := 3, locals := 40 } : Room).cells ({ frames := 1, cells := 1, slots := 3, locals := 40 } : Room).slots) := by
  refine own_enter (Q := Q_60 Z w0 kw0 p2 p3 p4 p5 h0 n0) (F := fun m => mkF m 0 #[.val (.ref w0), .val (.int (3 : Int32)), .unset] []) (plainFor_of_name pn_2) (fun m => by first | (simp [entryFrame, mkF, argsToLocals, Value.category]; done) | rfl) ?_
  intro p e s m below meth c s₁ B X0
  have K : Keep h0 h0 [] := Keep.refl h0 _
  refine own_iloadN (pc' := 1) B X0 d4_0 rfl rfl ?_
  refine own_aloadN (pc' := 2) B X0 d4_1 rfl rfl rfl ?_
  refine own_arraylength (pc' := 3) B X0 V_w0 d4_2 rfl ?_
  refine own_icmpYes (pc' := 14) B X0 d4_3 (feq (by decide : ¬ ((3 : Int32) = (4 : Int32)))).2 (by decide) rfl ?_
  refine own_iloadN (pc' := 15) B X0 d4_14 rfl rfl ?_
  refine own_newarray (pc' := 17) B X0 (own_w hw 1 rfl) d4_15 rfl rfl (by decide) 3 (by decide) (by decide) (k' := 1) (n' := 3) rfl rfl (by decide) (by decide) "[B" (by decide) (.int (0 : Int32)) rfl ?_
  intro T1 h1 b1 kb1 X1 g1 E1 V_b1 E_b1
  have ne_w0_b1 : w0 ≠ b1 := own_ne E_w0.lt g1
  have sz_b1 : h0.size ≤ b1 := own_sz K g1
  have g_b1 : n0 ≤ b1 := Nat.le_trans Z0 sz_b1
  replace K := K.ext E1
  replace E_w0 := E_w0.ext E1
  replace V_w0 := V_w0.ext E1
  replace V_b1 : Arv Z h1 b1 kb1 .byte (3 : Int32) [(.int (0 : Int32)), (.int (0 : Int32)), (.int (0 : Int32))] (.int (0 : Int32)) := V_b1.pad (pad_rep [] (.int (0 : Int32)) 3)
  refine own_astoreN (pc' := 18) B X1 (Ls' := #[.val (.ref w0), .val (.int (3 : Int32)), .val (.ref b1)]) d4_17 rfl rfl rfl ?_
  refine own_aloadN (pc' := 19) B X1 d4_18 rfl rfl rfl ?_
  refine own_iconst (pc' := 20) B X1 (z := (0 : Int32)) d4_19 rfl rfl ?_
  refine own_aloadN (pc' := 21) B X1 d4_20 rfl rfl rfl ?_
  refine own_iconst (pc' := 22) B X1 (z := (0 : Int32)) d4_21 rfl rfl ?_
  refine own_aloadN (pc' := 23) B X1 d4_22 rfl rfl rfl ?_
  refine own_arraylength (pc' := 24) B X1 V_w0 d4_23 rfl ?_
  refine own_iloadN (pc' := 25) B X1 d4_24 rfl rfl ?_
  refine own_callS (pc' := 28) B X1 (own_w hw 26 rfl) (own_w hw 27 rfl) (own_w hw 28 rfl) (own_w hw 29 rfl) (by decide) [(.int (4 : Int32)), (.int (3 : Int32))] [(.int (0 : Int32)), (.ref b1), (.int (0 : Int32)), (.ref w0)] (rm_61 l Z a0 hw []  h1 n0 (Nat.le_trans Z0 K.1) ) 4 (by decide) (by decide) rfl pd_4 rfl rfl (Nat.le_of_eq rfl) d4_25 rfl (k' := 1) (n' := 3) rfl rfl (by decide) (by decide) ?_
  intro T2 v2 h2 X2 q2
  obtain ⟨rfl, rfl⟩ := q2
  show own_Go p e below (T2.setTop (mkF m 28 #[.val (.ref w0), .val (.int (3 : Int32)), .val (.ref b1)] [(.int (3 : Int32)), (.int (0 : Int32)), (.ref b1), (.int (0 : Int32)), (.ref w0)])) _
  refine own_arraycopy (pc' := 31) B X2 (own_w hw 30 rfl) (own_w hw 33 rfl) (own_w hw 31 rfl) (own_w hw 32 rfl) V_w0 V_b1 rfl g_b1 (by decide) (by decide) (by decide) (by decide) (by decide) (us := [(.int p2), (.int p3), (.int p4)]) rfl (Nat.le_of_ble_eq_true rfl) (rs := [(.int p2), (.int p3), (.int p4)]) rfl d4_28 rfl rfl (by decide) 0 (Nat.le_of_eq rfl) (by decide) ?_
  intro T3 h3 X3 K3 V_b1
  replace K := K.trans K3 (allS (Or.inr sz_b1) all0)
  replace E_w0 := E_w0.keep K3
  replace V_w0 := V_w0.keep K3 (ninS ne_w0_b1 nin0)
  replace E_b1 := E_b1.keep K3
  refine own_aloadN (pc' := 32) B X3 d4_31 rfl rfl rfl ?_
  exact own_retA B X3 (t := (.array .byte)) rfl rfl rfl d4_32 (by decide) (by decide) (⟨b1, kb1, rfl, K, sz_b1, E_b1, V_b1⟩)
def Q_62 (Z : State) (w0 : Addr) (kw0 : ClassId) (p2 : Int32) (p3 : Int32) (p4 : Int32) (p5 : Int32) (h0 : Heap) (n0 : Nat) (v : Option Value) (h : Heap) : Prop :=
  (∃ (b1 : Addr), v = some (.ref b1) ∧ Keep h0 h [] ∧ h0.size ≤ b1 ∧ Exa Z h b1 "[B" ∧ Arv Z h b1 kw0 .byte (4 : Int32) [(.int p2), (.int p3), (.int p4), (.int p5)] (.int (0 : Int32)))
set_option maxRecDepth 65536 in
set_option maxHeartbeats 40000000 in
theorem rm_62 (l : Launch) (Z : State) (a0 : Array Value) (hw : ∀ d ∈ tables_1, d.before a0 Z = true) (ws : List Jvm.Cond) (w0 : Addr) (kw0 : ClassId) (p2 : Int32) (p3 : Int32) (p4 : Int32) (p5 : Int32) (h0 : Heap) (n0 : Nat) (Z0 : n0 ≤ h0.size) (E_w0 : Exa Z h0 w0 "[B") (V_w0 : Arv Z h0 w0 kw0 .byte (4 : Int32) [(.int p2), (.int p3), (.int p4), (.int p5)] (.int (0 : Int32))) (g_w0 : n0 ≤ w0) :
    MetFree l (⟨"java/util/Arrays", "copyOf", "([BI)[B"⟩ : MethodName) (head1 (Jvm.Cond.code (⟨"java/util/Arrays", "copyOf", "([BI)[B"⟩ : MethodName) jdk_65_method_121_code 3 (some (.array .byte)) :: ws) ({ frames := 1, cells := 1, slots := 4, locals := 14 } : Room)) (fun a U => a = #[(.ref w0), (.int (4 : Int32))] ∧ Z.Warmed39 U.vm ∧ U.heap = h0) (fun _ _ _ _ _ => True) (fun _ U o U' => ∃ v L, o = .returned v ∧ (Fr n0 L ∧ Q_62 Z w0 kw0 p2 p3 p4 p5 h0 n0 v U'.heap) ∧ FrameEnd U o U' L ({ frames := 1, cells := 1, slots := 4, locals := 14 } : Room).cells ({ frames := 1, cells := 1, slots := 4, locals := 14 } : Room).slots) := by
  refine own_enter (Q := Q_62 Z w0 kw0 p2 p3 p4 p5 h0 n0) (F := fun m => mkF m 0 #[.val (.ref w0), .val (.int (4 : Int32)), .unset] []) (plainFor_of_name pn_2) (fun m => by first | (simp [entryFrame, mkF, argsToLocals, Value.category]; done) | rfl) ?_
  intro p e s m below meth c s₁ B X0
  have K : Keep h0 h0 [] := Keep.refl h0 _
  refine own_iloadN (pc' := 1) B X0 d4_0 rfl rfl ?_
  refine own_aloadN (pc' := 2) B X0 d4_1 rfl rfl rfl ?_
  refine own_arraylength (pc' := 3) B X0 V_w0 d4_2 rfl ?_
  refine own_icmpNo (pc' := 6) B X0 d4_3 (teq (by decide : (4 : Int32) = (4 : Int32))).2 rfl ?_
  refine own_aloadN (pc' := 7) B X0 d4_6 rfl rfl rfl ?_
  refine own_clone (pc' := 10) B X0 (own_w hw 17 rfl) (own_w hw 18 rfl) (own_w hw 22 rfl) (own_w hw 20 rfl) (own_w hw 21 rfl) (own_w hw 23 rfl) V_w0 E_w0 d4_7 rfl rfl (by decide) 0 4 (Nat.le_of_eq rfl) (by decide) (by decide) (k' := 1) (n' := 4) rfl rfl (by decide) (by decide) ?_
  intro T1 h1 b1 X1 g1 E1 V_b1 E_b1
  have ne_w0_b1 : w0 ≠ b1 := own_ne E_w0.lt g1
  have sz_b1 : h0.size ≤ b1 := own_sz K g1
  have g_b1 : n0 ≤ b1 := Nat.le_trans Z0 sz_b1
  replace K := K.ext E1
  replace E_w0 := E_w0.ext E1
  replace V_w0 := V_w0.ext E1
  refine own_checkcast (pc' := 13) B X1 (own_w hw 24 rfl) (Ins.self E_b1) d4_10 rfl ?_
  intro T2 X2
  exact own_retA B X2 (t := (.array .byte)) rfl rfl rfl d4_13 (by decide) (by decide) (⟨b1, rfl, K, sz_b1, E_b1, V_b1⟩)
def Q_55 (Z : State) (w0 : Addr) (kw0 : ClassId) (p2 : Int32) (p3 : Int32) (p4 : Int32) (p5 : Int32) (p6 : Int32) (p7 : Int32) (p8 : Int32) (p9 : Int32) (p10 : Int32) (p11 : Int32) (p12 : Int32) (p13 : Int32) (h0 : Heap) (n0 : Nat) (v : Option Value) (h : Heap) : Prop :=
  (∃ (b5 : Addr) (kb5 : ClassId), p5 = (-1 : Int32) ∧ p4 = (-1 : Int32) ∧ p3 = (-1 : Int32) ∧ p2 = (-1 : Int32) ∧ v = some (.ref b5) ∧ Keep h0 h [] ∧ h0.size ≤ b5 ∧ Exa Z h b5 "[B" ∧ Arv Z h b5 kb5 .byte (0 : Int32) [] (.int (0 : Int32))) ∨
  (∃ (y9 : Int32) (y10 : Int32) (b7 : Addr) (k8 : ClassId), p5 = (-1 : Int32) ∧ p4 = (-1 : Int32) ∧ p3 = (-1 : Int32) ∧ ¬ (p2 = (-1 : Int32)) ∧ p2 + (1 : Int32) = y9 ∧ y9.toInt8.toInt32 = y10 ∧ v = some (.ref b7) ∧ Keep h0 h [] ∧ h0.size ≤ b7 ∧ Exa Z h b7 "[B" ∧ Arv Z h b7 k8 .byte (1 : Int32) [(.int y10)] (.int (0 : Int32))) ∨
  (∃ (y15 : Int32) (y16 : Int32) (b13 : Addr) (k14 : ClassId), p5 = (-1 : Int32) ∧ p4 = (-1 : Int32) ∧ ¬ (p3 = (-1 : Int32)) ∧ p3 + (1 : Int32) = y15 ∧ y15.toInt8.toInt32 = y16 ∧ v = some (.ref b13) ∧ Keep h0 h [] ∧ h0.size ≤ b13 ∧ Exa Z h b13 "[B" ∧ Arv Z h b13 k14 .byte (2 : Int32) [(.int p2), (.int y16)] (.int (0 : Int32))) ∨
  (∃ (y21 : Int32) (y22 : Int32) (b19 : Addr) (k20 : ClassId), p5 = (-1 : Int32) ∧ ¬ (p4 = (-1 : Int32)) ∧ p4 + (1 : Int32) = y21 ∧ y21.toInt8.toInt32 = y22 ∧ v = some (.ref b19) ∧ Keep h0 h [] ∧ h0.size ≤ b19 ∧ Exa Z h b19 "[B" ∧ Arv Z h b19 k20 .byte (3 : Int32) [(.int p2), (.int p3), (.int y22)] (.int (0 : Int32))) ∨
  (∃ (y26 : Int32) (y27 : Int32) (b25 : Addr), ¬ (p5 = (-1 : Int32)) ∧ p5 + (1 : Int32) = y26 ∧ y26.toInt8.toInt32 = y27 ∧ v = some (.ref b25) ∧ Keep h0 h [] ∧ h0.size ≤ b25 ∧ Exa Z h b25 "[B" ∧ Arv Z h b25 kw0 .byte (4 : Int32) [(.int p2), (.int p3), (.int p4), (.int y27)] (.int (0 : Int32)))
set_option maxRecDepth 65536 in
set_option maxHeartbeats 40000000 in
theorem rm_55 (l : Launch) (Z : State) (a0 : Array Value) (hw : ∀ d ∈ tables_1, d.before a0 Z = true) (ws : List Jvm.Cond) (w0 : Addr) (kw0 : ClassId) (p2 : Int32) (p3 : Int32) (p4 : Int32) (p5 : Int32) (p6 : Int32) (p7 : Int32) (p8 : Int32) (p9 : Int32) (p10 : Int32) (p11 : Int32) (p12 : Int32) (p13 : Int32) (h0 : Heap) (n0 : Nat) (Z0 : n0 ≤ h0.size) (E_w0 : Exa Z h0 w0 "[B") (V_w0 : Arv Z h0 w0 kw0 .byte (4 : Int32) [(.int p2), (.int p3), (.int p4), (.int p5)] (.int (0 : Int32))) (g_w0 : n0 ≤ w0) (hp0 : p6.toInt8.toInt32 = p2) (hp1 : p7.toInt8.toInt32 = p3) (hp2 : p8.toInt8.toInt32 = p4) (hp3 : p9.toInt8.toInt32 = p5) (hp4 : own_F_pick p10 = p6) (hp5 : own_F_pick p11 = p7) (hp6 : own_F_pick p12 = p8) (hp7 : own_F_pick p13 = p9) :
    MetFree l (⟨"com/example/keyer/keyer/Query", "successor", "([B)[B"⟩ : MethodName) (head1 (Jvm.Cond.code (⟨"com/example/keyer/keyer/Query", "successor", "([B)[B"⟩ : MethodName) prog_18_method_14_code 3 (some (.array .byte)) :: ws) ({ frames := 2, cells := 1, slots := 4, locals := 54 } : Room)) (fun a U => a = #[(.ref w0)] ∧ Z.Warmed39 U.vm ∧ U.heap = h0) (fun _ _ _ _ _ => True) (fun _ U o U' => ∃ v L, o = .returned v ∧ (Fr n0 L ∧ Q_55 Z w0 kw0 p2 p3 p4 p5 p6 p7 p8 p9 p10 p11 p12 p13 h0 n0 v U'.heap) ∧ FrameEnd U o U' L ({ frames := 2, cells := 1, slots := 4, locals := 54 } : Room).cells ({ frames := 2, cells := 1, slots := 4, locals := 54 } : Room).slots) := by
  refine own_enter (Q := Q_55 Z w0 kw0 p2 p3 p4 p5 p6 p7 p8 p9 p10 p11 p12 p13 h0 n0) (F := fun m => mkF m 0 #[.val (.ref w0), .unset, .unset] []) (plainFor_of_name pn_1) (fun m => by first | (simp [entryFrame, mkF, argsToLocals, Value.category]; done) | rfl) ?_
  intro p e s m below meth c s₁ B X0
  have K : Keep h0 h0 [] := Keep.refl h0 _
  refine own_aloadN (pc' := 1) B X0 d2_0 rfl rfl rfl ?_
  refine own_arraylength (pc' := 2) B X0 V_w0 d2_1 rfl ?_
  refine own_istoreN (pc' := 3) B X0 (Ls' := #[.val (.ref w0), .val (.int (4 : Int32)), .unset]) d2_2 rfl rfl ?_
  refine own_iloadN (pc' := 4) B X0 d2_3 rfl rfl ?_
  refine own_ifNo (pc' := 7) B X0 d2_4 ((if0 _ _).trans (tlt (by decide : (0 : Int32) < (4 : Int32))).2.2.2) rfl ?_
  refine own_aloadN (pc' := 8) B X0 d2_7 rfl rfl rfl ?_
  refine own_iloadN (pc' := 9) B X0 d2_8 rfl rfl ?_
  refine own_iconst (pc' := 10) B X0 (z := (1 : Int32)) d2_9 rfl rfl ?_
  refine own_isub (pc' := 11) B X0 (z := (3 : Int32)) d2_10 rfl (by decide) ?_
  refine own_baload (pc' := 12) B X0 V_w0 (v := (.int p5)) ⟨by decide, by decide⟩ rfl d2_11 rfl ?_
  refine own_iconst (pc' := 13) B X0 (z := (-1 : Int32)) d2_12 rfl rfl ?_
  by_cases c1 : p5 = (-1 : Int32)
  · refine own_icmpNo (pc' := 16) B X0 d2_13 (teq c1).2 rfl ?_
    refine own_iinc (pc' := 19) B X0 (Ls' := #[.val (.ref w0), .val (.int (3 : Int32)), .unset]) d2_16 rfl rfl (z := (3 : Int32)) (by decide) rfl ?_
    refine own_goto (pc' := 3) B X0 d2_19 (by decide) rfl ?_
    refine own_iloadN (pc' := 4) B X0 d2_3 rfl rfl ?_
    refine own_ifNo (pc' := 7) B X0 d2_4 ((if0 _ _).trans (tlt (by decide : (0 : Int32) < (3 : Int32))).2.2.2) rfl ?_
    refine own_aloadN (pc' := 8) B X0 d2_7 rfl rfl rfl ?_
    refine own_iloadN (pc' := 9) B X0 d2_8 rfl rfl ?_
    refine own_iconst (pc' := 10) B X0 (z := (1 : Int32)) d2_9 rfl rfl ?_
    refine own_isub (pc' := 11) B X0 (z := (2 : Int32)) d2_10 rfl (by decide) ?_
    refine own_baload (pc' := 12) B X0 V_w0 (v := (.int p4)) ⟨by decide, by decide⟩ rfl d2_11 rfl ?_
    refine own_iconst (pc' := 13) B X0 (z := (-1 : Int32)) d2_12 rfl rfl ?_
    by_cases c2 : p4 = (-1 : Int32)
    · refine own_icmpNo (pc' := 16) B X0 d2_13 (teq c2).2 rfl ?_
      refine own_iinc (pc' := 19) B X0 (Ls' := #[.val (.ref w0), .val (.int (2 : Int32)), .unset]) d2_16 rfl rfl (z := (2 : Int32)) (by decide) rfl ?_
      refine own_goto (pc' := 3) B X0 d2_19 (by decide) rfl ?_
      refine own_iloadN (pc' := 4) B X0 d2_3 rfl rfl ?_
      refine own_ifNo (pc' := 7) B X0 d2_4 ((if0 _ _).trans (tlt (by decide : (0 : Int32) < (2 : Int32))).2.2.2) rfl ?_
      refine own_aloadN (pc' := 8) B X0 d2_7 rfl rfl rfl ?_
      refine own_iloadN (pc' := 9) B X0 d2_8 rfl rfl ?_
      refine own_iconst (pc' := 10) B X0 (z := (1 : Int32)) d2_9 rfl rfl ?_
      refine own_isub (pc' := 11) B X0 (z := (1 : Int32)) d2_10 rfl (by decide) ?_
      refine own_baload (pc' := 12) B X0 V_w0 (v := (.int p3)) ⟨by decide, by decide⟩ rfl d2_11 rfl ?_
      refine own_iconst (pc' := 13) B X0 (z := (-1 : Int32)) d2_12 rfl rfl ?_
      by_cases c3 : p3 = (-1 : Int32)
      · refine own_icmpNo (pc' := 16) B X0 d2_13 (teq c3).2 rfl ?_
        refine own_iinc (pc' := 19) B X0 (Ls' := #[.val (.ref w0), .val (.int (1 : Int32)), .unset]) d2_16 rfl rfl (z := (1 : Int32)) (by decide) rfl ?_
        refine own_goto (pc' := 3) B X0 d2_19 (by decide) rfl ?_
        refine own_iloadN (pc' := 4) B X0 d2_3 rfl rfl ?_
        refine own_ifNo (pc' := 7) B X0 d2_4 ((if0 _ _).trans (tlt (by decide : (0 : Int32) < (1 : Int32))).2.2.2) rfl ?_
        refine own_aloadN (pc' := 8) B X0 d2_7 rfl rfl rfl ?_
        refine own_iloadN (pc' := 9) B X0 d2_8 rfl rfl ?_
        refine own_iconst (pc' := 10) B X0 (z := (1 : Int32)) d2_9 rfl rfl ?_
        refine own_isub (pc' := 11) B X0 (z := (0 : Int32)) d2_10 rfl (by decide) ?_
        refine own_baload (pc' := 12) B X0 V_w0 (v := (.int p2)) ⟨by decide, by decide⟩ rfl d2_11 rfl ?_
        refine own_iconst (pc' := 13) B X0 (z := (-1 : Int32)) d2_12 rfl rfl ?_
        by_cases c4 : p2 = (-1 : Int32)
        · refine own_icmpNo (pc' := 16) B X0 d2_13 (teq c4).2 rfl ?_
          refine own_iinc (pc' := 19) B X0 (Ls' := #[.val (.ref w0), .val (.int (0 : Int32)), .unset]) d2_16 rfl rfl (z := (0 : Int32)) (by decide) rfl ?_
          refine own_goto (pc' := 3) B X0 d2_19 (by decide) rfl ?_
          refine own_iloadN (pc' := 4) B X0 d2_3 rfl rfl ?_
          refine own_ifYes (pc' := 22) B X0 d2_4 ((if0 _ _).trans (flt (by decide : ¬ ((0 : Int32) < (0 : Int32)))).2.2.2) (by decide) rfl ?_
          refine own_iloadN (pc' := 23) B X0 d2_22 rfl rfl ?_
          refine own_ifNo (pc' := 26) B X0 d2_23 ((if0 _ _).trans (teq (by decide : (0 : Int32) = (0 : Int32))).2) rfl ?_
          refine own_iconst (pc' := 27) B X0 (z := (0 : Int32)) d2_26 rfl rfl ?_
          refine own_newarray (pc' := 29) B X0 (own_w hw 1 rfl) d2_27 rfl rfl (by decide) 0 (by decide) (by decide) (k' := 1) (n' := 0) rfl rfl (by decide) (by decide) "[B" (by decide) (.int (0 : Int32)) rfl ?_
          intro T5 h5 b5 kb5 X5 g5 E5 V_b5 E_b5
          have ne_w0_b5 : w0 ≠ b5 := own_ne E_w0.lt g5
          have sz_b5 : h0.size ≤ b5 := own_sz K g5
          have g_b5 : n0 ≤ b5 := Nat.le_trans Z0 sz_b5
          replace K := K.ext E5
          replace E_w0 := E_w0.ext E5
          replace V_w0 := V_w0.ext E5
          exact own_retA B X5 (t := (.array .byte)) rfl rfl rfl d2_29 (by decide) (by decide) (Or.inl ⟨b5, kb5, c1, c2, c3, c4, rfl, K, sz_b5, E_b5, V_b5⟩)
        · refine own_icmpYes (pc' := 22) B X0 d2_13 (feq c4).2 (by decide) rfl ?_
          refine own_iloadN (pc' := 23) B X0 d2_22 rfl rfl ?_
          refine own_ifYes (pc' := 30) B X0 d2_23 ((if0 _ _).trans (feq (by decide : ¬ ((1 : Int32) = (0 : Int32)))).2) (by decide) rfl ?_
          refine own_aloadN (pc' := 31) B X0 d2_30 rfl rfl rfl ?_
          refine own_iloadN (pc' := 32) B X0 d2_31 rfl rfl ?_
          refine own_callS (pc' := 35) B X0 (own_w hw 13 rfl) (own_w hw 14 rfl) (own_w hw 15 rfl) (own_w hw 16 rfl) (by decide) [(.ref w0), (.int (1 : Int32))] [] (rm_56 l Z a0 hw [] w0 kw0 (p2) (p3) (p4) (p5) h0 n0 (Nat.le_trans Z0 K.1) E_w0 V_w0 g_w0) 0 (by decide) (by decide) rfl pd_3 rfl rfl (Nat.le_of_eq rfl) d2_32 rfl (k' := 1) (n' := 1) rfl rfl (by decide) (by decide) ?_
          intro T6 v6 h6 X6 q6
          have lt_w0 := E_w0.lt
          obtain ⟨b7, k8, rfl, K6, z_b7, E_b7, V_b7⟩ := q6
          have ne_w0_b7 : w0 ≠ b7 := own_ne' lt_w0 z_b7
          have sz_b7 : h0.size ≤ b7 := Nat.le_trans K.1 z_b7
          have g_b7 : n0 ≤ b7 := Nat.le_trans Z0 sz_b7
          replace K := K.trans K6 all0
          replace E_w0 := E_w0.keep K6
          replace V_w0 := V_w0.keep K6 nin0
          show own_Go p e below (T6.setTop (mkF m 35 #[.val (.ref w0), .val (.int (1 : Int32)), .unset] [(.ref b7)])) _
          refine own_astoreN (pc' := 36) B X6 (Ls' := #[.val (.ref w0), .val (.int (1 : Int32)), .val (.ref b7)]) d2_35 rfl rfl rfl ?_
          refine own_aloadN (pc' := 37) B X6 d2_36 rfl rfl rfl ?_
          refine own_iloadN (pc' := 38) B X6 d2_37 rfl rfl ?_
          refine own_iconst (pc' := 39) B X6 (z := (1 : Int32)) d2_38 rfl rfl ?_
          refine own_isub (pc' := 40) B X6 (z := (0 : Int32)) d2_39 rfl (by decide) ?_
          refine own_dup2 (pc' := 41) B X6 d2_40 rfl rfl rfl ?_
          refine own_baload (pc' := 42) B X6 V_b7 (v := (.int p2)) ⟨by decide, by decide⟩ rfl d2_41 rfl ?_
          refine own_iconst (pc' := 43) B X6 (z := (1 : Int32)) d2_42 rfl rfl ?_
          obtain ⟨y9, hy9⟩ : ∃ z : Int32, p2 + (1 : Int32) = z := ⟨_, rfl⟩
          refine own_iadd (pc' := 44) B X6 d2_43 rfl hy9 ?_
          obtain ⟨y10, hy10⟩ : ∃ z : Int32, y9.toInt8.toInt32 = z := ⟨_, rfl⟩
          refine own_i2b (pc' := 45) B X6 d2_44 rfl hy10 ?_
          refine own_bastore (pc' := 46) B X6 (x' := y10) V_b7 g_b7 ⟨by decide, by decide⟩ 0 (by decide) (Nat.le_of_ble_eq_true rfl) (own_idem_i2b hy10) d2_45 rfl ?_
          intro T11 h11 X11 W11 V_b7
          replace V_b7 : Arv Z h11 b7 k8 .byte (1 : Int32) [(.int y10)] (.int (0 : Int32)) := V_b7
          replace E_w0 := E_w0.wr W11
          replace V_w0 := V_w0.other W11 ne_w0_b7
          replace E_b7 := E_b7.wr W11
          replace K := K.wr W11 (Or.inr sz_b7)
          refine own_aloadN (pc' := 47) B X11 d2_46 rfl rfl rfl ?_
          exact own_retA B X11 (t := (.array .byte)) rfl rfl rfl d2_47 (by decide) (by decide) (Or.inr (Or.inl ⟨y9, y10, b7, k8, c1, c2, c3, c4, hy9, hy10, rfl, K, sz_b7, E_b7, V_b7⟩))
      · refine own_icmpYes (pc' := 22) B X0 d2_13 (feq c3).2 (by decide) rfl ?_
        refine own_iloadN (pc' := 23) B X0 d2_22 rfl rfl ?_
        refine own_ifYes (pc' := 30) B X0 d2_23 ((if0 _ _).trans (feq (by decide : ¬ ((2 : Int32) = (0 : Int32)))).2) (by decide) rfl ?_
        refine own_aloadN (pc' := 31) B X0 d2_30 rfl rfl rfl ?_
        refine own_iloadN (pc' := 32) B X0 d2_31 rfl rfl ?_
        refine own_callS (pc' := 35) B X0 (own_w hw 13 rfl) (own_w hw 14 rfl) (own_w hw 15 rfl) (own_w hw 16 rfl) (by decide) [(.ref w0), (.int (2 : Int32))] [] (rm_58 l Z a0 hw [] w0 kw0 (p2) (p3) (p4) (p5) h0 n0 (Nat.le_trans Z0 K.1) E_w0 V_w0 g_w0) 0 (by decide) (by decide) rfl pd_3 rfl rfl (Nat.le_of_eq rfl) d2_32 rfl (k' := 1) (n' := 2) rfl rfl (by decide) (by decide) ?_
        intro T12 v12 h12 X12 q12
        have lt_w0 := E_w0.lt
        obtain ⟨b13, k14, rfl, K12, z_b13, E_b13, V_b13⟩ := q12
        have ne_w0_b13 : w0 ≠ b13 := own_ne' lt_w0 z_b13
        have sz_b13 : h0.size ≤ b13 := Nat.le_trans K.1 z_b13
        have g_b13 : n0 ≤ b13 := Nat.le_trans Z0 sz_b13
        replace K := K.trans K12 all0
        replace E_w0 := E_w0.keep K12
        replace V_w0 := V_w0.keep K12 nin0
        show own_Go p e below (T12.setTop (mkF m 35 #[.val (.ref w0), .val (.int (2 : Int32)), .unset] [(.ref b13)])) _
        refine own_astoreN (pc' := 36) B X12 (Ls' := #[.val (.ref w0), .val (.int (2 : Int32)), .val (.ref b13)]) d2_35 rfl rfl rfl ?_
        refine own_aloadN (pc' := 37) B X12 d2_36 rfl rfl rfl ?_
        refine own_iloadN (pc' := 38) B X12 d2_37 rfl rfl ?_
        refine own_iconst (pc' := 39) B X12 (z := (1 : Int32)) d2_38 rfl rfl ?_
        refine own_isub (pc' := 40) B X12 (z := (1 : Int32)) d2_39 rfl (by decide) ?_
        refine own_dup2 (pc' := 41) B X12 d2_40 rfl rfl rfl ?_
        refine own_baload (pc' := 42) B X12 V_b13 (v := (.int p3)) ⟨by decide, by decide⟩ rfl d2_41 rfl ?_
        refine own_iconst (pc' := 43) B X12 (z := (1 : Int32)) d2_42 rfl rfl ?_
        obtain ⟨y15, hy15⟩ : ∃ z : Int32, p3 + (1 : Int32) = z := ⟨_, rfl⟩
        refine own_iadd (pc' := 44) B X12 d2_43 rfl hy15 ?_
        obtain ⟨y16, hy16⟩ : ∃ z : Int32, y15.toInt8.toInt32 = z := ⟨_, rfl⟩
        refine own_i2b (pc' := 45) B X12 d2_44 rfl hy16 ?_
        refine own_bastore (pc' := 46) B X12 (x' := y16) V_b13 g_b13 ⟨by decide, by decide⟩ 1 (by decide) (Nat.le_of_ble_eq_true rfl) (own_idem_i2b hy16) d2_45 rfl ?_
        intro T17 h17 X17 W17 V_b13
        replace V_b13 : Arv Z h17 b13 k14 .byte (2 : Int32) [(.int p2), (.int y16)] (.int (0 : Int32)) := V_b13
        replace E_w0 := E_w0.wr W17
        replace V_w0 := V_w0.other W17 ne_w0_b13
        replace E_b13 := E_b13.wr W17
        replace K := K.wr W17 (Or.inr sz_b13)
        refine own_aloadN (pc' := 47) B X17 d2_46 rfl rfl rfl ?_
        exact own_retA B X17 (t := (.array .byte)) rfl rfl rfl d2_47 (by decide) (by decide) (Or.inr (Or.inr (Or.inl ⟨y15, y16, b13, k14, c1, c2, c3, hy15, hy16, rfl, K, sz_b13, E_b13, V_b13⟩)))
    · refine own_icmpYes (pc' := 22) B X0 d2_13 (feq c2).2 (by decide) rfl ?_
      refine own_iloadN (pc' := 23) B X0 d2_22 rfl rfl ?_
      refine own_ifYes (pc' := 30) B X0 d2_23 ((if0 _ _).trans (feq (by decide : ¬ ((3 : Int32) = (0 : Int32)))).2) (by decide) rfl ?_
      refine own_aloadN (pc' := 31) B X0 d2_30 rfl rfl rfl ?_
      refine own_iloadN (pc' := 32) B X0 d2_31 rfl rfl ?_
      refine own_callS (pc' := 35) B X0 (own_w hw 13 rfl) (own_w hw 14 rfl) (own_w hw 15 rfl) (own_w hw 16 rfl) (by decide) [(.ref w0), (.int (3 : Int32))] [] (rm_60 l Z a0 hw [] w0 kw0 (p2) (p3) (p4) (p5) h0 n0 (Nat.le_trans Z0 K.1) E_w0 V_w0 g_w0) 0 (by decide) (by decide) rfl pd_3 rfl rfl (Nat.le_of_eq rfl) d2_32 rfl (k' := 1) (n' := 3) rfl rfl (by decide) (by decide) ?_
      intro T18 v18 h18 X18 q18
      have lt_w0 := E_w0.lt
      obtain ⟨b19, k20, rfl, K18, z_b19, E_b19, V_b19⟩ := q18
      have ne_w0_b19 : w0 ≠ b19 := own_ne' lt_w0 z_b19
      have sz_b19 : h0.size ≤ b19 := Nat.le_trans K.1 z_b19
      have g_b19 : n0 ≤ b19 := Nat.le_trans Z0 sz_b19
      replace K := K.trans K18 all0
      replace E_w0 := E_w0.keep K18
      replace V_w0 := V_w0.keep K18 nin0
      show own_Go p e below (T18.setTop (mkF m 35 #[.val (.ref w0), .val (.int (3 : Int32)), .unset] [(.ref b19)])) _
      refine own_astoreN (pc' := 36) B X18 (Ls' := #[.val (.ref w0), .val (.int (3 : Int32)), .val (.ref b19)]) d2_35 rfl rfl rfl ?_
      refine own_aloadN (pc' := 37) B X18 d2_36 rfl rfl rfl ?_
      refine own_iloadN (pc' := 38) B X18 d2_37 rfl rfl ?_
      refine own_iconst (pc' := 39) B X18 (z := (1 : Int32)) d2_38 rfl rfl ?_
      refine own_isub (pc' := 40) B X18 (z := (2 : Int32)) d2_39 rfl (by decide) ?_
      refine own_dup2 (pc' := 41) B X18 d2_40 rfl rfl rfl ?_
      refine own_baload (pc' := 42) B X18 V_b19 (v := (.int p4)) ⟨by decide, by decide⟩ rfl d2_41 rfl ?_
      refine own_iconst (pc' := 43) B X18 (z := (1 : Int32)) d2_42 rfl rfl ?_
      obtain ⟨y21, hy21⟩ : ∃ z : Int32, p4 + (1 : Int32) = z := ⟨_, rfl⟩
      refine own_iadd (pc' := 44) B X18 d2_43 rfl hy21 ?_
      obtain ⟨y22, hy22⟩ : ∃ z : Int32, y21.toInt8.toInt32 = z := ⟨_, rfl⟩
      refine own_i2b (pc' := 45) B X18 d2_44 rfl hy22 ?_
      refine own_bastore (pc' := 46) B X18 (x' := y22) V_b19 g_b19 ⟨by decide, by decide⟩ 2 (by decide) (Nat.le_of_ble_eq_true rfl) (own_idem_i2b hy22) d2_45 rfl ?_
      intro T23 h23 X23 W23 V_b19
      replace V_b19 : Arv Z h23 b19 k20 .byte (3 : Int32) [(.int p2), (.int p3), (.int y22)] (.int (0 : Int32)) := V_b19
      replace E_w0 := E_w0.wr W23
      replace V_w0 := V_w0.other W23 ne_w0_b19
      replace E_b19 := E_b19.wr W23
      replace K := K.wr W23 (Or.inr sz_b19)
      refine own_aloadN (pc' := 47) B X23 d2_46 rfl rfl rfl ?_
      exact own_retA B X23 (t := (.array .byte)) rfl rfl rfl d2_47 (by decide) (by decide) (Or.inr (Or.inr (Or.inr (Or.inl ⟨y21, y22, b19, k20, c1, c2, hy21, hy22, rfl, K, sz_b19, E_b19, V_b19⟩))))
  · refine own_icmpYes (pc' := 22) B X0 d2_13 (feq c1).2 (by decide) rfl ?_
    refine own_iloadN (pc' := 23) B X0 d2_22 rfl rfl ?_
    refine own_ifYes (pc' := 30) B X0 d2_23 ((if0 _ _).trans (feq (by decide : ¬ ((4 : Int32) = (0 : Int32)))).2) (by decide) rfl ?_
    refine own_aloadN (pc' := 31) B X0 d2_30 rfl rfl rfl ?_
    refine own_iloadN (pc' := 32) B X0 d2_31 rfl rfl ?_
    refine own_callS (pc' := 35) B X0 (own_w hw 13 rfl) (own_w hw 14 rfl) (own_w hw 15 rfl) (own_w hw 16 rfl) (by decide) [(.ref w0), (.int (4 : Int32))] [] (rm_62 l Z a0 hw [] w0 kw0 (p2) (p3) (p4) (p5) h0 n0 (Nat.le_trans Z0 K.1) E_w0 V_w0 g_w0) 0 (by decide) (by decide) rfl pd_3 rfl rfl (Nat.le_of_eq rfl) d2_32 rfl (k' := 1) (n' := 4) rfl rfl (by decide) (by decide) ?_
    intro T24 v24 h24 X24 q24
    have lt_w0 := E_w0.lt
    obtain ⟨b25, rfl, K24, z_b25, E_b25, V_b25⟩ := q24
    have ne_w0_b25 : w0 ≠ b25 := own_ne' lt_w0 z_b25
    have sz_b25 : h0.size ≤ b25 := Nat.le_trans K.1 z_b25
    have g_b25 : n0 ≤ b25 := Nat.le_trans Z0 sz_b25
    replace K := K.trans K24 all0
    replace E_w0 := E_w0.keep K24
    replace V_w0 := V_w0.keep K24 nin0
    show own_Go p e below (T24.setTop (mkF m 35 #[.val (.ref w0), .val (.int (4 : Int32)), .unset] [(.ref b25)])) _
    refine own_astoreN (pc' := 36) B X24 (Ls' := #[.val (.ref w0), .val (.int (4 : Int32)), .val (.ref b25)]) d2_35 rfl rfl rfl ?_
    refine own_aloadN (pc' := 37) B X24 d2_36 rfl rfl rfl ?_
    refine own_iloadN (pc' := 38) B X24 d2_37 rfl rfl ?_
    refine own_iconst (pc' := 39) B X24 (z := (1 : Int32)) d2_38 rfl rfl ?_
    refine own_isub (pc' := 40) B X24 (z := (3 : Int32)) d2_39 rfl (by decide) ?_
    refine own_dup2 (pc' := 41) B X24 d2_40 rfl rfl rfl ?_
    refine own_baload (pc' := 42) B X24 V_b25 (v := (.int p5)) ⟨by decide, by decide⟩ rfl d2_41 rfl ?_
    refine own_iconst (pc' := 43) B X24 (z := (1 : Int32)) d2_42 rfl rfl ?_
    obtain ⟨y26, hy26⟩ : ∃ z : Int32, p5 + (1 : Int32) = z := ⟨_, rfl⟩
    refine own_iadd (pc' := 44) B X24 d2_43 rfl hy26 ?_
    obtain ⟨y27, hy27⟩ : ∃ z : Int32, y26.toInt8.toInt32 = z := ⟨_, rfl⟩
    refine own_i2b (pc' := 45) B X24 d2_44 rfl hy27 ?_
    refine own_bastore (pc' := 46) B X24 (x' := y27) V_b25 g_b25 ⟨by decide, by decide⟩ 3 (by decide) (Nat.le_of_ble_eq_true rfl) (own_idem_i2b hy27) d2_45 rfl ?_
    intro T28 h28 X28 W28 V_b25
    replace V_b25 : Arv Z h28 b25 kw0 .byte (4 : Int32) [(.int p2), (.int p3), (.int p4), (.int y27)] (.int (0 : Int32)) := V_b25
    replace E_w0 := E_w0.wr W28
    replace V_w0 := V_w0.other W28 ne_w0_b25
    replace E_b25 := E_b25.wr W28
    replace K := K.wr W28 (Or.inr sz_b25)
    refine own_aloadN (pc' := 47) B X28 d2_46 rfl rfl rfl ?_
    exact own_retA B X28 (t := (.array .byte)) rfl rfl rfl d2_47 (by decide) (by decide) (Or.inr (Or.inr (Or.inr (Or.inr (⟨y26, y27, b25, c1, hy26, hy27, rfl, K, sz_b25, E_b25, V_b25⟩)))))
def Q_63 (Z : State) (w0 : Addr) (kw0 : ClassId) (p2 : Int32) (p3 : Int32) (p4 : Int32) (p5 : Int32) (w6 : Addr) (kw6 : ClassId) (w8 : Addr) (kw8 : ClassId) (p10 : Int32) (p11 : Int32) (p12 : Int32) (p13 : Int32) (p14 : Int32) (p15 : Int32) (p16 : Int32) (p17 : Int32) (h0 : Heap) (n0 : Nat) (v : Option Value) (h : Heap) : Prop :=
  (v = some (.int (1 : Int32)) ∧ h0 = h)
set_option maxRecDepth 65536 in
set_option maxHeartbeats 40000000 in
theorem rm_63 (l : Launch) (Z : State) (a0 : Array Value) (hw : ∀ d ∈ tables_1, d.before a0 Z = true) (ws : List Jvm.Cond) (w0 : Addr) (kw0 : ClassId) (p2 : Int32) (p3 : Int32) (p4 : Int32) (p5 : Int32) (w6 : Addr) (kw6 : ClassId) (w8 : Addr) (kw8 : ClassId) (p10 : Int32) (p11 : Int32) (p12 : Int32) (p13 : Int32) (p14 : Int32) (p15 : Int32) (p16 : Int32) (p17 : Int32) (h0 : Heap) (n0 : Nat) (Z0 : n0 ≤ h0.size) (E_w0 : Exa Z h0 w0 "[B") (V_w0 : Arv Z h0 w0 kw0 .byte (4 : Int32) [(.int p2), (.int p3), (.int p4), (.int p5)] (.int (0 : Int32))) (g_w0 : n0 ≤ w0) (E_w6 : Exa Z h0 w6 "[B") (V_w6 : Arv Z h0 w6 kw6 .byte (0 : Int32) [] (.int (0 : Int32))) (g_w6 : n0 ≤ w6) (E_w8 : Exa Z h0 w8 "[B") (V_w8 : Arv Z h0 w8 kw8 .byte (4 : Int32) [(.int p2), (.int p3), (.int p4), (.int p5)] (.int (0 : Int32))) (g_w8 : n0 ≤ w8) (ne_w0_w6 : w0 ≠ w6) (ne_w0_w8 : w0 ≠ w8) (ne_w6_w8 : w6 ≠ w8) (hp0 : p10.toInt8.toInt32 = p2) (hp1 : p11.toInt8.toInt32 = p3) (hp2 : p12.toInt8.toInt32 = p4) (hp3 : p13.toInt8.toInt32 = p5) (hp4 : own_F_pick p14 = p10) (hp5 : own_F_pick p15 = p11) (hp6 : own_F_pick p16 = p12) (hp7 : own_F_pick p17 = p13) (hp8 : p5 = (-1 : Int32)) (hp9 : p4 = (-1 : Int32)) (hp10 : p3 = (-1 : Int32)) (hp11 : p2 = (-1 : Int32)) :
    MetFree l (⟨"com/example/keyer/keyer/QuerySuccessorPinLaw", "ok", "([B[B[BIII)Z"⟩ : MethodName) (head1 (Jvm.Cond.code (⟨"com/example/keyer/keyer/QuerySuccessorPinLaw", "ok", "([B[B[BIII)Z"⟩ : MethodName) method_3_code 6 (some .boolean) :: ws) ({ frames := 0, cells := 0, slots := 0, locals := 0 } : Room)) (fun a U => a = #[(.ref w0), (.ref w6), (.ref w8), (.int (4 : Int32)), (.int (0 : Int32)), (.int (0 : Int32))] ∧ Z.Warmed39 U.vm ∧ U.heap = h0) (fun _ _ _ _ _ => True) (fun _ U o U' => ∃ v L, o = .returned v ∧ (Fr n0 L ∧ Q_63 Z w0 kw0 p2 p3 p4 p5 w6 kw6 w8 kw8 p10 p11 p12 p13 p14 p15 p16 p17 h0 n0 v U'.heap) ∧ FrameEnd U o U' L ({ frames := 0, cells := 0, slots := 0, locals := 0 } : Room).cells ({ frames := 0, cells := 0, slots := 0, locals := 0 } : Room).slots) := by
  refine own_enter (Q := Q_63 Z w0 kw0 p2 p3 p4 p5 w6 kw6 w8 kw8 p10 p11 p12 p13 p14 p15 p16 p17 h0 n0) (F := fun m => mkF m 0 #[.val (.ref w0), .val (.ref w6), .val (.ref w8), .val (.int (4 : Int32)), .val (.int (0 : Int32)), .val (.int (0 : Int32))] []) (plainFor_of_name pn_0) (fun m => by first | (simp [entryFrame, mkF, argsToLocals, Value.category]; done) | rfl) ?_
  intro p e s m below meth c s₁ B X0
  have K : Keep h0 h0 [] := Keep.refl h0 _
  refine own_iload (pc' := 2) B X0 d3_0 rfl rfl ?_
  refine own_iloadN (pc' := 3) B X0 d3_2 rfl rfl ?_
  refine own_icmpYes (pc' := 8) B X0 d3_3 (tlt (by decide : (0 : Int32) < (4 : Int32))).1 (by decide) rfl ?_
  refine own_aloadN (pc' := 9) B X0 d3_8 rfl rfl rfl ?_
  refine own_iload (pc' := 11) B X0 d3_9 rfl rfl ?_
  refine own_baload (pc' := 12) B X0 V_w0 (v := (.int p2)) ⟨by decide, by decide⟩ rfl d3_11 rfl ?_
  refine own_aloadN (pc' := 13) B X0 d3_12 rfl rfl rfl ?_
  refine own_iload (pc' := 15) B X0 d3_13 rfl rfl ?_
  refine own_baload (pc' := 16) B X0 V_w8 (v := (.int p2)) ⟨by decide, by decide⟩ rfl d3_15 rfl ?_
  refine own_icmpYes (pc' := 21) B X0 d3_16 (teq rfl).1 (by decide) rfl ?_
  refine own_iload (pc' := 23) B X0 d3_21 rfl rfl ?_
  refine own_iload (pc' := 25) B X0 d3_23 rfl rfl ?_
  refine own_icmpNo (pc' := 28) B X0 d3_25 (flt (by decide : ¬ ((0 : Int32) < (0 : Int32)))).1 rfl ?_
  refine own_aloadN (pc' := 29) B X0 d3_28 rfl rfl rfl ?_
  refine own_iload (pc' := 31) B X0 d3_29 rfl rfl ?_
  refine own_baload (pc' := 32) B X0 V_w0 (v := (.int p2)) ⟨by decide, by decide⟩ rfl d3_31 rfl ?_
  refine own_iconst (pc' := 33) B X0 (z := (-1 : Int32)) d3_32 rfl rfl ?_
  refine own_icmpNo (pc' := 36) B X0 d3_33 (teq hp11).2 rfl ?_
  refine own_iconst (pc' := 37) B X0 (z := (1 : Int32)) d3_36 rfl rfl ?_
  refine own_goto (pc' := 41) B X0 d3_37 (by decide) rfl ?_
  exact own_retN B X0 (t := .boolean) (z' := (1 : Int32)) (by simp) (by decide) d3_41 (by decide) (by decide) (⟨rfl, rfl⟩)
def Q_64 (Z : State) (w0 : Addr) (kw0 : ClassId) (p2 : Int32) (p3 : Int32) (p4 : Int32) (p5 : Int32) (w6 : Addr) (kw6 : ClassId) (w8 : Addr) (kw8 : ClassId) (p10 : Int32) (p11 : Int32) (p12 : Int32) (p13 : Int32) (p14 : Int32) (p15 : Int32) (p16 : Int32) (p17 : Int32) (h0 : Heap) (n0 : Nat) (v : Option Value) (h : Heap) : Prop :=
  (v = some (.int (1 : Int32)) ∧ h0 = h)
set_option maxRecDepth 65536 in
set_option maxHeartbeats 40000000 in
theorem rm_64 (l : Launch) (Z : State) (a0 : Array Value) (hw : ∀ d ∈ tables_1, d.before a0 Z = true) (ws : List Jvm.Cond) (w0 : Addr) (kw0 : ClassId) (p2 : Int32) (p3 : Int32) (p4 : Int32) (p5 : Int32) (w6 : Addr) (kw6 : ClassId) (w8 : Addr) (kw8 : ClassId) (p10 : Int32) (p11 : Int32) (p12 : Int32) (p13 : Int32) (p14 : Int32) (p15 : Int32) (p16 : Int32) (p17 : Int32) (h0 : Heap) (n0 : Nat) (Z0 : n0 ≤ h0.size) (E_w0 : Exa Z h0 w0 "[B") (V_w0 : Arv Z h0 w0 kw0 .byte (4 : Int32) [(.int p2), (.int p3), (.int p4), (.int p5)] (.int (0 : Int32))) (g_w0 : n0 ≤ w0) (E_w6 : Exa Z h0 w6 "[B") (V_w6 : Arv Z h0 w6 kw6 .byte (0 : Int32) [] (.int (0 : Int32))) (g_w6 : n0 ≤ w6) (E_w8 : Exa Z h0 w8 "[B") (V_w8 : Arv Z h0 w8 kw8 .byte (4 : Int32) [(.int p2), (.int p3), (.int p4), (.int p5)] (.int (0 : Int32))) (g_w8 : n0 ≤ w8) (ne_w0_w6 : w0 ≠ w6) (ne_w0_w8 : w0 ≠ w8) (ne_w6_w8 : w6 ≠ w8) (hp0 : p10.toInt8.toInt32 = p2) (hp1 : p11.toInt8.toInt32 = p3) (hp2 : p12.toInt8.toInt32 = p4) (hp3 : p13.toInt8.toInt32 = p5) (hp4 : own_F_pick p14 = p10) (hp5 : own_F_pick p15 = p11) (hp6 : own_F_pick p16 = p12) (hp7 : own_F_pick p17 = p13) (hp8 : p5 = (-1 : Int32)) (hp9 : p4 = (-1 : Int32)) (hp10 : p3 = (-1 : Int32)) (hp11 : p2 = (-1 : Int32)) :
    MetFree l (⟨"com/example/keyer/keyer/QuerySuccessorPinLaw", "ok", "([B[B[BIII)Z"⟩ : MethodName) (head1 (Jvm.Cond.code (⟨"com/example/keyer/keyer/QuerySuccessorPinLaw", "ok", "([B[B[BIII)Z"⟩ : MethodName) method_3_code 6 (some .boolean) :: ws) ({ frames := 0, cells := 0, slots := 0, locals := 0 } : Room)) (fun a U => a = #[(.ref w0), (.ref w6), (.ref w8), (.int (4 : Int32)), (.int (0 : Int32)), (.int (1 : Int32))] ∧ Z.Warmed39 U.vm ∧ U.heap = h0) (fun _ _ _ _ _ => True) (fun _ U o U' => ∃ v L, o = .returned v ∧ (Fr n0 L ∧ Q_64 Z w0 kw0 p2 p3 p4 p5 w6 kw6 w8 kw8 p10 p11 p12 p13 p14 p15 p16 p17 h0 n0 v U'.heap) ∧ FrameEnd U o U' L ({ frames := 0, cells := 0, slots := 0, locals := 0 } : Room).cells ({ frames := 0, cells := 0, slots := 0, locals := 0 } : Room).slots) := by
  refine own_enter (Q := Q_64 Z w0 kw0 p2 p3 p4 p5 w6 kw6 w8 kw8 p10 p11 p12 p13 p14 p15 p16 p17 h0 n0) (F := fun m => mkF m 0 #[.val (.ref w0), .val (.ref w6), .val (.ref w8), .val (.int (4 : Int32)), .val (.int (0 : Int32)), .val (.int (1 : Int32))] []) (plainFor_of_name pn_0) (fun m => by first | (simp [entryFrame, mkF, argsToLocals, Value.category]; done) | rfl) ?_
  intro p e s m below meth c s₁ B X0
  have K : Keep h0 h0 [] := Keep.refl h0 _
  refine own_iload (pc' := 2) B X0 d3_0 rfl rfl ?_
  refine own_iloadN (pc' := 3) B X0 d3_2 rfl rfl ?_
  refine own_icmpYes (pc' := 8) B X0 d3_3 (tlt (by decide : (1 : Int32) < (4 : Int32))).1 (by decide) rfl ?_
  refine own_aloadN (pc' := 9) B X0 d3_8 rfl rfl rfl ?_
  refine own_iload (pc' := 11) B X0 d3_9 rfl rfl ?_
  refine own_baload (pc' := 12) B X0 V_w0 (v := (.int p3)) ⟨by decide, by decide⟩ rfl d3_11 rfl ?_
  refine own_aloadN (pc' := 13) B X0 d3_12 rfl rfl rfl ?_
  refine own_iload (pc' := 15) B X0 d3_13 rfl rfl ?_
  refine own_baload (pc' := 16) B X0 V_w8 (v := (.int p3)) ⟨by decide, by decide⟩ rfl d3_15 rfl ?_
  refine own_icmpYes (pc' := 21) B X0 d3_16 (teq rfl).1 (by decide) rfl ?_
  refine own_iload (pc' := 23) B X0 d3_21 rfl rfl ?_
  refine own_iload (pc' := 25) B X0 d3_23 rfl rfl ?_
  refine own_icmpNo (pc' := 28) B X0 d3_25 (flt (by decide : ¬ ((1 : Int32) < (0 : Int32)))).1 rfl ?_
  refine own_aloadN (pc' := 29) B X0 d3_28 rfl rfl rfl ?_
  refine own_iload (pc' := 31) B X0 d3_29 rfl rfl ?_
  refine own_baload (pc' := 32) B X0 V_w0 (v := (.int p3)) ⟨by decide, by decide⟩ rfl d3_31 rfl ?_
  refine own_iconst (pc' := 33) B X0 (z := (-1 : Int32)) d3_32 rfl rfl ?_
  refine own_icmpNo (pc' := 36) B X0 d3_33 (teq hp10).2 rfl ?_
  refine own_iconst (pc' := 37) B X0 (z := (1 : Int32)) d3_36 rfl rfl ?_
  refine own_goto (pc' := 41) B X0 d3_37 (by decide) rfl ?_
  exact own_retN B X0 (t := .boolean) (z' := (1 : Int32)) (by simp) (by decide) d3_41 (by decide) (by decide) (⟨rfl, rfl⟩)
def Q_65 (Z : State) (w0 : Addr) (kw0 : ClassId) (p2 : Int32) (p3 : Int32) (p4 : Int32) (p5 : Int32) (w6 : Addr) (kw6 : ClassId) (w8 : Addr) (kw8 : ClassId) (p10 : Int32) (p11 : Int32) (p12 : Int32) (p13 : Int32) (p14 : Int32) (p15 : Int32) (p16 : Int32) (p17 : Int32) (h0 : Heap) (n0 : Nat) (v : Option Value) (h : Heap) : Prop :=
  (v = some (.int (1 : Int32)) ∧ h0 = h)
set_option maxRecDepth 65536 in
set_option maxHeartbeats 40000000 in
theorem rm_65 (l : Launch) (Z : State) (a0 : Array Value) (hw : ∀ d ∈ tables_1, d.before a0 Z = true) (ws : List Jvm.Cond) (w0 : Addr) (kw0 : ClassId) (p2 : Int32) (p3 : Int32) (p4 : Int32) (p5 : Int32) (w6 : Addr) (kw6 : ClassId) (w8 : Addr) (kw8 : ClassId) (p10 : Int32) (p11 : Int32) (p12 : Int32) (p13 : Int32) (p14 : Int32) (p15 : Int32) (p16 : Int32) (p17 : Int32) (h0 : Heap) (n0 : Nat) (Z0 : n0 ≤ h0.size) (E_w0 : Exa Z h0 w0 "[B") (V_w0 : Arv Z h0 w0 kw0 .byte (4 : Int32) [(.int p2), (.int p3), (.int p4), (.int p5)] (.int (0 : Int32))) (g_w0 : n0 ≤ w0) (E_w6 : Exa Z h0 w6 "[B") (V_w6 : Arv Z h0 w6 kw6 .byte (0 : Int32) [] (.int (0 : Int32))) (g_w6 : n0 ≤ w6) (E_w8 : Exa Z h0 w8 "[B") (V_w8 : Arv Z h0 w8 kw8 .byte (4 : Int32) [(.int p2), (.int p3), (.int p4), (.int p5)] (.int (0 : Int32))) (g_w8 : n0 ≤ w8) (ne_w0_w6 : w0 ≠ w6) (ne_w0_w8 : w0 ≠ w8) (ne_w6_w8 : w6 ≠ w8) (hp0 : p10.toInt8.toInt32 = p2) (hp1 : p11.toInt8.toInt32 = p3) (hp2 : p12.toInt8.toInt32 = p4) (hp3 : p13.toInt8.toInt32 = p5) (hp4 : own_F_pick p14 = p10) (hp5 : own_F_pick p15 = p11) (hp6 : own_F_pick p16 = p12) (hp7 : own_F_pick p17 = p13) (hp8 : p5 = (-1 : Int32)) (hp9 : p4 = (-1 : Int32)) (hp10 : p3 = (-1 : Int32)) (hp11 : p2 = (-1 : Int32)) :
    MetFree l (⟨"com/example/keyer/keyer/QuerySuccessorPinLaw", "ok", "([B[B[BIII)Z"⟩ : MethodName) (head1 (Jvm.Cond.code (⟨"com/example/keyer/keyer/QuerySuccessorPinLaw", "ok", "([B[B[BIII)Z"⟩ : MethodName) method_3_code 6 (some .boolean) :: ws) ({ frames := 0, cells := 0, slots := 0, locals := 0 } : Room)) (fun a U => a = #[(.ref w0), (.ref w6), (.ref w8), (.int (4 : Int32)), (.int (0 : Int32)), (.int (2 : Int32))] ∧ Z.Warmed39 U.vm ∧ U.heap = h0) (fun _ _ _ _ _ => True) (fun _ U o U' => ∃ v L, o = .returned v ∧ (Fr n0 L ∧ Q_65 Z w0 kw0 p2 p3 p4 p5 w6 kw6 w8 kw8 p10 p11 p12 p13 p14 p15 p16 p17 h0 n0 v U'.heap) ∧ FrameEnd U o U' L ({ frames := 0, cells := 0, slots := 0, locals := 0 } : Room).cells ({ frames := 0, cells := 0, slots := 0, locals := 0 } : Room).slots) := by
  refine own_enter (Q := Q_65 Z w0 kw0 p2 p3 p4 p5 w6 kw6 w8 kw8 p10 p11 p12 p13 p14 p15 p16 p17 h0 n0) (F := fun m => mkF m 0 #[.val (.ref w0), .val (.ref w6), .val (.ref w8), .val (.int (4 : Int32)), .val (.int (0 : Int32)), .val (.int (2 : Int32))] []) (plainFor_of_name pn_0) (fun m => by first | (simp [entryFrame, mkF, argsToLocals, Value.category]; done) | rfl) ?_
  intro p e s m below meth c s₁ B X0
  have K : Keep h0 h0 [] := Keep.refl h0 _
  refine own_iload (pc' := 2) B X0 d3_0 rfl rfl ?_
  refine own_iloadN (pc' := 3) B X0 d3_2 rfl rfl ?_
  refine own_icmpYes (pc' := 8) B X0 d3_3 (tlt (by decide : (2 : Int32) < (4 : Int32))).1 (by decide) rfl ?_
  refine own_aloadN (pc' := 9) B X0 d3_8 rfl rfl rfl ?_
  refine own_iload (pc' := 11) B X0 d3_9 rfl rfl ?_
  refine own_baload (pc' := 12) B X0 V_w0 (v := (.int p4)) ⟨by decide, by decide⟩ rfl d3_11 rfl ?_
  refine own_aloadN (pc' := 13) B X0 d3_12 rfl rfl rfl ?_
  refine own_iload (pc' := 15) B X0 d3_13 rfl rfl ?_
  refine own_baload (pc' := 16) B X0 V_w8 (v := (.int p4)) ⟨by decide, by decide⟩ rfl d3_15 rfl ?_
  refine own_icmpYes (pc' := 21) B X0 d3_16 (teq rfl).1 (by decide) rfl ?_
  refine own_iload (pc' := 23) B X0 d3_21 rfl rfl ?_
  refine own_iload (pc' := 25) B X0 d3_23 rfl rfl ?_
  refine own_icmpNo (pc' := 28) B X0 d3_25 (flt (by decide : ¬ ((2 : Int32) < (0 : Int32)))).1 rfl ?_
  refine own_aloadN (pc' := 29) B X0 d3_28 rfl rfl rfl ?_
  refine own_iload (pc' := 31) B X0 d3_29 rfl rfl ?_
  refine own_baload (pc' := 32) B X0 V_w0 (v := (.int p4)) ⟨by decide, by decide⟩ rfl d3_31 rfl ?_
  refine own_iconst (pc' := 33) B X0 (z := (-1 : Int32)) d3_32 rfl rfl ?_
  refine own_icmpNo (pc' := 36) B X0 d3_33 (teq hp9).2 rfl ?_
  refine own_iconst (pc' := 37) B X0 (z := (1 : Int32)) d3_36 rfl rfl ?_
  refine own_goto (pc' := 41) B X0 d3_37 (by decide) rfl ?_
  exact own_retN B X0 (t := .boolean) (z' := (1 : Int32)) (by simp) (by decide) d3_41 (by decide) (by decide) (⟨rfl, rfl⟩)
def Q_66 (Z : State) (w0 : Addr) (kw0 : ClassId) (p2 : Int32) (p3 : Int32) (p4 : Int32) (p5 : Int32) (w6 : Addr) (kw6 : ClassId) (w8 : Addr) (kw8 : ClassId) (p10 : Int32) (p11 : Int32) (p12 : Int32) (p13 : Int32) (p14 : Int32) (p15 : Int32) (p16 : Int32) (p17 : Int32) (h0 : Heap) (n0 : Nat) (v : Option Value) (h : Heap) : Prop :=
  (v = some (.int (1 : Int32)) ∧ h0 = h)
set_option maxRecDepth 65536 in
set_option maxHeartbeats 40000000 in
theorem rm_66 (l : Launch) (Z : State) (a0 : Array Value) (hw : ∀ d ∈ tables_1, d.before a0 Z = true) (ws : List Jvm.Cond) (w0 : Addr) (kw0 : ClassId) (p2 : Int32) (p3 : Int32) (p4 : Int32) (p5 : Int32) (w6 : Addr) (kw6 : ClassId) (w8 : Addr) (kw8 : ClassId) (p10 : Int32) (p11 : Int32) (p12 : Int32) (p13 : Int32) (p14 : Int32) (p15 : Int32) (p16 : Int32) (p17 : Int32) (h0 : Heap) (n0 : Nat) (Z0 : n0 ≤ h0.size) (E_w0 : Exa Z h0 w0 "[B") (V_w0 : Arv Z h0 w0 kw0 .byte (4 : Int32) [(.int p2), (.int p3), (.int p4), (.int p5)] (.int (0 : Int32))) (g_w0 : n0 ≤ w0) (E_w6 : Exa Z h0 w6 "[B") (V_w6 : Arv Z h0 w6 kw6 .byte (0 : Int32) [] (.int (0 : Int32))) (g_w6 : n0 ≤ w6) (E_w8 : Exa Z h0 w8 "[B") (V_w8 : Arv Z h0 w8 kw8 .byte (4 : Int32) [(.int p2), (.int p3), (.int p4), (.int p5)] (.int (0 : Int32))) (g_w8 : n0 ≤ w8) (ne_w0_w6 : w0 ≠ w6) (ne_w0_w8 : w0 ≠ w8) (ne_w6_w8 : w6 ≠ w8) (hp0 : p10.toInt8.toInt32 = p2) (hp1 : p11.toInt8.toInt32 = p3) (hp2 : p12.toInt8.toInt32 = p4) (hp3 : p13.toInt8.toInt32 = p5) (hp4 : own_F_pick p14 = p10) (hp5 : own_F_pick p15 = p11) (hp6 : own_F_pick p16 = p12) (hp7 : own_F_pick p17 = p13) (hp8 : p5 = (-1 : Int32)) (hp9 : p4 = (-1 : Int32)) (hp10 : p3 = (-1 : Int32)) (hp11 : p2 = (-1 : Int32)) :
    MetFree l (⟨"com/example/keyer/keyer/QuerySuccessorPinLaw", "ok", "([B[B[BIII)Z"⟩ : MethodName) (head1 (Jvm.Cond.code (⟨"com/example/keyer/keyer/QuerySuccessorPinLaw", "ok", "([B[B[BIII)Z"⟩ : MethodName) method_3_code 6 (some .boolean) :: ws) ({ frames := 0, cells := 0, slots := 0, locals := 0 } : Room)) (fun a U => a = #[(.ref w0), (.ref w6), (.ref w8), (.int (4 : Int32)), (.int (0 : Int32)), (.int (3 : Int32))] ∧ Z.Warmed39 U.vm ∧ U.heap = h0) (fun _ _ _ _ _ => True) (fun _ U o U' => ∃ v L, o = .returned v ∧ (Fr n0 L ∧ Q_66 Z w0 kw0 p2 p3 p4 p5 w6 kw6 w8 kw8 p10 p11 p12 p13 p14 p15 p16 p17 h0 n0 v U'.heap) ∧ FrameEnd U o U' L ({ frames := 0, cells := 0, slots := 0, locals := 0 } : Room).cells ({ frames := 0, cells := 0, slots := 0, locals := 0 } : Room).slots) := by
  refine own_enter (Q := Q_66 Z w0 kw0 p2 p3 p4 p5 w6 kw6 w8 kw8 p10 p11 p12 p13 p14 p15 p16 p17 h0 n0) (F := fun m => mkF m 0 #[.val (.ref w0), .val (.ref w6), .val (.ref w8), .val (.int (4 : Int32)), .val (.int (0 : Int32)), .val (.int (3 : Int32))] []) (plainFor_of_name pn_0) (fun m => by first | (simp [entryFrame, mkF, argsToLocals, Value.category]; done) | rfl) ?_
  intro p e s m below meth c s₁ B X0
  have K : Keep h0 h0 [] := Keep.refl h0 _
  refine own_iload (pc' := 2) B X0 d3_0 rfl rfl ?_
  refine own_iloadN (pc' := 3) B X0 d3_2 rfl rfl ?_
  refine own_icmpYes (pc' := 8) B X0 d3_3 (tlt (by decide : (3 : Int32) < (4 : Int32))).1 (by decide) rfl ?_
  refine own_aloadN (pc' := 9) B X0 d3_8 rfl rfl rfl ?_
  refine own_iload (pc' := 11) B X0 d3_9 rfl rfl ?_
  refine own_baload (pc' := 12) B X0 V_w0 (v := (.int p5)) ⟨by decide, by decide⟩ rfl d3_11 rfl ?_
  refine own_aloadN (pc' := 13) B X0 d3_12 rfl rfl rfl ?_
  refine own_iload (pc' := 15) B X0 d3_13 rfl rfl ?_
  refine own_baload (pc' := 16) B X0 V_w8 (v := (.int p5)) ⟨by decide, by decide⟩ rfl d3_15 rfl ?_
  refine own_icmpYes (pc' := 21) B X0 d3_16 (teq rfl).1 (by decide) rfl ?_
  refine own_iload (pc' := 23) B X0 d3_21 rfl rfl ?_
  refine own_iload (pc' := 25) B X0 d3_23 rfl rfl ?_
  refine own_icmpNo (pc' := 28) B X0 d3_25 (flt (by decide : ¬ ((3 : Int32) < (0 : Int32)))).1 rfl ?_
  refine own_aloadN (pc' := 29) B X0 d3_28 rfl rfl rfl ?_
  refine own_iload (pc' := 31) B X0 d3_29 rfl rfl ?_
  refine own_baload (pc' := 32) B X0 V_w0 (v := (.int p5)) ⟨by decide, by decide⟩ rfl d3_31 rfl ?_
  refine own_iconst (pc' := 33) B X0 (z := (-1 : Int32)) d3_32 rfl rfl ?_
  refine own_icmpNo (pc' := 36) B X0 d3_33 (teq hp8).2 rfl ?_
  refine own_iconst (pc' := 37) B X0 (z := (1 : Int32)) d3_36 rfl rfl ?_
  refine own_goto (pc' := 41) B X0 d3_37 (by decide) rfl ?_
  exact own_retN B X0 (t := .boolean) (z' := (1 : Int32)) (by simp) (by decide) d3_41 (by decide) (by decide) (⟨rfl, rfl⟩)
def Q_67 (Z : State) (w0 : Addr) (kw0 : ClassId) (p2 : Int32) (p3 : Int32) (p4 : Int32) (p5 : Int32) (w6 : Addr) (kw6 : ClassId) (p8 : Int32) (w9 : Addr) (kw9 : ClassId) (p11 : Int32) (p12 : Int32) (p13 : Int32) (p14 : Int32) (p15 : Int32) (p16 : Int32) (p17 : Int32) (p18 : Int32) (p19 : Int32) (h0 : Heap) (n0 : Nat) (v : Option Value) (h : Heap) : Prop :=
  (v = some (.int (1 : Int32)) ∧ h0 = h)
set_option maxRecDepth 65536 in
set_option maxHeartbeats 40000000 in
theorem rm_67 (l : Launch) (Z : State) (a0 : Array Value) (hw : ∀ d ∈ tables_1, d.before a0 Z = true) (ws : List Jvm.Cond) (w0 : Addr) (kw0 : ClassId) (p2 : Int32) (p3 : Int32) (p4 : Int32) (p5 : Int32) (w6 : Addr) (kw6 : ClassId) (p8 : Int32) (w9 : Addr) (kw9 : ClassId) (p11 : Int32) (p12 : Int32) (p13 : Int32) (p14 : Int32) (p15 : Int32) (p16 : Int32) (p17 : Int32) (p18 : Int32) (p19 : Int32) (h0 : Heap) (n0 : Nat) (Z0 : n0 ≤ h0.size) (E_w0 : Exa Z h0 w0 "[B") (V_w0 : Arv Z h0 w0 kw0 .byte (4 : Int32) [(.int p2), (.int p3), (.int p4), (.int p5)] (.int (0 : Int32))) (g_w0 : n0 ≤ w0) (E_w6 : Exa Z h0 w6 "[B") (V_w6 : Arv Z h0 w6 kw6 .byte (1 : Int32) [(.int p8)] (.int (0 : Int32))) (g_w6 : n0 ≤ w6) (E_w9 : Exa Z h0 w9 "[B") (V_w9 : Arv Z h0 w9 kw9 .byte (4 : Int32) [(.int p2), (.int p3), (.int p4), (.int p5)] (.int (0 : Int32))) (g_w9 : n0 ≤ w9) (ne_w0_w6 : w0 ≠ w6) (ne_w0_w9 : w0 ≠ w9) (ne_w6_w9 : w6 ≠ w9) (hp0 : p11.toInt8.toInt32 = p2) (hp1 : p12.toInt8.toInt32 = p3) (hp2 : p13.toInt8.toInt32 = p4) (hp3 : p14.toInt8.toInt32 = p5) (hp4 : p15.toInt8.toInt32 = p8) (hp5 : own_F_pick p16 = p11) (hp6 : own_F_pick p17 = p12) (hp7 : own_F_pick p18 = p13) (hp8 : own_F_pick p19 = p14) (hp9 : p2 + (1 : Int32) = p15) (hp10 : p5 = (-1 : Int32)) (hp11 : p4 = (-1 : Int32)) (hp12 : p3 = (-1 : Int32)) (hp13 : ¬ (p2 = (-1 : Int32))) :
    MetFree l (⟨"com/example/keyer/keyer/QuerySuccessorPinLaw", "ok", "([B[B[BIII)Z"⟩ : MethodName) (head1 (Jvm.Cond.code (⟨"com/example/keyer/keyer/QuerySuccessorPinLaw", "ok", "([B[B[BIII)Z"⟩ : MethodName) method_3_code 6 (some .boolean) :: ws) ({ frames := 0, cells := 0, slots := 0, locals := 0 } : Room)) (fun a U => a = #[(.ref w0), (.ref w6), (.ref w9), (.int (4 : Int32)), (.int (1 : Int32)), (.int (0 : Int32))] ∧ Z.Warmed39 U.vm ∧ U.heap = h0) (fun _ _ _ _ _ => True) (fun _ U o U' => ∃ v L, o = .returned v ∧ (Fr n0 L ∧ Q_67 Z w0 kw0 p2 p3 p4 p5 w6 kw6 p8 w9 kw9 p11 p12 p13 p14 p15 p16 p17 p18 p19 h0 n0 v U'.heap) ∧ FrameEnd U o U' L ({ frames := 0, cells := 0, slots := 0, locals := 0 } : Room).cells ({ frames := 0, cells := 0, slots := 0, locals := 0 } : Room).slots) := by
  refine own_enter (Q := Q_67 Z w0 kw0 p2 p3 p4 p5 w6 kw6 p8 w9 kw9 p11 p12 p13 p14 p15 p16 p17 p18 p19 h0 n0) (F := fun m => mkF m 0 #[.val (.ref w0), .val (.ref w6), .val (.ref w9), .val (.int (4 : Int32)), .val (.int (1 : Int32)), .val (.int (0 : Int32))] []) (plainFor_of_name pn_0) (fun m => by first | (simp [entryFrame, mkF, argsToLocals, Value.category]; done) | rfl) ?_
  intro p e s m below meth c s₁ B X0
  have K : Keep h0 h0 [] := Keep.refl h0 _
  refine own_iload (pc' := 2) B X0 d3_0 rfl rfl ?_
  refine own_iloadN (pc' := 3) B X0 d3_2 rfl rfl ?_
  refine own_icmpYes (pc' := 8) B X0 d3_3 (tlt (by decide : (0 : Int32) < (4 : Int32))).1 (by decide) rfl ?_
  refine own_aloadN (pc' := 9) B X0 d3_8 rfl rfl rfl ?_
  refine own_iload (pc' := 11) B X0 d3_9 rfl rfl ?_
  refine own_baload (pc' := 12) B X0 V_w0 (v := (.int p2)) ⟨by decide, by decide⟩ rfl d3_11 rfl ?_
  refine own_aloadN (pc' := 13) B X0 d3_12 rfl rfl rfl ?_
  refine own_iload (pc' := 15) B X0 d3_13 rfl rfl ?_
  refine own_baload (pc' := 16) B X0 V_w9 (v := (.int p2)) ⟨by decide, by decide⟩ rfl d3_15 rfl ?_
  refine own_icmpYes (pc' := 21) B X0 d3_16 (teq rfl).1 (by decide) rfl ?_
  refine own_iload (pc' := 23) B X0 d3_21 rfl rfl ?_
  refine own_iload (pc' := 25) B X0 d3_23 rfl rfl ?_
  refine own_icmpYes (pc' := 42) B X0 d3_25 (tlt (by decide : (0 : Int32) < (1 : Int32))).1 (by decide) rfl ?_
  refine own_iload (pc' := 44) B X0 d3_42 rfl rfl ?_
  refine own_iload (pc' := 46) B X0 d3_44 rfl rfl ?_
  refine own_iconst (pc' := 47) B X0 (z := (1 : Int32)) d3_46 rfl rfl ?_
  refine own_isub (pc' := 48) B X0 (z := (0 : Int32)) d3_47 rfl (by decide) ?_
  refine own_icmpYes (pc' := 68) B X0 d3_48 (flt (by decide : ¬ ((0 : Int32) < (0 : Int32)))).2.1 (by decide) rfl ?_
  refine own_aloadN (pc' := 69) B X0 d3_68 rfl rfl rfl ?_
  refine own_iload (pc' := 71) B X0 d3_69 rfl rfl ?_
  refine own_baload (pc' := 72) B X0 V_w0 (v := (.int p2)) ⟨by decide, by decide⟩ rfl d3_71 rfl ?_
  refine own_iconst (pc' := 73) B X0 (z := (-1 : Int32)) d3_72 rfl rfl ?_
  refine own_icmpNo (pc' := 76) B X0 d3_73 (feq hp13).1 rfl ?_
  refine own_aloadN (pc' := 77) B X0 d3_76 rfl rfl rfl ?_
  refine own_iload (pc' := 79) B X0 d3_77 rfl rfl ?_
  refine own_baload (pc' := 80) B X0 V_w6 (v := (.int p8)) ⟨by decide, by decide⟩ rfl d3_79 rfl ?_
  refine own_aloadN (pc' := 81) B X0 d3_80 rfl rfl rfl ?_
  refine own_iload (pc' := 83) B X0 d3_81 rfl rfl ?_
  refine own_baload (pc' := 84) B X0 V_w0 (v := (.int p2)) ⟨by decide, by decide⟩ rfl d3_83 rfl ?_
  refine own_iconst (pc' := 85) B X0 (z := (1 : Int32)) d3_84 rfl rfl ?_
  refine own_iadd (pc' := 86) B X0 d3_85 rfl hp9 ?_
  refine own_i2b (pc' := 87) B X0 d3_86 rfl hp4 ?_
  refine own_icmpNo (pc' := 90) B X0 d3_87 (teq rfl).2 rfl ?_
  refine own_iconst (pc' := 91) B X0 (z := (1 : Int32)) d3_90 rfl rfl ?_
  refine own_goto (pc' := 95) B X0 d3_91 (by decide) rfl ?_
  exact own_retN B X0 (t := .boolean) (z' := (1 : Int32)) (by simp) (by decide) d3_95 (by decide) (by decide) (⟨rfl, rfl⟩)
def Q_68 (Z : State) (w0 : Addr) (kw0 : ClassId) (p2 : Int32) (p3 : Int32) (p4 : Int32) (p5 : Int32) (w6 : Addr) (kw6 : ClassId) (p8 : Int32) (w9 : Addr) (kw9 : ClassId) (p11 : Int32) (p12 : Int32) (p13 : Int32) (p14 : Int32) (p15 : Int32) (p16 : Int32) (p17 : Int32) (p18 : Int32) (p19 : Int32) (h0 : Heap) (n0 : Nat) (v : Option Value) (h : Heap) : Prop :=
  (v = some (.int (1 : Int32)) ∧ h0 = h)
set_option maxRecDepth 65536 in
set_option maxHeartbeats 40000000 in
theorem rm_68 (l : Launch) (Z : State) (a0 : Array Value) (hw : ∀ d ∈ tables_1, d.before a0 Z = true) (ws : List Jvm.Cond) (w0 : Addr) (kw0 : ClassId) (p2 : Int32) (p3 : Int32) (p4 : Int32) (p5 : Int32) (w6 : Addr) (kw6 : ClassId) (p8 : Int32) (w9 : Addr) (kw9 : ClassId) (p11 : Int32) (p12 : Int32) (p13 : Int32) (p14 : Int32) (p15 : Int32) (p16 : Int32) (p17 : Int32) (p18 : Int32) (p19 : Int32) (h0 : Heap) (n0 : Nat) (Z0 : n0 ≤ h0.size) (E_w0 : Exa Z h0 w0 "[B") (V_w0 : Arv Z h0 w0 kw0 .byte (4 : Int32) [(.int p2), (.int p3), (.int p4), (.int p5)] (.int (0 : Int32))) (g_w0 : n0 ≤ w0) (E_w6 : Exa Z h0 w6 "[B") (V_w6 : Arv Z h0 w6 kw6 .byte (1 : Int32) [(.int p8)] (.int (0 : Int32))) (g_w6 : n0 ≤ w6) (E_w9 : Exa Z h0 w9 "[B") (V_w9 : Arv Z h0 w9 kw9 .byte (4 : Int32) [(.int p2), (.int p3), (.int p4), (.int p5)] (.int (0 : Int32))) (g_w9 : n0 ≤ w9) (ne_w0_w6 : w0 ≠ w6) (ne_w0_w9 : w0 ≠ w9) (ne_w6_w9 : w6 ≠ w9) (hp0 : p11.toInt8.toInt32 = p2) (hp1 : p12.toInt8.toInt32 = p3) (hp2 : p13.toInt8.toInt32 = p4) (hp3 : p14.toInt8.toInt32 = p5) (hp4 : p15.toInt8.toInt32 = p8) (hp5 : own_F_pick p16 = p11) (hp6 : own_F_pick p17 = p12) (hp7 : own_F_pick p18 = p13) (hp8 : own_F_pick p19 = p14) (hp9 : p2 + (1 : Int32) = p15) (hp10 : p5 = (-1 : Int32)) (hp11 : p4 = (-1 : Int32)) (hp12 : p3 = (-1 : Int32)) (hp13 : ¬ (p2 = (-1 : Int32))) :
    MetFree l (⟨"com/example/keyer/keyer/QuerySuccessorPinLaw", "ok", "([B[B[BIII)Z"⟩ : MethodName) (head1 (Jvm.Cond.code (⟨"com/example/keyer/keyer/QuerySuccessorPinLaw", "ok", "([B[B[BIII)Z"⟩ : MethodName) method_3_code 6 (some .boolean) :: ws) ({ frames := 0, cells := 0, slots := 0, locals := 0 } : Room)) (fun a U => a = #[(.ref w0), (.ref w6), (.ref w9), (.int (4 : Int32)), (.int (1 : Int32)), (.int (1 : Int32))] ∧ Z.Warmed39 U.vm ∧ U.heap = h0) (fun _ _ _ _ _ => True) (fun _ U o U' => ∃ v L, o = .returned v ∧ (Fr n0 L ∧ Q_68 Z w0 kw0 p2 p3 p4 p5 w6 kw6 p8 w9 kw9 p11 p12 p13 p14 p15 p16 p17 p18 p19 h0 n0 v U'.heap) ∧ FrameEnd U o U' L ({ frames := 0, cells := 0, slots := 0, locals := 0 } : Room).cells ({ frames := 0, cells := 0, slots := 0, locals := 0 } : Room).slots) := by
  refine own_enter (Q := Q_68 Z w0 kw0 p2 p3 p4 p5 w6 kw6 p8 w9 kw9 p11 p12 p13 p14 p15 p16 p17 p18 p19 h0 n0) (F := fun m => mkF m 0 #[.val (.ref w0), .val (.ref w6), .val (.ref w9), .val (.int (4 : Int32)), .val (.int (1 : Int32)), .val (.int (1 : Int32))] []) (plainFor_of_name pn_0) (fun m => by first | (simp [entryFrame, mkF, argsToLocals, Value.category]; done) | rfl) ?_
  intro p e s m below meth c s₁ B X0
  have K : Keep h0 h0 [] := Keep.refl h0 _
  refine own_iload (pc' := 2) B X0 d3_0 rfl rfl ?_
  refine own_iloadN (pc' := 3) B X0 d3_2 rfl rfl ?_
  refine own_icmpYes (pc' := 8) B X0 d3_3 (tlt (by decide : (1 : Int32) < (4 : Int32))).1 (by decide) rfl ?_
  refine own_aloadN (pc' := 9) B X0 d3_8 rfl rfl rfl ?_
  refine own_iload (pc' := 11) B X0 d3_9 rfl rfl ?_
  refine own_baload (pc' := 12) B X0 V_w0 (v := (.int p3)) ⟨by decide, by decide⟩ rfl d3_11 rfl ?_
  refine own_aloadN (pc' := 13) B X0 d3_12 rfl rfl rfl ?_
  refine own_iload (pc' := 15) B X0 d3_13 rfl rfl ?_
  refine own_baload (pc' := 16) B X0 V_w9 (v := (.int p3)) ⟨by decide, by decide⟩ rfl d3_15 rfl ?_
  refine own_icmpYes (pc' := 21) B X0 d3_16 (teq rfl).1 (by decide) rfl ?_
  refine own_iload (pc' := 23) B X0 d3_21 rfl rfl ?_
  refine own_iload (pc' := 25) B X0 d3_23 rfl rfl ?_
  refine own_icmpNo (pc' := 28) B X0 d3_25 (flt (by decide : ¬ ((1 : Int32) < (1 : Int32)))).1 rfl ?_
  refine own_aloadN (pc' := 29) B X0 d3_28 rfl rfl rfl ?_
  refine own_iload (pc' := 31) B X0 d3_29 rfl rfl ?_
  refine own_baload (pc' := 32) B X0 V_w0 (v := (.int p3)) ⟨by decide, by decide⟩ rfl d3_31 rfl ?_
  refine own_iconst (pc' := 33) B X0 (z := (-1 : Int32)) d3_32 rfl rfl ?_
  refine own_icmpNo (pc' := 36) B X0 d3_33 (teq hp12).2 rfl ?_
  refine own_iconst (pc' := 37) B X0 (z := (1 : Int32)) d3_36 rfl rfl ?_
  refine own_goto (pc' := 41) B X0 d3_37 (by decide) rfl ?_
  exact own_retN B X0 (t := .boolean) (z' := (1 : Int32)) (by simp) (by decide) d3_41 (by decide) (by decide) (⟨rfl, rfl⟩)
def Q_69 (Z : State) (w0 : Addr) (kw0 : ClassId) (p2 : Int32) (p3 : Int32) (p4 : Int32) (p5 : Int32) (w6 : Addr) (kw6 : ClassId) (p8 : Int32) (w9 : Addr) (kw9 : ClassId) (p11 : Int32) (p12 : Int32) (p13 : Int32) (p14 : Int32) (p15 : Int32) (p16 : Int32) (p17 : Int32) (p18 : Int32) (p19 : Int32) (h0 : Heap) (n0 : Nat) (v : Option Value) (h : Heap) : Prop :=
  (v = some (.int (1 : Int32)) ∧ h0 = h)
set_option maxRecDepth 65536 in
set_option maxHeartbeats 40000000 in
theorem rm_69 (l : Launch) (Z : State) (a0 : Array Value) (hw : ∀ d ∈ tables_1, d.before a0 Z = true) (ws : List Jvm.Cond) (w0 : Addr) (kw0 : ClassId) (p2 : Int32) (p3 : Int32) (p4 : Int32) (p5 : Int32) (w6 : Addr) (kw6 : ClassId) (p8 : Int32) (w9 : Addr) (kw9 : ClassId) (p11 : Int32) (p12 : Int32) (p13 : Int32) (p14 : Int32) (p15 : Int32) (p16 : Int32) (p17 : Int32) (p18 : Int32) (p19 : Int32) (h0 : Heap) (n0 : Nat) (Z0 : n0 ≤ h0.size) (E_w0 : Exa Z h0 w0 "[B") (V_w0 : Arv Z h0 w0 kw0 .byte (4 : Int32) [(.int p2), (.int p3), (.int p4), (.int p5)] (.int (0 : Int32))) (g_w0 : n0 ≤ w0) (E_w6 : Exa Z h0 w6 "[B") (V_w6 : Arv Z h0 w6 kw6 .byte (1 : Int32) [(.int p8)] (.int (0 : Int32))) (g_w6 : n0 ≤ w6) (E_w9 : Exa Z h0 w9 "[B") (V_w9 : Arv Z h0 w9 kw9 .byte (4 : Int32) [(.int p2), (.int p3), (.int p4), (.int p5)] (.int (0 : Int32))) (g_w9 : n0 ≤ w9) (ne_w0_w6 : w0 ≠ w6) (ne_w0_w9 : w0 ≠ w9) (ne_w6_w9 : w6 ≠ w9) (hp0 : p11.toInt8.toInt32 = p2) (hp1 : p12.toInt8.toInt32 = p3) (hp2 : p13.toInt8.toInt32 = p4) (hp3 : p14.toInt8.toInt32 = p5) (hp4 : p15.toInt8.toInt32 = p8) (hp5 : own_F_pick p16 = p11) (hp6 : own_F_pick p17 = p12) (hp7 : own_F_pick p18 = p13) (hp8 : own_F_pick p19 = p14) (hp9 : p2 + (1 : Int32) = p15) (hp10 : p5 = (-1 : Int32)) (hp11 : p4 = (-1 : Int32)) (hp12 : p3 = (-1 : Int32)) (hp13 : ¬ (p2 = (-1 : Int32))) :
    MetFree l (⟨"com/example/keyer/keyer/QuerySuccessorPinLaw", "ok", "([B[B[BIII)Z"⟩ : MethodName) (head1 (Jvm.Cond.code (⟨"com/example/keyer/keyer/QuerySuccessorPinLaw", "ok", "([B[B[BIII)Z"⟩ : MethodName) method_3_code 6 (some .boolean) :: ws) ({ frames := 0, cells := 0, slots := 0, locals := 0 } : Room)) (fun a U => a = #[(.ref w0), (.ref w6), (.ref w9), (.int (4 : Int32)), (.int (1 : Int32)), (.int (2 : Int32))] ∧ Z.Warmed39 U.vm ∧ U.heap = h0) (fun _ _ _ _ _ => True) (fun _ U o U' => ∃ v L, o = .returned v ∧ (Fr n0 L ∧ Q_69 Z w0 kw0 p2 p3 p4 p5 w6 kw6 p8 w9 kw9 p11 p12 p13 p14 p15 p16 p17 p18 p19 h0 n0 v U'.heap) ∧ FrameEnd U o U' L ({ frames := 0, cells := 0, slots := 0, locals := 0 } : Room).cells ({ frames := 0, cells := 0, slots := 0, locals := 0 } : Room).slots) := by
  refine own_enter (Q := Q_69 Z w0 kw0 p2 p3 p4 p5 w6 kw6 p8 w9 kw9 p11 p12 p13 p14 p15 p16 p17 p18 p19 h0 n0) (F := fun m => mkF m 0 #[.val (.ref w0), .val (.ref w6), .val (.ref w9), .val (.int (4 : Int32)), .val (.int (1 : Int32)), .val (.int (2 : Int32))] []) (plainFor_of_name pn_0) (fun m => by first | (simp [entryFrame, mkF, argsToLocals, Value.category]; done) | rfl) ?_
  intro p e s m below meth c s₁ B X0
  have K : Keep h0 h0 [] := Keep.refl h0 _
  refine own_iload (pc' := 2) B X0 d3_0 rfl rfl ?_
  refine own_iloadN (pc' := 3) B X0 d3_2 rfl rfl ?_
  refine own_icmpYes (pc' := 8) B X0 d3_3 (tlt (by decide : (2 : Int32) < (4 : Int32))).1 (by decide) rfl ?_
  refine own_aloadN (pc' := 9) B X0 d3_8 rfl rfl rfl ?_
  refine own_iload (pc' := 11) B X0 d3_9 rfl rfl ?_
  refine own_baload (pc' := 12) B X0 V_w0 (v := (.int p4)) ⟨by decide, by decide⟩ rfl d3_11 rfl ?_
  refine own_aloadN (pc' := 13) B X0 d3_12 rfl rfl rfl ?_
  refine own_iload (pc' := 15) B X0 d3_13 rfl rfl ?_
  refine own_baload (pc' := 16) B X0 V_w9 (v := (.int p4)) ⟨by decide, by decide⟩ rfl d3_15 rfl ?_
  refine own_icmpYes (pc' := 21) B X0 d3_16 (teq rfl).1 (by decide) rfl ?_
  refine own_iload (pc' := 23) B X0 d3_21 rfl rfl ?_
  refine own_iload (pc' := 25) B X0 d3_23 rfl rfl ?_
  refine own_icmpNo (pc' := 28) B X0 d3_25 (flt (by decide : ¬ ((2 : Int32) < (1 : Int32)))).1 rfl ?_
  refine own_aloadN (pc' := 29) B X0 d3_28 rfl rfl rfl ?_
  refine own_iload (pc' := 31) B X0 d3_29 rfl rfl ?_
  refine own_baload (pc' := 32) B X0 V_w0 (v := (.int p4)) ⟨by decide, by decide⟩ rfl d3_31 rfl ?_
  refine own_iconst (pc' := 33) B X0 (z := (-1 : Int32)) d3_32 rfl rfl ?_
  refine own_icmpNo (pc' := 36) B X0 d3_33 (teq hp11).2 rfl ?_
  refine own_iconst (pc' := 37) B X0 (z := (1 : Int32)) d3_36 rfl rfl ?_
  refine own_goto (pc' := 41) B X0 d3_37 (by decide) rfl ?_
  exact own_retN B X0 (t := .boolean) (z' := (1 : Int32)) (by simp) (by decide) d3_41 (by decide) (by decide) (⟨rfl, rfl⟩)
def Q_70 (Z : State) (w0 : Addr) (kw0 : ClassId) (p2 : Int32) (p3 : Int32) (p4 : Int32) (p5 : Int32) (w6 : Addr) (kw6 : ClassId) (p8 : Int32) (w9 : Addr) (kw9 : ClassId) (p11 : Int32) (p12 : Int32) (p13 : Int32) (p14 : Int32) (p15 : Int32) (p16 : Int32) (p17 : Int32) (p18 : Int32) (p19 : Int32) (h0 : Heap) (n0 : Nat) (v : Option Value) (h : Heap) : Prop :=
  (v = some (.int (1 : Int32)) ∧ h0 = h)
set_option maxRecDepth 65536 in
set_option maxHeartbeats 40000000 in
theorem rm_70 (l : Launch) (Z : State) (a0 : Array Value) (hw : ∀ d ∈ tables_1, d.before a0 Z = true) (ws : List Jvm.Cond) (w0 : Addr) (kw0 : ClassId) (p2 : Int32) (p3 : Int32) (p4 : Int32) (p5 : Int32) (w6 : Addr) (kw6 : ClassId) (p8 : Int32) (w9 : Addr) (kw9 : ClassId) (p11 : Int32) (p12 : Int32) (p13 : Int32) (p14 : Int32) (p15 : Int32) (p16 : Int32) (p17 : Int32) (p18 : Int32) (p19 : Int32) (h0 : Heap) (n0 : Nat) (Z0 : n0 ≤ h0.size) (E_w0 : Exa Z h0 w0 "[B") (V_w0 : Arv Z h0 w0 kw0 .byte (4 : Int32) [(.int p2), (.int p3), (.int p4), (.int p5)] (.int (0 : Int32))) (g_w0 : n0 ≤ w0) (E_w6 : Exa Z h0 w6 "[B") (V_w6 : Arv Z h0 w6 kw6 .byte (1 : Int32) [(.int p8)] (.int (0 : Int32))) (g_w6 : n0 ≤ w6) (E_w9 : Exa Z h0 w9 "[B") (V_w9 : Arv Z h0 w9 kw9 .byte (4 : Int32) [(.int p2), (.int p3), (.int p4), (.int p5)] (.int (0 : Int32))) (g_w9 : n0 ≤ w9) (ne_w0_w6 : w0 ≠ w6) (ne_w0_w9 : w0 ≠ w9) (ne_w6_w9 : w6 ≠ w9) (hp0 : p11.toInt8.toInt32 = p2) (hp1 : p12.toInt8.toInt32 = p3) (hp2 : p13.toInt8.toInt32 = p4) (hp3 : p14.toInt8.toInt32 = p5) (hp4 : p15.toInt8.toInt32 = p8) (hp5 : own_F_pick p16 = p11) (hp6 : own_F_pick p17 = p12) (hp7 : own_F_pick p18 = p13) (hp8 : own_F_pick p19 = p14) (hp9 : p2 + (1 : Int32) = p15) (hp10 : p5 = (-1 : Int32)) (hp11 : p4 = (-1 : Int32)) (hp12 : p3 = (-1 : Int32)) (hp13 : ¬ (p2 = (-1 : Int32))) :
    MetFree l (⟨"com/example/keyer/keyer/QuerySuccessorPinLaw", "ok", "([B[B[BIII)Z"⟩ : MethodName) (head1 (Jvm.Cond.code (⟨"com/example/keyer/keyer/QuerySuccessorPinLaw", "ok", "([B[B[BIII)Z"⟩ : MethodName) method_3_code 6 (some .boolean) :: ws) ({ frames := 0, cells := 0, slots := 0, locals := 0 } : Room)) (fun a U => a = #[(.ref w0), (.ref w6), (.ref w9), (.int (4 : Int32)), (.int (1 : Int32)), (.int (3 : Int32))] ∧ Z.Warmed39 U.vm ∧ U.heap = h0) (fun _ _ _ _ _ => True) (fun _ U o U' => ∃ v L, o = .returned v ∧ (Fr n0 L ∧ Q_70 Z w0 kw0 p2 p3 p4 p5 w6 kw6 p8 w9 kw9 p11 p12 p13 p14 p15 p16 p17 p18 p19 h0 n0 v U'.heap) ∧ FrameEnd U o U' L ({ frames := 0, cells := 0, slots := 0, locals := 0 } : Room).cells ({ frames := 0, cells := 0, slots := 0, locals := 0 } : Room).slots) := by
  refine own_enter (Q := Q_70 Z w0 kw0 p2 p3 p4 p5 w6 kw6 p8 w9 kw9 p11 p12 p13 p14 p15 p16 p17 p18 p19 h0 n0) (F := fun m => mkF m 0 #[.val (.ref w0), .val (.ref w6), .val (.ref w9), .val (.int (4 : Int32)), .val (.int (1 : Int32)), .val (.int (3 : Int32))] []) (plainFor_of_name pn_0) (fun m => by first | (simp [entryFrame, mkF, argsToLocals, Value.category]; done) | rfl) ?_
  intro p e s m below meth c s₁ B X0
  have K : Keep h0 h0 [] := Keep.refl h0 _
  refine own_iload (pc' := 2) B X0 d3_0 rfl rfl ?_
  refine own_iloadN (pc' := 3) B X0 d3_2 rfl rfl ?_
  refine own_icmpYes (pc' := 8) B X0 d3_3 (tlt (by decide : (3 : Int32) < (4 : Int32))).1 (by decide) rfl ?_
  refine own_aloadN (pc' := 9) B X0 d3_8 rfl rfl rfl ?_
  refine own_iload (pc' := 11) B X0 d3_9 rfl rfl ?_
  refine own_baload (pc' := 12) B X0 V_w0 (v := (.int p5)) ⟨by decide, by decide⟩ rfl d3_11 rfl ?_
  refine own_aloadN (pc' := 13) B X0 d3_12 rfl rfl rfl ?_
  refine own_iload (pc' := 15) B X0 d3_13 rfl rfl ?_
  refine own_baload (pc' := 16) B X0 V_w9 (v := (.int p5)) ⟨by decide, by decide⟩ rfl d3_15 rfl ?_
  refine own_icmpYes (pc' := 21) B X0 d3_16 (teq rfl).1 (by decide) rfl ?_
  refine own_iload (pc' := 23) B X0 d3_21 rfl rfl ?_
  refine own_iload (pc' := 25) B X0 d3_23 rfl rfl ?_
  refine own_icmpNo (pc' := 28) B X0 d3_25 (flt (by decide : ¬ ((3 : Int32) < (1 : Int32)))).1 rfl ?_
  refine own_aloadN (pc' := 29) B X0 d3_28 rfl rfl rfl ?_
  refine own_iload (pc' := 31) B X0 d3_29 rfl rfl ?_
  refine own_baload (pc' := 32) B X0 V_w0 (v := (.int p5)) ⟨by decide, by decide⟩ rfl d3_31 rfl ?_
  refine own_iconst (pc' := 33) B X0 (z := (-1 : Int32)) d3_32 rfl rfl ?_
  refine own_icmpNo (pc' := 36) B X0 d3_33 (teq hp10).2 rfl ?_
  refine own_iconst (pc' := 37) B X0 (z := (1 : Int32)) d3_36 rfl rfl ?_
  refine own_goto (pc' := 41) B X0 d3_37 (by decide) rfl ?_
  exact own_retN B X0 (t := .boolean) (z' := (1 : Int32)) (by simp) (by decide) d3_41 (by decide) (by decide) (⟨rfl, rfl⟩)
def Q_71 (Z : State) (w0 : Addr) (kw0 : ClassId) (p2 : Int32) (p3 : Int32) (p4 : Int32) (p5 : Int32) (w6 : Addr) (kw6 : ClassId) (p8 : Int32) (w9 : Addr) (kw9 : ClassId) (p11 : Int32) (p12 : Int32) (p13 : Int32) (p14 : Int32) (p15 : Int32) (p16 : Int32) (p17 : Int32) (p18 : Int32) (p19 : Int32) (h0 : Heap) (n0 : Nat) (v : Option Value) (h : Heap) : Prop :=
  (v = some (.int (1 : Int32)) ∧ h0 = h)
set_option maxRecDepth 65536 in
set_option maxHeartbeats 40000000 in
theorem rm_71 (l : Launch) (Z : State) (a0 : Array Value) (hw : ∀ d ∈ tables_1, d.before a0 Z = true) (ws : List Jvm.Cond) (w0 : Addr) (kw0 : ClassId) (p2 : Int32) (p3 : Int32) (p4 : Int32) (p5 : Int32) (w6 : Addr) (kw6 : ClassId) (p8 : Int32) (w9 : Addr) (kw9 : ClassId) (p11 : Int32) (p12 : Int32) (p13 : Int32) (p14 : Int32) (p15 : Int32) (p16 : Int32) (p17 : Int32) (p18 : Int32) (p19 : Int32) (h0 : Heap) (n0 : Nat) (Z0 : n0 ≤ h0.size) (E_w0 : Exa Z h0 w0 "[B") (V_w0 : Arv Z h0 w0 kw0 .byte (4 : Int32) [(.int p2), (.int p3), (.int p4), (.int p5)] (.int (0 : Int32))) (g_w0 : n0 ≤ w0) (E_w6 : Exa Z h0 w6 "[B") (V_w6 : Arv Z h0 w6 kw6 .byte (2 : Int32) [(.int p2), (.int p8)] (.int (0 : Int32))) (g_w6 : n0 ≤ w6) (E_w9 : Exa Z h0 w9 "[B") (V_w9 : Arv Z h0 w9 kw9 .byte (4 : Int32) [(.int p2), (.int p3), (.int p4), (.int p5)] (.int (0 : Int32))) (g_w9 : n0 ≤ w9) (ne_w0_w6 : w0 ≠ w6) (ne_w0_w9 : w0 ≠ w9) (ne_w6_w9 : w6 ≠ w9) (hp0 : p11.toInt8.toInt32 = p2) (hp1 : p12.toInt8.toInt32 = p3) (hp2 : p13.toInt8.toInt32 = p4) (hp3 : p14.toInt8.toInt32 = p5) (hp4 : p15.toInt8.toInt32 = p8) (hp5 : own_F_pick p16 = p11) (hp6 : own_F_pick p17 = p12) (hp7 : own_F_pick p18 = p13) (hp8 : own_F_pick p19 = p14) (hp9 : p3 + (1 : Int32) = p15) (hp10 : p5 = (-1 : Int32)) (hp11 : p4 = (-1 : Int32)) (hp12 : ¬ (p3 = (-1 : Int32))) :
    MetFree l (⟨"com/example/keyer/keyer/QuerySuccessorPinLaw", "ok", "([B[B[BIII)Z"⟩ : MethodName) (head1 (Jvm.Cond.code (⟨"com/example/keyer/keyer/QuerySuccessorPinLaw", "ok", "([B[B[BIII)Z"⟩ : MethodName) method_3_code 6 (some .boolean) :: ws) ({ frames := 0, cells := 0, slots := 0, locals := 0 } : Room)) (fun a U => a = #[(.ref w0), (.ref w6), (.ref w9), (.int (4 : Int32)), (.int (2 : Int32)), (.int (0 : Int32))] ∧ Z.Warmed39 U.vm ∧ U.heap = h0) (fun _ _ _ _ _ => True) (fun _ U o U' => ∃ v L, o = .returned v ∧ (Fr n0 L ∧ Q_71 Z w0 kw0 p2 p3 p4 p5 w6 kw6 p8 w9 kw9 p11 p12 p13 p14 p15 p16 p17 p18 p19 h0 n0 v U'.heap) ∧ FrameEnd U o U' L ({ frames := 0, cells := 0, slots := 0, locals := 0 } : Room).cells ({ frames := 0, cells := 0, slots := 0, locals := 0 } : Room).slots) := by
  refine own_enter (Q := Q_71 Z w0 kw0 p2 p3 p4 p5 w6 kw6 p8 w9 kw9 p11 p12 p13 p14 p15 p16 p17 p18 p19 h0 n0) (F := fun m => mkF m 0 #[.val (.ref w0), .val (.ref w6), .val (.ref w9), .val (.int (4 : Int32)), .val (.int (2 : Int32)), .val (.int (0 : Int32))] []) (plainFor_of_name pn_0) (fun m => by first | (simp [entryFrame, mkF, argsToLocals, Value.category]; done) | rfl) ?_
  intro p e s m below meth c s₁ B X0
  have K : Keep h0 h0 [] := Keep.refl h0 _
  refine own_iload (pc' := 2) B X0 d3_0 rfl rfl ?_
  refine own_iloadN (pc' := 3) B X0 d3_2 rfl rfl ?_
  refine own_icmpYes (pc' := 8) B X0 d3_3 (tlt (by decide : (0 : Int32) < (4 : Int32))).1 (by decide) rfl ?_
  refine own_aloadN (pc' := 9) B X0 d3_8 rfl rfl rfl ?_
  refine own_iload (pc' := 11) B X0 d3_9 rfl rfl ?_
  refine own_baload (pc' := 12) B X0 V_w0 (v := (.int p2)) ⟨by decide, by decide⟩ rfl d3_11 rfl ?_
  refine own_aloadN (pc' := 13) B X0 d3_12 rfl rfl rfl ?_
  refine own_iload (pc' := 15) B X0 d3_13 rfl rfl ?_
  refine own_baload (pc' := 16) B X0 V_w9 (v := (.int p2)) ⟨by decide, by decide⟩ rfl d3_15 rfl ?_
  refine own_icmpYes (pc' := 21) B X0 d3_16 (teq rfl).1 (by decide) rfl ?_
  refine own_iload (pc' := 23) B X0 d3_21 rfl rfl ?_
  refine own_iload (pc' := 25) B X0 d3_23 rfl rfl ?_
  refine own_icmpYes (pc' := 42) B X0 d3_25 (tlt (by decide : (0 : Int32) < (2 : Int32))).1 (by decide) rfl ?_
  refine own_iload (pc' := 44) B X0 d3_42 rfl rfl ?_
  refine own_iload (pc' := 46) B X0 d3_44 rfl rfl ?_
  refine own_iconst (pc' := 47) B X0 (z := (1 : Int32)) d3_46 rfl rfl ?_
  refine own_isub (pc' := 48) B X0 (z := (1 : Int32)) d3_47 rfl (by decide) ?_
  refine own_icmpNo (pc' := 51) B X0 d3_48 (tlt (by decide : (0 : Int32) < (1 : Int32))).2.1 rfl ?_
  refine own_aloadN (pc' := 52) B X0 d3_51 rfl rfl rfl ?_
  refine own_iload (pc' := 54) B X0 d3_52 rfl rfl ?_
  refine own_baload (pc' := 55) B X0 V_w6 (v := (.int p2)) ⟨by decide, by decide⟩ rfl d3_54 rfl ?_
  refine own_aloadN (pc' := 56) B X0 d3_55 rfl rfl rfl ?_
  refine own_iload (pc' := 58) B X0 d3_56 rfl rfl ?_
  refine own_baload (pc' := 59) B X0 V_w0 (v := (.int p2)) ⟨by decide, by decide⟩ rfl d3_58 rfl ?_
  refine own_icmpNo (pc' := 62) B X0 d3_59 (teq rfl).2 rfl ?_
  refine own_iconst (pc' := 63) B X0 (z := (1 : Int32)) d3_62 rfl rfl ?_
  refine own_goto (pc' := 67) B X0 d3_63 (by decide) rfl ?_
  exact own_retN B X0 (t := .boolean) (z' := (1 : Int32)) (by simp) (by decide) d3_67 (by decide) (by decide) (⟨rfl, rfl⟩)
def Q_72 (Z : State) (w0 : Addr) (kw0 : ClassId) (p2 : Int32) (p3 : Int32) (p4 : Int32) (p5 : Int32) (w6 : Addr) (kw6 : ClassId) (p8 : Int32) (w9 : Addr) (kw9 : ClassId) (p11 : Int32) (p12 : Int32) (p13 : Int32) (p14 : Int32) (p15 : Int32) (p16 : Int32) (p17 : Int32) (p18 : Int32) (p19 : Int32) (h0 : Heap) (n0 : Nat) (v : Option Value) (h : Heap) : Prop :=
  (v = some (.int (1 : Int32)) ∧ h0 = h)
set_option maxRecDepth 65536 in
set_option maxHeartbeats 40000000 in
theorem rm_72 (l : Launch) (Z : State) (a0 : Array Value) (hw : ∀ d ∈ tables_1, d.before a0 Z = true) (ws : List Jvm.Cond) (w0 : Addr) (kw0 : ClassId) (p2 : Int32) (p3 : Int32) (p4 : Int32) (p5 : Int32) (w6 : Addr) (kw6 : ClassId) (p8 : Int32) (w9 : Addr) (kw9 : ClassId) (p11 : Int32) (p12 : Int32) (p13 : Int32) (p14 : Int32) (p15 : Int32) (p16 : Int32) (p17 : Int32) (p18 : Int32) (p19 : Int32) (h0 : Heap) (n0 : Nat) (Z0 : n0 ≤ h0.size) (E_w0 : Exa Z h0 w0 "[B") (V_w0 : Arv Z h0 w0 kw0 .byte (4 : Int32) [(.int p2), (.int p3), (.int p4), (.int p5)] (.int (0 : Int32))) (g_w0 : n0 ≤ w0) (E_w6 : Exa Z h0 w6 "[B") (V_w6 : Arv Z h0 w6 kw6 .byte (2 : Int32) [(.int p2), (.int p8)] (.int (0 : Int32))) (g_w6 : n0 ≤ w6) (E_w9 : Exa Z h0 w9 "[B") (V_w9 : Arv Z h0 w9 kw9 .byte (4 : Int32) [(.int p2), (.int p3), (.int p4), (.int p5)] (.int (0 : Int32))) (g_w9 : n0 ≤ w9) (ne_w0_w6 : w0 ≠ w6) (ne_w0_w9 : w0 ≠ w9) (ne_w6_w9 : w6 ≠ w9) (hp0 : p11.toInt8.toInt32 = p2) (hp1 : p12.toInt8.toInt32 = p3) (hp2 : p13.toInt8.toInt32 = p4) (hp3 : p14.toInt8.toInt32 = p5) (hp4 : p15.toInt8.toInt32 = p8) (hp5 : own_F_pick p16 = p11) (hp6 : own_F_pick p17 = p12) (hp7 : own_F_pick p18 = p13) (hp8 : own_F_pick p19 = p14) (hp9 : p3 + (1 : Int32) = p15) (hp10 : p5 = (-1 : Int32)) (hp11 : p4 = (-1 : Int32)) (hp12 : ¬ (p3 = (-1 : Int32))) :
    MetFree l (⟨"com/example/keyer/keyer/QuerySuccessorPinLaw", "ok", "([B[B[BIII)Z"⟩ : MethodName) (head1 (Jvm.Cond.code (⟨"com/example/keyer/keyer/QuerySuccessorPinLaw", "ok", "([B[B[BIII)Z"⟩ : MethodName) method_3_code 6 (some .boolean) :: ws) ({ frames := 0, cells := 0, slots := 0, locals := 0 } : Room)) (fun a U => a = #[(.ref w0), (.ref w6), (.ref w9), (.int (4 : Int32)), (.int (2 : Int32)), (.int (1 : Int32))] ∧ Z.Warmed39 U.vm ∧ U.heap = h0) (fun _ _ _ _ _ => True) (fun _ U o U' => ∃ v L, o = .returned v ∧ (Fr n0 L ∧ Q_72 Z w0 kw0 p2 p3 p4 p5 w6 kw6 p8 w9 kw9 p11 p12 p13 p14 p15 p16 p17 p18 p19 h0 n0 v U'.heap) ∧ FrameEnd U o U' L ({ frames := 0, cells := 0, slots := 0, locals := 0 } : Room).cells ({ frames := 0, cells := 0, slots := 0, locals := 0 } : Room).slots) := by
  refine own_enter (Q := Q_72 Z w0 kw0 p2 p3 p4 p5 w6 kw6 p8 w9 kw9 p11 p12 p13 p14 p15 p16 p17 p18 p19 h0 n0) (F := fun m => mkF m 0 #[.val (.ref w0), .val (.ref w6), .val (.ref w9), .val (.int (4 : Int32)), .val (.int (2 : Int32)), .val (.int (1 : Int32))] []) (plainFor_of_name pn_0) (fun m => by first | (simp [entryFrame, mkF, argsToLocals, Value.category]; done) | rfl) ?_
  intro p e s m below meth c s₁ B X0
  have K : Keep h0 h0 [] := Keep.refl h0 _
  refine own_iload (pc' := 2) B X0 d3_0 rfl rfl ?_
  refine own_iloadN (pc' := 3) B X0 d3_2 rfl rfl ?_
  refine own_icmpYes (pc' := 8) B X0 d3_3 (tlt (by decide : (1 : Int32) < (4 : Int32))).1 (by decide) rfl ?_
  refine own_aloadN (pc' := 9) B X0 d3_8 rfl rfl rfl ?_
  refine own_iload (pc' := 11) B X0 d3_9 rfl rfl ?_
  refine own_baload (pc' := 12) B X0 V_w0 (v := (.int p3)) ⟨by decide, by decide⟩ rfl d3_11 rfl ?_
  refine own_aloadN (pc' := 13) B X0 d3_12 rfl rfl rfl ?_
  refine own_iload (pc' := 15) B X0 d3_13 rfl rfl ?_
  refine own_baload (pc' := 16) B X0 V_w9 (v := (.int p3)) ⟨by decide, by decide⟩ rfl d3_15 rfl ?_
  refine own_icmpYes (pc' := 21) B X0 d3_16 (teq rfl).1 (by decide) rfl ?_
  refine own_iload (pc' := 23) B X0 d3_21 rfl rfl ?_
  refine own_iload (pc' := 25) B X0 d3_23 rfl rfl ?_
  refine own_icmpYes (pc' := 42) B X0 d3_25 (tlt (by decide : (1 : Int32) < (2 : Int32))).1 (by decide) rfl ?_
  refine own_iload (pc' := 44) B X0 d3_42 rfl rfl ?_
  refine own_iload (pc' := 46) B X0 d3_44 rfl rfl ?_
  refine own_iconst (pc' := 47) B X0 (z := (1 : Int32)) d3_46 rfl rfl ?_
  refine own_isub (pc' := 48) B X0 (z := (1 : Int32)) d3_47 rfl (by decide) ?_
  refine own_icmpYes (pc' := 68) B X0 d3_48 (flt (by decide : ¬ ((1 : Int32) < (1 : Int32)))).2.1 (by decide) rfl ?_
  refine own_aloadN (pc' := 69) B X0 d3_68 rfl rfl rfl ?_
  refine own_iload (pc' := 71) B X0 d3_69 rfl rfl ?_
  refine own_baload (pc' := 72) B X0 V_w0 (v := (.int p3)) ⟨by decide, by decide⟩ rfl d3_71 rfl ?_
  refine own_iconst (pc' := 73) B X0 (z := (-1 : Int32)) d3_72 rfl rfl ?_
  refine own_icmpNo (pc' := 76) B X0 d3_73 (feq hp12).1 rfl ?_
  refine own_aloadN (pc' := 77) B X0 d3_76 rfl rfl rfl ?_
  refine own_iload (pc' := 79) B X0 d3_77 rfl rfl ?_
  refine own_baload (pc' := 80) B X0 V_w6 (v := (.int p8)) ⟨by decide, by decide⟩ rfl d3_79 rfl ?_
  refine own_aloadN (pc' := 81) B X0 d3_80 rfl rfl rfl ?_
  refine own_iload (pc' := 83) B X0 d3_81 rfl rfl ?_
  refine own_baload (pc' := 84) B X0 V_w0 (v := (.int p3)) ⟨by decide, by decide⟩ rfl d3_83 rfl ?_
  refine own_iconst (pc' := 85) B X0 (z := (1 : Int32)) d3_84 rfl rfl ?_
  refine own_iadd (pc' := 86) B X0 d3_85 rfl hp9 ?_
  refine own_i2b (pc' := 87) B X0 d3_86 rfl hp4 ?_
  refine own_icmpNo (pc' := 90) B X0 d3_87 (teq rfl).2 rfl ?_
  refine own_iconst (pc' := 91) B X0 (z := (1 : Int32)) d3_90 rfl rfl ?_
  refine own_goto (pc' := 95) B X0 d3_91 (by decide) rfl ?_
  exact own_retN B X0 (t := .boolean) (z' := (1 : Int32)) (by simp) (by decide) d3_95 (by decide) (by decide) (⟨rfl, rfl⟩)
def Q_73 (Z : State) (w0 : Addr) (kw0 : ClassId) (p2 : Int32) (p3 : Int32) (p4 : Int32) (p5 : Int32) (w6 : Addr) (kw6 : ClassId) (p8 : Int32) (w9 : Addr) (kw9 : ClassId) (p11 : Int32) (p12 : Int32) (p13 : Int32) (p14 : Int32) (p15 : Int32) (p16 : Int32) (p17 : Int32) (p18 : Int32) (p19 : Int32) (h0 : Heap) (n0 : Nat) (v : Option Value) (h : Heap) : Prop :=
  (v = some (.int (1 : Int32)) ∧ h0 = h)
set_option maxRecDepth 65536 in
set_option maxHeartbeats 40000000 in
theorem rm_73 (l : Launch) (Z : State) (a0 : Array Value) (hw : ∀ d ∈ tables_1, d.before a0 Z = true) (ws : List Jvm.Cond) (w0 : Addr) (kw0 : ClassId) (p2 : Int32) (p3 : Int32) (p4 : Int32) (p5 : Int32) (w6 : Addr) (kw6 : ClassId) (p8 : Int32) (w9 : Addr) (kw9 : ClassId) (p11 : Int32) (p12 : Int32) (p13 : Int32) (p14 : Int32) (p15 : Int32) (p16 : Int32) (p17 : Int32) (p18 : Int32) (p19 : Int32) (h0 : Heap) (n0 : Nat) (Z0 : n0 ≤ h0.size) (E_w0 : Exa Z h0 w0 "[B") (V_w0 : Arv Z h0 w0 kw0 .byte (4 : Int32) [(.int p2), (.int p3), (.int p4), (.int p5)] (.int (0 : Int32))) (g_w0 : n0 ≤ w0) (E_w6 : Exa Z h0 w6 "[B") (V_w6 : Arv Z h0 w6 kw6 .byte (2 : Int32) [(.int p2), (.int p8)] (.int (0 : Int32))) (g_w6 : n0 ≤ w6) (E_w9 : Exa Z h0 w9 "[B") (V_w9 : Arv Z h0 w9 kw9 .byte (4 : Int32) [(.int p2), (.int p3), (.int p4), (.int p5)] (.int (0 : Int32))) (g_w9 : n0 ≤ w9) (ne_w0_w6 : w0 ≠ w6) (ne_w0_w9 : w0 ≠ w9) (ne_w6_w9 : w6 ≠ w9) (hp0 : p11.toInt8.toInt32 = p2) (hp1 : p12.toInt8.toInt32 = p3) (hp2 : p13.toInt8.toInt32 = p4) (hp3 : p14.toInt8.toInt32 = p5) (hp4 : p15.toInt8.toInt32 = p8) (hp5 : own_F_pick p16 = p11) (hp6 : own_F_pick p17 = p12) (hp7 : own_F_pick p18 = p13) (hp8 : own_F_pick p19 = p14) (hp9 : p3 + (1 : Int32) = p15) (hp10 : p5 = (-1 : Int32)) (hp11 : p4 = (-1 : Int32)) (hp12 : ¬ (p3 = (-1 : Int32))) :
    MetFree l (⟨"com/example/keyer/keyer/QuerySuccessorPinLaw", "ok", "([B[B[BIII)Z"⟩ : MethodName) (head1 (Jvm.Cond.code (⟨"com/example/keyer/keyer/QuerySuccessorPinLaw", "ok", "([B[B[BIII)Z"⟩ : MethodName) method_3_code 6 (some .boolean) :: ws) ({ frames := 0, cells := 0, slots := 0, locals := 0 } : Room)) (fun a U => a = #[(.ref w0), (.ref w6), (.ref w9), (.int (4 : Int32)), (.int (2 : Int32)), (.int (2 : Int32))] ∧ Z.Warmed39 U.vm ∧ U.heap = h0) (fun _ _ _ _ _ => True) (fun _ U o U' => ∃ v L, o = .returned v ∧ (Fr n0 L ∧ Q_73 Z w0 kw0 p2 p3 p4 p5 w6 kw6 p8 w9 kw9 p11 p12 p13 p14 p15 p16 p17 p18 p19 h0 n0 v U'.heap) ∧ FrameEnd U o U' L ({ frames := 0, cells := 0, slots := 0, locals := 0 } : Room).cells ({ frames := 0, cells := 0, slots := 0, locals := 0 } : Room).slots) := by
  refine own_enter (Q := Q_73 Z w0 kw0 p2 p3 p4 p5 w6 kw6 p8 w9 kw9 p11 p12 p13 p14 p15 p16 p17 p18 p19 h0 n0) (F := fun m => mkF m 0 #[.val (.ref w0), .val (.ref w6), .val (.ref w9), .val (.int (4 : Int32)), .val (.int (2 : Int32)), .val (.int (2 : Int32))] []) (plainFor_of_name pn_0) (fun m => by first | (simp [entryFrame, mkF, argsToLocals, Value.category]; done) | rfl) ?_
  intro p e s m below meth c s₁ B X0
  have K : Keep h0 h0 [] := Keep.refl h0 _
  refine own_iload (pc' := 2) B X0 d3_0 rfl rfl ?_
  refine own_iloadN (pc' := 3) B X0 d3_2 rfl rfl ?_
  refine own_icmpYes (pc' := 8) B X0 d3_3 (tlt (by decide : (2 : Int32) < (4 : Int32))).1 (by decide) rfl ?_
  refine own_aloadN (pc' := 9) B X0 d3_8 rfl rfl rfl ?_
  refine own_iload (pc' := 11) B X0 d3_9 rfl rfl ?_
  refine own_baload (pc' := 12) B X0 V_w0 (v := (.int p4)) ⟨by decide, by decide⟩ rfl d3_11 rfl ?_
  refine own_aloadN (pc' := 13) B X0 d3_12 rfl rfl rfl ?_
  refine own_iload (pc' := 15) B X0 d3_13 rfl rfl ?_
  refine own_baload (pc' := 16) B X0 V_w9 (v := (.int p4)) ⟨by decide, by decide⟩ rfl d3_15 rfl ?_
  refine own_icmpYes (pc' := 21) B X0 d3_16 (teq rfl).1 (by decide) rfl ?_
  refine own_iload (pc' := 23) B X0 d3_21 rfl rfl ?_
  refine own_iload (pc' := 25) B X0 d3_23 rfl rfl ?_
  refine own_icmpNo (pc' := 28) B X0 d3_25 (flt (by decide : ¬ ((2 : Int32) < (2 : Int32)))).1 rfl ?_
  refine own_aloadN (pc' := 29) B X0 d3_28 rfl rfl rfl ?_
  refine own_iload (pc' := 31) B X0 d3_29 rfl rfl ?_
  refine own_baload (pc' := 32) B X0 V_w0 (v := (.int p4)) ⟨by decide, by decide⟩ rfl d3_31 rfl ?_
  refine own_iconst (pc' := 33) B X0 (z := (-1 : Int32)) d3_32 rfl rfl ?_
  refine own_icmpNo (pc' := 36) B X0 d3_33 (teq hp11).2 rfl ?_
  refine own_iconst (pc' := 37) B X0 (z := (1 : Int32)) d3_36 rfl rfl ?_
  refine own_goto (pc' := 41) B X0 d3_37 (by decide) rfl ?_
  exact own_retN B X0 (t := .boolean) (z' := (1 : Int32)) (by simp) (by decide) d3_41 (by decide) (by decide) (⟨rfl, rfl⟩)
def Q_74 (Z : State) (w0 : Addr) (kw0 : ClassId) (p2 : Int32) (p3 : Int32) (p4 : Int32) (p5 : Int32) (w6 : Addr) (kw6 : ClassId) (p8 : Int32) (w9 : Addr) (kw9 : ClassId) (p11 : Int32) (p12 : Int32) (p13 : Int32) (p14 : Int32) (p15 : Int32) (p16 : Int32) (p17 : Int32) (p18 : Int32) (p19 : Int32) (h0 : Heap) (n0 : Nat) (v : Option Value) (h : Heap) : Prop :=
  (v = some (.int (1 : Int32)) ∧ h0 = h)
set_option maxRecDepth 65536 in
set_option maxHeartbeats 40000000 in
theorem rm_74 (l : Launch) (Z : State) (a0 : Array Value) (hw : ∀ d ∈ tables_1, d.before a0 Z = true) (ws : List Jvm.Cond) (w0 : Addr) (kw0 : ClassId) (p2 : Int32) (p3 : Int32) (p4 : Int32) (p5 : Int32) (w6 : Addr) (kw6 : ClassId) (p8 : Int32) (w9 : Addr) (kw9 : ClassId) (p11 : Int32) (p12 : Int32) (p13 : Int32) (p14 : Int32) (p15 : Int32) (p16 : Int32) (p17 : Int32) (p18 : Int32) (p19 : Int32) (h0 : Heap) (n0 : Nat) (Z0 : n0 ≤ h0.size) (E_w0 : Exa Z h0 w0 "[B") (V_w0 : Arv Z h0 w0 kw0 .byte (4 : Int32) [(.int p2), (.int p3), (.int p4), (.int p5)] (.int (0 : Int32))) (g_w0 : n0 ≤ w0) (E_w6 : Exa Z h0 w6 "[B") (V_w6 : Arv Z h0 w6 kw6 .byte (2 : Int32) [(.int p2), (.int p8)] (.int (0 : Int32))) (g_w6 : n0 ≤ w6) (E_w9 : Exa Z h0 w9 "[B") (V_w9 : Arv Z h0 w9 kw9 .byte (4 : Int32) [(.int p2), (.int p3), (.int p4), (.int p5)] (.int (0 : Int32))) (g_w9 : n0 ≤ w9) (ne_w0_w6 : w0 ≠ w6) (ne_w0_w9 : w0 ≠ w9) (ne_w6_w9 : w6 ≠ w9) (hp0 : p11.toInt8.toInt32 = p2) (hp1 : p12.toInt8.toInt32 = p3) (hp2 : p13.toInt8.toInt32 = p4) (hp3 : p14.toInt8.toInt32 = p5) (hp4 : p15.toInt8.toInt32 = p8) (hp5 : own_F_pick p16 = p11) (hp6 : own_F_pick p17 = p12) (hp7 : own_F_pick p18 = p13) (hp8 : own_F_pick p19 = p14) (hp9 : p3 + (1 : Int32) = p15) (hp10 : p5 = (-1 : Int32)) (hp11 : p4 = (-1 : Int32)) (hp12 : ¬ (p3 = (-1 : Int32))) :
    MetFree l (⟨"com/example/keyer/keyer/QuerySuccessorPinLaw", "ok", "([B[B[BIII)Z"⟩ : MethodName) (head1 (Jvm.Cond.code (⟨"com/example/keyer/keyer/QuerySuccessorPinLaw", "ok", "([B[B[BIII)Z"⟩ : MethodName) method_3_code 6 (some .boolean) :: ws) ({ frames := 0, cells := 0, slots := 0, locals := 0 } : Room)) (fun a U => a = #[(.ref w0), (.ref w6), (.ref w9), (.int (4 : Int32)), (.int (2 : Int32)), (.int (3 : Int32))] ∧ Z.Warmed39 U.vm ∧ U.heap = h0) (fun _ _ _ _ _ => True) (fun _ U o U' => ∃ v L, o = .returned v ∧ (Fr n0 L ∧ Q_74 Z w0 kw0 p2 p3 p4 p5 w6 kw6 p8 w9 kw9 p11 p12 p13 p14 p15 p16 p17 p18 p19 h0 n0 v U'.heap) ∧ FrameEnd U o U' L ({ frames := 0, cells := 0, slots := 0, locals := 0 } : Room).cells ({ frames := 0, cells := 0, slots := 0, locals := 0 } : Room).slots) := by
  refine own_enter (Q := Q_74 Z w0 kw0 p2 p3 p4 p5 w6 kw6 p8 w9 kw9 p11 p12 p13 p14 p15 p16 p17 p18 p19 h0 n0) (F := fun m => mkF m 0 #[.val (.ref w0), .val (.ref w6), .val (.ref w9), .val (.int (4 : Int32)), .val (.int (2 : Int32)), .val (.int (3 : Int32))] []) (plainFor_of_name pn_0) (fun m => by first | (simp [entryFrame, mkF, argsToLocals, Value.category]; done) | rfl) ?_
  intro p e s m below meth c s₁ B X0
  have K : Keep h0 h0 [] := Keep.refl h0 _
  refine own_iload (pc' := 2) B X0 d3_0 rfl rfl ?_
  refine own_iloadN (pc' := 3) B X0 d3_2 rfl rfl ?_
  refine own_icmpYes (pc' := 8) B X0 d3_3 (tlt (by decide : (3 : Int32) < (4 : Int32))).1 (by decide) rfl ?_
  refine own_aloadN (pc' := 9) B X0 d3_8 rfl rfl rfl ?_
  refine own_iload (pc' := 11) B X0 d3_9 rfl rfl ?_
  refine own_baload (pc' := 12) B X0 V_w0 (v := (.int p5)) ⟨by decide, by decide⟩ rfl d3_11 rfl ?_
  refine own_aloadN (pc' := 13) B X0 d3_12 rfl rfl rfl ?_
  refine own_iload (pc' := 15) B X0 d3_13 rfl rfl ?_
  refine own_baload (pc' := 16) B X0 V_w9 (v := (.int p5)) ⟨by decide, by decide⟩ rfl d3_15 rfl ?_
  refine own_icmpYes (pc' := 21) B X0 d3_16 (teq rfl).1 (by decide) rfl ?_
  refine own_iload (pc' := 23) B X0 d3_21 rfl rfl ?_
  refine own_iload (pc' := 25) B X0 d3_23 rfl rfl ?_
  refine own_icmpNo (pc' := 28) B X0 d3_25 (flt (by decide : ¬ ((3 : Int32) < (2 : Int32)))).1 rfl ?_
  refine own_aloadN (pc' := 29) B X0 d3_28 rfl rfl rfl ?_
  refine own_iload (pc' := 31) B X0 d3_29 rfl rfl ?_
  refine own_baload (pc' := 32) B X0 V_w0 (v := (.int p5)) ⟨by decide, by decide⟩ rfl d3_31 rfl ?_
  refine own_iconst (pc' := 33) B X0 (z := (-1 : Int32)) d3_32 rfl rfl ?_
  refine own_icmpNo (pc' := 36) B X0 d3_33 (teq hp10).2 rfl ?_
  refine own_iconst (pc' := 37) B X0 (z := (1 : Int32)) d3_36 rfl rfl ?_
  refine own_goto (pc' := 41) B X0 d3_37 (by decide) rfl ?_
  exact own_retN B X0 (t := .boolean) (z' := (1 : Int32)) (by simp) (by decide) d3_41 (by decide) (by decide) (⟨rfl, rfl⟩)
def Q_75 (Z : State) (w0 : Addr) (kw0 : ClassId) (p2 : Int32) (p3 : Int32) (p4 : Int32) (p5 : Int32) (w6 : Addr) (kw6 : ClassId) (p8 : Int32) (w9 : Addr) (kw9 : ClassId) (p11 : Int32) (p12 : Int32) (p13 : Int32) (p14 : Int32) (p15 : Int32) (p16 : Int32) (p17 : Int32) (p18 : Int32) (p19 : Int32) (h0 : Heap) (n0 : Nat) (v : Option Value) (h : Heap) : Prop :=
  (v = some (.int (1 : Int32)) ∧ h0 = h)
set_option maxRecDepth 65536 in
set_option maxHeartbeats 40000000 in
theorem rm_75 (l : Launch) (Z : State) (a0 : Array Value) (hw : ∀ d ∈ tables_1, d.before a0 Z = true) (ws : List Jvm.Cond) (w0 : Addr) (kw0 : ClassId) (p2 : Int32) (p3 : Int32) (p4 : Int32) (p5 : Int32) (w6 : Addr) (kw6 : ClassId) (p8 : Int32) (w9 : Addr) (kw9 : ClassId) (p11 : Int32) (p12 : Int32) (p13 : Int32) (p14 : Int32) (p15 : Int32) (p16 : Int32) (p17 : Int32) (p18 : Int32) (p19 : Int32) (h0 : Heap) (n0 : Nat) (Z0 : n0 ≤ h0.size) (E_w0 : Exa Z h0 w0 "[B") (V_w0 : Arv Z h0 w0 kw0 .byte (4 : Int32) [(.int p2), (.int p3), (.int p4), (.int p5)] (.int (0 : Int32))) (g_w0 : n0 ≤ w0) (E_w6 : Exa Z h0 w6 "[B") (V_w6 : Arv Z h0 w6 kw6 .byte (3 : Int32) [(.int p2), (.int p3), (.int p8)] (.int (0 : Int32))) (g_w6 : n0 ≤ w6) (E_w9 : Exa Z h0 w9 "[B") (V_w9 : Arv Z h0 w9 kw9 .byte (4 : Int32) [(.int p2), (.int p3), (.int p4), (.int p5)] (.int (0 : Int32))) (g_w9 : n0 ≤ w9) (ne_w0_w6 : w0 ≠ w6) (ne_w0_w9 : w0 ≠ w9) (ne_w6_w9 : w6 ≠ w9) (hp0 : p11.toInt8.toInt32 = p2) (hp1 : p12.toInt8.toInt32 = p3) (hp2 : p13.toInt8.toInt32 = p4) (hp3 : p14.toInt8.toInt32 = p5) (hp4 : p15.toInt8.toInt32 = p8) (hp5 : own_F_pick p16 = p11) (hp6 : own_F_pick p17 = p12) (hp7 : own_F_pick p18 = p13) (hp8 : own_F_pick p19 = p14) (hp9 : p4 + (1 : Int32) = p15) (hp10 : p5 = (-1 : Int32)) (hp11 : ¬ (p4 = (-1 : Int32))) :
    MetFree l (⟨"com/example/keyer/keyer/QuerySuccessorPinLaw", "ok", "([B[B[BIII)Z"⟩ : MethodName) (head1 (Jvm.Cond.code (⟨"com/example/keyer/keyer/QuerySuccessorPinLaw", "ok", "([B[B[BIII)Z"⟩ : MethodName) method_3_code 6 (some .boolean) :: ws) ({ frames := 0, cells := 0, slots := 0, locals := 0 } : Room)) (fun a U => a = #[(.ref w0), (.ref w6), (.ref w9), (.int (4 : Int32)), (.int (3 : Int32)), (.int (0 : Int32))] ∧ Z.Warmed39 U.vm ∧ U.heap = h0) (fun _ _ _ _ _ => True) (fun _ U o U' => ∃ v L, o = .returned v ∧ (Fr n0 L ∧ Q_75 Z w0 kw0 p2 p3 p4 p5 w6 kw6 p8 w9 kw9 p11 p12 p13 p14 p15 p16 p17 p18 p19 h0 n0 v U'.heap) ∧ FrameEnd U o U' L ({ frames := 0, cells := 0, slots := 0, locals := 0 } : Room).cells ({ frames := 0, cells := 0, slots := 0, locals := 0 } : Room).slots) := by
  refine own_enter (Q := Q_75 Z w0 kw0 p2 p3 p4 p5 w6 kw6 p8 w9 kw9 p11 p12 p13 p14 p15 p16 p17 p18 p19 h0 n0) (F := fun m => mkF m 0 #[.val (.ref w0), .val (.ref w6), .val (.ref w9), .val (.int (4 : Int32)), .val (.int (3 : Int32)), .val (.int (0 : Int32))] []) (plainFor_of_name pn_0) (fun m => by first | (simp [entryFrame, mkF, argsToLocals, Value.category]; done) | rfl) ?_
  intro p e s m below meth c s₁ B X0
  have K : Keep h0 h0 [] := Keep.refl h0 _
  refine own_iload (pc' := 2) B X0 d3_0 rfl rfl ?_
  refine own_iloadN (pc' := 3) B X0 d3_2 rfl rfl ?_
  refine own_icmpYes (pc' := 8) B X0 d3_3 (tlt (by decide : (0 : Int32) < (4 : Int32))).1 (by decide) rfl ?_
  refine own_aloadN (pc' := 9) B X0 d3_8 rfl rfl rfl ?_
  refine own_iload (pc' := 11) B X0 d3_9 rfl rfl ?_
  refine own_baload (pc' := 12) B X0 V_w0 (v := (.int p2)) ⟨by decide, by decide⟩ rfl d3_11 rfl ?_
  refine own_aloadN (pc' := 13) B X0 d3_12 rfl rfl rfl ?_
  refine own_iload (pc' := 15) B X0 d3_13 rfl rfl ?_
  refine own_baload (pc' := 16) B X0 V_w9 (v := (.int p2)) ⟨by decide, by decide⟩ rfl d3_15 rfl ?_
  refine own_icmpYes (pc' := 21) B X0 d3_16 (teq rfl).1 (by decide) rfl ?_
  refine own_iload (pc' := 23) B X0 d3_21 rfl rfl ?_
  refine own_iload (pc' := 25) B X0 d3_23 rfl rfl ?_
  refine own_icmpYes (pc' := 42) B X0 d3_25 (tlt (by decide : (0 : Int32) < (3 : Int32))).1 (by decide) rfl ?_
  refine own_iload (pc' := 44) B X0 d3_42 rfl rfl ?_
  refine own_iload (pc' := 46) B X0 d3_44 rfl rfl ?_
  refine own_iconst (pc' := 47) B X0 (z := (1 : Int32)) d3_46 rfl rfl ?_
  refine own_isub (pc' := 48) B X0 (z := (2 : Int32)) d3_47 rfl (by decide) ?_
  refine own_icmpNo (pc' := 51) B X0 d3_48 (tlt (by decide : (0 : Int32) < (2 : Int32))).2.1 rfl ?_
  refine own_aloadN (pc' := 52) B X0 d3_51 rfl rfl rfl ?_
  refine own_iload (pc' := 54) B X0 d3_52 rfl rfl ?_
  refine own_baload (pc' := 55) B X0 V_w6 (v := (.int p2)) ⟨by decide, by decide⟩ rfl d3_54 rfl ?_
  refine own_aloadN (pc' := 56) B X0 d3_55 rfl rfl rfl ?_
  refine own_iload (pc' := 58) B X0 d3_56 rfl rfl ?_
  refine own_baload (pc' := 59) B X0 V_w0 (v := (.int p2)) ⟨by decide, by decide⟩ rfl d3_58 rfl ?_
  refine own_icmpNo (pc' := 62) B X0 d3_59 (teq rfl).2 rfl ?_
  refine own_iconst (pc' := 63) B X0 (z := (1 : Int32)) d3_62 rfl rfl ?_
  refine own_goto (pc' := 67) B X0 d3_63 (by decide) rfl ?_
  exact own_retN B X0 (t := .boolean) (z' := (1 : Int32)) (by simp) (by decide) d3_67 (by decide) (by decide) (⟨rfl, rfl⟩)
def Q_76 (Z : State) (w0 : Addr) (kw0 : ClassId) (p2 : Int32) (p3 : Int32) (p4 : Int32) (p5 : Int32) (w6 : Addr) (kw6 : ClassId) (p8 : Int32) (w9 : Addr) (kw9 : ClassId) (p11 : Int32) (p12 : Int32) (p13 : Int32) (p14 : Int32) (p15 : Int32) (p16 : Int32) (p17 : Int32) (p18 : Int32) (p19 : Int32) (h0 : Heap) (n0 : Nat) (v : Option Value) (h : Heap) : Prop :=
  (v = some (.int (1 : Int32)) ∧ h0 = h)
set_option maxRecDepth 65536 in
set_option maxHeartbeats 40000000 in
theorem rm_76 (l : Launch) (Z : State) (a0 : Array Value) (hw : ∀ d ∈ tables_1, d.before a0 Z = true) (ws : List Jvm.Cond) (w0 : Addr) (kw0 : ClassId) (p2 : Int32) (p3 : Int32) (p4 : Int32) (p5 : Int32) (w6 : Addr) (kw6 : ClassId) (p8 : Int32) (w9 : Addr) (kw9 : ClassId) (p11 : Int32) (p12 : Int32) (p13 : Int32) (p14 : Int32) (p15 : Int32) (p16 : Int32) (p17 : Int32) (p18 : Int32) (p19 : Int32) (h0 : Heap) (n0 : Nat) (Z0 : n0 ≤ h0.size) (E_w0 : Exa Z h0 w0 "[B") (V_w0 : Arv Z h0 w0 kw0 .byte (4 : Int32) [(.int p2), (.int p3), (.int p4), (.int p5)] (.int (0 : Int32))) (g_w0 : n0 ≤ w0) (E_w6 : Exa Z h0 w6 "[B") (V_w6 : Arv Z h0 w6 kw6 .byte (3 : Int32) [(.int p2), (.int p3), (.int p8)] (.int (0 : Int32))) (g_w6 : n0 ≤ w6) (E_w9 : Exa Z h0 w9 "[B") (V_w9 : Arv Z h0 w9 kw9 .byte (4 : Int32) [(.int p2), (.int p3), (.int p4), (.int p5)] (.int (0 : Int32))) (g_w9 : n0 ≤ w9) (ne_w0_w6 : w0 ≠ w6) (ne_w0_w9 : w0 ≠ w9) (ne_w6_w9 : w6 ≠ w9) (hp0 : p11.toInt8.toInt32 = p2) (hp1 : p12.toInt8.toInt32 = p3) (hp2 : p13.toInt8.toInt32 = p4) (hp3 : p14.toInt8.toInt32 = p5) (hp4 : p15.toInt8.toInt32 = p8) (hp5 : own_F_pick p16 = p11) (hp6 : own_F_pick p17 = p12) (hp7 : own_F_pick p18 = p13) (hp8 : own_F_pick p19 = p14) (hp9 : p4 + (1 : Int32) = p15) (hp10 : p5 = (-1 : Int32)) (hp11 : ¬ (p4 = (-1 : Int32))) :
    MetFree l (⟨"com/example/keyer/keyer/QuerySuccessorPinLaw", "ok", "([B[B[BIII)Z"⟩ : MethodName) (head1 (Jvm.Cond.code (⟨"com/example/keyer/keyer/QuerySuccessorPinLaw", "ok", "([B[B[BIII)Z"⟩ : MethodName) method_3_code 6 (some .boolean) :: ws) ({ frames := 0, cells := 0, slots := 0, locals := 0 } : Room)) (fun a U => a = #[(.ref w0), (.ref w6), (.ref w9), (.int (4 : Int32)), (.int (3 : Int32)), (.int (1 : Int32))] ∧ Z.Warmed39 U.vm ∧ U.heap = h0) (fun _ _ _ _ _ => True) (fun _ U o U' => ∃ v L, o = .returned v ∧ (Fr n0 L ∧ Q_76 Z w0 kw0 p2 p3 p4 p5 w6 kw6 p8 w9 kw9 p11 p12 p13 p14 p15 p16 p17 p18 p19 h0 n0 v U'.heap) ∧ FrameEnd U o U' L ({ frames := 0, cells := 0, slots := 0, locals := 0 } : Room).cells ({ frames := 0, cells := 0, slots := 0, locals := 0 } : Room).slots) := by
  refine own_enter (Q := Q_76 Z w0 kw0 p2 p3 p4 p5 w6 kw6 p8 w9 kw9 p11 p12 p13 p14 p15 p16 p17 p18 p19 h0 n0) (F := fun m => mkF m 0 #[.val (.ref w0), .val (.ref w6), .val (.ref w9), .val (.int (4 : Int32)), .val (.int (3 : Int32)), .val (.int (1 : Int32))] []) (plainFor_of_name pn_0) (fun m => by first | (simp [entryFrame, mkF, argsToLocals, Value.category]; done) | rfl) ?_
  intro p e s m below meth c s₁ B X0
  have K : Keep h0 h0 [] := Keep.refl h0 _
  refine own_iload (pc' := 2) B X0 d3_0 rfl rfl ?_
  refine own_iloadN (pc' := 3) B X0 d3_2 rfl rfl ?_
  refine own_icmpYes (pc' := 8) B X0 d3_3 (tlt (by decide : (1 : Int32) < (4 : Int32))).1 (by decide) rfl ?_
  refine own_aloadN (pc' := 9) B X0 d3_8 rfl rfl rfl ?_
  refine own_iload (pc' := 11) B X0 d3_9 rfl rfl ?_
  refine own_baload (pc' := 12) B X0 V_w0 (v := (.int p3)) ⟨by decide, by decide⟩ rfl d3_11 rfl ?_
  refine own_aloadN (pc' := 13) B X0 d3_12 rfl rfl rfl ?_
  refine own_iload (pc' := 15) B X0 d3_13 rfl rfl ?_
  refine own_baload (pc' := 16) B X0 V_w9 (v := (.int p3)) ⟨by decide, by decide⟩ rfl d3_15 rfl ?_
  refine own_icmpYes (pc' := 21) B X0 d3_16 (teq rfl).1 (by decide) rfl ?_
  refine own_iload (pc' := 23) B X0 d3_21 rfl rfl ?_
  refine own_iload (pc' := 25) B X0 d3_23 rfl rfl ?_
  refine own_icmpYes (pc' := 42) B X0 d3_25 (tlt (by decide : (1 : Int32) < (3 : Int32))).1 (by decide) rfl ?_
  refine own_iload (pc' := 44) B X0 d3_42 rfl rfl ?_
  refine own_iload (pc' := 46) B X0 d3_44 rfl rfl ?_
  refine own_iconst (pc' := 47) B X0 (z := (1 : Int32)) d3_46 rfl rfl ?_
  refine own_isub (pc' := 48) B X0 (z := (2 : Int32)) d3_47 rfl (by decide) ?_
  refine own_icmpNo (pc' := 51) B X0 d3_48 (tlt (by decide : (1 : Int32) < (2 : Int32))).2.1 rfl ?_
  refine own_aloadN (pc' := 52) B X0 d3_51 rfl rfl rfl ?_
  refine own_iload (pc' := 54) B X0 d3_52 rfl rfl ?_
  refine own_baload (pc' := 55) B X0 V_w6 (v := (.int p3)) ⟨by decide, by decide⟩ rfl d3_54 rfl ?_
  refine own_aloadN (pc' := 56) B X0 d3_55 rfl rfl rfl ?_
  refine own_iload (pc' := 58) B X0 d3_56 rfl rfl ?_
  refine own_baload (pc' := 59) B X0 V_w0 (v := (.int p3)) ⟨by decide, by decide⟩ rfl d3_58 rfl ?_
  refine own_icmpNo (pc' := 62) B X0 d3_59 (teq rfl).2 rfl ?_
  refine own_iconst (pc' := 63) B X0 (z := (1 : Int32)) d3_62 rfl rfl ?_
  refine own_goto (pc' := 67) B X0 d3_63 (by decide) rfl ?_
  exact own_retN B X0 (t := .boolean) (z' := (1 : Int32)) (by simp) (by decide) d3_67 (by decide) (by decide) (⟨rfl, rfl⟩)
def Q_77 (Z : State) (w0 : Addr) (kw0 : ClassId) (p2 : Int32) (p3 : Int32) (p4 : Int32) (p5 : Int32) (w6 : Addr) (kw6 : ClassId) (p8 : Int32) (w9 : Addr) (kw9 : ClassId) (p11 : Int32) (p12 : Int32) (p13 : Int32) (p14 : Int32) (p15 : Int32) (p16 : Int32) (p17 : Int32) (p18 : Int32) (p19 : Int32) (h0 : Heap) (n0 : Nat) (v : Option Value) (h : Heap) : Prop :=
  (v = some (.int (1 : Int32)) ∧ h0 = h)
set_option maxRecDepth 65536 in
set_option maxHeartbeats 40000000 in
theorem rm_77 (l : Launch) (Z : State) (a0 : Array Value) (hw : ∀ d ∈ tables_1, d.before a0 Z = true) (ws : List Jvm.Cond) (w0 : Addr) (kw0 : ClassId) (p2 : Int32) (p3 : Int32) (p4 : Int32) (p5 : Int32) (w6 : Addr) (kw6 : ClassId) (p8 : Int32) (w9 : Addr) (kw9 : ClassId) (p11 : Int32) (p12 : Int32) (p13 : Int32) (p14 : Int32) (p15 : Int32) (p16 : Int32) (p17 : Int32) (p18 : Int32) (p19 : Int32) (h0 : Heap) (n0 : Nat) (Z0 : n0 ≤ h0.size) (E_w0 : Exa Z h0 w0 "[B") (V_w0 : Arv Z h0 w0 kw0 .byte (4 : Int32) [(.int p2), (.int p3), (.int p4), (.int p5)] (.int (0 : Int32))) (g_w0 : n0 ≤ w0) (E_w6 : Exa Z h0 w6 "[B") (V_w6 : Arv Z h0 w6 kw6 .byte (3 : Int32) [(.int p2), (.int p3), (.int p8)] (.int (0 : Int32))) (g_w6 : n0 ≤ w6) (E_w9 : Exa Z h0 w9 "[B") (V_w9 : Arv Z h0 w9 kw9 .byte (4 : Int32) [(.int p2), (.int p3), (.int p4), (.int p5)] (.int (0 : Int32))) (g_w9 : n0 ≤ w9) (ne_w0_w6 : w0 ≠ w6) (ne_w0_w9 : w0 ≠ w9) (ne_w6_w9 : w6 ≠ w9) (hp0 : p11.toInt8.toInt32 = p2) (hp1 : p12.toInt8.toInt32 = p3) (hp2 : p13.toInt8.toInt32 = p4) (hp3 : p14.toInt8.toInt32 = p5) (hp4 : p15.toInt8.toInt32 = p8) (hp5 : own_F_pick p16 = p11) (hp6 : own_F_pick p17 = p12) (hp7 : own_F_pick p18 = p13) (hp8 : own_F_pick p19 = p14) (hp9 : p4 + (1 : Int32) = p15) (hp10 : p5 = (-1 : Int32)) (hp11 : ¬ (p4 = (-1 : Int32))) :
    MetFree l (⟨"com/example/keyer/keyer/QuerySuccessorPinLaw", "ok", "([B[B[BIII)Z"⟩ : MethodName) (head1 (Jvm.Cond.code (⟨"com/example/keyer/keyer/QuerySuccessorPinLaw", "ok", "([B[B[BIII)Z"⟩ : MethodName) method_3_code 6 (some .boolean) :: ws) ({ frames := 0, cells := 0, slots := 0, locals := 0 } : Room)) (fun a U => a = #[(.ref w0), (.ref w6), (.ref w9), (.int (4 : Int32)), (.int (3 : Int32)), (.int (2 : Int32))] ∧ Z.Warmed39 U.vm ∧ U.heap = h0) (fun _ _ _ _ _ => True) (fun _ U o U' => ∃ v L, o = .returned v ∧ (Fr n0 L ∧ Q_77 Z w0 kw0 p2 p3 p4 p5 w6 kw6 p8 w9 kw9 p11 p12 p13 p14 p15 p16 p17 p18 p19 h0 n0 v U'.heap) ∧ FrameEnd U o U' L ({ frames := 0, cells := 0, slots := 0, locals := 0 } : Room).cells ({ frames := 0, cells := 0, slots := 0, locals := 0 } : Room).slots) := by
  refine own_enter (Q := Q_77 Z w0 kw0 p2 p3 p4 p5 w6 kw6 p8 w9 kw9 p11 p12 p13 p14 p15 p16 p17 p18 p19 h0 n0) (F := fun m => mkF m 0 #[.val (.ref w0), .val (.ref w6), .val (.ref w9), .val (.int (4 : Int32)), .val (.int (3 : Int32)), .val (.int (2 : Int32))] []) (plainFor_of_name pn_0) (fun m => by first | (simp [entryFrame, mkF, argsToLocals, Value.category]; done) | rfl) ?_
  intro p e s m below meth c s₁ B X0
  have K : Keep h0 h0 [] := Keep.refl h0 _
  refine own_iload (pc' := 2) B X0 d3_0 rfl rfl ?_
  refine own_iloadN (pc' := 3) B X0 d3_2 rfl rfl ?_
  refine own_icmpYes (pc' := 8) B X0 d3_3 (tlt (by decide : (2 : Int32) < (4 : Int32))).1 (by decide) rfl ?_
  refine own_aloadN (pc' := 9) B X0 d3_8 rfl rfl rfl ?_
  refine own_iload (pc' := 11) B X0 d3_9 rfl rfl ?_
  refine own_baload (pc' := 12) B X0 V_w0 (v := (.int p4)) ⟨by decide, by decide⟩ rfl d3_11 rfl ?_
  refine own_aloadN (pc' := 13) B X0 d3_12 rfl rfl rfl ?_
  refine own_iload (pc' := 15) B X0 d3_13 rfl rfl ?_
  refine own_baload (pc' := 16) B X0 V_w9 (v := (.int p4)) ⟨by decide, by decide⟩ rfl d3_15 rfl ?_
  refine own_icmpYes (pc' := 21) B X0 d3_16 (teq rfl).1 (by decide) rfl ?_
  refine own_iload (pc' := 23) B X0 d3_21 rfl rfl ?_
  refine own_iload (pc' := 25) B X0 d3_23 rfl rfl ?_
  refine own_icmpYes (pc' := 42) B X0 d3_25 (tlt (by decide : (2 : Int32) < (3 : Int32))).1 (by decide) rfl ?_
  refine own_iload (pc' := 44) B X0 d3_42 rfl rfl ?_
  refine own_iload (pc' := 46) B X0 d3_44 rfl rfl ?_
  refine own_iconst (pc' := 47) B X0 (z := (1 : Int32)) d3_46 rfl rfl ?_
  refine own_isub (pc' := 48) B X0 (z := (2 : Int32)) d3_47 rfl (by decide) ?_
  refine own_icmpYes (pc' := 68) B X0 d3_48 (flt (by decide : ¬ ((2 : Int32) < (2 : Int32)))).2.1 (by decide) rfl ?_
  refine own_aloadN (pc' := 69) B X0 d3_68 rfl rfl rfl ?_
  refine own_iload (pc' := 71) B X0 d3_69 rfl rfl ?_
  refine own_baload (pc' := 72) B X0 V_w0 (v := (.int p4)) ⟨by decide, by decide⟩ rfl d3_71 rfl ?_
  refine own_iconst (pc' := 73) B X0 (z := (-1 : Int32)) d3_72 rfl rfl ?_
  refine own_icmpNo (pc' := 76) B X0 d3_73 (feq hp11).1 rfl ?_
  refine own_aloadN (pc' := 77) B X0 d3_76 rfl rfl rfl ?_
  refine own_iload (pc' := 79) B X0 d3_77 rfl rfl ?_
  refine own_baload (pc' := 80) B X0 V_w6 (v := (.int p8)) ⟨by decide, by decide⟩ rfl d3_79 rfl ?_
  refine own_aloadN (pc' := 81) B X0 d3_80 rfl rfl rfl ?_
  refine own_iload (pc' := 83) B X0 d3_81 rfl rfl ?_
  refine own_baload (pc' := 84) B X0 V_w0 (v := (.int p4)) ⟨by decide, by decide⟩ rfl d3_83 rfl ?_
  refine own_iconst (pc' := 85) B X0 (z := (1 : Int32)) d3_84 rfl rfl ?_
  refine own_iadd (pc' := 86) B X0 d3_85 rfl hp9 ?_
  refine own_i2b (pc' := 87) B X0 d3_86 rfl hp4 ?_
  refine own_icmpNo (pc' := 90) B X0 d3_87 (teq rfl).2 rfl ?_
  refine own_iconst (pc' := 91) B X0 (z := (1 : Int32)) d3_90 rfl rfl ?_
  refine own_goto (pc' := 95) B X0 d3_91 (by decide) rfl ?_
  exact own_retN B X0 (t := .boolean) (z' := (1 : Int32)) (by simp) (by decide) d3_95 (by decide) (by decide) (⟨rfl, rfl⟩)
def Q_78 (Z : State) (w0 : Addr) (kw0 : ClassId) (p2 : Int32) (p3 : Int32) (p4 : Int32) (p5 : Int32) (w6 : Addr) (kw6 : ClassId) (p8 : Int32) (w9 : Addr) (kw9 : ClassId) (p11 : Int32) (p12 : Int32) (p13 : Int32) (p14 : Int32) (p15 : Int32) (p16 : Int32) (p17 : Int32) (p18 : Int32) (p19 : Int32) (h0 : Heap) (n0 : Nat) (v : Option Value) (h : Heap) : Prop :=
  (v = some (.int (1 : Int32)) ∧ h0 = h)
set_option maxRecDepth 65536 in
set_option maxHeartbeats 40000000 in
theorem rm_78 (l : Launch) (Z : State) (a0 : Array Value) (hw : ∀ d ∈ tables_1, d.before a0 Z = true) (ws : List Jvm.Cond) (w0 : Addr) (kw0 : ClassId) (p2 : Int32) (p3 : Int32) (p4 : Int32) (p5 : Int32) (w6 : Addr) (kw6 : ClassId) (p8 : Int32) (w9 : Addr) (kw9 : ClassId) (p11 : Int32) (p12 : Int32) (p13 : Int32) (p14 : Int32) (p15 : Int32) (p16 : Int32) (p17 : Int32) (p18 : Int32) (p19 : Int32) (h0 : Heap) (n0 : Nat) (Z0 : n0 ≤ h0.size) (E_w0 : Exa Z h0 w0 "[B") (V_w0 : Arv Z h0 w0 kw0 .byte (4 : Int32) [(.int p2), (.int p3), (.int p4), (.int p5)] (.int (0 : Int32))) (g_w0 : n0 ≤ w0) (E_w6 : Exa Z h0 w6 "[B") (V_w6 : Arv Z h0 w6 kw6 .byte (3 : Int32) [(.int p2), (.int p3), (.int p8)] (.int (0 : Int32))) (g_w6 : n0 ≤ w6) (E_w9 : Exa Z h0 w9 "[B") (V_w9 : Arv Z h0 w9 kw9 .byte (4 : Int32) [(.int p2), (.int p3), (.int p4), (.int p5)] (.int (0 : Int32))) (g_w9 : n0 ≤ w9) (ne_w0_w6 : w0 ≠ w6) (ne_w0_w9 : w0 ≠ w9) (ne_w6_w9 : w6 ≠ w9) (hp0 : p11.toInt8.toInt32 = p2) (hp1 : p12.toInt8.toInt32 = p3) (hp2 : p13.toInt8.toInt32 = p4) (hp3 : p14.toInt8.toInt32 = p5) (hp4 : p15.toInt8.toInt32 = p8) (hp5 : own_F_pick p16 = p11) (hp6 : own_F_pick p17 = p12) (hp7 : own_F_pick p18 = p13) (hp8 : own_F_pick p19 = p14) (hp9 : p4 + (1 : Int32) = p15) (hp10 : p5 = (-1 : Int32)) (hp11 : ¬ (p4 = (-1 : Int32))) :
    MetFree l (⟨"com/example/keyer/keyer/QuerySuccessorPinLaw", "ok", "([B[B[BIII)Z"⟩ : MethodName) (head1 (Jvm.Cond.code (⟨"com/example/keyer/keyer/QuerySuccessorPinLaw", "ok", "([B[B[BIII)Z"⟩ : MethodName) method_3_code 6 (some .boolean) :: ws) ({ frames := 0, cells := 0, slots := 0, locals := 0 } : Room)) (fun a U => a = #[(.ref w0), (.ref w6), (.ref w9), (.int (4 : Int32)), (.int (3 : Int32)), (.int (3 : Int32))] ∧ Z.Warmed39 U.vm ∧ U.heap = h0) (fun _ _ _ _ _ => True) (fun _ U o U' => ∃ v L, o = .returned v ∧ (Fr n0 L ∧ Q_78 Z w0 kw0 p2 p3 p4 p5 w6 kw6 p8 w9 kw9 p11 p12 p13 p14 p15 p16 p17 p18 p19 h0 n0 v U'.heap) ∧ FrameEnd U o U' L ({ frames := 0, cells := 0, slots := 0, locals := 0 } : Room).cells ({ frames := 0, cells := 0, slots := 0, locals := 0 } : Room).slots) := by
  refine own_enter (Q := Q_78 Z w0 kw0 p2 p3 p4 p5 w6 kw6 p8 w9 kw9 p11 p12 p13 p14 p15 p16 p17 p18 p19 h0 n0) (F := fun m => mkF m 0 #[.val (.ref w0), .val (.ref w6), .val (.ref w9), .val (.int (4 : Int32)), .val (.int (3 : Int32)), .val (.int (3 : Int32))] []) (plainFor_of_name pn_0) (fun m => by first | (simp [entryFrame, mkF, argsToLocals, Value.category]; done) | rfl) ?_
  intro p e s m below meth c s₁ B X0
  have K : Keep h0 h0 [] := Keep.refl h0 _
  refine own_iload (pc' := 2) B X0 d3_0 rfl rfl ?_
  refine own_iloadN (pc' := 3) B X0 d3_2 rfl rfl ?_
  refine own_icmpYes (pc' := 8) B X0 d3_3 (tlt (by decide : (3 : Int32) < (4 : Int32))).1 (by decide) rfl ?_
  refine own_aloadN (pc' := 9) B X0 d3_8 rfl rfl rfl ?_
  refine own_iload (pc' := 11) B X0 d3_9 rfl rfl ?_
  refine own_baload (pc' := 12) B X0 V_w0 (v := (.int p5)) ⟨by decide, by decide⟩ rfl d3_11 rfl ?_
  refine own_aloadN (pc' := 13) B X0 d3_12 rfl rfl rfl ?_
  refine own_iload (pc' := 15) B X0 d3_13 rfl rfl ?_
  refine own_baload (pc' := 16) B X0 V_w9 (v := (.int p5)) ⟨by decide, by decide⟩ rfl d3_15 rfl ?_
  refine own_icmpYes (pc' := 21) B X0 d3_16 (teq rfl).1 (by decide) rfl ?_
  refine own_iload (pc' := 23) B X0 d3_21 rfl rfl ?_
  refine own_iload (pc' := 25) B X0 d3_23 rfl rfl ?_
  refine own_icmpNo (pc' := 28) B X0 d3_25 (flt (by decide : ¬ ((3 : Int32) < (3 : Int32)))).1 rfl ?_
  refine own_aloadN (pc' := 29) B X0 d3_28 rfl rfl rfl ?_
  refine own_iload (pc' := 31) B X0 d3_29 rfl rfl ?_
  refine own_baload (pc' := 32) B X0 V_w0 (v := (.int p5)) ⟨by decide, by decide⟩ rfl d3_31 rfl ?_
  refine own_iconst (pc' := 33) B X0 (z := (-1 : Int32)) d3_32 rfl rfl ?_
  refine own_icmpNo (pc' := 36) B X0 d3_33 (teq hp10).2 rfl ?_
  refine own_iconst (pc' := 37) B X0 (z := (1 : Int32)) d3_36 rfl rfl ?_
  refine own_goto (pc' := 41) B X0 d3_37 (by decide) rfl ?_
  exact own_retN B X0 (t := .boolean) (z' := (1 : Int32)) (by simp) (by decide) d3_41 (by decide) (by decide) (⟨rfl, rfl⟩)
def Q_79 (Z : State) (w0 : Addr) (kw0 : ClassId) (p2 : Int32) (p3 : Int32) (p4 : Int32) (p5 : Int32) (w6 : Addr) (kw6 : ClassId) (p8 : Int32) (w9 : Addr) (kw9 : ClassId) (p11 : Int32) (p12 : Int32) (p13 : Int32) (p14 : Int32) (p15 : Int32) (p16 : Int32) (p17 : Int32) (p18 : Int32) (p19 : Int32) (h0 : Heap) (n0 : Nat) (v : Option Value) (h : Heap) : Prop :=
  (v = some (.int (1 : Int32)) ∧ h0 = h)
set_option maxRecDepth 65536 in
set_option maxHeartbeats 40000000 in
theorem rm_79 (l : Launch) (Z : State) (a0 : Array Value) (hw : ∀ d ∈ tables_1, d.before a0 Z = true) (ws : List Jvm.Cond) (w0 : Addr) (kw0 : ClassId) (p2 : Int32) (p3 : Int32) (p4 : Int32) (p5 : Int32) (w6 : Addr) (kw6 : ClassId) (p8 : Int32) (w9 : Addr) (kw9 : ClassId) (p11 : Int32) (p12 : Int32) (p13 : Int32) (p14 : Int32) (p15 : Int32) (p16 : Int32) (p17 : Int32) (p18 : Int32) (p19 : Int32) (h0 : Heap) (n0 : Nat) (Z0 : n0 ≤ h0.size) (E_w0 : Exa Z h0 w0 "[B") (V_w0 : Arv Z h0 w0 kw0 .byte (4 : Int32) [(.int p2), (.int p3), (.int p4), (.int p5)] (.int (0 : Int32))) (g_w0 : n0 ≤ w0) (E_w6 : Exa Z h0 w6 "[B") (V_w6 : Arv Z h0 w6 kw6 .byte (4 : Int32) [(.int p2), (.int p3), (.int p4), (.int p8)] (.int (0 : Int32))) (g_w6 : n0 ≤ w6) (E_w9 : Exa Z h0 w9 "[B") (V_w9 : Arv Z h0 w9 kw9 .byte (4 : Int32) [(.int p2), (.int p3), (.int p4), (.int p5)] (.int (0 : Int32))) (g_w9 : n0 ≤ w9) (ne_w0_w6 : w0 ≠ w6) (ne_w0_w9 : w0 ≠ w9) (ne_w6_w9 : w6 ≠ w9) (hp0 : p11.toInt8.toInt32 = p2) (hp1 : p12.toInt8.toInt32 = p3) (hp2 : p13.toInt8.toInt32 = p4) (hp3 : p14.toInt8.toInt32 = p5) (hp4 : p15.toInt8.toInt32 = p8) (hp5 : own_F_pick p16 = p11) (hp6 : own_F_pick p17 = p12) (hp7 : own_F_pick p18 = p13) (hp8 : own_F_pick p19 = p14) (hp9 : p5 + (1 : Int32) = p15) (hp10 : ¬ (p5 = (-1 : Int32))) :
    MetFree l (⟨"com/example/keyer/keyer/QuerySuccessorPinLaw", "ok", "([B[B[BIII)Z"⟩ : MethodName) (head1 (Jvm.Cond.code (⟨"com/example/keyer/keyer/QuerySuccessorPinLaw", "ok", "([B[B[BIII)Z"⟩ : MethodName) method_3_code 6 (some .boolean) :: ws) ({ frames := 0, cells := 0, slots := 0, locals := 0 } : Room)) (fun a U => a = #[(.ref w0), (.ref w6), (.ref w9), (.int (4 : Int32)), (.int (4 : Int32)), (.int (0 : Int32))] ∧ Z.Warmed39 U.vm ∧ U.heap = h0) (fun _ _ _ _ _ => True) (fun _ U o U' => ∃ v L, o = .returned v ∧ (Fr n0 L ∧ Q_79 Z w0 kw0 p2 p3 p4 p5 w6 kw6 p8 w9 kw9 p11 p12 p13 p14 p15 p16 p17 p18 p19 h0 n0 v U'.heap) ∧ FrameEnd U o U' L ({ frames := 0, cells := 0, slots := 0, locals := 0 } : Room).cells ({ frames := 0, cells := 0, slots := 0, locals := 0 } : Room).slots) := by
  refine own_enter (Q := Q_79 Z w0 kw0 p2 p3 p4 p5 w6 kw6 p8 w9 kw9 p11 p12 p13 p14 p15 p16 p17 p18 p19 h0 n0) (F := fun m => mkF m 0 #[.val (.ref w0), .val (.ref w6), .val (.ref w9), .val (.int (4 : Int32)), .val (.int (4 : Int32)), .val (.int (0 : Int32))] []) (plainFor_of_name pn_0) (fun m => by first | (simp [entryFrame, mkF, argsToLocals, Value.category]; done) | rfl) ?_
  intro p e s m below meth c s₁ B X0
  have K : Keep h0 h0 [] := Keep.refl h0 _
  refine own_iload (pc' := 2) B X0 d3_0 rfl rfl ?_
  refine own_iloadN (pc' := 3) B X0 d3_2 rfl rfl ?_
  refine own_icmpYes (pc' := 8) B X0 d3_3 (tlt (by decide : (0 : Int32) < (4 : Int32))).1 (by decide) rfl ?_
  refine own_aloadN (pc' := 9) B X0 d3_8 rfl rfl rfl ?_
  refine own_iload (pc' := 11) B X0 d3_9 rfl rfl ?_
  refine own_baload (pc' := 12) B X0 V_w0 (v := (.int p2)) ⟨by decide, by decide⟩ rfl d3_11 rfl ?_
  refine own_aloadN (pc' := 13) B X0 d3_12 rfl rfl rfl ?_
  refine own_iload (pc' := 15) B X0 d3_13 rfl rfl ?_
  refine own_baload (pc' := 16) B X0 V_w9 (v := (.int p2)) ⟨by decide, by decide⟩ rfl d3_15 rfl ?_
  refine own_icmpYes (pc' := 21) B X0 d3_16 (teq rfl).1 (by decide) rfl ?_
  refine own_iload (pc' := 23) B X0 d3_21 rfl rfl ?_
  refine own_iload (pc' := 25) B X0 d3_23 rfl rfl ?_
  refine own_icmpYes (pc' := 42) B X0 d3_25 (tlt (by decide : (0 : Int32) < (4 : Int32))).1 (by decide) rfl ?_
  refine own_iload (pc' := 44) B X0 d3_42 rfl rfl ?_
  refine own_iload (pc' := 46) B X0 d3_44 rfl rfl ?_
  refine own_iconst (pc' := 47) B X0 (z := (1 : Int32)) d3_46 rfl rfl ?_
  refine own_isub (pc' := 48) B X0 (z := (3 : Int32)) d3_47 rfl (by decide) ?_
  refine own_icmpNo (pc' := 51) B X0 d3_48 (tlt (by decide : (0 : Int32) < (3 : Int32))).2.1 rfl ?_
  refine own_aloadN (pc' := 52) B X0 d3_51 rfl rfl rfl ?_
  refine own_iload (pc' := 54) B X0 d3_52 rfl rfl ?_
  refine own_baload (pc' := 55) B X0 V_w6 (v := (.int p2)) ⟨by decide, by decide⟩ rfl d3_54 rfl ?_
  refine own_aloadN (pc' := 56) B X0 d3_55 rfl rfl rfl ?_
  refine own_iload (pc' := 58) B X0 d3_56 rfl rfl ?_
  refine own_baload (pc' := 59) B X0 V_w0 (v := (.int p2)) ⟨by decide, by decide⟩ rfl d3_58 rfl ?_
  refine own_icmpNo (pc' := 62) B X0 d3_59 (teq rfl).2 rfl ?_
  refine own_iconst (pc' := 63) B X0 (z := (1 : Int32)) d3_62 rfl rfl ?_
  refine own_goto (pc' := 67) B X0 d3_63 (by decide) rfl ?_
  exact own_retN B X0 (t := .boolean) (z' := (1 : Int32)) (by simp) (by decide) d3_67 (by decide) (by decide) (⟨rfl, rfl⟩)
def Q_80 (Z : State) (w0 : Addr) (kw0 : ClassId) (p2 : Int32) (p3 : Int32) (p4 : Int32) (p5 : Int32) (w6 : Addr) (kw6 : ClassId) (p8 : Int32) (w9 : Addr) (kw9 : ClassId) (p11 : Int32) (p12 : Int32) (p13 : Int32) (p14 : Int32) (p15 : Int32) (p16 : Int32) (p17 : Int32) (p18 : Int32) (p19 : Int32) (h0 : Heap) (n0 : Nat) (v : Option Value) (h : Heap) : Prop :=
  (v = some (.int (1 : Int32)) ∧ h0 = h)
set_option maxRecDepth 65536 in
set_option maxHeartbeats 40000000 in
theorem rm_80 (l : Launch) (Z : State) (a0 : Array Value) (hw : ∀ d ∈ tables_1, d.before a0 Z = true) (ws : List Jvm.Cond) (w0 : Addr) (kw0 : ClassId) (p2 : Int32) (p3 : Int32) (p4 : Int32) (p5 : Int32) (w6 : Addr) (kw6 : ClassId) (p8 : Int32) (w9 : Addr) (kw9 : ClassId) (p11 : Int32) (p12 : Int32) (p13 : Int32) (p14 : Int32) (p15 : Int32) (p16 : Int32) (p17 : Int32) (p18 : Int32) (p19 : Int32) (h0 : Heap) (n0 : Nat) (Z0 : n0 ≤ h0.size) (E_w0 : Exa Z h0 w0 "[B") (V_w0 : Arv Z h0 w0 kw0 .byte (4 : Int32) [(.int p2), (.int p3), (.int p4), (.int p5)] (.int (0 : Int32))) (g_w0 : n0 ≤ w0) (E_w6 : Exa Z h0 w6 "[B") (V_w6 : Arv Z h0 w6 kw6 .byte (4 : Int32) [(.int p2), (.int p3), (.int p4), (.int p8)] (.int (0 : Int32))) (g_w6 : n0 ≤ w6) (E_w9 : Exa Z h0 w9 "[B") (V_w9 : Arv Z h0 w9 kw9 .byte (4 : Int32) [(.int p2), (.int p3), (.int p4), (.int p5)] (.int (0 : Int32))) (g_w9 : n0 ≤ w9) (ne_w0_w6 : w0 ≠ w6) (ne_w0_w9 : w0 ≠ w9) (ne_w6_w9 : w6 ≠ w9) (hp0 : p11.toInt8.toInt32 = p2) (hp1 : p12.toInt8.toInt32 = p3) (hp2 : p13.toInt8.toInt32 = p4) (hp3 : p14.toInt8.toInt32 = p5) (hp4 : p15.toInt8.toInt32 = p8) (hp5 : own_F_pick p16 = p11) (hp6 : own_F_pick p17 = p12) (hp7 : own_F_pick p18 = p13) (hp8 : own_F_pick p19 = p14) (hp9 : p5 + (1 : Int32) = p15) (hp10 : ¬ (p5 = (-1 : Int32))) :
    MetFree l (⟨"com/example/keyer/keyer/QuerySuccessorPinLaw", "ok", "([B[B[BIII)Z"⟩ : MethodName) (head1 (Jvm.Cond.code (⟨"com/example/keyer/keyer/QuerySuccessorPinLaw", "ok", "([B[B[BIII)Z"⟩ : MethodName) method_3_code 6 (some .boolean) :: ws) ({ frames := 0, cells := 0, slots := 0, locals := 0 } : Room)) (fun a U => a = #[(.ref w0), (.ref w6), (.ref w9), (.int (4 : Int32)), (.int (4 : Int32)), (.int (1 : Int32))] ∧ Z.Warmed39 U.vm ∧ U.heap = h0) (fun _ _ _ _ _ => True) (fun _ U o U' => ∃ v L, o = .returned v ∧ (Fr n0 L ∧ Q_80 Z w0 kw0 p2 p3 p4 p5 w6 kw6 p8 w9 kw9 p11 p12 p13 p14 p15 p16 p17 p18 p19 h0 n0 v U'.heap) ∧ FrameEnd U o U' L ({ frames := 0, cells := 0, slots := 0, locals := 0 } : Room).cells ({ frames := 0, cells := 0, slots := 0, locals := 0 } : Room).slots) := by
  refine own_enter (Q := Q_80 Z w0 kw0 p2 p3 p4 p5 w6 kw6 p8 w9 kw9 p11 p12 p13 p14 p15 p16 p17 p18 p19 h0 n0) (F := fun m => mkF m 0 #[.val (.ref w0), .val (.ref w6), .val (.ref w9), .val (.int (4 : Int32)), .val (.int (4 : Int32)), .val (.int (1 : Int32))] []) (plainFor_of_name pn_0) (fun m => by first | (simp [entryFrame, mkF, argsToLocals, Value.category]; done) | rfl) ?_
  intro p e s m below meth c s₁ B X0
  have K : Keep h0 h0 [] := Keep.refl h0 _
  refine own_iload (pc' := 2) B X0 d3_0 rfl rfl ?_
  refine own_iloadN (pc' := 3) B X0 d3_2 rfl rfl ?_
  refine own_icmpYes (pc' := 8) B X0 d3_3 (tlt (by decide : (1 : Int32) < (4 : Int32))).1 (by decide) rfl ?_
  refine own_aloadN (pc' := 9) B X0 d3_8 rfl rfl rfl ?_
  refine own_iload (pc' := 11) B X0 d3_9 rfl rfl ?_
  refine own_baload (pc' := 12) B X0 V_w0 (v := (.int p3)) ⟨by decide, by decide⟩ rfl d3_11 rfl ?_
  refine own_aloadN (pc' := 13) B X0 d3_12 rfl rfl rfl ?_
  refine own_iload (pc' := 15) B X0 d3_13 rfl rfl ?_
  refine own_baload (pc' := 16) B X0 V_w9 (v := (.int p3)) ⟨by decide, by decide⟩ rfl d3_15 rfl ?_
  refine own_icmpYes (pc' := 21) B X0 d3_16 (teq rfl).1 (by decide) rfl ?_
  refine own_iload (pc' := 23) B X0 d3_21 rfl rfl ?_
  refine own_iload (pc' := 25) B X0 d3_23 rfl rfl ?_
  refine own_icmpYes (pc' := 42) B X0 d3_25 (tlt (by decide : (1 : Int32) < (4 : Int32))).1 (by decide) rfl ?_
  refine own_iload (pc' := 44) B X0 d3_42 rfl rfl ?_
  refine own_iload (pc' := 46) B X0 d3_44 rfl rfl ?_
  refine own_iconst (pc' := 47) B X0 (z := (1 : Int32)) d3_46 rfl rfl ?_
  refine own_isub (pc' := 48) B X0 (z := (3 : Int32)) d3_47 rfl (by decide) ?_
  refine own_icmpNo (pc' := 51) B X0 d3_48 (tlt (by decide : (1 : Int32) < (3 : Int32))).2.1 rfl ?_
  refine own_aloadN (pc' := 52) B X0 d3_51 rfl rfl rfl ?_
  refine own_iload (pc' := 54) B X0 d3_52 rfl rfl ?_
  refine own_baload (pc' := 55) B X0 V_w6 (v := (.int p3)) ⟨by decide, by decide⟩ rfl d3_54 rfl ?_
  refine own_aloadN (pc' := 56) B X0 d3_55 rfl rfl rfl ?_
  refine own_iload (pc' := 58) B X0 d3_56 rfl rfl ?_
  refine own_baload (pc' := 59) B X0 V_w0 (v := (.int p3)) ⟨by decide, by decide⟩ rfl d3_58 rfl ?_
  refine own_icmpNo (pc' := 62) B X0 d3_59 (teq rfl).2 rfl ?_
  refine own_iconst (pc' := 63) B X0 (z := (1 : Int32)) d3_62 rfl rfl ?_
  refine own_goto (pc' := 67) B X0 d3_63 (by decide) rfl ?_
  exact own_retN B X0 (t := .boolean) (z' := (1 : Int32)) (by simp) (by decide) d3_67 (by decide) (by decide) (⟨rfl, rfl⟩)
def Q_81 (Z : State) (w0 : Addr) (kw0 : ClassId) (p2 : Int32) (p3 : Int32) (p4 : Int32) (p5 : Int32) (w6 : Addr) (kw6 : ClassId) (p8 : Int32) (w9 : Addr) (kw9 : ClassId) (p11 : Int32) (p12 : Int32) (p13 : Int32) (p14 : Int32) (p15 : Int32) (p16 : Int32) (p17 : Int32) (p18 : Int32) (p19 : Int32) (h0 : Heap) (n0 : Nat) (v : Option Value) (h : Heap) : Prop :=
  (v = some (.int (1 : Int32)) ∧ h0 = h)
set_option maxRecDepth 65536 in
set_option maxHeartbeats 40000000 in
theorem rm_81 (l : Launch) (Z : State) (a0 : Array Value) (hw : ∀ d ∈ tables_1, d.before a0 Z = true) (ws : List Jvm.Cond) (w0 : Addr) (kw0 : ClassId) (p2 : Int32) (p3 : Int32) (p4 : Int32) (p5 : Int32) (w6 : Addr) (kw6 : ClassId) (p8 : Int32) (w9 : Addr) (kw9 : ClassId) (p11 : Int32) (p12 : Int32) (p13 : Int32) (p14 : Int32) (p15 : Int32) (p16 : Int32) (p17 : Int32) (p18 : Int32) (p19 : Int32) (h0 : Heap) (n0 : Nat) (Z0 : n0 ≤ h0.size) (E_w0 : Exa Z h0 w0 "[B") (V_w0 : Arv Z h0 w0 kw0 .byte (4 : Int32) [(.int p2), (.int p3), (.int p4), (.int p5)] (.int (0 : Int32))) (g_w0 : n0 ≤ w0) (E_w6 : Exa Z h0 w6 "[B") (V_w6 : Arv Z h0 w6 kw6 .byte (4 : Int32) [(.int p2), (.int p3), (.int p4), (.int p8)] (.int (0 : Int32))) (g_w6 : n0 ≤ w6) (E_w9 : Exa Z h0 w9 "[B") (V_w9 : Arv Z h0 w9 kw9 .byte (4 : Int32) [(.int p2), (.int p3), (.int p4), (.int p5)] (.int (0 : Int32))) (g_w9 : n0 ≤ w9) (ne_w0_w6 : w0 ≠ w6) (ne_w0_w9 : w0 ≠ w9) (ne_w6_w9 : w6 ≠ w9) (hp0 : p11.toInt8.toInt32 = p2) (hp1 : p12.toInt8.toInt32 = p3) (hp2 : p13.toInt8.toInt32 = p4) (hp3 : p14.toInt8.toInt32 = p5) (hp4 : p15.toInt8.toInt32 = p8) (hp5 : own_F_pick p16 = p11) (hp6 : own_F_pick p17 = p12) (hp7 : own_F_pick p18 = p13) (hp8 : own_F_pick p19 = p14) (hp9 : p5 + (1 : Int32) = p15) (hp10 : ¬ (p5 = (-1 : Int32))) :
    MetFree l (⟨"com/example/keyer/keyer/QuerySuccessorPinLaw", "ok", "([B[B[BIII)Z"⟩ : MethodName) (head1 (Jvm.Cond.code (⟨"com/example/keyer/keyer/QuerySuccessorPinLaw", "ok", "([B[B[BIII)Z"⟩ : MethodName) method_3_code 6 (some .boolean) :: ws) ({ frames := 0, cells := 0, slots := 0, locals := 0 } : Room)) (fun a U => a = #[(.ref w0), (.ref w6), (.ref w9), (.int (4 : Int32)), (.int (4 : Int32)), (.int (2 : Int32))] ∧ Z.Warmed39 U.vm ∧ U.heap = h0) (fun _ _ _ _ _ => True) (fun _ U o U' => ∃ v L, o = .returned v ∧ (Fr n0 L ∧ Q_81 Z w0 kw0 p2 p3 p4 p5 w6 kw6 p8 w9 kw9 p11 p12 p13 p14 p15 p16 p17 p18 p19 h0 n0 v U'.heap) ∧ FrameEnd U o U' L ({ frames := 0, cells := 0, slots := 0, locals := 0 } : Room).cells ({ frames := 0, cells := 0, slots := 0, locals := 0 } : Room).slots) := by
  refine own_enter (Q := Q_81 Z w0 kw0 p2 p3 p4 p5 w6 kw6 p8 w9 kw9 p11 p12 p13 p14 p15 p16 p17 p18 p19 h0 n0) (F := fun m => mkF m 0 #[.val (.ref w0), .val (.ref w6), .val (.ref w9), .val (.int (4 : Int32)), .val (.int (4 : Int32)), .val (.int (2 : Int32))] []) (plainFor_of_name pn_0) (fun m => by first | (simp [entryFrame, mkF, argsToLocals, Value.category]; done) | rfl) ?_
  intro p e s m below meth c s₁ B X0
  have K : Keep h0 h0 [] := Keep.refl h0 _
  refine own_iload (pc' := 2) B X0 d3_0 rfl rfl ?_
  refine own_iloadN (pc' := 3) B X0 d3_2 rfl rfl ?_
  refine own_icmpYes (pc' := 8) B X0 d3_3 (tlt (by decide : (2 : Int32) < (4 : Int32))).1 (by decide) rfl ?_
  refine own_aloadN (pc' := 9) B X0 d3_8 rfl rfl rfl ?_
  refine own_iload (pc' := 11) B X0 d3_9 rfl rfl ?_
  refine own_baload (pc' := 12) B X0 V_w0 (v := (.int p4)) ⟨by decide, by decide⟩ rfl d3_11 rfl ?_
  refine own_aloadN (pc' := 13) B X0 d3_12 rfl rfl rfl ?_
  refine own_iload (pc' := 15) B X0 d3_13 rfl rfl ?_
  refine own_baload (pc' := 16) B X0 V_w9 (v := (.int p4)) ⟨by decide, by decide⟩ rfl d3_15 rfl ?_
  refine own_icmpYes (pc' := 21) B X0 d3_16 (teq rfl).1 (by decide) rfl ?_
  refine own_iload (pc' := 23) B X0 d3_21 rfl rfl ?_
  refine own_iload (pc' := 25) B X0 d3_23 rfl rfl ?_
  refine own_icmpYes (pc' := 42) B X0 d3_25 (tlt (by decide : (2 : Int32) < (4 : Int32))).1 (by decide) rfl ?_
  refine own_iload (pc' := 44) B X0 d3_42 rfl rfl ?_
  refine own_iload (pc' := 46) B X0 d3_44 rfl rfl ?_
  refine own_iconst (pc' := 47) B X0 (z := (1 : Int32)) d3_46 rfl rfl ?_
  refine own_isub (pc' := 48) B X0 (z := (3 : Int32)) d3_47 rfl (by decide) ?_
  refine own_icmpNo (pc' := 51) B X0 d3_48 (tlt (by decide : (2 : Int32) < (3 : Int32))).2.1 rfl ?_
  refine own_aloadN (pc' := 52) B X0 d3_51 rfl rfl rfl ?_
  refine own_iload (pc' := 54) B X0 d3_52 rfl rfl ?_
  refine own_baload (pc' := 55) B X0 V_w6 (v := (.int p4)) ⟨by decide, by decide⟩ rfl d3_54 rfl ?_
  refine own_aloadN (pc' := 56) B X0 d3_55 rfl rfl rfl ?_
  refine own_iload (pc' := 58) B X0 d3_56 rfl rfl ?_
  refine own_baload (pc' := 59) B X0 V_w0 (v := (.int p4)) ⟨by decide, by decide⟩ rfl d3_58 rfl ?_
  refine own_icmpNo (pc' := 62) B X0 d3_59 (teq rfl).2 rfl ?_
  refine own_iconst (pc' := 63) B X0 (z := (1 : Int32)) d3_62 rfl rfl ?_
  refine own_goto (pc' := 67) B X0 d3_63 (by decide) rfl ?_
  exact own_retN B X0 (t := .boolean) (z' := (1 : Int32)) (by simp) (by decide) d3_67 (by decide) (by decide) (⟨rfl, rfl⟩)
def Q_82 (Z : State) (w0 : Addr) (kw0 : ClassId) (p2 : Int32) (p3 : Int32) (p4 : Int32) (p5 : Int32) (w6 : Addr) (kw6 : ClassId) (p8 : Int32) (w9 : Addr) (kw9 : ClassId) (p11 : Int32) (p12 : Int32) (p13 : Int32) (p14 : Int32) (p15 : Int32) (p16 : Int32) (p17 : Int32) (p18 : Int32) (p19 : Int32) (h0 : Heap) (n0 : Nat) (v : Option Value) (h : Heap) : Prop :=
  (v = some (.int (1 : Int32)) ∧ h0 = h)
set_option maxRecDepth 65536 in
set_option maxHeartbeats 40000000 in
theorem rm_82 (l : Launch) (Z : State) (a0 : Array Value) (hw : ∀ d ∈ tables_1, d.before a0 Z = true) (ws : List Jvm.Cond) (w0 : Addr) (kw0 : ClassId) (p2 : Int32) (p3 : Int32) (p4 : Int32) (p5 : Int32) (w6 : Addr) (kw6 : ClassId) (p8 : Int32) (w9 : Addr) (kw9 : ClassId) (p11 : Int32) (p12 : Int32) (p13 : Int32) (p14 : Int32) (p15 : Int32) (p16 : Int32) (p17 : Int32) (p18 : Int32) (p19 : Int32) (h0 : Heap) (n0 : Nat) (Z0 : n0 ≤ h0.size) (E_w0 : Exa Z h0 w0 "[B") (V_w0 : Arv Z h0 w0 kw0 .byte (4 : Int32) [(.int p2), (.int p3), (.int p4), (.int p5)] (.int (0 : Int32))) (g_w0 : n0 ≤ w0) (E_w6 : Exa Z h0 w6 "[B") (V_w6 : Arv Z h0 w6 kw6 .byte (4 : Int32) [(.int p2), (.int p3), (.int p4), (.int p8)] (.int (0 : Int32))) (g_w6 : n0 ≤ w6) (E_w9 : Exa Z h0 w9 "[B") (V_w9 : Arv Z h0 w9 kw9 .byte (4 : Int32) [(.int p2), (.int p3), (.int p4), (.int p5)] (.int (0 : Int32))) (g_w9 : n0 ≤ w9) (ne_w0_w6 : w0 ≠ w6) (ne_w0_w9 : w0 ≠ w9) (ne_w6_w9 : w6 ≠ w9) (hp0 : p11.toInt8.toInt32 = p2) (hp1 : p12.toInt8.toInt32 = p3) (hp2 : p13.toInt8.toInt32 = p4) (hp3 : p14.toInt8.toInt32 = p5) (hp4 : p15.toInt8.toInt32 = p8) (hp5 : own_F_pick p16 = p11) (hp6 : own_F_pick p17 = p12) (hp7 : own_F_pick p18 = p13) (hp8 : own_F_pick p19 = p14) (hp9 : p5 + (1 : Int32) = p15) (hp10 : ¬ (p5 = (-1 : Int32))) :
    MetFree l (⟨"com/example/keyer/keyer/QuerySuccessorPinLaw", "ok", "([B[B[BIII)Z"⟩ : MethodName) (head1 (Jvm.Cond.code (⟨"com/example/keyer/keyer/QuerySuccessorPinLaw", "ok", "([B[B[BIII)Z"⟩ : MethodName) method_3_code 6 (some .boolean) :: ws) ({ frames := 0, cells := 0, slots := 0, locals := 0 } : Room)) (fun a U => a = #[(.ref w0), (.ref w6), (.ref w9), (.int (4 : Int32)), (.int (4 : Int32)), (.int (3 : Int32))] ∧ Z.Warmed39 U.vm ∧ U.heap = h0) (fun _ _ _ _ _ => True) (fun _ U o U' => ∃ v L, o = .returned v ∧ (Fr n0 L ∧ Q_82 Z w0 kw0 p2 p3 p4 p5 w6 kw6 p8 w9 kw9 p11 p12 p13 p14 p15 p16 p17 p18 p19 h0 n0 v U'.heap) ∧ FrameEnd U o U' L ({ frames := 0, cells := 0, slots := 0, locals := 0 } : Room).cells ({ frames := 0, cells := 0, slots := 0, locals := 0 } : Room).slots) := by
  refine own_enter (Q := Q_82 Z w0 kw0 p2 p3 p4 p5 w6 kw6 p8 w9 kw9 p11 p12 p13 p14 p15 p16 p17 p18 p19 h0 n0) (F := fun m => mkF m 0 #[.val (.ref w0), .val (.ref w6), .val (.ref w9), .val (.int (4 : Int32)), .val (.int (4 : Int32)), .val (.int (3 : Int32))] []) (plainFor_of_name pn_0) (fun m => by first | (simp [entryFrame, mkF, argsToLocals, Value.category]; done) | rfl) ?_
  intro p e s m below meth c s₁ B X0
  have K : Keep h0 h0 [] := Keep.refl h0 _
  refine own_iload (pc' := 2) B X0 d3_0 rfl rfl ?_
  refine own_iloadN (pc' := 3) B X0 d3_2 rfl rfl ?_
  refine own_icmpYes (pc' := 8) B X0 d3_3 (tlt (by decide : (3 : Int32) < (4 : Int32))).1 (by decide) rfl ?_
  refine own_aloadN (pc' := 9) B X0 d3_8 rfl rfl rfl ?_
  refine own_iload (pc' := 11) B X0 d3_9 rfl rfl ?_
  refine own_baload (pc' := 12) B X0 V_w0 (v := (.int p5)) ⟨by decide, by decide⟩ rfl d3_11 rfl ?_
  refine own_aloadN (pc' := 13) B X0 d3_12 rfl rfl rfl ?_
  refine own_iload (pc' := 15) B X0 d3_13 rfl rfl ?_
  refine own_baload (pc' := 16) B X0 V_w9 (v := (.int p5)) ⟨by decide, by decide⟩ rfl d3_15 rfl ?_
  refine own_icmpYes (pc' := 21) B X0 d3_16 (teq rfl).1 (by decide) rfl ?_
  refine own_iload (pc' := 23) B X0 d3_21 rfl rfl ?_
  refine own_iload (pc' := 25) B X0 d3_23 rfl rfl ?_
  refine own_icmpYes (pc' := 42) B X0 d3_25 (tlt (by decide : (3 : Int32) < (4 : Int32))).1 (by decide) rfl ?_
  refine own_iload (pc' := 44) B X0 d3_42 rfl rfl ?_
  refine own_iload (pc' := 46) B X0 d3_44 rfl rfl ?_
  refine own_iconst (pc' := 47) B X0 (z := (1 : Int32)) d3_46 rfl rfl ?_
  refine own_isub (pc' := 48) B X0 (z := (3 : Int32)) d3_47 rfl (by decide) ?_
  refine own_icmpYes (pc' := 68) B X0 d3_48 (flt (by decide : ¬ ((3 : Int32) < (3 : Int32)))).2.1 (by decide) rfl ?_
  refine own_aloadN (pc' := 69) B X0 d3_68 rfl rfl rfl ?_
  refine own_iload (pc' := 71) B X0 d3_69 rfl rfl ?_
  refine own_baload (pc' := 72) B X0 V_w0 (v := (.int p5)) ⟨by decide, by decide⟩ rfl d3_71 rfl ?_
  refine own_iconst (pc' := 73) B X0 (z := (-1 : Int32)) d3_72 rfl rfl ?_
  refine own_icmpNo (pc' := 76) B X0 d3_73 (feq hp10).1 rfl ?_
  refine own_aloadN (pc' := 77) B X0 d3_76 rfl rfl rfl ?_
  refine own_iload (pc' := 79) B X0 d3_77 rfl rfl ?_
  refine own_baload (pc' := 80) B X0 V_w6 (v := (.int p8)) ⟨by decide, by decide⟩ rfl d3_79 rfl ?_
  refine own_aloadN (pc' := 81) B X0 d3_80 rfl rfl rfl ?_
  refine own_iload (pc' := 83) B X0 d3_81 rfl rfl ?_
  refine own_baload (pc' := 84) B X0 V_w0 (v := (.int p5)) ⟨by decide, by decide⟩ rfl d3_83 rfl ?_
  refine own_iconst (pc' := 85) B X0 (z := (1 : Int32)) d3_84 rfl rfl ?_
  refine own_iadd (pc' := 86) B X0 d3_85 rfl hp9 ?_
  refine own_i2b (pc' := 87) B X0 d3_86 rfl hp4 ?_
  refine own_icmpNo (pc' := 90) B X0 d3_87 (teq rfl).2 rfl ?_
  refine own_iconst (pc' := 91) B X0 (z := (1 : Int32)) d3_90 rfl rfl ?_
  refine own_goto (pc' := 95) B X0 d3_91 (by decide) rfl ?_
  exact own_retN B X0 (t := .boolean) (z' := (1 : Int32)) (by simp) (by decide) d3_95 (by decide) (by decide) (⟨rfl, rfl⟩)
def Q_0 (Z : State) (i0 : Int32) (i1 : Int32) (i2 : Int32) (i3 : Int32) (i4 : Int32) (h0 : Heap) (n0 : Nat) (v : Option Value) (h : Heap) : Prop :=
  (v = some (.int (1 : Int32)))
set_option maxRecDepth 65536 in
set_option maxHeartbeats 40000000 in
theorem rm_0 (l : Launch) (Z : State) (a0 : Array Value) (hw : ∀ d ∈ tables_1, d.before a0 Z = true) (ws : List Jvm.Cond) (i0 : Int32) (i1 : Int32) (i2 : Int32) (i3 : Int32) (i4 : Int32) (h0 : Heap) (n0 : Nat) (Z0 : n0 ≤ h0.size)  :
    MetFree l x (head1 (Jvm.Cond.code x code maxLocals ret :: ws) room_1) (fun a U => a = #[(.int i0), (.int i1), (.int i2), (.int i3), (.int i4)] ∧ Z.Warmed39 U.vm ∧ U.heap = h0) (fun _ _ _ _ _ => True) (fun _ U o U' => ∃ v L, o = .returned v ∧ (Fr n0 L ∧ Q_0 Z i0 i1 i2 i3 i4 h0 n0 v U'.heap) ∧ FrameEnd U o U' L room_1.cells room_1.slots) := by
  refine own_enter (Q := Q_0 Z i0 i1 i2 i3 i4 h0 n0) (F := fun m => mkF m 0 #[.val (.int i0), .val (.int i1), .val (.int i2), .val (.int i3), .val (.int i4), .unset, .unset, .unset, .unset, .unset] []) (plainFor_of_name pn_0) (fun m => by first | (simp [entryFrame, mkF, argsToLocals, Value.category, maxLocals]; done) | rfl) ?_
  intro p e s m below meth c s₁ B X0
  have K : Keep h0 h0 [] := Keep.refl h0 _
  refine own_iloadN (pc' := 1) B X0 at_0 rfl rfl ?_
  refine own_ldcI (pc' := 3) B X0 (own_w hw 0 rfl) at_1 rfl ?_
  obtain ⟨y1, hy1⟩ : ∃ z : Int32, i0 &&& (2147483647 : Int32) = z := ⟨_, rfl⟩
  refine own_iand (pc' := 4) B X0 at_3 rfl hy1 ?_
  refine own_iconst (pc' := 5) B X0 (z := (5 : Int32)) at_4 rfl rfl ?_
  obtain ⟨y2, hy2⟩ : ∃ z : Int32, y1 % (5 : Int32) = z := ⟨_, rfl⟩
  refine own_irem (pc' := 6) B X0 at_5 rfl (by decide) hy2 ?_
  have z3 : y2.toInt = 0 ∨ y2.toInt = 1 ∨ y2.toInt = 2 ∨ y2.toInt = 3 ∨ y2.toInt = 4 := by
    have o0 := own_o_mask hy1 31 (by decide) (by decide)
    have o1 := own_o_irem hy2 5 (by decide)
    have o2 := rng32 i0
    have o3 := rng32 y1
    have o4 := rng32 y2
    have o5 : (2147483647 : Int32).toInt = 2147483647 := by decide
    have o6 : (5 : Int32).toInt = 5 := by decide
    omega
  rcases z3 with z3 | z3 | z3 | z3 | z3
  · obtain rfl : y2 = (0 : Int32) := Int32.toInt_inj.mp (z3.trans (by decide))
    refine own_istore (pc' := 8) B X0 (Ls' := #[.val (.int i0), .val (.int i1), .val (.int i2), .val (.int i3), .val (.int i4), .val (.int (0 : Int32)), .unset, .unset, .unset, .unset]) at_6 rfl rfl ?_
    refine own_iconst (pc' := 9) B X0 (z := (4 : Int32)) at_8 rfl rfl ?_
    refine own_newarray (pc' := 11) B X0 (own_w hw 1 rfl) at_9 rfl rfl (by decide) 4 (by decide) (by decide) (k' := 1) (n' := 4) rfl rfl (by decide) (by decide) "[B" (by decide) (.int (0 : Int32)) rfl ?_
    intro T4 h4 b4 kb4 X4 g4 E4 V_b4 E_b4
    have sz_b4 : h0.size ≤ b4 := own_sz K g4
    have g_b4 : n0 ≤ b4 := Nat.le_trans Z0 sz_b4
    replace K := K.ext E4
    replace V_b4 : Arv Z h4 b4 kb4 .byte (4 : Int32) [(.int (0 : Int32)), (.int (0 : Int32)), (.int (0 : Int32)), (.int (0 : Int32))] (.int (0 : Int32)) := V_b4.pad (pad_rep [] (.int (0 : Int32)) 4)
    refine own_dup (pc' := 12) B X4 at_11 rfl rfl ?_
    refine own_iconst (pc' := 13) B X4 (z := (0 : Int32)) at_12 rfl rfl ?_
    refine own_iloadN (pc' := 14) B X4 at_13 rfl rfl ?_
    refine own_callS (pc' := 17) B X4 (own_w hw 2 rfl) (own_w hw 3 rfl) (own_w hw 4 rfl) (own_w hw 5 rfl) (by decide) [(.int i1)] [(.int (0 : Int32)), (.ref b4), (.ref b4)] (rm_1 l Z a0 hw [] (i1) h4 n0 (Nat.le_trans Z0 K.1) ) 3 (by decide) (by decide) rfl pd_0 rfl rfl (Nat.le_of_eq rfl) at_14 rfl (k' := 1) (n' := 4) rfl rfl (by decide) (by decide) ?_
    intro T5 v5 h5 X5 q5
    obtain ⟨y6, hy7, rfl, rfl⟩ := q5
    show own_Go p e below (T5.setTop (mkF m 17 #[.val (.int i0), .val (.int i1), .val (.int i2), .val (.int i3), .val (.int i4), .val (.int (0 : Int32)), .unset, .unset, .unset, .unset] [(.int y6), (.int (0 : Int32)), (.ref b4), (.ref b4)])) _
    obtain ⟨y8, hy8⟩ : ∃ z : Int32, y6.toInt8.toInt32 = z := ⟨_, rfl⟩
    refine own_bastore (pc' := 18) B X5 (x' := y8) V_b4 g_b4 ⟨by decide, by decide⟩ 0 (by decide) (Nat.le_of_ble_eq_true rfl) hy8 at_17 rfl ?_
    intro T9 h9 X9 W9 V_b4
    replace V_b4 : Arv Z h9 b4 kb4 .byte (4 : Int32) [(.int y8), (.int (0 : Int32)), (.int (0 : Int32)), (.int (0 : Int32))] (.int (0 : Int32)) := V_b4
    replace E_b4 := E_b4.wr W9
    replace K := K.wr W9 (Or.inr sz_b4)
    refine own_dup (pc' := 19) B X9 at_18 rfl rfl ?_
    refine own_iconst (pc' := 20) B X9 (z := (1 : Int32)) at_19 rfl rfl ?_
    refine own_iloadN (pc' := 21) B X9 at_20 rfl rfl ?_
    refine own_callS (pc' := 24) B X9 (own_w hw 2 rfl) (own_w hw 3 rfl) (own_w hw 4 rfl) (own_w hw 5 rfl) (by decide) [(.int i2)] [(.int (1 : Int32)), (.ref b4), (.ref b4)] (rm_1 l Z a0 hw [] (i2) h9 n0 (Nat.le_trans Z0 K.1) ) 3 (by decide) (by decide) rfl pd_0 rfl rfl (Nat.le_of_eq rfl) at_21 rfl (k' := 1) (n' := 4) rfl rfl (by decide) (by decide) ?_
    intro T10 v10 h10 X10 q10
    obtain ⟨y11, hy12, rfl, rfl⟩ := q10
    show own_Go p e below (T10.setTop (mkF m 24 #[.val (.int i0), .val (.int i1), .val (.int i2), .val (.int i3), .val (.int i4), .val (.int (0 : Int32)), .unset, .unset, .unset, .unset] [(.int y11), (.int (1 : Int32)), (.ref b4), (.ref b4)])) _
    obtain ⟨y13, hy13⟩ : ∃ z : Int32, y11.toInt8.toInt32 = z := ⟨_, rfl⟩
    refine own_bastore (pc' := 25) B X10 (x' := y13) V_b4 g_b4 ⟨by decide, by decide⟩ 1 (by decide) (Nat.le_of_ble_eq_true rfl) hy13 at_24 rfl ?_
    intro T14 h14 X14 W14 V_b4
    replace V_b4 : Arv Z h14 b4 kb4 .byte (4 : Int32) [(.int y8), (.int y13), (.int (0 : Int32)), (.int (0 : Int32))] (.int (0 : Int32)) := V_b4
    replace E_b4 := E_b4.wr W14
    replace K := K.wr W14 (Or.inr sz_b4)
    refine own_dup (pc' := 26) B X14 at_25 rfl rfl ?_
    refine own_iconst (pc' := 27) B X14 (z := (2 : Int32)) at_26 rfl rfl ?_
    refine own_iloadN (pc' := 28) B X14 at_27 rfl rfl ?_
    refine own_callS (pc' := 31) B X14 (own_w hw 2 rfl) (own_w hw 3 rfl) (own_w hw 4 rfl) (own_w hw 5 rfl) (by decide) [(.int i3)] [(.int (2 : Int32)), (.ref b4), (.ref b4)] (rm_1 l Z a0 hw [] (i3) h14 n0 (Nat.le_trans Z0 K.1) ) 3 (by decide) (by decide) rfl pd_0 rfl rfl (Nat.le_of_eq rfl) at_28 rfl (k' := 1) (n' := 4) rfl rfl (by decide) (by decide) ?_
    intro T15 v15 h15 X15 q15
    obtain ⟨y16, hy17, rfl, rfl⟩ := q15
    show own_Go p e below (T15.setTop (mkF m 31 #[.val (.int i0), .val (.int i1), .val (.int i2), .val (.int i3), .val (.int i4), .val (.int (0 : Int32)), .unset, .unset, .unset, .unset] [(.int y16), (.int (2 : Int32)), (.ref b4), (.ref b4)])) _
    obtain ⟨y18, hy18⟩ : ∃ z : Int32, y16.toInt8.toInt32 = z := ⟨_, rfl⟩
    refine own_bastore (pc' := 32) B X15 (x' := y18) V_b4 g_b4 ⟨by decide, by decide⟩ 2 (by decide) (Nat.le_of_ble_eq_true rfl) hy18 at_31 rfl ?_
    intro T19 h19 X19 W19 V_b4
    replace V_b4 : Arv Z h19 b4 kb4 .byte (4 : Int32) [(.int y8), (.int y13), (.int y18), (.int (0 : Int32))] (.int (0 : Int32)) := V_b4
    replace E_b4 := E_b4.wr W19
    replace K := K.wr W19 (Or.inr sz_b4)
    refine own_dup (pc' := 33) B X19 at_32 rfl rfl ?_
    refine own_iconst (pc' := 34) B X19 (z := (3 : Int32)) at_33 rfl rfl ?_
    refine own_iload (pc' := 36) B X19 at_34 rfl rfl ?_
    refine own_callS (pc' := 39) B X19 (own_w hw 2 rfl) (own_w hw 3 rfl) (own_w hw 4 rfl) (own_w hw 5 rfl) (by decide) [(.int i4)] [(.int (3 : Int32)), (.ref b4), (.ref b4)] (rm_1 l Z a0 hw [] (i4) h19 n0 (Nat.le_trans Z0 K.1) ) 3 (by decide) (by decide) rfl pd_0 rfl rfl (Nat.le_of_eq rfl) at_36 rfl (k' := 1) (n' := 4) rfl rfl (by decide) (by decide) ?_
    intro T20 v20 h20 X20 q20
    obtain ⟨y21, hy22, rfl, rfl⟩ := q20
    show own_Go p e below (T20.setTop (mkF m 39 #[.val (.int i0), .val (.int i1), .val (.int i2), .val (.int i3), .val (.int i4), .val (.int (0 : Int32)), .unset, .unset, .unset, .unset] [(.int y21), (.int (3 : Int32)), (.ref b4), (.ref b4)])) _
    obtain ⟨y23, hy23⟩ : ∃ z : Int32, y21.toInt8.toInt32 = z := ⟨_, rfl⟩
    refine own_bastore (pc' := 40) B X20 (x' := y23) V_b4 g_b4 ⟨by decide, by decide⟩ 3 (by decide) (Nat.le_of_ble_eq_true rfl) hy23 at_39 rfl ?_
    intro T24 h24 X24 W24 V_b4
    replace V_b4 : Arv Z h24 b4 kb4 .byte (4 : Int32) [(.int y8), (.int y13), (.int y18), (.int y23)] (.int (0 : Int32)) := V_b4
    replace E_b4 := E_b4.wr W24
    replace K := K.wr W24 (Or.inr sz_b4)
    refine own_astore (pc' := 42) B X24 (Ls' := #[.val (.int i0), .val (.int i1), .val (.int i2), .val (.int i3), .val (.int i4), .val (.int (0 : Int32)), .val (.ref b4), .unset, .unset, .unset]) at_40 rfl rfl rfl ?_
    refine own_iload (pc' := 44) B X24 at_42 rfl rfl ?_
    refine own_newarray (pc' := 46) B X24 (own_w hw 1 rfl) at_44 rfl rfl (by decide) 0 (by decide) (by decide) (k' := 2) (n' := 4) rfl rfl (by decide) (by decide) "[B" (by decide) (.int (0 : Int32)) rfl ?_
    intro T25 h25 b25 kb25 X25 g25 E25 V_b25 E_b25
    have ne_b4_b25 : b4 ≠ b25 := own_ne E_b4.lt g25
    have sz_b25 : h0.size ≤ b25 := own_sz K g25
    have g_b25 : n0 ≤ b25 := Nat.le_trans Z0 sz_b25
    replace K := K.ext E25
    replace E_b4 := E_b4.ext E25
    replace V_b4 := V_b4.ext E25
    refine own_astore (pc' := 48) B X25 (Ls' := #[.val (.int i0), .val (.int i1), .val (.int i2), .val (.int i3), .val (.int i4), .val (.int (0 : Int32)), .val (.ref b4), .val (.ref b25), .unset, .unset]) at_46 rfl rfl rfl ?_
    refine own_iload (pc' := 50) B X25 at_48 rfl rfl ?_
    refine own_ifYes (pc' := 61) B X25 at_50 ((if0 _ _).trans (flt (by decide : ¬ ((0 : Int32) < (0 : Int32)))).2.2.2) (by decide) rfl ?_
    refine own_iload (pc' := 63) B X25 at_61 rfl rfl ?_
    refine own_iconst (pc' := 64) B X25 (z := (1 : Int32)) at_63 rfl rfl ?_
    refine own_icmpYes (pc' := 75) B X25 at_64 (flt (by decide : ¬ ((1 : Int32) < (0 : Int32)))).2.2.2 (by decide) rfl ?_
    refine own_iload (pc' := 77) B X25 at_75 rfl rfl ?_
    refine own_iconst (pc' := 78) B X25 (z := (2 : Int32)) at_77 rfl rfl ?_
    refine own_icmpYes (pc' := 89) B X25 at_78 (flt (by decide : ¬ ((2 : Int32) < (0 : Int32)))).2.2.2 (by decide) rfl ?_
    refine own_iload (pc' := 91) B X25 at_89 rfl rfl ?_
    refine own_iconst (pc' := 92) B X25 (z := (3 : Int32)) at_91 rfl rfl ?_
    refine own_icmpYes (pc' := 103) B X25 at_92 (flt (by decide : ¬ ((3 : Int32) < (0 : Int32)))).2.2.2 (by decide) rfl ?_
    refine own_aload (pc' := 105) B X25 at_103 rfl rfl rfl ?_
    refine own_callS (pc' := 108) B X25 (own_w hw 6 rfl) (own_w hw 7 rfl) (own_w hw 8 rfl) (own_w hw 9 rfl) (by decide) [(.ref b25)] [] (rm_2 l Z a0 hw [] b25 kb25 h25 n0 (Nat.le_trans Z0 K.1) E_b25 V_b25 g_b25) 0 (by decide) (by decide) rfl pd_1 rfl rfl (Nat.le_of_eq rfl) at_105 rfl (k' := 3) (n' := 4) rfl rfl (by decide) (by decide) ?_
    intro T26 v26 h26 X26 q26
    have lt_b4 := E_b4.lt
    have lt_b25 := E_b25.lt
    obtain ⟨b27, k28, rfl, K26, z_b27, E_b27, V_b27⟩ := q26
    have ne_b4_b27 : b4 ≠ b27 := own_ne' lt_b4 z_b27
    have ne_b25_b27 : b25 ≠ b27 := own_ne' lt_b25 z_b27
    have sz_b27 : h0.size ≤ b27 := Nat.le_trans K.1 z_b27
    have g_b27 : n0 ≤ b27 := Nat.le_trans Z0 sz_b27
    replace K := K.trans K26 all0
    replace E_b4 := E_b4.keep K26
    replace V_b4 := V_b4.keep K26 nin0
    replace E_b25 := E_b25.keep K26
    replace V_b25 := V_b25.keep K26 nin0
    show own_Go p e below (T26.setTop (mkF m 108 #[.val (.int i0), .val (.int i1), .val (.int i2), .val (.int i3), .val (.int i4), .val (.int (0 : Int32)), .val (.ref b4), .val (.ref b25), .unset, .unset] [(.ref b27)])) _
    refine own_astore (pc' := 110) B X26 (Ls' := #[.val (.int i0), .val (.int i1), .val (.int i2), .val (.int i3), .val (.int i4), .val (.int (0 : Int32)), .val (.ref b4), .val (.ref b25), .val (.ref b27), .unset]) at_108 rfl rfl rfl ?_
    refine own_aload (pc' := 112) B X26 at_110 rfl rfl rfl ?_
    refine own_arraylength (pc' := 113) B X26 V_b27 at_112 rfl ?_
    refine own_istore (pc' := 115) B X26 (Ls' := #[.val (.int i0), .val (.int i1), .val (.int i2), .val (.int i3), .val (.int i4), .val (.int (0 : Int32)), .val (.ref b4), .val (.ref b25), .val (.ref b27), .val (.int (0 : Int32))]) at_113 rfl rfl ?_
    refine own_iload (pc' := 117) B X26 at_115 rfl rfl ?_
    refine own_iload (pc' := 119) B X26 at_117 rfl rfl ?_
    refine own_icmpYes (pc' := 124) B X26 at_119 (flt (by decide : ¬ ((0 : Int32) < (0 : Int32)))).2.2.2 (by decide) rfl ?_
    refine own_aload (pc' := 126) B X26 at_124 rfl rfl rfl ?_
    refine own_aload (pc' := 128) B X26 at_126 rfl rfl rfl ?_
    refine own_aload (pc' := 130) B X26 at_128 rfl rfl rfl ?_
    refine own_iload (pc' := 132) B X26 at_130 rfl rfl ?_
    refine own_iload (pc' := 134) B X26 at_132 rfl rfl ?_
    refine own_iconst (pc' := 135) B X26 (z := (0 : Int32)) at_134 rfl rfl ?_
    refine own_callS (pc' := 138) B X26 (own_w hw 10 rfl) (own_w hw 11 rfl) (own_w hw 4 rfl) (own_w hw 12 rfl) (by decide) [(.ref b25), (.ref b27), (.ref b4), (.int (0 : Int32)), (.int (0 : Int32)), (.int (0 : Int32))] [] (rm_3 l Z a0 hw [] b25 kb25 b27 k28 b4 kb4 (y8) (y13) (y18) (y23) (y6) (y11) (y16) (y21) (i1) (i2) (i3) (i4) h26 n0 (Nat.le_trans Z0 K.1) E_b25 V_b25 g_b25 E_b27 V_b27 g_b27 E_b4 V_b4 g_b4 ne_b25_b27 (Ne.symm ne_b4_b25) (Ne.symm ne_b4_b27) hy8 hy13 hy18 hy23 hy7 hy12 hy17 hy22) 0 (by decide) (by decide) rfl pd_2 rfl rfl (Nat.le_of_eq rfl) at_135 rfl (k' := 3) (n' := 4) rfl rfl (by decide) (by decide) ?_
    intro T29 v29 h29 X29 q29
    obtain ⟨rfl, rfl⟩ := q29
    show own_Go p e below (T29.setTop (mkF m 138 #[.val (.int i0), .val (.int i1), .val (.int i2), .val (.int i3), .val (.int i4), .val (.int (0 : Int32)), .val (.ref b4), .val (.ref b25), .val (.ref b27), .val (.int (0 : Int32))] [(.int (1 : Int32))])) _
    refine own_ifNo (pc' := 141) B X29 at_138 ((if0 _ _).trans (feq (by decide : ¬ ((1 : Int32) = (0 : Int32)))).1) rfl ?_
    refine own_aload (pc' := 143) B X29 at_141 rfl rfl rfl ?_
    refine own_aload (pc' := 145) B X29 at_143 rfl rfl rfl ?_
    refine own_aload (pc' := 147) B X29 at_145 rfl rfl rfl ?_
    refine own_iload (pc' := 149) B X29 at_147 rfl rfl ?_
    refine own_iload (pc' := 151) B X29 at_149 rfl rfl ?_
    refine own_iconst (pc' := 152) B X29 (z := (1 : Int32)) at_151 rfl rfl ?_
    refine own_callS (pc' := 155) B X29 (own_w hw 10 rfl) (own_w hw 11 rfl) (own_w hw 4 rfl) (own_w hw 12 rfl) (by decide) [(.ref b25), (.ref b27), (.ref b4), (.int (0 : Int32)), (.int (0 : Int32)), (.int (1 : Int32))] [] (rm_4 l Z a0 hw [] b25 kb25 b27 k28 b4 kb4 (y8) (y13) (y18) (y23) (y6) (y11) (y16) (y21) (i1) (i2) (i3) (i4) h26 n0 (Nat.le_trans Z0 K.1) E_b25 V_b25 g_b25 E_b27 V_b27 g_b27 E_b4 V_b4 g_b4 ne_b25_b27 (Ne.symm ne_b4_b25) (Ne.symm ne_b4_b27) hy8 hy13 hy18 hy23 hy7 hy12 hy17 hy22) 0 (by decide) (by decide) rfl pd_2 rfl rfl (Nat.le_of_eq rfl) at_152 rfl (k' := 3) (n' := 4) rfl rfl (by decide) (by decide) ?_
    intro T30 v30 h30 X30 q30
    obtain ⟨rfl, rfl⟩ := q30
    show own_Go p e below (T30.setTop (mkF m 155 #[.val (.int i0), .val (.int i1), .val (.int i2), .val (.int i3), .val (.int i4), .val (.int (0 : Int32)), .val (.ref b4), .val (.ref b25), .val (.ref b27), .val (.int (0 : Int32))] [(.int (1 : Int32))])) _
    refine own_ifNo (pc' := 158) B X30 at_155 ((if0 _ _).trans (feq (by decide : ¬ ((1 : Int32) = (0 : Int32)))).1) rfl ?_
    refine own_aload (pc' := 160) B X30 at_158 rfl rfl rfl ?_
    refine own_aload (pc' := 162) B X30 at_160 rfl rfl rfl ?_
    refine own_aload (pc' := 164) B X30 at_162 rfl rfl rfl ?_
    refine own_iload (pc' := 166) B X30 at_164 rfl rfl ?_
    refine own_iload (pc' := 168) B X30 at_166 rfl rfl ?_
    refine own_iconst (pc' := 169) B X30 (z := (2 : Int32)) at_168 rfl rfl ?_
    refine own_callS (pc' := 172) B X30 (own_w hw 10 rfl) (own_w hw 11 rfl) (own_w hw 4 rfl) (own_w hw 12 rfl) (by decide) [(.ref b25), (.ref b27), (.ref b4), (.int (0 : Int32)), (.int (0 : Int32)), (.int (2 : Int32))] [] (rm_5 l Z a0 hw [] b25 kb25 b27 k28 b4 kb4 (y8) (y13) (y18) (y23) (y6) (y11) (y16) (y21) (i1) (i2) (i3) (i4) h26 n0 (Nat.le_trans Z0 K.1) E_b25 V_b25 g_b25 E_b27 V_b27 g_b27 E_b4 V_b4 g_b4 ne_b25_b27 (Ne.symm ne_b4_b25) (Ne.symm ne_b4_b27) hy8 hy13 hy18 hy23 hy7 hy12 hy17 hy22) 0 (by decide) (by decide) rfl pd_2 rfl rfl (Nat.le_of_eq rfl) at_169 rfl (k' := 3) (n' := 4) rfl rfl (by decide) (by decide) ?_
    intro T31 v31 h31 X31 q31
    obtain ⟨rfl, rfl⟩ := q31
    show own_Go p e below (T31.setTop (mkF m 172 #[.val (.int i0), .val (.int i1), .val (.int i2), .val (.int i3), .val (.int i4), .val (.int (0 : Int32)), .val (.ref b4), .val (.ref b25), .val (.ref b27), .val (.int (0 : Int32))] [(.int (1 : Int32))])) _
    refine own_ifNo (pc' := 175) B X31 at_172 ((if0 _ _).trans (feq (by decide : ¬ ((1 : Int32) = (0 : Int32)))).1) rfl ?_
    refine own_aload (pc' := 177) B X31 at_175 rfl rfl rfl ?_
    refine own_aload (pc' := 179) B X31 at_177 rfl rfl rfl ?_
    refine own_aload (pc' := 181) B X31 at_179 rfl rfl rfl ?_
    refine own_iload (pc' := 183) B X31 at_181 rfl rfl ?_
    refine own_iload (pc' := 185) B X31 at_183 rfl rfl ?_
    refine own_iconst (pc' := 186) B X31 (z := (3 : Int32)) at_185 rfl rfl ?_
    refine own_callS (pc' := 189) B X31 (own_w hw 10 rfl) (own_w hw 11 rfl) (own_w hw 4 rfl) (own_w hw 12 rfl) (by decide) [(.ref b25), (.ref b27), (.ref b4), (.int (0 : Int32)), (.int (0 : Int32)), (.int (3 : Int32))] [] (rm_6 l Z a0 hw [] b25 kb25 b27 k28 b4 kb4 (y8) (y13) (y18) (y23) (y6) (y11) (y16) (y21) (i1) (i2) (i3) (i4) h26 n0 (Nat.le_trans Z0 K.1) E_b25 V_b25 g_b25 E_b27 V_b27 g_b27 E_b4 V_b4 g_b4 ne_b25_b27 (Ne.symm ne_b4_b25) (Ne.symm ne_b4_b27) hy8 hy13 hy18 hy23 hy7 hy12 hy17 hy22) 0 (by decide) (by decide) rfl pd_2 rfl rfl (Nat.le_of_eq rfl) at_186 rfl (k' := 3) (n' := 4) rfl rfl (by decide) (by decide) ?_
    intro T32 v32 h32 X32 q32
    obtain ⟨rfl, rfl⟩ := q32
    show own_Go p e below (T32.setTop (mkF m 189 #[.val (.int i0), .val (.int i1), .val (.int i2), .val (.int i3), .val (.int i4), .val (.int (0 : Int32)), .val (.ref b4), .val (.ref b25), .val (.ref b27), .val (.int (0 : Int32))] [(.int (1 : Int32))])) _
    refine own_ifNo (pc' := 192) B X32 at_189 ((if0 _ _).trans (feq (by decide : ¬ ((1 : Int32) = (0 : Int32)))).1) rfl ?_
    refine own_iconst (pc' := 193) B X32 (z := (1 : Int32)) at_192 rfl rfl ?_
    refine own_goto (pc' := 197) B X32 at_193 (by decide) rfl ?_
    exact own_retN B X32 (t := .boolean) (z' := (1 : Int32)) (by simp) (by decide) at_197 (by decide) (by decide) rfl
  · obtain rfl : y2 = (1 : Int32) := Int32.toInt_inj.mp (z3.trans (by decide))
    refine own_istore (pc' := 8) B X0 (Ls' := #[.val (.int i0), .val (.int i1), .val (.int i2), .val (.int i3), .val (.int i4), .val (.int (1 : Int32)), .unset, .unset, .unset, .unset]) at_6 rfl rfl ?_
    refine own_iconst (pc' := 9) B X0 (z := (4 : Int32)) at_8 rfl rfl ?_
    refine own_newarray (pc' := 11) B X0 (own_w hw 1 rfl) at_9 rfl rfl (by decide) 4 (by decide) (by decide) (k' := 1) (n' := 4) rfl rfl (by decide) (by decide) "[B" (by decide) (.int (0 : Int32)) rfl ?_
    intro T33 h33 b33 kb33 X33 g33 E33 V_b33 E_b33
    have sz_b33 : h0.size ≤ b33 := own_sz K g33
    have g_b33 : n0 ≤ b33 := Nat.le_trans Z0 sz_b33
    replace K := K.ext E33
    replace V_b33 : Arv Z h33 b33 kb33 .byte (4 : Int32) [(.int (0 : Int32)), (.int (0 : Int32)), (.int (0 : Int32)), (.int (0 : Int32))] (.int (0 : Int32)) := V_b33.pad (pad_rep [] (.int (0 : Int32)) 4)
    refine own_dup (pc' := 12) B X33 at_11 rfl rfl ?_
    refine own_iconst (pc' := 13) B X33 (z := (0 : Int32)) at_12 rfl rfl ?_
    refine own_iloadN (pc' := 14) B X33 at_13 rfl rfl ?_
    refine own_callS (pc' := 17) B X33 (own_w hw 2 rfl) (own_w hw 3 rfl) (own_w hw 4 rfl) (own_w hw 5 rfl) (by decide) [(.int i1)] [(.int (0 : Int32)), (.ref b33), (.ref b33)] (rm_1 l Z a0 hw [] (i1) h33 n0 (Nat.le_trans Z0 K.1) ) 3 (by decide) (by decide) rfl pd_0 rfl rfl (Nat.le_of_eq rfl) at_14 rfl (k' := 1) (n' := 4) rfl rfl (by decide) (by decide) ?_
    intro T34 v34 h34 X34 q34
    obtain ⟨y35, hy36, rfl, rfl⟩ := q34
    show own_Go p e below (T34.setTop (mkF m 17 #[.val (.int i0), .val (.int i1), .val (.int i2), .val (.int i3), .val (.int i4), .val (.int (1 : Int32)), .unset, .unset, .unset, .unset] [(.int y35), (.int (0 : Int32)), (.ref b33), (.ref b33)])) _
    obtain ⟨y37, hy37⟩ : ∃ z : Int32, y35.toInt8.toInt32 = z := ⟨_, rfl⟩
    refine own_bastore (pc' := 18) B X34 (x' := y37) V_b33 g_b33 ⟨by decide, by decide⟩ 0 (by decide) (Nat.le_of_ble_eq_true rfl) hy37 at_17 rfl ?_
    intro T38 h38 X38 W38 V_b33
    replace V_b33 : Arv Z h38 b33 kb33 .byte (4 : Int32) [(.int y37), (.int (0 : Int32)), (.int (0 : Int32)), (.int (0 : Int32))] (.int (0 : Int32)) := V_b33
    replace E_b33 := E_b33.wr W38
    replace K := K.wr W38 (Or.inr sz_b33)
    refine own_dup (pc' := 19) B X38 at_18 rfl rfl ?_
    refine own_iconst (pc' := 20) B X38 (z := (1 : Int32)) at_19 rfl rfl ?_
    refine own_iloadN (pc' := 21) B X38 at_20 rfl rfl ?_
    refine own_callS (pc' := 24) B X38 (own_w hw 2 rfl) (own_w hw 3 rfl) (own_w hw 4 rfl) (own_w hw 5 rfl) (by decide) [(.int i2)] [(.int (1 : Int32)), (.ref b33), (.ref b33)] (rm_1 l Z a0 hw [] (i2) h38 n0 (Nat.le_trans Z0 K.1) ) 3 (by decide) (by decide) rfl pd_0 rfl rfl (Nat.le_of_eq rfl) at_21 rfl (k' := 1) (n' := 4) rfl rfl (by decide) (by decide) ?_
    intro T39 v39 h39 X39 q39
    obtain ⟨y40, hy41, rfl, rfl⟩ := q39
    show own_Go p e below (T39.setTop (mkF m 24 #[.val (.int i0), .val (.int i1), .val (.int i2), .val (.int i3), .val (.int i4), .val (.int (1 : Int32)), .unset, .unset, .unset, .unset] [(.int y40), (.int (1 : Int32)), (.ref b33), (.ref b33)])) _
    obtain ⟨y42, hy42⟩ : ∃ z : Int32, y40.toInt8.toInt32 = z := ⟨_, rfl⟩
    refine own_bastore (pc' := 25) B X39 (x' := y42) V_b33 g_b33 ⟨by decide, by decide⟩ 1 (by decide) (Nat.le_of_ble_eq_true rfl) hy42 at_24 rfl ?_
    intro T43 h43 X43 W43 V_b33
    replace V_b33 : Arv Z h43 b33 kb33 .byte (4 : Int32) [(.int y37), (.int y42), (.int (0 : Int32)), (.int (0 : Int32))] (.int (0 : Int32)) := V_b33
    replace E_b33 := E_b33.wr W43
    replace K := K.wr W43 (Or.inr sz_b33)
    refine own_dup (pc' := 26) B X43 at_25 rfl rfl ?_
    refine own_iconst (pc' := 27) B X43 (z := (2 : Int32)) at_26 rfl rfl ?_
    refine own_iloadN (pc' := 28) B X43 at_27 rfl rfl ?_
    refine own_callS (pc' := 31) B X43 (own_w hw 2 rfl) (own_w hw 3 rfl) (own_w hw 4 rfl) (own_w hw 5 rfl) (by decide) [(.int i3)] [(.int (2 : Int32)), (.ref b33), (.ref b33)] (rm_1 l Z a0 hw [] (i3) h43 n0 (Nat.le_trans Z0 K.1) ) 3 (by decide) (by decide) rfl pd_0 rfl rfl (Nat.le_of_eq rfl) at_28 rfl (k' := 1) (n' := 4) rfl rfl (by decide) (by decide) ?_
    intro T44 v44 h44 X44 q44
    obtain ⟨y45, hy46, rfl, rfl⟩ := q44
    show own_Go p e below (T44.setTop (mkF m 31 #[.val (.int i0), .val (.int i1), .val (.int i2), .val (.int i3), .val (.int i4), .val (.int (1 : Int32)), .unset, .unset, .unset, .unset] [(.int y45), (.int (2 : Int32)), (.ref b33), (.ref b33)])) _
    obtain ⟨y47, hy47⟩ : ∃ z : Int32, y45.toInt8.toInt32 = z := ⟨_, rfl⟩
    refine own_bastore (pc' := 32) B X44 (x' := y47) V_b33 g_b33 ⟨by decide, by decide⟩ 2 (by decide) (Nat.le_of_ble_eq_true rfl) hy47 at_31 rfl ?_
    intro T48 h48 X48 W48 V_b33
    replace V_b33 : Arv Z h48 b33 kb33 .byte (4 : Int32) [(.int y37), (.int y42), (.int y47), (.int (0 : Int32))] (.int (0 : Int32)) := V_b33
    replace E_b33 := E_b33.wr W48
    replace K := K.wr W48 (Or.inr sz_b33)
    refine own_dup (pc' := 33) B X48 at_32 rfl rfl ?_
    refine own_iconst (pc' := 34) B X48 (z := (3 : Int32)) at_33 rfl rfl ?_
    refine own_iload (pc' := 36) B X48 at_34 rfl rfl ?_
    refine own_callS (pc' := 39) B X48 (own_w hw 2 rfl) (own_w hw 3 rfl) (own_w hw 4 rfl) (own_w hw 5 rfl) (by decide) [(.int i4)] [(.int (3 : Int32)), (.ref b33), (.ref b33)] (rm_1 l Z a0 hw [] (i4) h48 n0 (Nat.le_trans Z0 K.1) ) 3 (by decide) (by decide) rfl pd_0 rfl rfl (Nat.le_of_eq rfl) at_36 rfl (k' := 1) (n' := 4) rfl rfl (by decide) (by decide) ?_
    intro T49 v49 h49 X49 q49
    obtain ⟨y50, hy51, rfl, rfl⟩ := q49
    show own_Go p e below (T49.setTop (mkF m 39 #[.val (.int i0), .val (.int i1), .val (.int i2), .val (.int i3), .val (.int i4), .val (.int (1 : Int32)), .unset, .unset, .unset, .unset] [(.int y50), (.int (3 : Int32)), (.ref b33), (.ref b33)])) _
    obtain ⟨y52, hy52⟩ : ∃ z : Int32, y50.toInt8.toInt32 = z := ⟨_, rfl⟩
    refine own_bastore (pc' := 40) B X49 (x' := y52) V_b33 g_b33 ⟨by decide, by decide⟩ 3 (by decide) (Nat.le_of_ble_eq_true rfl) hy52 at_39 rfl ?_
    intro T53 h53 X53 W53 V_b33
    replace V_b33 : Arv Z h53 b33 kb33 .byte (4 : Int32) [(.int y37), (.int y42), (.int y47), (.int y52)] (.int (0 : Int32)) := V_b33
    replace E_b33 := E_b33.wr W53
    replace K := K.wr W53 (Or.inr sz_b33)
    refine own_astore (pc' := 42) B X53 (Ls' := #[.val (.int i0), .val (.int i1), .val (.int i2), .val (.int i3), .val (.int i4), .val (.int (1 : Int32)), .val (.ref b33), .unset, .unset, .unset]) at_40 rfl rfl rfl ?_
    refine own_iload (pc' := 44) B X53 at_42 rfl rfl ?_
    refine own_newarray (pc' := 46) B X53 (own_w hw 1 rfl) at_44 rfl rfl (by decide) 1 (by decide) (by decide) (k' := 2) (n' := 5) rfl rfl (by decide) (by decide) "[B" (by decide) (.int (0 : Int32)) rfl ?_
    intro T54 h54 b54 kb54 X54 g54 E54 V_b54 E_b54
    have ne_b33_b54 : b33 ≠ b54 := own_ne E_b33.lt g54
    have sz_b54 : h0.size ≤ b54 := own_sz K g54
    have g_b54 : n0 ≤ b54 := Nat.le_trans Z0 sz_b54
    replace K := K.ext E54
    replace E_b33 := E_b33.ext E54
    replace V_b33 := V_b33.ext E54
    replace V_b54 : Arv Z h54 b54 kb54 .byte (1 : Int32) [(.int (0 : Int32))] (.int (0 : Int32)) := V_b54.pad (pad_rep [] (.int (0 : Int32)) 1)
    refine own_astore (pc' := 48) B X54 (Ls' := #[.val (.int i0), .val (.int i1), .val (.int i2), .val (.int i3), .val (.int i4), .val (.int (1 : Int32)), .val (.ref b33), .val (.ref b54), .unset, .unset]) at_46 rfl rfl rfl ?_
    refine own_iload (pc' := 50) B X54 at_48 rfl rfl ?_
    refine own_ifNo (pc' := 53) B X54 at_50 ((if0 _ _).trans (tlt (by decide : (0 : Int32) < (1 : Int32))).2.2.2) rfl ?_
    refine own_aload (pc' := 55) B X54 at_53 rfl rfl rfl ?_
    refine own_iconst (pc' := 56) B X54 (z := (0 : Int32)) at_55 rfl rfl ?_
    refine own_aload (pc' := 58) B X54 at_56 rfl rfl rfl ?_
    refine own_iconst (pc' := 59) B X54 (z := (0 : Int32)) at_58 rfl rfl ?_
    refine own_baload (pc' := 60) B X54 V_b33 (v := (.int y37)) ⟨by decide, by decide⟩ rfl at_59 rfl ?_
    refine own_bastore (pc' := 61) B X54 (x' := y37) V_b54 g_b54 ⟨by decide, by decide⟩ 0 (by decide) (Nat.le_of_ble_eq_true rfl) (own_idem_i2b hy37) at_60 rfl ?_
    intro T55 h55 X55 W55 V_b54
    replace V_b54 : Arv Z h55 b54 kb54 .byte (1 : Int32) [(.int y37)] (.int (0 : Int32)) := V_b54
    replace E_b33 := E_b33.wr W55
    replace V_b33 := V_b33.other W55 ne_b33_b54
    replace E_b54 := E_b54.wr W55
    replace K := K.wr W55 (Or.inr sz_b54)
    refine own_iload (pc' := 63) B X55 at_61 rfl rfl ?_
    refine own_iconst (pc' := 64) B X55 (z := (1 : Int32)) at_63 rfl rfl ?_
    refine own_icmpYes (pc' := 75) B X55 at_64 (flt (by decide : ¬ ((1 : Int32) < (1 : Int32)))).2.2.2 (by decide) rfl ?_
    refine own_iload (pc' := 77) B X55 at_75 rfl rfl ?_
    refine own_iconst (pc' := 78) B X55 (z := (2 : Int32)) at_77 rfl rfl ?_
    refine own_icmpYes (pc' := 89) B X55 at_78 (flt (by decide : ¬ ((2 : Int32) < (1 : Int32)))).2.2.2 (by decide) rfl ?_
    refine own_iload (pc' := 91) B X55 at_89 rfl rfl ?_
    refine own_iconst (pc' := 92) B X55 (z := (3 : Int32)) at_91 rfl rfl ?_
    refine own_icmpYes (pc' := 103) B X55 at_92 (flt (by decide : ¬ ((3 : Int32) < (1 : Int32)))).2.2.2 (by decide) rfl ?_
    refine own_aload (pc' := 105) B X55 at_103 rfl rfl rfl ?_
    refine own_callS (pc' := 108) B X55 (own_w hw 6 rfl) (own_w hw 7 rfl) (own_w hw 8 rfl) (own_w hw 9 rfl) (by decide) [(.ref b54)] [] (rm_7 l Z a0 hw [] b54 kb54 (y37) (y35) (i1) h55 n0 (Nat.le_trans Z0 K.1) E_b54 V_b54 g_b54 hy37 hy36) 0 (by decide) (by decide) rfl pd_1 rfl rfl (Nat.le_of_eq rfl) at_105 rfl (k' := 3) (n' := 6) rfl rfl (by decide) (by decide) ?_
    intro T56 v56 h56 X56 q56
    have lt_b33 := E_b33.lt
    have lt_b54 := E_b54.lt
    rcases q56 with ⟨b57, k58, c59, rfl, K56, z_b57, E_b57, V_b57⟩ | ⟨y60, y61, b62, c63, hy64, hy65, rfl, K56, z_b62, E_b62, V_b62⟩
    · have ne_b33_b57 : b33 ≠ b57 := own_ne' lt_b33 z_b57
      have ne_b54_b57 : b54 ≠ b57 := own_ne' lt_b54 z_b57
      have sz_b57 : h0.size ≤ b57 := Nat.le_trans K.1 z_b57
      have g_b57 : n0 ≤ b57 := Nat.le_trans Z0 sz_b57
      replace K := K.trans K56 all0
      replace E_b33 := E_b33.keep K56
      replace V_b33 := V_b33.keep K56 nin0
      replace E_b54 := E_b54.keep K56
      replace V_b54 := V_b54.keep K56 nin0
      show own_Go p e below (T56.setTop (mkF m 108 #[.val (.int i0), .val (.int i1), .val (.int i2), .val (.int i3), .val (.int i4), .val (.int (1 : Int32)), .val (.ref b33), .val (.ref b54), .unset, .unset] [(.ref b57)])) _
      refine own_astore (pc' := 110) B X56 (Ls' := #[.val (.int i0), .val (.int i1), .val (.int i2), .val (.int i3), .val (.int i4), .val (.int (1 : Int32)), .val (.ref b33), .val (.ref b54), .val (.ref b57), .unset]) at_108 rfl rfl rfl ?_
      refine own_aload (pc' := 112) B X56 at_110 rfl rfl rfl ?_
      refine own_arraylength (pc' := 113) B X56 V_b57 at_112 rfl ?_
      refine own_istore (pc' := 115) B X56 (Ls' := #[.val (.int i0), .val (.int i1), .val (.int i2), .val (.int i3), .val (.int i4), .val (.int (1 : Int32)), .val (.ref b33), .val (.ref b54), .val (.ref b57), .val (.int (0 : Int32))]) at_113 rfl rfl ?_
      refine own_iload (pc' := 117) B X56 at_115 rfl rfl ?_
      refine own_iload (pc' := 119) B X56 at_117 rfl rfl ?_
      refine own_icmpYes (pc' := 124) B X56 at_119 (flt (by decide : ¬ ((1 : Int32) < (0 : Int32)))).2.2.2 (by decide) rfl ?_
      refine own_aload (pc' := 126) B X56 at_124 rfl rfl rfl ?_
      refine own_aload (pc' := 128) B X56 at_126 rfl rfl rfl ?_
      refine own_aload (pc' := 130) B X56 at_128 rfl rfl rfl ?_
      refine own_iload (pc' := 132) B X56 at_130 rfl rfl ?_
      refine own_iload (pc' := 134) B X56 at_132 rfl rfl ?_
      refine own_iconst (pc' := 135) B X56 (z := (0 : Int32)) at_134 rfl rfl ?_
      refine own_callS (pc' := 138) B X56 (own_w hw 10 rfl) (own_w hw 11 rfl) (own_w hw 4 rfl) (own_w hw 12 rfl) (by decide) [(.ref b54), (.ref b57), (.ref b33), (.int (1 : Int32)), (.int (0 : Int32)), (.int (0 : Int32))] [] (rm_9 l Z a0 hw [] b54 kb54 (y37) b57 k58 b33 kb33 (y42) (y47) (y52) (y35) (y40) (y45) (y50) (i1) (i2) (i3) (i4) h56 n0 (Nat.le_trans Z0 K.1) E_b54 V_b54 g_b54 E_b57 V_b57 g_b57 E_b33 V_b33 g_b33 ne_b54_b57 (Ne.symm ne_b33_b54) (Ne.symm ne_b33_b57) hy37 hy42 hy47 hy52 hy36 hy41 hy46 hy51 c59) 0 (by decide) (by decide) rfl pd_2 rfl rfl (Nat.le_of_eq rfl) at_135 rfl (k' := 3) (n' := 6) rfl rfl (by decide) (by decide) ?_
      intro T66 v66 h66 X66 q66
      obtain ⟨rfl, rfl⟩ := q66
      show own_Go p e below (T66.setTop (mkF m 138 #[.val (.int i0), .val (.int i1), .val (.int i2), .val (.int i3), .val (.int i4), .val (.int (1 : Int32)), .val (.ref b33), .val (.ref b54), .val (.ref b57), .val (.int (0 : Int32))] [(.int (1 : Int32))])) _
      refine own_ifNo (pc' := 141) B X66 at_138 ((if0 _ _).trans (feq (by decide : ¬ ((1 : Int32) = (0 : Int32)))).1) rfl ?_
      refine own_aload (pc' := 143) B X66 at_141 rfl rfl rfl ?_
      refine own_aload (pc' := 145) B X66 at_143 rfl rfl rfl ?_
      refine own_aload (pc' := 147) B X66 at_145 rfl rfl rfl ?_
      refine own_iload (pc' := 149) B X66 at_147 rfl rfl ?_
      refine own_iload (pc' := 151) B X66 at_149 rfl rfl ?_
      refine own_iconst (pc' := 152) B X66 (z := (1 : Int32)) at_151 rfl rfl ?_
      refine own_callS (pc' := 155) B X66 (own_w hw 10 rfl) (own_w hw 11 rfl) (own_w hw 4 rfl) (own_w hw 12 rfl) (by decide) [(.ref b54), (.ref b57), (.ref b33), (.int (1 : Int32)), (.int (0 : Int32)), (.int (1 : Int32))] [] (rm_10 l Z a0 hw [] b54 kb54 (y37) b57 k58 b33 kb33 (y42) (y47) (y52) (y35) (y40) (y45) (y50) (i1) (i2) (i3) (i4) h56 n0 (Nat.le_trans Z0 K.1) E_b54 V_b54 g_b54 E_b57 V_b57 g_b57 E_b33 V_b33 g_b33 ne_b54_b57 (Ne.symm ne_b33_b54) (Ne.symm ne_b33_b57) hy37 hy42 hy47 hy52 hy36 hy41 hy46 hy51 c59) 0 (by decide) (by decide) rfl pd_2 rfl rfl (Nat.le_of_eq rfl) at_152 rfl (k' := 3) (n' := 6) rfl rfl (by decide) (by decide) ?_
      intro T67 v67 h67 X67 q67
      obtain ⟨rfl, rfl⟩ := q67
      show own_Go p e below (T67.setTop (mkF m 155 #[.val (.int i0), .val (.int i1), .val (.int i2), .val (.int i3), .val (.int i4), .val (.int (1 : Int32)), .val (.ref b33), .val (.ref b54), .val (.ref b57), .val (.int (0 : Int32))] [(.int (1 : Int32))])) _
      refine own_ifNo (pc' := 158) B X67 at_155 ((if0 _ _).trans (feq (by decide : ¬ ((1 : Int32) = (0 : Int32)))).1) rfl ?_
      refine own_aload (pc' := 160) B X67 at_158 rfl rfl rfl ?_
      refine own_aload (pc' := 162) B X67 at_160 rfl rfl rfl ?_
      refine own_aload (pc' := 164) B X67 at_162 rfl rfl rfl ?_
      refine own_iload (pc' := 166) B X67 at_164 rfl rfl ?_
      refine own_iload (pc' := 168) B X67 at_166 rfl rfl ?_
      refine own_iconst (pc' := 169) B X67 (z := (2 : Int32)) at_168 rfl rfl ?_
      refine own_callS (pc' := 172) B X67 (own_w hw 10 rfl) (own_w hw 11 rfl) (own_w hw 4 rfl) (own_w hw 12 rfl) (by decide) [(.ref b54), (.ref b57), (.ref b33), (.int (1 : Int32)), (.int (0 : Int32)), (.int (2 : Int32))] [] (rm_11 l Z a0 hw [] b54 kb54 (y37) b57 k58 b33 kb33 (y42) (y47) (y52) (y35) (y40) (y45) (y50) (i1) (i2) (i3) (i4) h56 n0 (Nat.le_trans Z0 K.1) E_b54 V_b54 g_b54 E_b57 V_b57 g_b57 E_b33 V_b33 g_b33 ne_b54_b57 (Ne.symm ne_b33_b54) (Ne.symm ne_b33_b57) hy37 hy42 hy47 hy52 hy36 hy41 hy46 hy51 c59) 0 (by decide) (by decide) rfl pd_2 rfl rfl (Nat.le_of_eq rfl) at_169 rfl (k' := 3) (n' := 6) rfl rfl (by decide) (by decide) ?_
      intro T68 v68 h68 X68 q68
      obtain ⟨rfl, rfl⟩ := q68
      show own_Go p e below (T68.setTop (mkF m 172 #[.val (.int i0), .val (.int i1), .val (.int i2), .val (.int i3), .val (.int i4), .val (.int (1 : Int32)), .val (.ref b33), .val (.ref b54), .val (.ref b57), .val (.int (0 : Int32))] [(.int (1 : Int32))])) _
      refine own_ifNo (pc' := 175) B X68 at_172 ((if0 _ _).trans (feq (by decide : ¬ ((1 : Int32) = (0 : Int32)))).1) rfl ?_
      refine own_aload (pc' := 177) B X68 at_175 rfl rfl rfl ?_
      refine own_aload (pc' := 179) B X68 at_177 rfl rfl rfl ?_
      refine own_aload (pc' := 181) B X68 at_179 rfl rfl rfl ?_
      refine own_iload (pc' := 183) B X68 at_181 rfl rfl ?_
      refine own_iload (pc' := 185) B X68 at_183 rfl rfl ?_
      refine own_iconst (pc' := 186) B X68 (z := (3 : Int32)) at_185 rfl rfl ?_
      refine own_callS (pc' := 189) B X68 (own_w hw 10 rfl) (own_w hw 11 rfl) (own_w hw 4 rfl) (own_w hw 12 rfl) (by decide) [(.ref b54), (.ref b57), (.ref b33), (.int (1 : Int32)), (.int (0 : Int32)), (.int (3 : Int32))] [] (rm_12 l Z a0 hw [] b54 kb54 (y37) b57 k58 b33 kb33 (y42) (y47) (y52) (y35) (y40) (y45) (y50) (i1) (i2) (i3) (i4) h56 n0 (Nat.le_trans Z0 K.1) E_b54 V_b54 g_b54 E_b57 V_b57 g_b57 E_b33 V_b33 g_b33 ne_b54_b57 (Ne.symm ne_b33_b54) (Ne.symm ne_b33_b57) hy37 hy42 hy47 hy52 hy36 hy41 hy46 hy51 c59) 0 (by decide) (by decide) rfl pd_2 rfl rfl (Nat.le_of_eq rfl) at_186 rfl (k' := 3) (n' := 6) rfl rfl (by decide) (by decide) ?_
      intro T69 v69 h69 X69 q69
      obtain ⟨rfl, rfl⟩ := q69
      show own_Go p e below (T69.setTop (mkF m 189 #[.val (.int i0), .val (.int i1), .val (.int i2), .val (.int i3), .val (.int i4), .val (.int (1 : Int32)), .val (.ref b33), .val (.ref b54), .val (.ref b57), .val (.int (0 : Int32))] [(.int (1 : Int32))])) _
      refine own_ifNo (pc' := 192) B X69 at_189 ((if0 _ _).trans (feq (by decide : ¬ ((1 : Int32) = (0 : Int32)))).1) rfl ?_
      refine own_iconst (pc' := 193) B X69 (z := (1 : Int32)) at_192 rfl rfl ?_
      refine own_goto (pc' := 197) B X69 at_193 (by decide) rfl ?_
      exact own_retN B X69 (t := .boolean) (z' := (1 : Int32)) (by simp) (by decide) at_197 (by decide) (by decide) rfl
    · have ne_b33_b62 : b33 ≠ b62 := own_ne' lt_b33 z_b62
      have ne_b54_b62 : b54 ≠ b62 := own_ne' lt_b54 z_b62
      have sz_b62 : h0.size ≤ b62 := Nat.le_trans K.1 z_b62
      have g_b62 : n0 ≤ b62 := Nat.le_trans Z0 sz_b62
      replace K := K.trans K56 all0
      replace E_b33 := E_b33.keep K56
      replace V_b33 := V_b33.keep K56 nin0
      replace E_b54 := E_b54.keep K56
      replace V_b54 := V_b54.keep K56 nin0
      show own_Go p e below (T56.setTop (mkF m 108 #[.val (.int i0), .val (.int i1), .val (.int i2), .val (.int i3), .val (.int i4), .val (.int (1 : Int32)), .val (.ref b33), .val (.ref b54), .unset, .unset] [(.ref b62)])) _
      refine own_astore (pc' := 110) B X56 (Ls' := #[.val (.int i0), .val (.int i1), .val (.int i2), .val (.int i3), .val (.int i4), .val (.int (1 : Int32)), .val (.ref b33), .val (.ref b54), .val (.ref b62), .unset]) at_108 rfl rfl rfl ?_
      refine own_aload (pc' := 112) B X56 at_110 rfl rfl rfl ?_
      refine own_arraylength (pc' := 113) B X56 V_b62 at_112 rfl ?_
      refine own_istore (pc' := 115) B X56 (Ls' := #[.val (.int i0), .val (.int i1), .val (.int i2), .val (.int i3), .val (.int i4), .val (.int (1 : Int32)), .val (.ref b33), .val (.ref b54), .val (.ref b62), .val (.int (1 : Int32))]) at_113 rfl rfl ?_
      refine own_iload (pc' := 117) B X56 at_115 rfl rfl ?_
      refine own_iload (pc' := 119) B X56 at_117 rfl rfl ?_
      refine own_icmpYes (pc' := 124) B X56 at_119 (flt (by decide : ¬ ((1 : Int32) < (1 : Int32)))).2.2.2 (by decide) rfl ?_
      refine own_aload (pc' := 126) B X56 at_124 rfl rfl rfl ?_
      refine own_aload (pc' := 128) B X56 at_126 rfl rfl rfl ?_
      refine own_aload (pc' := 130) B X56 at_128 rfl rfl rfl ?_
      refine own_iload (pc' := 132) B X56 at_130 rfl rfl ?_
      refine own_iload (pc' := 134) B X56 at_132 rfl rfl ?_
      refine own_iconst (pc' := 135) B X56 (z := (0 : Int32)) at_134 rfl rfl ?_
      refine own_callS (pc' := 138) B X56 (own_w hw 10 rfl) (own_w hw 11 rfl) (own_w hw 4 rfl) (own_w hw 12 rfl) (by decide) [(.ref b54), (.ref b62), (.ref b33), (.int (1 : Int32)), (.int (1 : Int32)), (.int (0 : Int32))] [] (rm_13 l Z a0 hw [] b54 kb54 (y37) b62 kb54 (y61) b33 kb33 (y42) (y47) (y52) (y35) (y40) (y45) (y50) (y60) (i1) (i2) (i3) (i4) h56 n0 (Nat.le_trans Z0 K.1) E_b54 V_b54 g_b54 E_b62 V_b62 g_b62 E_b33 V_b33 g_b33 ne_b54_b62 (Ne.symm ne_b33_b54) (Ne.symm ne_b33_b62) hy37 hy42 hy47 hy52 hy65 hy36 hy41 hy46 hy51 hy64 c63) 0 (by decide) (by decide) rfl pd_2 rfl rfl (Nat.le_of_eq rfl) at_135 rfl (k' := 3) (n' := 6) rfl rfl (by decide) (by decide) ?_
      intro T70 v70 h70 X70 q70
      obtain ⟨rfl, rfl⟩ := q70
      show own_Go p e below (T70.setTop (mkF m 138 #[.val (.int i0), .val (.int i1), .val (.int i2), .val (.int i3), .val (.int i4), .val (.int (1 : Int32)), .val (.ref b33), .val (.ref b54), .val (.ref b62), .val (.int (1 : Int32))] [(.int (1 : Int32))])) _
      refine own_ifNo (pc' := 141) B X70 at_138 ((if0 _ _).trans (feq (by decide : ¬ ((1 : Int32) = (0 : Int32)))).1) rfl ?_
      refine own_aload (pc' := 143) B X70 at_141 rfl rfl rfl ?_
      refine own_aload (pc' := 145) B X70 at_143 rfl rfl rfl ?_
      refine own_aload (pc' := 147) B X70 at_145 rfl rfl rfl ?_
      refine own_iload (pc' := 149) B X70 at_147 rfl rfl ?_
      refine own_iload (pc' := 151) B X70 at_149 rfl rfl ?_
      refine own_iconst (pc' := 152) B X70 (z := (1 : Int32)) at_151 rfl rfl ?_
      refine own_callS (pc' := 155) B X70 (own_w hw 10 rfl) (own_w hw 11 rfl) (own_w hw 4 rfl) (own_w hw 12 rfl) (by decide) [(.ref b54), (.ref b62), (.ref b33), (.int (1 : Int32)), (.int (1 : Int32)), (.int (1 : Int32))] [] (rm_14 l Z a0 hw [] b54 kb54 (y37) b62 kb54 (y61) b33 kb33 (y42) (y47) (y52) (y35) (y40) (y45) (y50) (y60) (i1) (i2) (i3) (i4) h56 n0 (Nat.le_trans Z0 K.1) E_b54 V_b54 g_b54 E_b62 V_b62 g_b62 E_b33 V_b33 g_b33 ne_b54_b62 (Ne.symm ne_b33_b54) (Ne.symm ne_b33_b62) hy37 hy42 hy47 hy52 hy65 hy36 hy41 hy46 hy51 hy64 c63) 0 (by decide) (by decide) rfl pd_2 rfl rfl (Nat.le_of_eq rfl) at_152 rfl (k' := 3) (n' := 6) rfl rfl (by decide) (by decide) ?_
      intro T71 v71 h71 X71 q71
      obtain ⟨rfl, rfl⟩ := q71
      show own_Go p e below (T71.setTop (mkF m 155 #[.val (.int i0), .val (.int i1), .val (.int i2), .val (.int i3), .val (.int i4), .val (.int (1 : Int32)), .val (.ref b33), .val (.ref b54), .val (.ref b62), .val (.int (1 : Int32))] [(.int (1 : Int32))])) _
      refine own_ifNo (pc' := 158) B X71 at_155 ((if0 _ _).trans (feq (by decide : ¬ ((1 : Int32) = (0 : Int32)))).1) rfl ?_
      refine own_aload (pc' := 160) B X71 at_158 rfl rfl rfl ?_
      refine own_aload (pc' := 162) B X71 at_160 rfl rfl rfl ?_
      refine own_aload (pc' := 164) B X71 at_162 rfl rfl rfl ?_
      refine own_iload (pc' := 166) B X71 at_164 rfl rfl ?_
      refine own_iload (pc' := 168) B X71 at_166 rfl rfl ?_
      refine own_iconst (pc' := 169) B X71 (z := (2 : Int32)) at_168 rfl rfl ?_
      refine own_callS (pc' := 172) B X71 (own_w hw 10 rfl) (own_w hw 11 rfl) (own_w hw 4 rfl) (own_w hw 12 rfl) (by decide) [(.ref b54), (.ref b62), (.ref b33), (.int (1 : Int32)), (.int (1 : Int32)), (.int (2 : Int32))] [] (rm_15 l Z a0 hw [] b54 kb54 (y37) b62 kb54 (y61) b33 kb33 (y42) (y47) (y52) (y35) (y40) (y45) (y50) (y60) (i1) (i2) (i3) (i4) h56 n0 (Nat.le_trans Z0 K.1) E_b54 V_b54 g_b54 E_b62 V_b62 g_b62 E_b33 V_b33 g_b33 ne_b54_b62 (Ne.symm ne_b33_b54) (Ne.symm ne_b33_b62) hy37 hy42 hy47 hy52 hy65 hy36 hy41 hy46 hy51 hy64 c63) 0 (by decide) (by decide) rfl pd_2 rfl rfl (Nat.le_of_eq rfl) at_169 rfl (k' := 3) (n' := 6) rfl rfl (by decide) (by decide) ?_
      intro T72 v72 h72 X72 q72
      obtain ⟨rfl, rfl⟩ := q72
      show own_Go p e below (T72.setTop (mkF m 172 #[.val (.int i0), .val (.int i1), .val (.int i2), .val (.int i3), .val (.int i4), .val (.int (1 : Int32)), .val (.ref b33), .val (.ref b54), .val (.ref b62), .val (.int (1 : Int32))] [(.int (1 : Int32))])) _
      refine own_ifNo (pc' := 175) B X72 at_172 ((if0 _ _).trans (feq (by decide : ¬ ((1 : Int32) = (0 : Int32)))).1) rfl ?_
      refine own_aload (pc' := 177) B X72 at_175 rfl rfl rfl ?_
      refine own_aload (pc' := 179) B X72 at_177 rfl rfl rfl ?_
      refine own_aload (pc' := 181) B X72 at_179 rfl rfl rfl ?_
      refine own_iload (pc' := 183) B X72 at_181 rfl rfl ?_
      refine own_iload (pc' := 185) B X72 at_183 rfl rfl ?_
      refine own_iconst (pc' := 186) B X72 (z := (3 : Int32)) at_185 rfl rfl ?_
      refine own_callS (pc' := 189) B X72 (own_w hw 10 rfl) (own_w hw 11 rfl) (own_w hw 4 rfl) (own_w hw 12 rfl) (by decide) [(.ref b54), (.ref b62), (.ref b33), (.int (1 : Int32)), (.int (1 : Int32)), (.int (3 : Int32))] [] (rm_16 l Z a0 hw [] b54 kb54 (y37) b62 kb54 (y61) b33 kb33 (y42) (y47) (y52) (y35) (y40) (y45) (y50) (y60) (i1) (i2) (i3) (i4) h56 n0 (Nat.le_trans Z0 K.1) E_b54 V_b54 g_b54 E_b62 V_b62 g_b62 E_b33 V_b33 g_b33 ne_b54_b62 (Ne.symm ne_b33_b54) (Ne.symm ne_b33_b62) hy37 hy42 hy47 hy52 hy65 hy36 hy41 hy46 hy51 hy64 c63) 0 (by decide) (by decide) rfl pd_2 rfl rfl (Nat.le_of_eq rfl) at_186 rfl (k' := 3) (n' := 6) rfl rfl (by decide) (by decide) ?_
      intro T73 v73 h73 X73 q73
      obtain ⟨rfl, rfl⟩ := q73
      show own_Go p e below (T73.setTop (mkF m 189 #[.val (.int i0), .val (.int i1), .val (.int i2), .val (.int i3), .val (.int i4), .val (.int (1 : Int32)), .val (.ref b33), .val (.ref b54), .val (.ref b62), .val (.int (1 : Int32))] [(.int (1 : Int32))])) _
      refine own_ifNo (pc' := 192) B X73 at_189 ((if0 _ _).trans (feq (by decide : ¬ ((1 : Int32) = (0 : Int32)))).1) rfl ?_
      refine own_iconst (pc' := 193) B X73 (z := (1 : Int32)) at_192 rfl rfl ?_
      refine own_goto (pc' := 197) B X73 at_193 (by decide) rfl ?_
      exact own_retN B X73 (t := .boolean) (z' := (1 : Int32)) (by simp) (by decide) at_197 (by decide) (by decide) rfl
  · obtain rfl : y2 = (2 : Int32) := Int32.toInt_inj.mp (z3.trans (by decide))
    refine own_istore (pc' := 8) B X0 (Ls' := #[.val (.int i0), .val (.int i1), .val (.int i2), .val (.int i3), .val (.int i4), .val (.int (2 : Int32)), .unset, .unset, .unset, .unset]) at_6 rfl rfl ?_
    refine own_iconst (pc' := 9) B X0 (z := (4 : Int32)) at_8 rfl rfl ?_
    refine own_newarray (pc' := 11) B X0 (own_w hw 1 rfl) at_9 rfl rfl (by decide) 4 (by decide) (by decide) (k' := 1) (n' := 4) rfl rfl (by decide) (by decide) "[B" (by decide) (.int (0 : Int32)) rfl ?_
    intro T74 h74 b74 kb74 X74 g74 E74 V_b74 E_b74
    have sz_b74 : h0.size ≤ b74 := own_sz K g74
    have g_b74 : n0 ≤ b74 := Nat.le_trans Z0 sz_b74
    replace K := K.ext E74
    replace V_b74 : Arv Z h74 b74 kb74 .byte (4 : Int32) [(.int (0 : Int32)), (.int (0 : Int32)), (.int (0 : Int32)), (.int (0 : Int32))] (.int (0 : Int32)) := V_b74.pad (pad_rep [] (.int (0 : Int32)) 4)
    refine own_dup (pc' := 12) B X74 at_11 rfl rfl ?_
    refine own_iconst (pc' := 13) B X74 (z := (0 : Int32)) at_12 rfl rfl ?_
    refine own_iloadN (pc' := 14) B X74 at_13 rfl rfl ?_
    refine own_callS (pc' := 17) B X74 (own_w hw 2 rfl) (own_w hw 3 rfl) (own_w hw 4 rfl) (own_w hw 5 rfl) (by decide) [(.int i1)] [(.int (0 : Int32)), (.ref b74), (.ref b74)] (rm_1 l Z a0 hw [] (i1) h74 n0 (Nat.le_trans Z0 K.1) ) 3 (by decide) (by decide) rfl pd_0 rfl rfl (Nat.le_of_eq rfl) at_14 rfl (k' := 1) (n' := 4) rfl rfl (by decide) (by decide) ?_
    intro T75 v75 h75 X75 q75
    obtain ⟨y76, hy77, rfl, rfl⟩ := q75
    show own_Go p e below (T75.setTop (mkF m 17 #[.val (.int i0), .val (.int i1), .val (.int i2), .val (.int i3), .val (.int i4), .val (.int (2 : Int32)), .unset, .unset, .unset, .unset] [(.int y76), (.int (0 : Int32)), (.ref b74), (.ref b74)])) _
    obtain ⟨y78, hy78⟩ : ∃ z : Int32, y76.toInt8.toInt32 = z := ⟨_, rfl⟩
    refine own_bastore (pc' := 18) B X75 (x' := y78) V_b74 g_b74 ⟨by decide, by decide⟩ 0 (by decide) (Nat.le_of_ble_eq_true rfl) hy78 at_17 rfl ?_
    intro T79 h79 X79 W79 V_b74
    replace V_b74 : Arv Z h79 b74 kb74 .byte (4 : Int32) [(.int y78), (.int (0 : Int32)), (.int (0 : Int32)), (.int (0 : Int32))] (.int (0 : Int32)) := V_b74
    replace E_b74 := E_b74.wr W79
    replace K := K.wr W79 (Or.inr sz_b74)
    refine own_dup (pc' := 19) B X79 at_18 rfl rfl ?_
    refine own_iconst (pc' := 20) B X79 (z := (1 : Int32)) at_19 rfl rfl ?_
    refine own_iloadN (pc' := 21) B X79 at_20 rfl rfl ?_
    refine own_callS (pc' := 24) B X79 (own_w hw 2 rfl) (own_w hw 3 rfl) (own_w hw 4 rfl) (own_w hw 5 rfl) (by decide) [(.int i2)] [(.int (1 : Int32)), (.ref b74), (.ref b74)] (rm_1 l Z a0 hw [] (i2) h79 n0 (Nat.le_trans Z0 K.1) ) 3 (by decide) (by decide) rfl pd_0 rfl rfl (Nat.le_of_eq rfl) at_21 rfl (k' := 1) (n' := 4) rfl rfl (by decide) (by decide) ?_
    intro T80 v80 h80 X80 q80
    obtain ⟨y81, hy82, rfl, rfl⟩ := q80
    show own_Go p e below (T80.setTop (mkF m 24 #[.val (.int i0), .val (.int i1), .val (.int i2), .val (.int i3), .val (.int i4), .val (.int (2 : Int32)), .unset, .unset, .unset, .unset] [(.int y81), (.int (1 : Int32)), (.ref b74), (.ref b74)])) _
    obtain ⟨y83, hy83⟩ : ∃ z : Int32, y81.toInt8.toInt32 = z := ⟨_, rfl⟩
    refine own_bastore (pc' := 25) B X80 (x' := y83) V_b74 g_b74 ⟨by decide, by decide⟩ 1 (by decide) (Nat.le_of_ble_eq_true rfl) hy83 at_24 rfl ?_
    intro T84 h84 X84 W84 V_b74
    replace V_b74 : Arv Z h84 b74 kb74 .byte (4 : Int32) [(.int y78), (.int y83), (.int (0 : Int32)), (.int (0 : Int32))] (.int (0 : Int32)) := V_b74
    replace E_b74 := E_b74.wr W84
    replace K := K.wr W84 (Or.inr sz_b74)
    refine own_dup (pc' := 26) B X84 at_25 rfl rfl ?_
    refine own_iconst (pc' := 27) B X84 (z := (2 : Int32)) at_26 rfl rfl ?_
    refine own_iloadN (pc' := 28) B X84 at_27 rfl rfl ?_
    refine own_callS (pc' := 31) B X84 (own_w hw 2 rfl) (own_w hw 3 rfl) (own_w hw 4 rfl) (own_w hw 5 rfl) (by decide) [(.int i3)] [(.int (2 : Int32)), (.ref b74), (.ref b74)] (rm_1 l Z a0 hw [] (i3) h84 n0 (Nat.le_trans Z0 K.1) ) 3 (by decide) (by decide) rfl pd_0 rfl rfl (Nat.le_of_eq rfl) at_28 rfl (k' := 1) (n' := 4) rfl rfl (by decide) (by decide) ?_
    intro T85 v85 h85 X85 q85
    obtain ⟨y86, hy87, rfl, rfl⟩ := q85
    show own_Go p e below (T85.setTop (mkF m 31 #[.val (.int i0), .val (.int i1), .val (.int i2), .val (.int i3), .val (.int i4), .val (.int (2 : Int32)), .unset, .unset, .unset, .unset] [(.int y86), (.int (2 : Int32)), (.ref b74), (.ref b74)])) _
    obtain ⟨y88, hy88⟩ : ∃ z : Int32, y86.toInt8.toInt32 = z := ⟨_, rfl⟩
    refine own_bastore (pc' := 32) B X85 (x' := y88) V_b74 g_b74 ⟨by decide, by decide⟩ 2 (by decide) (Nat.le_of_ble_eq_true rfl) hy88 at_31 rfl ?_
    intro T89 h89 X89 W89 V_b74
    replace V_b74 : Arv Z h89 b74 kb74 .byte (4 : Int32) [(.int y78), (.int y83), (.int y88), (.int (0 : Int32))] (.int (0 : Int32)) := V_b74
    replace E_b74 := E_b74.wr W89
    replace K := K.wr W89 (Or.inr sz_b74)
    refine own_dup (pc' := 33) B X89 at_32 rfl rfl ?_
    refine own_iconst (pc' := 34) B X89 (z := (3 : Int32)) at_33 rfl rfl ?_
    refine own_iload (pc' := 36) B X89 at_34 rfl rfl ?_
    refine own_callS (pc' := 39) B X89 (own_w hw 2 rfl) (own_w hw 3 rfl) (own_w hw 4 rfl) (own_w hw 5 rfl) (by decide) [(.int i4)] [(.int (3 : Int32)), (.ref b74), (.ref b74)] (rm_1 l Z a0 hw [] (i4) h89 n0 (Nat.le_trans Z0 K.1) ) 3 (by decide) (by decide) rfl pd_0 rfl rfl (Nat.le_of_eq rfl) at_36 rfl (k' := 1) (n' := 4) rfl rfl (by decide) (by decide) ?_
    intro T90 v90 h90 X90 q90
    obtain ⟨y91, hy92, rfl, rfl⟩ := q90
    show own_Go p e below (T90.setTop (mkF m 39 #[.val (.int i0), .val (.int i1), .val (.int i2), .val (.int i3), .val (.int i4), .val (.int (2 : Int32)), .unset, .unset, .unset, .unset] [(.int y91), (.int (3 : Int32)), (.ref b74), (.ref b74)])) _
    obtain ⟨y93, hy93⟩ : ∃ z : Int32, y91.toInt8.toInt32 = z := ⟨_, rfl⟩
    refine own_bastore (pc' := 40) B X90 (x' := y93) V_b74 g_b74 ⟨by decide, by decide⟩ 3 (by decide) (Nat.le_of_ble_eq_true rfl) hy93 at_39 rfl ?_
    intro T94 h94 X94 W94 V_b74
    replace V_b74 : Arv Z h94 b74 kb74 .byte (4 : Int32) [(.int y78), (.int y83), (.int y88), (.int y93)] (.int (0 : Int32)) := V_b74
    replace E_b74 := E_b74.wr W94
    replace K := K.wr W94 (Or.inr sz_b74)
    refine own_astore (pc' := 42) B X94 (Ls' := #[.val (.int i0), .val (.int i1), .val (.int i2), .val (.int i3), .val (.int i4), .val (.int (2 : Int32)), .val (.ref b74), .unset, .unset, .unset]) at_40 rfl rfl rfl ?_
    refine own_iload (pc' := 44) B X94 at_42 rfl rfl ?_
    refine own_newarray (pc' := 46) B X94 (own_w hw 1 rfl) at_44 rfl rfl (by decide) 2 (by decide) (by decide) (k' := 2) (n' := 6) rfl rfl (by decide) (by decide) "[B" (by decide) (.int (0 : Int32)) rfl ?_
    intro T95 h95 b95 kb95 X95 g95 E95 V_b95 E_b95
    have ne_b74_b95 : b74 ≠ b95 := own_ne E_b74.lt g95
    have sz_b95 : h0.size ≤ b95 := own_sz K g95
    have g_b95 : n0 ≤ b95 := Nat.le_trans Z0 sz_b95
    replace K := K.ext E95
    replace E_b74 := E_b74.ext E95
    replace V_b74 := V_b74.ext E95
    replace V_b95 : Arv Z h95 b95 kb95 .byte (2 : Int32) [(.int (0 : Int32)), (.int (0 : Int32))] (.int (0 : Int32)) := V_b95.pad (pad_rep [] (.int (0 : Int32)) 2)
    refine own_astore (pc' := 48) B X95 (Ls' := #[.val (.int i0), .val (.int i1), .val (.int i2), .val (.int i3), .val (.int i4), .val (.int (2 : Int32)), .val (.ref b74), .val (.ref b95), .unset, .unset]) at_46 rfl rfl rfl ?_
    refine own_iload (pc' := 50) B X95 at_48 rfl rfl ?_
    refine own_ifNo (pc' := 53) B X95 at_50 ((if0 _ _).trans (tlt (by decide : (0 : Int32) < (2 : Int32))).2.2.2) rfl ?_
    refine own_aload (pc' := 55) B X95 at_53 rfl rfl rfl ?_
    refine own_iconst (pc' := 56) B X95 (z := (0 : Int32)) at_55 rfl rfl ?_
    refine own_aload (pc' := 58) B X95 at_56 rfl rfl rfl ?_
    refine own_iconst (pc' := 59) B X95 (z := (0 : Int32)) at_58 rfl rfl ?_
    refine own_baload (pc' := 60) B X95 V_b74 (v := (.int y78)) ⟨by decide, by decide⟩ rfl at_59 rfl ?_
    refine own_bastore (pc' := 61) B X95 (x' := y78) V_b95 g_b95 ⟨by decide, by decide⟩ 0 (by decide) (Nat.le_of_ble_eq_true rfl) (own_idem_i2b hy78) at_60 rfl ?_
    intro T96 h96 X96 W96 V_b95
    replace V_b95 : Arv Z h96 b95 kb95 .byte (2 : Int32) [(.int y78), (.int (0 : Int32))] (.int (0 : Int32)) := V_b95
    replace E_b74 := E_b74.wr W96
    replace V_b74 := V_b74.other W96 ne_b74_b95
    replace E_b95 := E_b95.wr W96
    replace K := K.wr W96 (Or.inr sz_b95)
    refine own_iload (pc' := 63) B X96 at_61 rfl rfl ?_
    refine own_iconst (pc' := 64) B X96 (z := (1 : Int32)) at_63 rfl rfl ?_
    refine own_icmpNo (pc' := 67) B X96 at_64 (tlt (by decide : (1 : Int32) < (2 : Int32))).2.2.2 rfl ?_
    refine own_aload (pc' := 69) B X96 at_67 rfl rfl rfl ?_
    refine own_iconst (pc' := 70) B X96 (z := (1 : Int32)) at_69 rfl rfl ?_
    refine own_aload (pc' := 72) B X96 at_70 rfl rfl rfl ?_
    refine own_iconst (pc' := 73) B X96 (z := (1 : Int32)) at_72 rfl rfl ?_
    refine own_baload (pc' := 74) B X96 V_b74 (v := (.int y83)) ⟨by decide, by decide⟩ rfl at_73 rfl ?_
    refine own_bastore (pc' := 75) B X96 (x' := y83) V_b95 g_b95 ⟨by decide, by decide⟩ 1 (by decide) (Nat.le_of_ble_eq_true rfl) (own_idem_i2b hy83) at_74 rfl ?_
    intro T97 h97 X97 W97 V_b95
    replace V_b95 : Arv Z h97 b95 kb95 .byte (2 : Int32) [(.int y78), (.int y83)] (.int (0 : Int32)) := V_b95
    replace E_b74 := E_b74.wr W97
    replace V_b74 := V_b74.other W97 ne_b74_b95
    replace E_b95 := E_b95.wr W97
    replace K := K.wr W97 (Or.inr sz_b95)
    refine own_iload (pc' := 77) B X97 at_75 rfl rfl ?_
    refine own_iconst (pc' := 78) B X97 (z := (2 : Int32)) at_77 rfl rfl ?_
    refine own_icmpYes (pc' := 89) B X97 at_78 (flt (by decide : ¬ ((2 : Int32) < (2 : Int32)))).2.2.2 (by decide) rfl ?_
    refine own_iload (pc' := 91) B X97 at_89 rfl rfl ?_
    refine own_iconst (pc' := 92) B X97 (z := (3 : Int32)) at_91 rfl rfl ?_
    refine own_icmpYes (pc' := 103) B X97 at_92 (flt (by decide : ¬ ((3 : Int32) < (2 : Int32)))).2.2.2 (by decide) rfl ?_
    refine own_aload (pc' := 105) B X97 at_103 rfl rfl rfl ?_
    refine own_callS (pc' := 108) B X97 (own_w hw 6 rfl) (own_w hw 7 rfl) (own_w hw 8 rfl) (own_w hw 9 rfl) (by decide) [(.ref b95)] [] (rm_17 l Z a0 hw [] b95 kb95 (y78) (y83) (y76) (y81) (i1) (i2) h97 n0 (Nat.le_trans Z0 K.1) E_b95 V_b95 g_b95 hy78 hy83 hy77 hy82) 0 (by decide) (by decide) rfl pd_1 rfl rfl (Nat.le_of_eq rfl) at_105 rfl (k' := 3) (n' := 8) rfl rfl (by decide) (by decide) ?_
    intro T98 v98 h98 X98 q98
    have lt_b74 := E_b74.lt
    have lt_b95 := E_b95.lt
    rcases q98 with ⟨b99, k100, c101, c102, rfl, K98, z_b99, E_b99, V_b99⟩ | ⟨y103, y104, b105, k106, c107, c108, hy109, hy110, rfl, K98, z_b105, E_b105, V_b105⟩ | ⟨y111, y112, b113, c114, hy115, hy116, rfl, K98, z_b113, E_b113, V_b113⟩
    · have ne_b74_b99 : b74 ≠ b99 := own_ne' lt_b74 z_b99
      have ne_b95_b99 : b95 ≠ b99 := own_ne' lt_b95 z_b99
      have sz_b99 : h0.size ≤ b99 := Nat.le_trans K.1 z_b99
      have g_b99 : n0 ≤ b99 := Nat.le_trans Z0 sz_b99
      replace K := K.trans K98 all0
      replace E_b74 := E_b74.keep K98
      replace V_b74 := V_b74.keep K98 nin0
      replace E_b95 := E_b95.keep K98
      replace V_b95 := V_b95.keep K98 nin0
      show own_Go p e below (T98.setTop (mkF m 108 #[.val (.int i0), .val (.int i1), .val (.int i2), .val (.int i3), .val (.int i4), .val (.int (2 : Int32)), .val (.ref b74), .val (.ref b95), .unset, .unset] [(.ref b99)])) _
      refine own_astore (pc' := 110) B X98 (Ls' := #[.val (.int i0), .val (.int i1), .val (.int i2), .val (.int i3), .val (.int i4), .val (.int (2 : Int32)), .val (.ref b74), .val (.ref b95), .val (.ref b99), .unset]) at_108 rfl rfl rfl ?_
      refine own_aload (pc' := 112) B X98 at_110 rfl rfl rfl ?_
      refine own_arraylength (pc' := 113) B X98 V_b99 at_112 rfl ?_
      refine own_istore (pc' := 115) B X98 (Ls' := #[.val (.int i0), .val (.int i1), .val (.int i2), .val (.int i3), .val (.int i4), .val (.int (2 : Int32)), .val (.ref b74), .val (.ref b95), .val (.ref b99), .val (.int (0 : Int32))]) at_113 rfl rfl ?_
      refine own_iload (pc' := 117) B X98 at_115 rfl rfl ?_
      refine own_iload (pc' := 119) B X98 at_117 rfl rfl ?_
      refine own_icmpYes (pc' := 124) B X98 at_119 (flt (by decide : ¬ ((2 : Int32) < (0 : Int32)))).2.2.2 (by decide) rfl ?_
      refine own_aload (pc' := 126) B X98 at_124 rfl rfl rfl ?_
      refine own_aload (pc' := 128) B X98 at_126 rfl rfl rfl ?_
      refine own_aload (pc' := 130) B X98 at_128 rfl rfl rfl ?_
      refine own_iload (pc' := 132) B X98 at_130 rfl rfl ?_
      refine own_iload (pc' := 134) B X98 at_132 rfl rfl ?_
      refine own_iconst (pc' := 135) B X98 (z := (0 : Int32)) at_134 rfl rfl ?_
      refine own_callS (pc' := 138) B X98 (own_w hw 10 rfl) (own_w hw 11 rfl) (own_w hw 4 rfl) (own_w hw 12 rfl) (by decide) [(.ref b95), (.ref b99), (.ref b74), (.int (2 : Int32)), (.int (0 : Int32)), (.int (0 : Int32))] [] (rm_21 l Z a0 hw [] b95 kb95 (y78) (y83) b99 k100 b74 kb74 (y88) (y93) (y76) (y81) (y86) (y91) (i1) (i2) (i3) (i4) h98 n0 (Nat.le_trans Z0 K.1) E_b95 V_b95 g_b95 E_b99 V_b99 g_b99 E_b74 V_b74 g_b74 ne_b95_b99 (Ne.symm ne_b74_b95) (Ne.symm ne_b74_b99) hy78 hy83 hy88 hy93 hy77 hy82 hy87 hy92 c101 c102) 0 (by decide) (by decide) rfl pd_2 rfl rfl (Nat.le_of_eq rfl) at_135 rfl (k' := 3) (n' := 8) rfl rfl (by decide) (by decide) ?_
      intro T117 v117 h117 X117 q117
      obtain ⟨rfl, rfl⟩ := q117
      show own_Go p e below (T117.setTop (mkF m 138 #[.val (.int i0), .val (.int i1), .val (.int i2), .val (.int i3), .val (.int i4), .val (.int (2 : Int32)), .val (.ref b74), .val (.ref b95), .val (.ref b99), .val (.int (0 : Int32))] [(.int (1 : Int32))])) _
      refine own_ifNo (pc' := 141) B X117 at_138 ((if0 _ _).trans (feq (by decide : ¬ ((1 : Int32) = (0 : Int32)))).1) rfl ?_
      refine own_aload (pc' := 143) B X117 at_141 rfl rfl rfl ?_
      refine own_aload (pc' := 145) B X117 at_143 rfl rfl rfl ?_
      refine own_aload (pc' := 147) B X117 at_145 rfl rfl rfl ?_
      refine own_iload (pc' := 149) B X117 at_147 rfl rfl ?_
      refine own_iload (pc' := 151) B X117 at_149 rfl rfl ?_
      refine own_iconst (pc' := 152) B X117 (z := (1 : Int32)) at_151 rfl rfl ?_
      refine own_callS (pc' := 155) B X117 (own_w hw 10 rfl) (own_w hw 11 rfl) (own_w hw 4 rfl) (own_w hw 12 rfl) (by decide) [(.ref b95), (.ref b99), (.ref b74), (.int (2 : Int32)), (.int (0 : Int32)), (.int (1 : Int32))] [] (rm_22 l Z a0 hw [] b95 kb95 (y78) (y83) b99 k100 b74 kb74 (y88) (y93) (y76) (y81) (y86) (y91) (i1) (i2) (i3) (i4) h98 n0 (Nat.le_trans Z0 K.1) E_b95 V_b95 g_b95 E_b99 V_b99 g_b99 E_b74 V_b74 g_b74 ne_b95_b99 (Ne.symm ne_b74_b95) (Ne.symm ne_b74_b99) hy78 hy83 hy88 hy93 hy77 hy82 hy87 hy92 c101 c102) 0 (by decide) (by decide) rfl pd_2 rfl rfl (Nat.le_of_eq rfl) at_152 rfl (k' := 3) (n' := 8) rfl rfl (by decide) (by decide) ?_
      intro T118 v118 h118 X118 q118
      obtain ⟨rfl, rfl⟩ := q118
      show own_Go p e below (T118.setTop (mkF m 155 #[.val (.int i0), .val (.int i1), .val (.int i2), .val (.int i3), .val (.int i4), .val (.int (2 : Int32)), .val (.ref b74), .val (.ref b95), .val (.ref b99), .val (.int (0 : Int32))] [(.int (1 : Int32))])) _
      refine own_ifNo (pc' := 158) B X118 at_155 ((if0 _ _).trans (feq (by decide : ¬ ((1 : Int32) = (0 : Int32)))).1) rfl ?_
      refine own_aload (pc' := 160) B X118 at_158 rfl rfl rfl ?_
      refine own_aload (pc' := 162) B X118 at_160 rfl rfl rfl ?_
      refine own_aload (pc' := 164) B X118 at_162 rfl rfl rfl ?_
      refine own_iload (pc' := 166) B X118 at_164 rfl rfl ?_
      refine own_iload (pc' := 168) B X118 at_166 rfl rfl ?_
      refine own_iconst (pc' := 169) B X118 (z := (2 : Int32)) at_168 rfl rfl ?_
      refine own_callS (pc' := 172) B X118 (own_w hw 10 rfl) (own_w hw 11 rfl) (own_w hw 4 rfl) (own_w hw 12 rfl) (by decide) [(.ref b95), (.ref b99), (.ref b74), (.int (2 : Int32)), (.int (0 : Int32)), (.int (2 : Int32))] [] (rm_23 l Z a0 hw [] b95 kb95 (y78) (y83) b99 k100 b74 kb74 (y88) (y93) (y76) (y81) (y86) (y91) (i1) (i2) (i3) (i4) h98 n0 (Nat.le_trans Z0 K.1) E_b95 V_b95 g_b95 E_b99 V_b99 g_b99 E_b74 V_b74 g_b74 ne_b95_b99 (Ne.symm ne_b74_b95) (Ne.symm ne_b74_b99) hy78 hy83 hy88 hy93 hy77 hy82 hy87 hy92 c101 c102) 0 (by decide) (by decide) rfl pd_2 rfl rfl (Nat.le_of_eq rfl) at_169 rfl (k' := 3) (n' := 8) rfl rfl (by decide) (by decide) ?_
      intro T119 v119 h119 X119 q119
      obtain ⟨rfl, rfl⟩ := q119
      show own_Go p e below (T119.setTop (mkF m 172 #[.val (.int i0), .val (.int i1), .val (.int i2), .val (.int i3), .val (.int i4), .val (.int (2 : Int32)), .val (.ref b74), .val (.ref b95), .val (.ref b99), .val (.int (0 : Int32))] [(.int (1 : Int32))])) _
      refine own_ifNo (pc' := 175) B X119 at_172 ((if0 _ _).trans (feq (by decide : ¬ ((1 : Int32) = (0 : Int32)))).1) rfl ?_
      refine own_aload (pc' := 177) B X119 at_175 rfl rfl rfl ?_
      refine own_aload (pc' := 179) B X119 at_177 rfl rfl rfl ?_
      refine own_aload (pc' := 181) B X119 at_179 rfl rfl rfl ?_
      refine own_iload (pc' := 183) B X119 at_181 rfl rfl ?_
      refine own_iload (pc' := 185) B X119 at_183 rfl rfl ?_
      refine own_iconst (pc' := 186) B X119 (z := (3 : Int32)) at_185 rfl rfl ?_
      refine own_callS (pc' := 189) B X119 (own_w hw 10 rfl) (own_w hw 11 rfl) (own_w hw 4 rfl) (own_w hw 12 rfl) (by decide) [(.ref b95), (.ref b99), (.ref b74), (.int (2 : Int32)), (.int (0 : Int32)), (.int (3 : Int32))] [] (rm_24 l Z a0 hw [] b95 kb95 (y78) (y83) b99 k100 b74 kb74 (y88) (y93) (y76) (y81) (y86) (y91) (i1) (i2) (i3) (i4) h98 n0 (Nat.le_trans Z0 K.1) E_b95 V_b95 g_b95 E_b99 V_b99 g_b99 E_b74 V_b74 g_b74 ne_b95_b99 (Ne.symm ne_b74_b95) (Ne.symm ne_b74_b99) hy78 hy83 hy88 hy93 hy77 hy82 hy87 hy92 c101 c102) 0 (by decide) (by decide) rfl pd_2 rfl rfl (Nat.le_of_eq rfl) at_186 rfl (k' := 3) (n' := 8) rfl rfl (by decide) (by decide) ?_
      intro T120 v120 h120 X120 q120
      obtain ⟨rfl, rfl⟩ := q120
      show own_Go p e below (T120.setTop (mkF m 189 #[.val (.int i0), .val (.int i1), .val (.int i2), .val (.int i3), .val (.int i4), .val (.int (2 : Int32)), .val (.ref b74), .val (.ref b95), .val (.ref b99), .val (.int (0 : Int32))] [(.int (1 : Int32))])) _
      refine own_ifNo (pc' := 192) B X120 at_189 ((if0 _ _).trans (feq (by decide : ¬ ((1 : Int32) = (0 : Int32)))).1) rfl ?_
      refine own_iconst (pc' := 193) B X120 (z := (1 : Int32)) at_192 rfl rfl ?_
      refine own_goto (pc' := 197) B X120 at_193 (by decide) rfl ?_
      exact own_retN B X120 (t := .boolean) (z' := (1 : Int32)) (by simp) (by decide) at_197 (by decide) (by decide) rfl
    · have ne_b74_b105 : b74 ≠ b105 := own_ne' lt_b74 z_b105
      have ne_b95_b105 : b95 ≠ b105 := own_ne' lt_b95 z_b105
      have sz_b105 : h0.size ≤ b105 := Nat.le_trans K.1 z_b105
      have g_b105 : n0 ≤ b105 := Nat.le_trans Z0 sz_b105
      replace K := K.trans K98 all0
      replace E_b74 := E_b74.keep K98
      replace V_b74 := V_b74.keep K98 nin0
      replace E_b95 := E_b95.keep K98
      replace V_b95 := V_b95.keep K98 nin0
      show own_Go p e below (T98.setTop (mkF m 108 #[.val (.int i0), .val (.int i1), .val (.int i2), .val (.int i3), .val (.int i4), .val (.int (2 : Int32)), .val (.ref b74), .val (.ref b95), .unset, .unset] [(.ref b105)])) _
      refine own_astore (pc' := 110) B X98 (Ls' := #[.val (.int i0), .val (.int i1), .val (.int i2), .val (.int i3), .val (.int i4), .val (.int (2 : Int32)), .val (.ref b74), .val (.ref b95), .val (.ref b105), .unset]) at_108 rfl rfl rfl ?_
      refine own_aload (pc' := 112) B X98 at_110 rfl rfl rfl ?_
      refine own_arraylength (pc' := 113) B X98 V_b105 at_112 rfl ?_
      refine own_istore (pc' := 115) B X98 (Ls' := #[.val (.int i0), .val (.int i1), .val (.int i2), .val (.int i3), .val (.int i4), .val (.int (2 : Int32)), .val (.ref b74), .val (.ref b95), .val (.ref b105), .val (.int (1 : Int32))]) at_113 rfl rfl ?_
      refine own_iload (pc' := 117) B X98 at_115 rfl rfl ?_
      refine own_iload (pc' := 119) B X98 at_117 rfl rfl ?_
      refine own_icmpYes (pc' := 124) B X98 at_119 (flt (by decide : ¬ ((2 : Int32) < (1 : Int32)))).2.2.2 (by decide) rfl ?_
      refine own_aload (pc' := 126) B X98 at_124 rfl rfl rfl ?_
      refine own_aload (pc' := 128) B X98 at_126 rfl rfl rfl ?_
      refine own_aload (pc' := 130) B X98 at_128 rfl rfl rfl ?_
      refine own_iload (pc' := 132) B X98 at_130 rfl rfl ?_
      refine own_iload (pc' := 134) B X98 at_132 rfl rfl ?_
      refine own_iconst (pc' := 135) B X98 (z := (0 : Int32)) at_134 rfl rfl ?_
      refine own_callS (pc' := 138) B X98 (own_w hw 10 rfl) (own_w hw 11 rfl) (own_w hw 4 rfl) (own_w hw 12 rfl) (by decide) [(.ref b95), (.ref b105), (.ref b74), (.int (2 : Int32)), (.int (1 : Int32)), (.int (0 : Int32))] [] (rm_25 l Z a0 hw [] b95 kb95 (y78) (y83) b105 k106 (y104) b74 kb74 (y88) (y93) (y76) (y81) (y86) (y91) (y103) (i1) (i2) (i3) (i4) h98 n0 (Nat.le_trans Z0 K.1) E_b95 V_b95 g_b95 E_b105 V_b105 g_b105 E_b74 V_b74 g_b74 ne_b95_b105 (Ne.symm ne_b74_b95) (Ne.symm ne_b74_b105) hy78 hy83 hy88 hy93 hy110 hy77 hy82 hy87 hy92 hy109 c107 c108) 0 (by decide) (by decide) rfl pd_2 rfl rfl (Nat.le_of_eq rfl) at_135 rfl (k' := 3) (n' := 8) rfl rfl (by decide) (by decide) ?_
      intro T121 v121 h121 X121 q121
      obtain ⟨rfl, rfl⟩ := q121
      show own_Go p e below (T121.setTop (mkF m 138 #[.val (.int i0), .val (.int i1), .val (.int i2), .val (.int i3), .val (.int i4), .val (.int (2 : Int32)), .val (.ref b74), .val (.ref b95), .val (.ref b105), .val (.int (1 : Int32))] [(.int (1 : Int32))])) _
      refine own_ifNo (pc' := 141) B X121 at_138 ((if0 _ _).trans (feq (by decide : ¬ ((1 : Int32) = (0 : Int32)))).1) rfl ?_
      refine own_aload (pc' := 143) B X121 at_141 rfl rfl rfl ?_
      refine own_aload (pc' := 145) B X121 at_143 rfl rfl rfl ?_
      refine own_aload (pc' := 147) B X121 at_145 rfl rfl rfl ?_
      refine own_iload (pc' := 149) B X121 at_147 rfl rfl ?_
      refine own_iload (pc' := 151) B X121 at_149 rfl rfl ?_
      refine own_iconst (pc' := 152) B X121 (z := (1 : Int32)) at_151 rfl rfl ?_
      refine own_callS (pc' := 155) B X121 (own_w hw 10 rfl) (own_w hw 11 rfl) (own_w hw 4 rfl) (own_w hw 12 rfl) (by decide) [(.ref b95), (.ref b105), (.ref b74), (.int (2 : Int32)), (.int (1 : Int32)), (.int (1 : Int32))] [] (rm_26 l Z a0 hw [] b95 kb95 (y78) (y83) b105 k106 (y104) b74 kb74 (y88) (y93) (y76) (y81) (y86) (y91) (y103) (i1) (i2) (i3) (i4) h98 n0 (Nat.le_trans Z0 K.1) E_b95 V_b95 g_b95 E_b105 V_b105 g_b105 E_b74 V_b74 g_b74 ne_b95_b105 (Ne.symm ne_b74_b95) (Ne.symm ne_b74_b105) hy78 hy83 hy88 hy93 hy110 hy77 hy82 hy87 hy92 hy109 c107 c108) 0 (by decide) (by decide) rfl pd_2 rfl rfl (Nat.le_of_eq rfl) at_152 rfl (k' := 3) (n' := 8) rfl rfl (by decide) (by decide) ?_
      intro T122 v122 h122 X122 q122
      obtain ⟨rfl, rfl⟩ := q122
      show own_Go p e below (T122.setTop (mkF m 155 #[.val (.int i0), .val (.int i1), .val (.int i2), .val (.int i3), .val (.int i4), .val (.int (2 : Int32)), .val (.ref b74), .val (.ref b95), .val (.ref b105), .val (.int (1 : Int32))] [(.int (1 : Int32))])) _
      refine own_ifNo (pc' := 158) B X122 at_155 ((if0 _ _).trans (feq (by decide : ¬ ((1 : Int32) = (0 : Int32)))).1) rfl ?_
      refine own_aload (pc' := 160) B X122 at_158 rfl rfl rfl ?_
      refine own_aload (pc' := 162) B X122 at_160 rfl rfl rfl ?_
      refine own_aload (pc' := 164) B X122 at_162 rfl rfl rfl ?_
      refine own_iload (pc' := 166) B X122 at_164 rfl rfl ?_
      refine own_iload (pc' := 168) B X122 at_166 rfl rfl ?_
      refine own_iconst (pc' := 169) B X122 (z := (2 : Int32)) at_168 rfl rfl ?_
      refine own_callS (pc' := 172) B X122 (own_w hw 10 rfl) (own_w hw 11 rfl) (own_w hw 4 rfl) (own_w hw 12 rfl) (by decide) [(.ref b95), (.ref b105), (.ref b74), (.int (2 : Int32)), (.int (1 : Int32)), (.int (2 : Int32))] [] (rm_27 l Z a0 hw [] b95 kb95 (y78) (y83) b105 k106 (y104) b74 kb74 (y88) (y93) (y76) (y81) (y86) (y91) (y103) (i1) (i2) (i3) (i4) h98 n0 (Nat.le_trans Z0 K.1) E_b95 V_b95 g_b95 E_b105 V_b105 g_b105 E_b74 V_b74 g_b74 ne_b95_b105 (Ne.symm ne_b74_b95) (Ne.symm ne_b74_b105) hy78 hy83 hy88 hy93 hy110 hy77 hy82 hy87 hy92 hy109 c107 c108) 0 (by decide) (by decide) rfl pd_2 rfl rfl (Nat.le_of_eq rfl) at_169 rfl (k' := 3) (n' := 8) rfl rfl (by decide) (by decide) ?_
      intro T123 v123 h123 X123 q123
      obtain ⟨rfl, rfl⟩ := q123
      show own_Go p e below (T123.setTop (mkF m 172 #[.val (.int i0), .val (.int i1), .val (.int i2), .val (.int i3), .val (.int i4), .val (.int (2 : Int32)), .val (.ref b74), .val (.ref b95), .val (.ref b105), .val (.int (1 : Int32))] [(.int (1 : Int32))])) _
      refine own_ifNo (pc' := 175) B X123 at_172 ((if0 _ _).trans (feq (by decide : ¬ ((1 : Int32) = (0 : Int32)))).1) rfl ?_
      refine own_aload (pc' := 177) B X123 at_175 rfl rfl rfl ?_
      refine own_aload (pc' := 179) B X123 at_177 rfl rfl rfl ?_
      refine own_aload (pc' := 181) B X123 at_179 rfl rfl rfl ?_
      refine own_iload (pc' := 183) B X123 at_181 rfl rfl ?_
      refine own_iload (pc' := 185) B X123 at_183 rfl rfl ?_
      refine own_iconst (pc' := 186) B X123 (z := (3 : Int32)) at_185 rfl rfl ?_
      refine own_callS (pc' := 189) B X123 (own_w hw 10 rfl) (own_w hw 11 rfl) (own_w hw 4 rfl) (own_w hw 12 rfl) (by decide) [(.ref b95), (.ref b105), (.ref b74), (.int (2 : Int32)), (.int (1 : Int32)), (.int (3 : Int32))] [] (rm_28 l Z a0 hw [] b95 kb95 (y78) (y83) b105 k106 (y104) b74 kb74 (y88) (y93) (y76) (y81) (y86) (y91) (y103) (i1) (i2) (i3) (i4) h98 n0 (Nat.le_trans Z0 K.1) E_b95 V_b95 g_b95 E_b105 V_b105 g_b105 E_b74 V_b74 g_b74 ne_b95_b105 (Ne.symm ne_b74_b95) (Ne.symm ne_b74_b105) hy78 hy83 hy88 hy93 hy110 hy77 hy82 hy87 hy92 hy109 c107 c108) 0 (by decide) (by decide) rfl pd_2 rfl rfl (Nat.le_of_eq rfl) at_186 rfl (k' := 3) (n' := 8) rfl rfl (by decide) (by decide) ?_
      intro T124 v124 h124 X124 q124
      obtain ⟨rfl, rfl⟩ := q124
      show own_Go p e below (T124.setTop (mkF m 189 #[.val (.int i0), .val (.int i1), .val (.int i2), .val (.int i3), .val (.int i4), .val (.int (2 : Int32)), .val (.ref b74), .val (.ref b95), .val (.ref b105), .val (.int (1 : Int32))] [(.int (1 : Int32))])) _
      refine own_ifNo (pc' := 192) B X124 at_189 ((if0 _ _).trans (feq (by decide : ¬ ((1 : Int32) = (0 : Int32)))).1) rfl ?_
      refine own_iconst (pc' := 193) B X124 (z := (1 : Int32)) at_192 rfl rfl ?_
      refine own_goto (pc' := 197) B X124 at_193 (by decide) rfl ?_
      exact own_retN B X124 (t := .boolean) (z' := (1 : Int32)) (by simp) (by decide) at_197 (by decide) (by decide) rfl
    · have ne_b74_b113 : b74 ≠ b113 := own_ne' lt_b74 z_b113
      have ne_b95_b113 : b95 ≠ b113 := own_ne' lt_b95 z_b113
      have sz_b113 : h0.size ≤ b113 := Nat.le_trans K.1 z_b113
      have g_b113 : n0 ≤ b113 := Nat.le_trans Z0 sz_b113
      replace K := K.trans K98 all0
      replace E_b74 := E_b74.keep K98
      replace V_b74 := V_b74.keep K98 nin0
      replace E_b95 := E_b95.keep K98
      replace V_b95 := V_b95.keep K98 nin0
      show own_Go p e below (T98.setTop (mkF m 108 #[.val (.int i0), .val (.int i1), .val (.int i2), .val (.int i3), .val (.int i4), .val (.int (2 : Int32)), .val (.ref b74), .val (.ref b95), .unset, .unset] [(.ref b113)])) _
      refine own_astore (pc' := 110) B X98 (Ls' := #[.val (.int i0), .val (.int i1), .val (.int i2), .val (.int i3), .val (.int i4), .val (.int (2 : Int32)), .val (.ref b74), .val (.ref b95), .val (.ref b113), .unset]) at_108 rfl rfl rfl ?_
      refine own_aload (pc' := 112) B X98 at_110 rfl rfl rfl ?_
      refine own_arraylength (pc' := 113) B X98 V_b113 at_112 rfl ?_
      refine own_istore (pc' := 115) B X98 (Ls' := #[.val (.int i0), .val (.int i1), .val (.int i2), .val (.int i3), .val (.int i4), .val (.int (2 : Int32)), .val (.ref b74), .val (.ref b95), .val (.ref b113), .val (.int (2 : Int32))]) at_113 rfl rfl ?_
      refine own_iload (pc' := 117) B X98 at_115 rfl rfl ?_
      refine own_iload (pc' := 119) B X98 at_117 rfl rfl ?_
      refine own_icmpYes (pc' := 124) B X98 at_119 (flt (by decide : ¬ ((2 : Int32) < (2 : Int32)))).2.2.2 (by decide) rfl ?_
      refine own_aload (pc' := 126) B X98 at_124 rfl rfl rfl ?_
      refine own_aload (pc' := 128) B X98 at_126 rfl rfl rfl ?_
      refine own_aload (pc' := 130) B X98 at_128 rfl rfl rfl ?_
      refine own_iload (pc' := 132) B X98 at_130 rfl rfl ?_
      refine own_iload (pc' := 134) B X98 at_132 rfl rfl ?_
      refine own_iconst (pc' := 135) B X98 (z := (0 : Int32)) at_134 rfl rfl ?_
      refine own_callS (pc' := 138) B X98 (own_w hw 10 rfl) (own_w hw 11 rfl) (own_w hw 4 rfl) (own_w hw 12 rfl) (by decide) [(.ref b95), (.ref b113), (.ref b74), (.int (2 : Int32)), (.int (2 : Int32)), (.int (0 : Int32))] [] (rm_29 l Z a0 hw [] b95 kb95 (y78) (y83) b113 kb95 (y112) b74 kb74 (y88) (y93) (y76) (y81) (y86) (y91) (y111) (i1) (i2) (i3) (i4) h98 n0 (Nat.le_trans Z0 K.1) E_b95 V_b95 g_b95 E_b113 V_b113 g_b113 E_b74 V_b74 g_b74 ne_b95_b113 (Ne.symm ne_b74_b95) (Ne.symm ne_b74_b113) hy78 hy83 hy88 hy93 hy116 hy77 hy82 hy87 hy92 hy115 c114) 0 (by decide) (by decide) rfl pd_2 rfl rfl (Nat.le_of_eq rfl) at_135 rfl (k' := 3) (n' := 8) rfl rfl (by decide) (by decide) ?_
      intro T125 v125 h125 X125 q125
      obtain ⟨rfl, rfl⟩ := q125
      show own_Go p e below (T125.setTop (mkF m 138 #[.val (.int i0), .val (.int i1), .val (.int i2), .val (.int i3), .val (.int i4), .val (.int (2 : Int32)), .val (.ref b74), .val (.ref b95), .val (.ref b113), .val (.int (2 : Int32))] [(.int (1 : Int32))])) _
      refine own_ifNo (pc' := 141) B X125 at_138 ((if0 _ _).trans (feq (by decide : ¬ ((1 : Int32) = (0 : Int32)))).1) rfl ?_
      refine own_aload (pc' := 143) B X125 at_141 rfl rfl rfl ?_
      refine own_aload (pc' := 145) B X125 at_143 rfl rfl rfl ?_
      refine own_aload (pc' := 147) B X125 at_145 rfl rfl rfl ?_
      refine own_iload (pc' := 149) B X125 at_147 rfl rfl ?_
      refine own_iload (pc' := 151) B X125 at_149 rfl rfl ?_
      refine own_iconst (pc' := 152) B X125 (z := (1 : Int32)) at_151 rfl rfl ?_
      refine own_callS (pc' := 155) B X125 (own_w hw 10 rfl) (own_w hw 11 rfl) (own_w hw 4 rfl) (own_w hw 12 rfl) (by decide) [(.ref b95), (.ref b113), (.ref b74), (.int (2 : Int32)), (.int (2 : Int32)), (.int (1 : Int32))] [] (rm_30 l Z a0 hw [] b95 kb95 (y78) (y83) b113 kb95 (y112) b74 kb74 (y88) (y93) (y76) (y81) (y86) (y91) (y111) (i1) (i2) (i3) (i4) h98 n0 (Nat.le_trans Z0 K.1) E_b95 V_b95 g_b95 E_b113 V_b113 g_b113 E_b74 V_b74 g_b74 ne_b95_b113 (Ne.symm ne_b74_b95) (Ne.symm ne_b74_b113) hy78 hy83 hy88 hy93 hy116 hy77 hy82 hy87 hy92 hy115 c114) 0 (by decide) (by decide) rfl pd_2 rfl rfl (Nat.le_of_eq rfl) at_152 rfl (k' := 3) (n' := 8) rfl rfl (by decide) (by decide) ?_
      intro T126 v126 h126 X126 q126
      obtain ⟨rfl, rfl⟩ := q126
      show own_Go p e below (T126.setTop (mkF m 155 #[.val (.int i0), .val (.int i1), .val (.int i2), .val (.int i3), .val (.int i4), .val (.int (2 : Int32)), .val (.ref b74), .val (.ref b95), .val (.ref b113), .val (.int (2 : Int32))] [(.int (1 : Int32))])) _
      refine own_ifNo (pc' := 158) B X126 at_155 ((if0 _ _).trans (feq (by decide : ¬ ((1 : Int32) = (0 : Int32)))).1) rfl ?_
      refine own_aload (pc' := 160) B X126 at_158 rfl rfl rfl ?_
      refine own_aload (pc' := 162) B X126 at_160 rfl rfl rfl ?_
      refine own_aload (pc' := 164) B X126 at_162 rfl rfl rfl ?_
      refine own_iload (pc' := 166) B X126 at_164 rfl rfl ?_
      refine own_iload (pc' := 168) B X126 at_166 rfl rfl ?_
      refine own_iconst (pc' := 169) B X126 (z := (2 : Int32)) at_168 rfl rfl ?_
      refine own_callS (pc' := 172) B X126 (own_w hw 10 rfl) (own_w hw 11 rfl) (own_w hw 4 rfl) (own_w hw 12 rfl) (by decide) [(.ref b95), (.ref b113), (.ref b74), (.int (2 : Int32)), (.int (2 : Int32)), (.int (2 : Int32))] [] (rm_31 l Z a0 hw [] b95 kb95 (y78) (y83) b113 kb95 (y112) b74 kb74 (y88) (y93) (y76) (y81) (y86) (y91) (y111) (i1) (i2) (i3) (i4) h98 n0 (Nat.le_trans Z0 K.1) E_b95 V_b95 g_b95 E_b113 V_b113 g_b113 E_b74 V_b74 g_b74 ne_b95_b113 (Ne.symm ne_b74_b95) (Ne.symm ne_b74_b113) hy78 hy83 hy88 hy93 hy116 hy77 hy82 hy87 hy92 hy115 c114) 0 (by decide) (by decide) rfl pd_2 rfl rfl (Nat.le_of_eq rfl) at_169 rfl (k' := 3) (n' := 8) rfl rfl (by decide) (by decide) ?_
      intro T127 v127 h127 X127 q127
      obtain ⟨rfl, rfl⟩ := q127
      show own_Go p e below (T127.setTop (mkF m 172 #[.val (.int i0), .val (.int i1), .val (.int i2), .val (.int i3), .val (.int i4), .val (.int (2 : Int32)), .val (.ref b74), .val (.ref b95), .val (.ref b113), .val (.int (2 : Int32))] [(.int (1 : Int32))])) _
      refine own_ifNo (pc' := 175) B X127 at_172 ((if0 _ _).trans (feq (by decide : ¬ ((1 : Int32) = (0 : Int32)))).1) rfl ?_
      refine own_aload (pc' := 177) B X127 at_175 rfl rfl rfl ?_
      refine own_aload (pc' := 179) B X127 at_177 rfl rfl rfl ?_
      refine own_aload (pc' := 181) B X127 at_179 rfl rfl rfl ?_
      refine own_iload (pc' := 183) B X127 at_181 rfl rfl ?_
      refine own_iload (pc' := 185) B X127 at_183 rfl rfl ?_
      refine own_iconst (pc' := 186) B X127 (z := (3 : Int32)) at_185 rfl rfl ?_
      refine own_callS (pc' := 189) B X127 (own_w hw 10 rfl) (own_w hw 11 rfl) (own_w hw 4 rfl) (own_w hw 12 rfl) (by decide) [(.ref b95), (.ref b113), (.ref b74), (.int (2 : Int32)), (.int (2 : Int32)), (.int (3 : Int32))] [] (rm_32 l Z a0 hw [] b95 kb95 (y78) (y83) b113 kb95 (y112) b74 kb74 (y88) (y93) (y76) (y81) (y86) (y91) (y111) (i1) (i2) (i3) (i4) h98 n0 (Nat.le_trans Z0 K.1) E_b95 V_b95 g_b95 E_b113 V_b113 g_b113 E_b74 V_b74 g_b74 ne_b95_b113 (Ne.symm ne_b74_b95) (Ne.symm ne_b74_b113) hy78 hy83 hy88 hy93 hy116 hy77 hy82 hy87 hy92 hy115 c114) 0 (by decide) (by decide) rfl pd_2 rfl rfl (Nat.le_of_eq rfl) at_186 rfl (k' := 3) (n' := 8) rfl rfl (by decide) (by decide) ?_
      intro T128 v128 h128 X128 q128
      obtain ⟨rfl, rfl⟩ := q128
      show own_Go p e below (T128.setTop (mkF m 189 #[.val (.int i0), .val (.int i1), .val (.int i2), .val (.int i3), .val (.int i4), .val (.int (2 : Int32)), .val (.ref b74), .val (.ref b95), .val (.ref b113), .val (.int (2 : Int32))] [(.int (1 : Int32))])) _
      refine own_ifNo (pc' := 192) B X128 at_189 ((if0 _ _).trans (feq (by decide : ¬ ((1 : Int32) = (0 : Int32)))).1) rfl ?_
      refine own_iconst (pc' := 193) B X128 (z := (1 : Int32)) at_192 rfl rfl ?_
      refine own_goto (pc' := 197) B X128 at_193 (by decide) rfl ?_
      exact own_retN B X128 (t := .boolean) (z' := (1 : Int32)) (by simp) (by decide) at_197 (by decide) (by decide) rfl
  · obtain rfl : y2 = (3 : Int32) := Int32.toInt_inj.mp (z3.trans (by decide))
    refine own_istore (pc' := 8) B X0 (Ls' := #[.val (.int i0), .val (.int i1), .val (.int i2), .val (.int i3), .val (.int i4), .val (.int (3 : Int32)), .unset, .unset, .unset, .unset]) at_6 rfl rfl ?_
    refine own_iconst (pc' := 9) B X0 (z := (4 : Int32)) at_8 rfl rfl ?_
    refine own_newarray (pc' := 11) B X0 (own_w hw 1 rfl) at_9 rfl rfl (by decide) 4 (by decide) (by decide) (k' := 1) (n' := 4) rfl rfl (by decide) (by decide) "[B" (by decide) (.int (0 : Int32)) rfl ?_
    intro T129 h129 b129 kb129 X129 g129 E129 V_b129 E_b129
    have sz_b129 : h0.size ≤ b129 := own_sz K g129
    have g_b129 : n0 ≤ b129 := Nat.le_trans Z0 sz_b129
    replace K := K.ext E129
    replace V_b129 : Arv Z h129 b129 kb129 .byte (4 : Int32) [(.int (0 : Int32)), (.int (0 : Int32)), (.int (0 : Int32)), (.int (0 : Int32))] (.int (0 : Int32)) := V_b129.pad (pad_rep [] (.int (0 : Int32)) 4)
    refine own_dup (pc' := 12) B X129 at_11 rfl rfl ?_
    refine own_iconst (pc' := 13) B X129 (z := (0 : Int32)) at_12 rfl rfl ?_
    refine own_iloadN (pc' := 14) B X129 at_13 rfl rfl ?_
    refine own_callS (pc' := 17) B X129 (own_w hw 2 rfl) (own_w hw 3 rfl) (own_w hw 4 rfl) (own_w hw 5 rfl) (by decide) [(.int i1)] [(.int (0 : Int32)), (.ref b129), (.ref b129)] (rm_1 l Z a0 hw [] (i1) h129 n0 (Nat.le_trans Z0 K.1) ) 3 (by decide) (by decide) rfl pd_0 rfl rfl (Nat.le_of_eq rfl) at_14 rfl (k' := 1) (n' := 4) rfl rfl (by decide) (by decide) ?_
    intro T130 v130 h130 X130 q130
    obtain ⟨y131, hy132, rfl, rfl⟩ := q130
    show own_Go p e below (T130.setTop (mkF m 17 #[.val (.int i0), .val (.int i1), .val (.int i2), .val (.int i3), .val (.int i4), .val (.int (3 : Int32)), .unset, .unset, .unset, .unset] [(.int y131), (.int (0 : Int32)), (.ref b129), (.ref b129)])) _
    obtain ⟨y133, hy133⟩ : ∃ z : Int32, y131.toInt8.toInt32 = z := ⟨_, rfl⟩
    refine own_bastore (pc' := 18) B X130 (x' := y133) V_b129 g_b129 ⟨by decide, by decide⟩ 0 (by decide) (Nat.le_of_ble_eq_true rfl) hy133 at_17 rfl ?_
    intro T134 h134 X134 W134 V_b129
    replace V_b129 : Arv Z h134 b129 kb129 .byte (4 : Int32) [(.int y133), (.int (0 : Int32)), (.int (0 : Int32)), (.int (0 : Int32))] (.int (0 : Int32)) := V_b129
    replace E_b129 := E_b129.wr W134
    replace K := K.wr W134 (Or.inr sz_b129)
    refine own_dup (pc' := 19) B X134 at_18 rfl rfl ?_
    refine own_iconst (pc' := 20) B X134 (z := (1 : Int32)) at_19 rfl rfl ?_
    refine own_iloadN (pc' := 21) B X134 at_20 rfl rfl ?_
    refine own_callS (pc' := 24) B X134 (own_w hw 2 rfl) (own_w hw 3 rfl) (own_w hw 4 rfl) (own_w hw 5 rfl) (by decide) [(.int i2)] [(.int (1 : Int32)), (.ref b129), (.ref b129)] (rm_1 l Z a0 hw [] (i2) h134 n0 (Nat.le_trans Z0 K.1) ) 3 (by decide) (by decide) rfl pd_0 rfl rfl (Nat.le_of_eq rfl) at_21 rfl (k' := 1) (n' := 4) rfl rfl (by decide) (by decide) ?_
    intro T135 v135 h135 X135 q135
    obtain ⟨y136, hy137, rfl, rfl⟩ := q135
    show own_Go p e below (T135.setTop (mkF m 24 #[.val (.int i0), .val (.int i1), .val (.int i2), .val (.int i3), .val (.int i4), .val (.int (3 : Int32)), .unset, .unset, .unset, .unset] [(.int y136), (.int (1 : Int32)), (.ref b129), (.ref b129)])) _
    obtain ⟨y138, hy138⟩ : ∃ z : Int32, y136.toInt8.toInt32 = z := ⟨_, rfl⟩
    refine own_bastore (pc' := 25) B X135 (x' := y138) V_b129 g_b129 ⟨by decide, by decide⟩ 1 (by decide) (Nat.le_of_ble_eq_true rfl) hy138 at_24 rfl ?_
    intro T139 h139 X139 W139 V_b129
    replace V_b129 : Arv Z h139 b129 kb129 .byte (4 : Int32) [(.int y133), (.int y138), (.int (0 : Int32)), (.int (0 : Int32))] (.int (0 : Int32)) := V_b129
    replace E_b129 := E_b129.wr W139
    replace K := K.wr W139 (Or.inr sz_b129)
    refine own_dup (pc' := 26) B X139 at_25 rfl rfl ?_
    refine own_iconst (pc' := 27) B X139 (z := (2 : Int32)) at_26 rfl rfl ?_
    refine own_iloadN (pc' := 28) B X139 at_27 rfl rfl ?_
    refine own_callS (pc' := 31) B X139 (own_w hw 2 rfl) (own_w hw 3 rfl) (own_w hw 4 rfl) (own_w hw 5 rfl) (by decide) [(.int i3)] [(.int (2 : Int32)), (.ref b129), (.ref b129)] (rm_1 l Z a0 hw [] (i3) h139 n0 (Nat.le_trans Z0 K.1) ) 3 (by decide) (by decide) rfl pd_0 rfl rfl (Nat.le_of_eq rfl) at_28 rfl (k' := 1) (n' := 4) rfl rfl (by decide) (by decide) ?_
    intro T140 v140 h140 X140 q140
    obtain ⟨y141, hy142, rfl, rfl⟩ := q140
    show own_Go p e below (T140.setTop (mkF m 31 #[.val (.int i0), .val (.int i1), .val (.int i2), .val (.int i3), .val (.int i4), .val (.int (3 : Int32)), .unset, .unset, .unset, .unset] [(.int y141), (.int (2 : Int32)), (.ref b129), (.ref b129)])) _
    obtain ⟨y143, hy143⟩ : ∃ z : Int32, y141.toInt8.toInt32 = z := ⟨_, rfl⟩
    refine own_bastore (pc' := 32) B X140 (x' := y143) V_b129 g_b129 ⟨by decide, by decide⟩ 2 (by decide) (Nat.le_of_ble_eq_true rfl) hy143 at_31 rfl ?_
    intro T144 h144 X144 W144 V_b129
    replace V_b129 : Arv Z h144 b129 kb129 .byte (4 : Int32) [(.int y133), (.int y138), (.int y143), (.int (0 : Int32))] (.int (0 : Int32)) := V_b129
    replace E_b129 := E_b129.wr W144
    replace K := K.wr W144 (Or.inr sz_b129)
    refine own_dup (pc' := 33) B X144 at_32 rfl rfl ?_
    refine own_iconst (pc' := 34) B X144 (z := (3 : Int32)) at_33 rfl rfl ?_
    refine own_iload (pc' := 36) B X144 at_34 rfl rfl ?_
    refine own_callS (pc' := 39) B X144 (own_w hw 2 rfl) (own_w hw 3 rfl) (own_w hw 4 rfl) (own_w hw 5 rfl) (by decide) [(.int i4)] [(.int (3 : Int32)), (.ref b129), (.ref b129)] (rm_1 l Z a0 hw [] (i4) h144 n0 (Nat.le_trans Z0 K.1) ) 3 (by decide) (by decide) rfl pd_0 rfl rfl (Nat.le_of_eq rfl) at_36 rfl (k' := 1) (n' := 4) rfl rfl (by decide) (by decide) ?_
    intro T145 v145 h145 X145 q145
    obtain ⟨y146, hy147, rfl, rfl⟩ := q145
    show own_Go p e below (T145.setTop (mkF m 39 #[.val (.int i0), .val (.int i1), .val (.int i2), .val (.int i3), .val (.int i4), .val (.int (3 : Int32)), .unset, .unset, .unset, .unset] [(.int y146), (.int (3 : Int32)), (.ref b129), (.ref b129)])) _
    obtain ⟨y148, hy148⟩ : ∃ z : Int32, y146.toInt8.toInt32 = z := ⟨_, rfl⟩
    refine own_bastore (pc' := 40) B X145 (x' := y148) V_b129 g_b129 ⟨by decide, by decide⟩ 3 (by decide) (Nat.le_of_ble_eq_true rfl) hy148 at_39 rfl ?_
    intro T149 h149 X149 W149 V_b129
    replace V_b129 : Arv Z h149 b129 kb129 .byte (4 : Int32) [(.int y133), (.int y138), (.int y143), (.int y148)] (.int (0 : Int32)) := V_b129
    replace E_b129 := E_b129.wr W149
    replace K := K.wr W149 (Or.inr sz_b129)
    refine own_astore (pc' := 42) B X149 (Ls' := #[.val (.int i0), .val (.int i1), .val (.int i2), .val (.int i3), .val (.int i4), .val (.int (3 : Int32)), .val (.ref b129), .unset, .unset, .unset]) at_40 rfl rfl rfl ?_
    refine own_iload (pc' := 44) B X149 at_42 rfl rfl ?_
    refine own_newarray (pc' := 46) B X149 (own_w hw 1 rfl) at_44 rfl rfl (by decide) 3 (by decide) (by decide) (k' := 2) (n' := 7) rfl rfl (by decide) (by decide) "[B" (by decide) (.int (0 : Int32)) rfl ?_
    intro T150 h150 b150 kb150 X150 g150 E150 V_b150 E_b150
    have ne_b129_b150 : b129 ≠ b150 := own_ne E_b129.lt g150
    have sz_b150 : h0.size ≤ b150 := own_sz K g150
    have g_b150 : n0 ≤ b150 := Nat.le_trans Z0 sz_b150
    replace K := K.ext E150
    replace E_b129 := E_b129.ext E150
    replace V_b129 := V_b129.ext E150
    replace V_b150 : Arv Z h150 b150 kb150 .byte (3 : Int32) [(.int (0 : Int32)), (.int (0 : Int32)), (.int (0 : Int32))] (.int (0 : Int32)) := V_b150.pad (pad_rep [] (.int (0 : Int32)) 3)
    refine own_astore (pc' := 48) B X150 (Ls' := #[.val (.int i0), .val (.int i1), .val (.int i2), .val (.int i3), .val (.int i4), .val (.int (3 : Int32)), .val (.ref b129), .val (.ref b150), .unset, .unset]) at_46 rfl rfl rfl ?_
    refine own_iload (pc' := 50) B X150 at_48 rfl rfl ?_
    refine own_ifNo (pc' := 53) B X150 at_50 ((if0 _ _).trans (tlt (by decide : (0 : Int32) < (3 : Int32))).2.2.2) rfl ?_
    refine own_aload (pc' := 55) B X150 at_53 rfl rfl rfl ?_
    refine own_iconst (pc' := 56) B X150 (z := (0 : Int32)) at_55 rfl rfl ?_
    refine own_aload (pc' := 58) B X150 at_56 rfl rfl rfl ?_
    refine own_iconst (pc' := 59) B X150 (z := (0 : Int32)) at_58 rfl rfl ?_
    refine own_baload (pc' := 60) B X150 V_b129 (v := (.int y133)) ⟨by decide, by decide⟩ rfl at_59 rfl ?_
    refine own_bastore (pc' := 61) B X150 (x' := y133) V_b150 g_b150 ⟨by decide, by decide⟩ 0 (by decide) (Nat.le_of_ble_eq_true rfl) (own_idem_i2b hy133) at_60 rfl ?_
    intro T151 h151 X151 W151 V_b150
    replace V_b150 : Arv Z h151 b150 kb150 .byte (3 : Int32) [(.int y133), (.int (0 : Int32)), (.int (0 : Int32))] (.int (0 : Int32)) := V_b150
    replace E_b129 := E_b129.wr W151
    replace V_b129 := V_b129.other W151 ne_b129_b150
    replace E_b150 := E_b150.wr W151
    replace K := K.wr W151 (Or.inr sz_b150)
    refine own_iload (pc' := 63) B X151 at_61 rfl rfl ?_
    refine own_iconst (pc' := 64) B X151 (z := (1 : Int32)) at_63 rfl rfl ?_
    refine own_icmpNo (pc' := 67) B X151 at_64 (tlt (by decide : (1 : Int32) < (3 : Int32))).2.2.2 rfl ?_
    refine own_aload (pc' := 69) B X151 at_67 rfl rfl rfl ?_
    refine own_iconst (pc' := 70) B X151 (z := (1 : Int32)) at_69 rfl rfl ?_
    refine own_aload (pc' := 72) B X151 at_70 rfl rfl rfl ?_
    refine own_iconst (pc' := 73) B X151 (z := (1 : Int32)) at_72 rfl rfl ?_
    refine own_baload (pc' := 74) B X151 V_b129 (v := (.int y138)) ⟨by decide, by decide⟩ rfl at_73 rfl ?_
    refine own_bastore (pc' := 75) B X151 (x' := y138) V_b150 g_b150 ⟨by decide, by decide⟩ 1 (by decide) (Nat.le_of_ble_eq_true rfl) (own_idem_i2b hy138) at_74 rfl ?_
    intro T152 h152 X152 W152 V_b150
    replace V_b150 : Arv Z h152 b150 kb150 .byte (3 : Int32) [(.int y133), (.int y138), (.int (0 : Int32))] (.int (0 : Int32)) := V_b150
    replace E_b129 := E_b129.wr W152
    replace V_b129 := V_b129.other W152 ne_b129_b150
    replace E_b150 := E_b150.wr W152
    replace K := K.wr W152 (Or.inr sz_b150)
    refine own_iload (pc' := 77) B X152 at_75 rfl rfl ?_
    refine own_iconst (pc' := 78) B X152 (z := (2 : Int32)) at_77 rfl rfl ?_
    refine own_icmpNo (pc' := 81) B X152 at_78 (tlt (by decide : (2 : Int32) < (3 : Int32))).2.2.2 rfl ?_
    refine own_aload (pc' := 83) B X152 at_81 rfl rfl rfl ?_
    refine own_iconst (pc' := 84) B X152 (z := (2 : Int32)) at_83 rfl rfl ?_
    refine own_aload (pc' := 86) B X152 at_84 rfl rfl rfl ?_
    refine own_iconst (pc' := 87) B X152 (z := (2 : Int32)) at_86 rfl rfl ?_
    refine own_baload (pc' := 88) B X152 V_b129 (v := (.int y143)) ⟨by decide, by decide⟩ rfl at_87 rfl ?_
    refine own_bastore (pc' := 89) B X152 (x' := y143) V_b150 g_b150 ⟨by decide, by decide⟩ 2 (by decide) (Nat.le_of_ble_eq_true rfl) (own_idem_i2b hy143) at_88 rfl ?_
    intro T153 h153 X153 W153 V_b150
    replace V_b150 : Arv Z h153 b150 kb150 .byte (3 : Int32) [(.int y133), (.int y138), (.int y143)] (.int (0 : Int32)) := V_b150
    replace E_b129 := E_b129.wr W153
    replace V_b129 := V_b129.other W153 ne_b129_b150
    replace E_b150 := E_b150.wr W153
    replace K := K.wr W153 (Or.inr sz_b150)
    refine own_iload (pc' := 91) B X153 at_89 rfl rfl ?_
    refine own_iconst (pc' := 92) B X153 (z := (3 : Int32)) at_91 rfl rfl ?_
    refine own_icmpYes (pc' := 103) B X153 at_92 (flt (by decide : ¬ ((3 : Int32) < (3 : Int32)))).2.2.2 (by decide) rfl ?_
    refine own_aload (pc' := 105) B X153 at_103 rfl rfl rfl ?_
    refine own_callS (pc' := 108) B X153 (own_w hw 6 rfl) (own_w hw 7 rfl) (own_w hw 8 rfl) (own_w hw 9 rfl) (by decide) [(.ref b150)] [] (rm_33 l Z a0 hw [] b150 kb150 (y133) (y138) (y143) (y131) (y136) (y141) (i1) (i2) (i3) h153 n0 (Nat.le_trans Z0 K.1) E_b150 V_b150 g_b150 hy133 hy138 hy143 hy132 hy137 hy142) 0 (by decide) (by decide) rfl pd_1 rfl rfl (Nat.le_of_eq rfl) at_105 rfl (k' := 3) (n' := 10) rfl rfl (by decide) (by decide) ?_
    intro T154 v154 h154 X154 q154
    have lt_b129 := E_b129.lt
    have lt_b150 := E_b150.lt
    rcases q154 with ⟨b155, k156, c157, c158, c159, rfl, K154, z_b155, E_b155, V_b155⟩ | ⟨y160, y161, b162, k163, c164, c165, c166, hy167, hy168, rfl, K154, z_b162, E_b162, V_b162⟩ | ⟨y169, y170, b171, k172, c173, c174, hy175, hy176, rfl, K154, z_b171, E_b171, V_b171⟩ | ⟨y177, y178, b179, c180, hy181, hy182, rfl, K154, z_b179, E_b179, V_b179⟩
    · have ne_b129_b155 : b129 ≠ b155 := own_ne' lt_b129 z_b155
      have ne_b150_b155 : b150 ≠ b155 := own_ne' lt_b150 z_b155
      have sz_b155 : h0.size ≤ b155 := Nat.le_trans K.1 z_b155
      have g_b155 : n0 ≤ b155 := Nat.le_trans Z0 sz_b155
      replace K := K.trans K154 all0
      replace E_b129 := E_b129.keep K154
      replace V_b129 := V_b129.keep K154 nin0
      replace E_b150 := E_b150.keep K154
      replace V_b150 := V_b150.keep K154 nin0
      show own_Go p e below (T154.setTop (mkF m 108 #[.val (.int i0), .val (.int i1), .val (.int i2), .val (.int i3), .val (.int i4), .val (.int (3 : Int32)), .val (.ref b129), .val (.ref b150), .unset, .unset] [(.ref b155)])) _
      refine own_astore (pc' := 110) B X154 (Ls' := #[.val (.int i0), .val (.int i1), .val (.int i2), .val (.int i3), .val (.int i4), .val (.int (3 : Int32)), .val (.ref b129), .val (.ref b150), .val (.ref b155), .unset]) at_108 rfl rfl rfl ?_
      refine own_aload (pc' := 112) B X154 at_110 rfl rfl rfl ?_
      refine own_arraylength (pc' := 113) B X154 V_b155 at_112 rfl ?_
      refine own_istore (pc' := 115) B X154 (Ls' := #[.val (.int i0), .val (.int i1), .val (.int i2), .val (.int i3), .val (.int i4), .val (.int (3 : Int32)), .val (.ref b129), .val (.ref b150), .val (.ref b155), .val (.int (0 : Int32))]) at_113 rfl rfl ?_
      refine own_iload (pc' := 117) B X154 at_115 rfl rfl ?_
      refine own_iload (pc' := 119) B X154 at_117 rfl rfl ?_
      refine own_icmpYes (pc' := 124) B X154 at_119 (flt (by decide : ¬ ((3 : Int32) < (0 : Int32)))).2.2.2 (by decide) rfl ?_
      refine own_aload (pc' := 126) B X154 at_124 rfl rfl rfl ?_
      refine own_aload (pc' := 128) B X154 at_126 rfl rfl rfl ?_
      refine own_aload (pc' := 130) B X154 at_128 rfl rfl rfl ?_
      refine own_iload (pc' := 132) B X154 at_130 rfl rfl ?_
      refine own_iload (pc' := 134) B X154 at_132 rfl rfl ?_
      refine own_iconst (pc' := 135) B X154 (z := (0 : Int32)) at_134 rfl rfl ?_
      refine own_callS (pc' := 138) B X154 (own_w hw 10 rfl) (own_w hw 11 rfl) (own_w hw 4 rfl) (own_w hw 12 rfl) (by decide) [(.ref b150), (.ref b155), (.ref b129), (.int (3 : Int32)), (.int (0 : Int32)), (.int (0 : Int32))] [] (rm_39 l Z a0 hw [] b150 kb150 (y133) (y138) (y143) b155 k156 b129 kb129 (y148) (y131) (y136) (y141) (y146) (i1) (i2) (i3) (i4) h154 n0 (Nat.le_trans Z0 K.1) E_b150 V_b150 g_b150 E_b155 V_b155 g_b155 E_b129 V_b129 g_b129 ne_b150_b155 (Ne.symm ne_b129_b150) (Ne.symm ne_b129_b155) hy133 hy138 hy143 hy148 hy132 hy137 hy142 hy147 c157 c158 c159) 0 (by decide) (by decide) rfl pd_2 rfl rfl (Nat.le_of_eq rfl) at_135 rfl (k' := 3) (n' := 10) rfl rfl (by decide) (by decide) ?_
      intro T183 v183 h183 X183 q183
      obtain ⟨rfl, rfl⟩ := q183
      show own_Go p e below (T183.setTop (mkF m 138 #[.val (.int i0), .val (.int i1), .val (.int i2), .val (.int i3), .val (.int i4), .val (.int (3 : Int32)), .val (.ref b129), .val (.ref b150), .val (.ref b155), .val (.int (0 : Int32))] [(.int (1 : Int32))])) _
      refine own_ifNo (pc' := 141) B X183 at_138 ((if0 _ _).trans (feq (by decide : ¬ ((1 : Int32) = (0 : Int32)))).1) rfl ?_
      refine own_aload (pc' := 143) B X183 at_141 rfl rfl rfl ?_
      refine own_aload (pc' := 145) B X183 at_143 rfl rfl rfl ?_
      refine own_aload (pc' := 147) B X183 at_145 rfl rfl rfl ?_
      refine own_iload (pc' := 149) B X183 at_147 rfl rfl ?_
      refine own_iload (pc' := 151) B X183 at_149 rfl rfl ?_
      refine own_iconst (pc' := 152) B X183 (z := (1 : Int32)) at_151 rfl rfl ?_
      refine own_callS (pc' := 155) B X183 (own_w hw 10 rfl) (own_w hw 11 rfl) (own_w hw 4 rfl) (own_w hw 12 rfl) (by decide) [(.ref b150), (.ref b155), (.ref b129), (.int (3 : Int32)), (.int (0 : Int32)), (.int (1 : Int32))] [] (rm_40 l Z a0 hw [] b150 kb150 (y133) (y138) (y143) b155 k156 b129 kb129 (y148) (y131) (y136) (y141) (y146) (i1) (i2) (i3) (i4) h154 n0 (Nat.le_trans Z0 K.1) E_b150 V_b150 g_b150 E_b155 V_b155 g_b155 E_b129 V_b129 g_b129 ne_b150_b155 (Ne.symm ne_b129_b150) (Ne.symm ne_b129_b155) hy133 hy138 hy143 hy148 hy132 hy137 hy142 hy147 c157 c158 c159) 0 (by decide) (by decide) rfl pd_2 rfl rfl (Nat.le_of_eq rfl) at_152 rfl (k' := 3) (n' := 10) rfl rfl (by decide) (by decide) ?_
      intro T184 v184 h184 X184 q184
      obtain ⟨rfl, rfl⟩ := q184
      show own_Go p e below (T184.setTop (mkF m 155 #[.val (.int i0), .val (.int i1), .val (.int i2), .val (.int i3), .val (.int i4), .val (.int (3 : Int32)), .val (.ref b129), .val (.ref b150), .val (.ref b155), .val (.int (0 : Int32))] [(.int (1 : Int32))])) _
      refine own_ifNo (pc' := 158) B X184 at_155 ((if0 _ _).trans (feq (by decide : ¬ ((1 : Int32) = (0 : Int32)))).1) rfl ?_
      refine own_aload (pc' := 160) B X184 at_158 rfl rfl rfl ?_
      refine own_aload (pc' := 162) B X184 at_160 rfl rfl rfl ?_
      refine own_aload (pc' := 164) B X184 at_162 rfl rfl rfl ?_
      refine own_iload (pc' := 166) B X184 at_164 rfl rfl ?_
      refine own_iload (pc' := 168) B X184 at_166 rfl rfl ?_
      refine own_iconst (pc' := 169) B X184 (z := (2 : Int32)) at_168 rfl rfl ?_
      refine own_callS (pc' := 172) B X184 (own_w hw 10 rfl) (own_w hw 11 rfl) (own_w hw 4 rfl) (own_w hw 12 rfl) (by decide) [(.ref b150), (.ref b155), (.ref b129), (.int (3 : Int32)), (.int (0 : Int32)), (.int (2 : Int32))] [] (rm_41 l Z a0 hw [] b150 kb150 (y133) (y138) (y143) b155 k156 b129 kb129 (y148) (y131) (y136) (y141) (y146) (i1) (i2) (i3) (i4) h154 n0 (Nat.le_trans Z0 K.1) E_b150 V_b150 g_b150 E_b155 V_b155 g_b155 E_b129 V_b129 g_b129 ne_b150_b155 (Ne.symm ne_b129_b150) (Ne.symm ne_b129_b155) hy133 hy138 hy143 hy148 hy132 hy137 hy142 hy147 c157 c158 c159) 0 (by decide) (by decide) rfl pd_2 rfl rfl (Nat.le_of_eq rfl) at_169 rfl (k' := 3) (n' := 10) rfl rfl (by decide) (by decide) ?_
      intro T185 v185 h185 X185 q185
      obtain ⟨rfl, rfl⟩ := q185
      show own_Go p e below (T185.setTop (mkF m 172 #[.val (.int i0), .val (.int i1), .val (.int i2), .val (.int i3), .val (.int i4), .val (.int (3 : Int32)), .val (.ref b129), .val (.ref b150), .val (.ref b155), .val (.int (0 : Int32))] [(.int (1 : Int32))])) _
      refine own_ifNo (pc' := 175) B X185 at_172 ((if0 _ _).trans (feq (by decide : ¬ ((1 : Int32) = (0 : Int32)))).1) rfl ?_
      refine own_aload (pc' := 177) B X185 at_175 rfl rfl rfl ?_
      refine own_aload (pc' := 179) B X185 at_177 rfl rfl rfl ?_
      refine own_aload (pc' := 181) B X185 at_179 rfl rfl rfl ?_
      refine own_iload (pc' := 183) B X185 at_181 rfl rfl ?_
      refine own_iload (pc' := 185) B X185 at_183 rfl rfl ?_
      refine own_iconst (pc' := 186) B X185 (z := (3 : Int32)) at_185 rfl rfl ?_
      refine own_callS (pc' := 189) B X185 (own_w hw 10 rfl) (own_w hw 11 rfl) (own_w hw 4 rfl) (own_w hw 12 rfl) (by decide) [(.ref b150), (.ref b155), (.ref b129), (.int (3 : Int32)), (.int (0 : Int32)), (.int (3 : Int32))] [] (rm_42 l Z a0 hw [] b150 kb150 (y133) (y138) (y143) b155 k156 b129 kb129 (y148) (y131) (y136) (y141) (y146) (i1) (i2) (i3) (i4) h154 n0 (Nat.le_trans Z0 K.1) E_b150 V_b150 g_b150 E_b155 V_b155 g_b155 E_b129 V_b129 g_b129 ne_b150_b155 (Ne.symm ne_b129_b150) (Ne.symm ne_b129_b155) hy133 hy138 hy143 hy148 hy132 hy137 hy142 hy147 c157 c158 c159) 0 (by decide) (by decide) rfl pd_2 rfl rfl (Nat.le_of_eq rfl) at_186 rfl (k' := 3) (n' := 10) rfl rfl (by decide) (by decide) ?_
      intro T186 v186 h186 X186 q186
      obtain ⟨rfl, rfl⟩ := q186
      show own_Go p e below (T186.setTop (mkF m 189 #[.val (.int i0), .val (.int i1), .val (.int i2), .val (.int i3), .val (.int i4), .val (.int (3 : Int32)), .val (.ref b129), .val (.ref b150), .val (.ref b155), .val (.int (0 : Int32))] [(.int (1 : Int32))])) _
      refine own_ifNo (pc' := 192) B X186 at_189 ((if0 _ _).trans (feq (by decide : ¬ ((1 : Int32) = (0 : Int32)))).1) rfl ?_
      refine own_iconst (pc' := 193) B X186 (z := (1 : Int32)) at_192 rfl rfl ?_
      refine own_goto (pc' := 197) B X186 at_193 (by decide) rfl ?_
      exact own_retN B X186 (t := .boolean) (z' := (1 : Int32)) (by simp) (by decide) at_197 (by decide) (by decide) rfl
    · have ne_b129_b162 : b129 ≠ b162 := own_ne' lt_b129 z_b162
      have ne_b150_b162 : b150 ≠ b162 := own_ne' lt_b150 z_b162
      have sz_b162 : h0.size ≤ b162 := Nat.le_trans K.1 z_b162
      have g_b162 : n0 ≤ b162 := Nat.le_trans Z0 sz_b162
      replace K := K.trans K154 all0
      replace E_b129 := E_b129.keep K154
      replace V_b129 := V_b129.keep K154 nin0
      replace E_b150 := E_b150.keep K154
      replace V_b150 := V_b150.keep K154 nin0
      show own_Go p e below (T154.setTop (mkF m 108 #[.val (.int i0), .val (.int i1), .val (.int i2), .val (.int i3), .val (.int i4), .val (.int (3 : Int32)), .val (.ref b129), .val (.ref b150), .unset, .unset] [(.ref b162)])) _
      refine own_astore (pc' := 110) B X154 (Ls' := #[.val (.int i0), .val (.int i1), .val (.int i2), .val (.int i3), .val (.int i4), .val (.int (3 : Int32)), .val (.ref b129), .val (.ref b150), .val (.ref b162), .unset]) at_108 rfl rfl rfl ?_
      refine own_aload (pc' := 112) B X154 at_110 rfl rfl rfl ?_
      refine own_arraylength (pc' := 113) B X154 V_b162 at_112 rfl ?_
      refine own_istore (pc' := 115) B X154 (Ls' := #[.val (.int i0), .val (.int i1), .val (.int i2), .val (.int i3), .val (.int i4), .val (.int (3 : Int32)), .val (.ref b129), .val (.ref b150), .val (.ref b162), .val (.int (1 : Int32))]) at_113 rfl rfl ?_
      refine own_iload (pc' := 117) B X154 at_115 rfl rfl ?_
      refine own_iload (pc' := 119) B X154 at_117 rfl rfl ?_
      refine own_icmpYes (pc' := 124) B X154 at_119 (flt (by decide : ¬ ((3 : Int32) < (1 : Int32)))).2.2.2 (by decide) rfl ?_
      refine own_aload (pc' := 126) B X154 at_124 rfl rfl rfl ?_
      refine own_aload (pc' := 128) B X154 at_126 rfl rfl rfl ?_
      refine own_aload (pc' := 130) B X154 at_128 rfl rfl rfl ?_
      refine own_iload (pc' := 132) B X154 at_130 rfl rfl ?_
      refine own_iload (pc' := 134) B X154 at_132 rfl rfl ?_
      refine own_iconst (pc' := 135) B X154 (z := (0 : Int32)) at_134 rfl rfl ?_
      refine own_callS (pc' := 138) B X154 (own_w hw 10 rfl) (own_w hw 11 rfl) (own_w hw 4 rfl) (own_w hw 12 rfl) (by decide) [(.ref b150), (.ref b162), (.ref b129), (.int (3 : Int32)), (.int (1 : Int32)), (.int (0 : Int32))] [] (rm_43 l Z a0 hw [] b150 kb150 (y133) (y138) (y143) b162 k163 (y161) b129 kb129 (y148) (y131) (y136) (y141) (y146) (y160) (i1) (i2) (i3) (i4) h154 n0 (Nat.le_trans Z0 K.1) E_b150 V_b150 g_b150 E_b162 V_b162 g_b162 E_b129 V_b129 g_b129 ne_b150_b162 (Ne.symm ne_b129_b150) (Ne.symm ne_b129_b162) hy133 hy138 hy143 hy148 hy168 hy132 hy137 hy142 hy147 hy167 c164 c165 c166) 0 (by decide) (by decide) rfl pd_2 rfl rfl (Nat.le_of_eq rfl) at_135 rfl (k' := 3) (n' := 10) rfl rfl (by decide) (by decide) ?_
      intro T187 v187 h187 X187 q187
      obtain ⟨rfl, rfl⟩ := q187
      show own_Go p e below (T187.setTop (mkF m 138 #[.val (.int i0), .val (.int i1), .val (.int i2), .val (.int i3), .val (.int i4), .val (.int (3 : Int32)), .val (.ref b129), .val (.ref b150), .val (.ref b162), .val (.int (1 : Int32))] [(.int (1 : Int32))])) _
      refine own_ifNo (pc' := 141) B X187 at_138 ((if0 _ _).trans (feq (by decide : ¬ ((1 : Int32) = (0 : Int32)))).1) rfl ?_
      refine own_aload (pc' := 143) B X187 at_141 rfl rfl rfl ?_
      refine own_aload (pc' := 145) B X187 at_143 rfl rfl rfl ?_
      refine own_aload (pc' := 147) B X187 at_145 rfl rfl rfl ?_
      refine own_iload (pc' := 149) B X187 at_147 rfl rfl ?_
      refine own_iload (pc' := 151) B X187 at_149 rfl rfl ?_
      refine own_iconst (pc' := 152) B X187 (z := (1 : Int32)) at_151 rfl rfl ?_
      refine own_callS (pc' := 155) B X187 (own_w hw 10 rfl) (own_w hw 11 rfl) (own_w hw 4 rfl) (own_w hw 12 rfl) (by decide) [(.ref b150), (.ref b162), (.ref b129), (.int (3 : Int32)), (.int (1 : Int32)), (.int (1 : Int32))] [] (rm_44 l Z a0 hw [] b150 kb150 (y133) (y138) (y143) b162 k163 (y161) b129 kb129 (y148) (y131) (y136) (y141) (y146) (y160) (i1) (i2) (i3) (i4) h154 n0 (Nat.le_trans Z0 K.1) E_b150 V_b150 g_b150 E_b162 V_b162 g_b162 E_b129 V_b129 g_b129 ne_b150_b162 (Ne.symm ne_b129_b150) (Ne.symm ne_b129_b162) hy133 hy138 hy143 hy148 hy168 hy132 hy137 hy142 hy147 hy167 c164 c165 c166) 0 (by decide) (by decide) rfl pd_2 rfl rfl (Nat.le_of_eq rfl) at_152 rfl (k' := 3) (n' := 10) rfl rfl (by decide) (by decide) ?_
      intro T188 v188 h188 X188 q188
      obtain ⟨rfl, rfl⟩ := q188
      show own_Go p e below (T188.setTop (mkF m 155 #[.val (.int i0), .val (.int i1), .val (.int i2), .val (.int i3), .val (.int i4), .val (.int (3 : Int32)), .val (.ref b129), .val (.ref b150), .val (.ref b162), .val (.int (1 : Int32))] [(.int (1 : Int32))])) _
      refine own_ifNo (pc' := 158) B X188 at_155 ((if0 _ _).trans (feq (by decide : ¬ ((1 : Int32) = (0 : Int32)))).1) rfl ?_
      refine own_aload (pc' := 160) B X188 at_158 rfl rfl rfl ?_
      refine own_aload (pc' := 162) B X188 at_160 rfl rfl rfl ?_
      refine own_aload (pc' := 164) B X188 at_162 rfl rfl rfl ?_
      refine own_iload (pc' := 166) B X188 at_164 rfl rfl ?_
      refine own_iload (pc' := 168) B X188 at_166 rfl rfl ?_
      refine own_iconst (pc' := 169) B X188 (z := (2 : Int32)) at_168 rfl rfl ?_
      refine own_callS (pc' := 172) B X188 (own_w hw 10 rfl) (own_w hw 11 rfl) (own_w hw 4 rfl) (own_w hw 12 rfl) (by decide) [(.ref b150), (.ref b162), (.ref b129), (.int (3 : Int32)), (.int (1 : Int32)), (.int (2 : Int32))] [] (rm_45 l Z a0 hw [] b150 kb150 (y133) (y138) (y143) b162 k163 (y161) b129 kb129 (y148) (y131) (y136) (y141) (y146) (y160) (i1) (i2) (i3) (i4) h154 n0 (Nat.le_trans Z0 K.1) E_b150 V_b150 g_b150 E_b162 V_b162 g_b162 E_b129 V_b129 g_b129 ne_b150_b162 (Ne.symm ne_b129_b150) (Ne.symm ne_b129_b162) hy133 hy138 hy143 hy148 hy168 hy132 hy137 hy142 hy147 hy167 c164 c165 c166) 0 (by decide) (by decide) rfl pd_2 rfl rfl (Nat.le_of_eq rfl) at_169 rfl (k' := 3) (n' := 10) rfl rfl (by decide) (by decide) ?_
      intro T189 v189 h189 X189 q189
      obtain ⟨rfl, rfl⟩ := q189
      show own_Go p e below (T189.setTop (mkF m 172 #[.val (.int i0), .val (.int i1), .val (.int i2), .val (.int i3), .val (.int i4), .val (.int (3 : Int32)), .val (.ref b129), .val (.ref b150), .val (.ref b162), .val (.int (1 : Int32))] [(.int (1 : Int32))])) _
      refine own_ifNo (pc' := 175) B X189 at_172 ((if0 _ _).trans (feq (by decide : ¬ ((1 : Int32) = (0 : Int32)))).1) rfl ?_
      refine own_aload (pc' := 177) B X189 at_175 rfl rfl rfl ?_
      refine own_aload (pc' := 179) B X189 at_177 rfl rfl rfl ?_
      refine own_aload (pc' := 181) B X189 at_179 rfl rfl rfl ?_
      refine own_iload (pc' := 183) B X189 at_181 rfl rfl ?_
      refine own_iload (pc' := 185) B X189 at_183 rfl rfl ?_
      refine own_iconst (pc' := 186) B X189 (z := (3 : Int32)) at_185 rfl rfl ?_
      refine own_callS (pc' := 189) B X189 (own_w hw 10 rfl) (own_w hw 11 rfl) (own_w hw 4 rfl) (own_w hw 12 rfl) (by decide) [(.ref b150), (.ref b162), (.ref b129), (.int (3 : Int32)), (.int (1 : Int32)), (.int (3 : Int32))] [] (rm_46 l Z a0 hw [] b150 kb150 (y133) (y138) (y143) b162 k163 (y161) b129 kb129 (y148) (y131) (y136) (y141) (y146) (y160) (i1) (i2) (i3) (i4) h154 n0 (Nat.le_trans Z0 K.1) E_b150 V_b150 g_b150 E_b162 V_b162 g_b162 E_b129 V_b129 g_b129 ne_b150_b162 (Ne.symm ne_b129_b150) (Ne.symm ne_b129_b162) hy133 hy138 hy143 hy148 hy168 hy132 hy137 hy142 hy147 hy167 c164 c165 c166) 0 (by decide) (by decide) rfl pd_2 rfl rfl (Nat.le_of_eq rfl) at_186 rfl (k' := 3) (n' := 10) rfl rfl (by decide) (by decide) ?_
      intro T190 v190 h190 X190 q190
      obtain ⟨rfl, rfl⟩ := q190
      show own_Go p e below (T190.setTop (mkF m 189 #[.val (.int i0), .val (.int i1), .val (.int i2), .val (.int i3), .val (.int i4), .val (.int (3 : Int32)), .val (.ref b129), .val (.ref b150), .val (.ref b162), .val (.int (1 : Int32))] [(.int (1 : Int32))])) _
      refine own_ifNo (pc' := 192) B X190 at_189 ((if0 _ _).trans (feq (by decide : ¬ ((1 : Int32) = (0 : Int32)))).1) rfl ?_
      refine own_iconst (pc' := 193) B X190 (z := (1 : Int32)) at_192 rfl rfl ?_
      refine own_goto (pc' := 197) B X190 at_193 (by decide) rfl ?_
      exact own_retN B X190 (t := .boolean) (z' := (1 : Int32)) (by simp) (by decide) at_197 (by decide) (by decide) rfl
    · have ne_b129_b171 : b129 ≠ b171 := own_ne' lt_b129 z_b171
      have ne_b150_b171 : b150 ≠ b171 := own_ne' lt_b150 z_b171
      have sz_b171 : h0.size ≤ b171 := Nat.le_trans K.1 z_b171
      have g_b171 : n0 ≤ b171 := Nat.le_trans Z0 sz_b171
      replace K := K.trans K154 all0
      replace E_b129 := E_b129.keep K154
      replace V_b129 := V_b129.keep K154 nin0
      replace E_b150 := E_b150.keep K154
      replace V_b150 := V_b150.keep K154 nin0
      show own_Go p e below (T154.setTop (mkF m 108 #[.val (.int i0), .val (.int i1), .val (.int i2), .val (.int i3), .val (.int i4), .val (.int (3 : Int32)), .val (.ref b129), .val (.ref b150), .unset, .unset] [(.ref b171)])) _
      refine own_astore (pc' := 110) B X154 (Ls' := #[.val (.int i0), .val (.int i1), .val (.int i2), .val (.int i3), .val (.int i4), .val (.int (3 : Int32)), .val (.ref b129), .val (.ref b150), .val (.ref b171), .unset]) at_108 rfl rfl rfl ?_
      refine own_aload (pc' := 112) B X154 at_110 rfl rfl rfl ?_
      refine own_arraylength (pc' := 113) B X154 V_b171 at_112 rfl ?_
      refine own_istore (pc' := 115) B X154 (Ls' := #[.val (.int i0), .val (.int i1), .val (.int i2), .val (.int i3), .val (.int i4), .val (.int (3 : Int32)), .val (.ref b129), .val (.ref b150), .val (.ref b171), .val (.int (2 : Int32))]) at_113 rfl rfl ?_
      refine own_iload (pc' := 117) B X154 at_115 rfl rfl ?_
      refine own_iload (pc' := 119) B X154 at_117 rfl rfl ?_
      refine own_icmpYes (pc' := 124) B X154 at_119 (flt (by decide : ¬ ((3 : Int32) < (2 : Int32)))).2.2.2 (by decide) rfl ?_
      refine own_aload (pc' := 126) B X154 at_124 rfl rfl rfl ?_
      refine own_aload (pc' := 128) B X154 at_126 rfl rfl rfl ?_
      refine own_aload (pc' := 130) B X154 at_128 rfl rfl rfl ?_
      refine own_iload (pc' := 132) B X154 at_130 rfl rfl ?_
      refine own_iload (pc' := 134) B X154 at_132 rfl rfl ?_
      refine own_iconst (pc' := 135) B X154 (z := (0 : Int32)) at_134 rfl rfl ?_
      refine own_callS (pc' := 138) B X154 (own_w hw 10 rfl) (own_w hw 11 rfl) (own_w hw 4 rfl) (own_w hw 12 rfl) (by decide) [(.ref b150), (.ref b171), (.ref b129), (.int (3 : Int32)), (.int (2 : Int32)), (.int (0 : Int32))] [] (rm_47 l Z a0 hw [] b150 kb150 (y133) (y138) (y143) b171 k172 (y170) b129 kb129 (y148) (y131) (y136) (y141) (y146) (y169) (i1) (i2) (i3) (i4) h154 n0 (Nat.le_trans Z0 K.1) E_b150 V_b150 g_b150 E_b171 V_b171 g_b171 E_b129 V_b129 g_b129 ne_b150_b171 (Ne.symm ne_b129_b150) (Ne.symm ne_b129_b171) hy133 hy138 hy143 hy148 hy176 hy132 hy137 hy142 hy147 hy175 c173 c174) 0 (by decide) (by decide) rfl pd_2 rfl rfl (Nat.le_of_eq rfl) at_135 rfl (k' := 3) (n' := 10) rfl rfl (by decide) (by decide) ?_
      intro T191 v191 h191 X191 q191
      obtain ⟨rfl, rfl⟩ := q191
      show own_Go p e below (T191.setTop (mkF m 138 #[.val (.int i0), .val (.int i1), .val (.int i2), .val (.int i3), .val (.int i4), .val (.int (3 : Int32)), .val (.ref b129), .val (.ref b150), .val (.ref b171), .val (.int (2 : Int32))] [(.int (1 : Int32))])) _
      refine own_ifNo (pc' := 141) B X191 at_138 ((if0 _ _).trans (feq (by decide : ¬ ((1 : Int32) = (0 : Int32)))).1) rfl ?_
      refine own_aload (pc' := 143) B X191 at_141 rfl rfl rfl ?_
      refine own_aload (pc' := 145) B X191 at_143 rfl rfl rfl ?_
      refine own_aload (pc' := 147) B X191 at_145 rfl rfl rfl ?_
      refine own_iload (pc' := 149) B X191 at_147 rfl rfl ?_
      refine own_iload (pc' := 151) B X191 at_149 rfl rfl ?_
      refine own_iconst (pc' := 152) B X191 (z := (1 : Int32)) at_151 rfl rfl ?_
      refine own_callS (pc' := 155) B X191 (own_w hw 10 rfl) (own_w hw 11 rfl) (own_w hw 4 rfl) (own_w hw 12 rfl) (by decide) [(.ref b150), (.ref b171), (.ref b129), (.int (3 : Int32)), (.int (2 : Int32)), (.int (1 : Int32))] [] (rm_48 l Z a0 hw [] b150 kb150 (y133) (y138) (y143) b171 k172 (y170) b129 kb129 (y148) (y131) (y136) (y141) (y146) (y169) (i1) (i2) (i3) (i4) h154 n0 (Nat.le_trans Z0 K.1) E_b150 V_b150 g_b150 E_b171 V_b171 g_b171 E_b129 V_b129 g_b129 ne_b150_b171 (Ne.symm ne_b129_b150) (Ne.symm ne_b129_b171) hy133 hy138 hy143 hy148 hy176 hy132 hy137 hy142 hy147 hy175 c173 c174) 0 (by decide) (by decide) rfl pd_2 rfl rfl (Nat.le_of_eq rfl) at_152 rfl (k' := 3) (n' := 10) rfl rfl (by decide) (by decide) ?_
      intro T192 v192 h192 X192 q192
      obtain ⟨rfl, rfl⟩ := q192
      show own_Go p e below (T192.setTop (mkF m 155 #[.val (.int i0), .val (.int i1), .val (.int i2), .val (.int i3), .val (.int i4), .val (.int (3 : Int32)), .val (.ref b129), .val (.ref b150), .val (.ref b171), .val (.int (2 : Int32))] [(.int (1 : Int32))])) _
      refine own_ifNo (pc' := 158) B X192 at_155 ((if0 _ _).trans (feq (by decide : ¬ ((1 : Int32) = (0 : Int32)))).1) rfl ?_
      refine own_aload (pc' := 160) B X192 at_158 rfl rfl rfl ?_
      refine own_aload (pc' := 162) B X192 at_160 rfl rfl rfl ?_
      refine own_aload (pc' := 164) B X192 at_162 rfl rfl rfl ?_
      refine own_iload (pc' := 166) B X192 at_164 rfl rfl ?_
      refine own_iload (pc' := 168) B X192 at_166 rfl rfl ?_
      refine own_iconst (pc' := 169) B X192 (z := (2 : Int32)) at_168 rfl rfl ?_
      refine own_callS (pc' := 172) B X192 (own_w hw 10 rfl) (own_w hw 11 rfl) (own_w hw 4 rfl) (own_w hw 12 rfl) (by decide) [(.ref b150), (.ref b171), (.ref b129), (.int (3 : Int32)), (.int (2 : Int32)), (.int (2 : Int32))] [] (rm_49 l Z a0 hw [] b150 kb150 (y133) (y138) (y143) b171 k172 (y170) b129 kb129 (y148) (y131) (y136) (y141) (y146) (y169) (i1) (i2) (i3) (i4) h154 n0 (Nat.le_trans Z0 K.1) E_b150 V_b150 g_b150 E_b171 V_b171 g_b171 E_b129 V_b129 g_b129 ne_b150_b171 (Ne.symm ne_b129_b150) (Ne.symm ne_b129_b171) hy133 hy138 hy143 hy148 hy176 hy132 hy137 hy142 hy147 hy175 c173 c174) 0 (by decide) (by decide) rfl pd_2 rfl rfl (Nat.le_of_eq rfl) at_169 rfl (k' := 3) (n' := 10) rfl rfl (by decide) (by decide) ?_
      intro T193 v193 h193 X193 q193
      obtain ⟨rfl, rfl⟩ := q193
      show own_Go p e below (T193.setTop (mkF m 172 #[.val (.int i0), .val (.int i1), .val (.int i2), .val (.int i3), .val (.int i4), .val (.int (3 : Int32)), .val (.ref b129), .val (.ref b150), .val (.ref b171), .val (.int (2 : Int32))] [(.int (1 : Int32))])) _
      refine own_ifNo (pc' := 175) B X193 at_172 ((if0 _ _).trans (feq (by decide : ¬ ((1 : Int32) = (0 : Int32)))).1) rfl ?_
      refine own_aload (pc' := 177) B X193 at_175 rfl rfl rfl ?_
      refine own_aload (pc' := 179) B X193 at_177 rfl rfl rfl ?_
      refine own_aload (pc' := 181) B X193 at_179 rfl rfl rfl ?_
      refine own_iload (pc' := 183) B X193 at_181 rfl rfl ?_
      refine own_iload (pc' := 185) B X193 at_183 rfl rfl ?_
      refine own_iconst (pc' := 186) B X193 (z := (3 : Int32)) at_185 rfl rfl ?_
      refine own_callS (pc' := 189) B X193 (own_w hw 10 rfl) (own_w hw 11 rfl) (own_w hw 4 rfl) (own_w hw 12 rfl) (by decide) [(.ref b150), (.ref b171), (.ref b129), (.int (3 : Int32)), (.int (2 : Int32)), (.int (3 : Int32))] [] (rm_50 l Z a0 hw [] b150 kb150 (y133) (y138) (y143) b171 k172 (y170) b129 kb129 (y148) (y131) (y136) (y141) (y146) (y169) (i1) (i2) (i3) (i4) h154 n0 (Nat.le_trans Z0 K.1) E_b150 V_b150 g_b150 E_b171 V_b171 g_b171 E_b129 V_b129 g_b129 ne_b150_b171 (Ne.symm ne_b129_b150) (Ne.symm ne_b129_b171) hy133 hy138 hy143 hy148 hy176 hy132 hy137 hy142 hy147 hy175 c173 c174) 0 (by decide) (by decide) rfl pd_2 rfl rfl (Nat.le_of_eq rfl) at_186 rfl (k' := 3) (n' := 10) rfl rfl (by decide) (by decide) ?_
      intro T194 v194 h194 X194 q194
      obtain ⟨rfl, rfl⟩ := q194
      show own_Go p e below (T194.setTop (mkF m 189 #[.val (.int i0), .val (.int i1), .val (.int i2), .val (.int i3), .val (.int i4), .val (.int (3 : Int32)), .val (.ref b129), .val (.ref b150), .val (.ref b171), .val (.int (2 : Int32))] [(.int (1 : Int32))])) _
      refine own_ifNo (pc' := 192) B X194 at_189 ((if0 _ _).trans (feq (by decide : ¬ ((1 : Int32) = (0 : Int32)))).1) rfl ?_
      refine own_iconst (pc' := 193) B X194 (z := (1 : Int32)) at_192 rfl rfl ?_
      refine own_goto (pc' := 197) B X194 at_193 (by decide) rfl ?_
      exact own_retN B X194 (t := .boolean) (z' := (1 : Int32)) (by simp) (by decide) at_197 (by decide) (by decide) rfl
    · have ne_b129_b179 : b129 ≠ b179 := own_ne' lt_b129 z_b179
      have ne_b150_b179 : b150 ≠ b179 := own_ne' lt_b150 z_b179
      have sz_b179 : h0.size ≤ b179 := Nat.le_trans K.1 z_b179
      have g_b179 : n0 ≤ b179 := Nat.le_trans Z0 sz_b179
      replace K := K.trans K154 all0
      replace E_b129 := E_b129.keep K154
      replace V_b129 := V_b129.keep K154 nin0
      replace E_b150 := E_b150.keep K154
      replace V_b150 := V_b150.keep K154 nin0
      show own_Go p e below (T154.setTop (mkF m 108 #[.val (.int i0), .val (.int i1), .val (.int i2), .val (.int i3), .val (.int i4), .val (.int (3 : Int32)), .val (.ref b129), .val (.ref b150), .unset, .unset] [(.ref b179)])) _
      refine own_astore (pc' := 110) B X154 (Ls' := #[.val (.int i0), .val (.int i1), .val (.int i2), .val (.int i3), .val (.int i4), .val (.int (3 : Int32)), .val (.ref b129), .val (.ref b150), .val (.ref b179), .unset]) at_108 rfl rfl rfl ?_
      refine own_aload (pc' := 112) B X154 at_110 rfl rfl rfl ?_
      refine own_arraylength (pc' := 113) B X154 V_b179 at_112 rfl ?_
      refine own_istore (pc' := 115) B X154 (Ls' := #[.val (.int i0), .val (.int i1), .val (.int i2), .val (.int i3), .val (.int i4), .val (.int (3 : Int32)), .val (.ref b129), .val (.ref b150), .val (.ref b179), .val (.int (3 : Int32))]) at_113 rfl rfl ?_
      refine own_iload (pc' := 117) B X154 at_115 rfl rfl ?_
      refine own_iload (pc' := 119) B X154 at_117 rfl rfl ?_
      refine own_icmpYes (pc' := 124) B X154 at_119 (flt (by decide : ¬ ((3 : Int32) < (3 : Int32)))).2.2.2 (by decide) rfl ?_
      refine own_aload (pc' := 126) B X154 at_124 rfl rfl rfl ?_
      refine own_aload (pc' := 128) B X154 at_126 rfl rfl rfl ?_
      refine own_aload (pc' := 130) B X154 at_128 rfl rfl rfl ?_
      refine own_iload (pc' := 132) B X154 at_130 rfl rfl ?_
      refine own_iload (pc' := 134) B X154 at_132 rfl rfl ?_
      refine own_iconst (pc' := 135) B X154 (z := (0 : Int32)) at_134 rfl rfl ?_
      refine own_callS (pc' := 138) B X154 (own_w hw 10 rfl) (own_w hw 11 rfl) (own_w hw 4 rfl) (own_w hw 12 rfl) (by decide) [(.ref b150), (.ref b179), (.ref b129), (.int (3 : Int32)), (.int (3 : Int32)), (.int (0 : Int32))] [] (rm_51 l Z a0 hw [] b150 kb150 (y133) (y138) (y143) b179 kb150 (y178) b129 kb129 (y148) (y131) (y136) (y141) (y146) (y177) (i1) (i2) (i3) (i4) h154 n0 (Nat.le_trans Z0 K.1) E_b150 V_b150 g_b150 E_b179 V_b179 g_b179 E_b129 V_b129 g_b129 ne_b150_b179 (Ne.symm ne_b129_b150) (Ne.symm ne_b129_b179) hy133 hy138 hy143 hy148 hy182 hy132 hy137 hy142 hy147 hy181 c180) 0 (by decide) (by decide) rfl pd_2 rfl rfl (Nat.le_of_eq rfl) at_135 rfl (k' := 3) (n' := 10) rfl rfl (by decide) (by decide) ?_
      intro T195 v195 h195 X195 q195
      obtain ⟨rfl, rfl⟩ := q195
      show own_Go p e below (T195.setTop (mkF m 138 #[.val (.int i0), .val (.int i1), .val (.int i2), .val (.int i3), .val (.int i4), .val (.int (3 : Int32)), .val (.ref b129), .val (.ref b150), .val (.ref b179), .val (.int (3 : Int32))] [(.int (1 : Int32))])) _
      refine own_ifNo (pc' := 141) B X195 at_138 ((if0 _ _).trans (feq (by decide : ¬ ((1 : Int32) = (0 : Int32)))).1) rfl ?_
      refine own_aload (pc' := 143) B X195 at_141 rfl rfl rfl ?_
      refine own_aload (pc' := 145) B X195 at_143 rfl rfl rfl ?_
      refine own_aload (pc' := 147) B X195 at_145 rfl rfl rfl ?_
      refine own_iload (pc' := 149) B X195 at_147 rfl rfl ?_
      refine own_iload (pc' := 151) B X195 at_149 rfl rfl ?_
      refine own_iconst (pc' := 152) B X195 (z := (1 : Int32)) at_151 rfl rfl ?_
      refine own_callS (pc' := 155) B X195 (own_w hw 10 rfl) (own_w hw 11 rfl) (own_w hw 4 rfl) (own_w hw 12 rfl) (by decide) [(.ref b150), (.ref b179), (.ref b129), (.int (3 : Int32)), (.int (3 : Int32)), (.int (1 : Int32))] [] (rm_52 l Z a0 hw [] b150 kb150 (y133) (y138) (y143) b179 kb150 (y178) b129 kb129 (y148) (y131) (y136) (y141) (y146) (y177) (i1) (i2) (i3) (i4) h154 n0 (Nat.le_trans Z0 K.1) E_b150 V_b150 g_b150 E_b179 V_b179 g_b179 E_b129 V_b129 g_b129 ne_b150_b179 (Ne.symm ne_b129_b150) (Ne.symm ne_b129_b179) hy133 hy138 hy143 hy148 hy182 hy132 hy137 hy142 hy147 hy181 c180) 0 (by decide) (by decide) rfl pd_2 rfl rfl (Nat.le_of_eq rfl) at_152 rfl (k' := 3) (n' := 10) rfl rfl (by decide) (by decide) ?_
      intro T196 v196 h196 X196 q196
      obtain ⟨rfl, rfl⟩ := q196
      show own_Go p e below (T196.setTop (mkF m 155 #[.val (.int i0), .val (.int i1), .val (.int i2), .val (.int i3), .val (.int i4), .val (.int (3 : Int32)), .val (.ref b129), .val (.ref b150), .val (.ref b179), .val (.int (3 : Int32))] [(.int (1 : Int32))])) _
      refine own_ifNo (pc' := 158) B X196 at_155 ((if0 _ _).trans (feq (by decide : ¬ ((1 : Int32) = (0 : Int32)))).1) rfl ?_
      refine own_aload (pc' := 160) B X196 at_158 rfl rfl rfl ?_
      refine own_aload (pc' := 162) B X196 at_160 rfl rfl rfl ?_
      refine own_aload (pc' := 164) B X196 at_162 rfl rfl rfl ?_
      refine own_iload (pc' := 166) B X196 at_164 rfl rfl ?_
      refine own_iload (pc' := 168) B X196 at_166 rfl rfl ?_
      refine own_iconst (pc' := 169) B X196 (z := (2 : Int32)) at_168 rfl rfl ?_
      refine own_callS (pc' := 172) B X196 (own_w hw 10 rfl) (own_w hw 11 rfl) (own_w hw 4 rfl) (own_w hw 12 rfl) (by decide) [(.ref b150), (.ref b179), (.ref b129), (.int (3 : Int32)), (.int (3 : Int32)), (.int (2 : Int32))] [] (rm_53 l Z a0 hw [] b150 kb150 (y133) (y138) (y143) b179 kb150 (y178) b129 kb129 (y148) (y131) (y136) (y141) (y146) (y177) (i1) (i2) (i3) (i4) h154 n0 (Nat.le_trans Z0 K.1) E_b150 V_b150 g_b150 E_b179 V_b179 g_b179 E_b129 V_b129 g_b129 ne_b150_b179 (Ne.symm ne_b129_b150) (Ne.symm ne_b129_b179) hy133 hy138 hy143 hy148 hy182 hy132 hy137 hy142 hy147 hy181 c180) 0 (by decide) (by decide) rfl pd_2 rfl rfl (Nat.le_of_eq rfl) at_169 rfl (k' := 3) (n' := 10) rfl rfl (by decide) (by decide) ?_
      intro T197 v197 h197 X197 q197
      obtain ⟨rfl, rfl⟩ := q197
      show own_Go p e below (T197.setTop (mkF m 172 #[.val (.int i0), .val (.int i1), .val (.int i2), .val (.int i3), .val (.int i4), .val (.int (3 : Int32)), .val (.ref b129), .val (.ref b150), .val (.ref b179), .val (.int (3 : Int32))] [(.int (1 : Int32))])) _
      refine own_ifNo (pc' := 175) B X197 at_172 ((if0 _ _).trans (feq (by decide : ¬ ((1 : Int32) = (0 : Int32)))).1) rfl ?_
      refine own_aload (pc' := 177) B X197 at_175 rfl rfl rfl ?_
      refine own_aload (pc' := 179) B X197 at_177 rfl rfl rfl ?_
      refine own_aload (pc' := 181) B X197 at_179 rfl rfl rfl ?_
      refine own_iload (pc' := 183) B X197 at_181 rfl rfl ?_
      refine own_iload (pc' := 185) B X197 at_183 rfl rfl ?_
      refine own_iconst (pc' := 186) B X197 (z := (3 : Int32)) at_185 rfl rfl ?_
      refine own_callS (pc' := 189) B X197 (own_w hw 10 rfl) (own_w hw 11 rfl) (own_w hw 4 rfl) (own_w hw 12 rfl) (by decide) [(.ref b150), (.ref b179), (.ref b129), (.int (3 : Int32)), (.int (3 : Int32)), (.int (3 : Int32))] [] (rm_54 l Z a0 hw [] b150 kb150 (y133) (y138) (y143) b179 kb150 (y178) b129 kb129 (y148) (y131) (y136) (y141) (y146) (y177) (i1) (i2) (i3) (i4) h154 n0 (Nat.le_trans Z0 K.1) E_b150 V_b150 g_b150 E_b179 V_b179 g_b179 E_b129 V_b129 g_b129 ne_b150_b179 (Ne.symm ne_b129_b150) (Ne.symm ne_b129_b179) hy133 hy138 hy143 hy148 hy182 hy132 hy137 hy142 hy147 hy181 c180) 0 (by decide) (by decide) rfl pd_2 rfl rfl (Nat.le_of_eq rfl) at_186 rfl (k' := 3) (n' := 10) rfl rfl (by decide) (by decide) ?_
      intro T198 v198 h198 X198 q198
      obtain ⟨rfl, rfl⟩ := q198
      show own_Go p e below (T198.setTop (mkF m 189 #[.val (.int i0), .val (.int i1), .val (.int i2), .val (.int i3), .val (.int i4), .val (.int (3 : Int32)), .val (.ref b129), .val (.ref b150), .val (.ref b179), .val (.int (3 : Int32))] [(.int (1 : Int32))])) _
      refine own_ifNo (pc' := 192) B X198 at_189 ((if0 _ _).trans (feq (by decide : ¬ ((1 : Int32) = (0 : Int32)))).1) rfl ?_
      refine own_iconst (pc' := 193) B X198 (z := (1 : Int32)) at_192 rfl rfl ?_
      refine own_goto (pc' := 197) B X198 at_193 (by decide) rfl ?_
      exact own_retN B X198 (t := .boolean) (z' := (1 : Int32)) (by simp) (by decide) at_197 (by decide) (by decide) rfl
  · obtain rfl : y2 = (4 : Int32) := Int32.toInt_inj.mp (z3.trans (by decide))
    refine own_istore (pc' := 8) B X0 (Ls' := #[.val (.int i0), .val (.int i1), .val (.int i2), .val (.int i3), .val (.int i4), .val (.int (4 : Int32)), .unset, .unset, .unset, .unset]) at_6 rfl rfl ?_
    refine own_iconst (pc' := 9) B X0 (z := (4 : Int32)) at_8 rfl rfl ?_
    refine own_newarray (pc' := 11) B X0 (own_w hw 1 rfl) at_9 rfl rfl (by decide) 4 (by decide) (by decide) (k' := 1) (n' := 4) rfl rfl (by decide) (by decide) "[B" (by decide) (.int (0 : Int32)) rfl ?_
    intro T199 h199 b199 kb199 X199 g199 E199 V_b199 E_b199
    have sz_b199 : h0.size ≤ b199 := own_sz K g199
    have g_b199 : n0 ≤ b199 := Nat.le_trans Z0 sz_b199
    replace K := K.ext E199
    replace V_b199 : Arv Z h199 b199 kb199 .byte (4 : Int32) [(.int (0 : Int32)), (.int (0 : Int32)), (.int (0 : Int32)), (.int (0 : Int32))] (.int (0 : Int32)) := V_b199.pad (pad_rep [] (.int (0 : Int32)) 4)
    refine own_dup (pc' := 12) B X199 at_11 rfl rfl ?_
    refine own_iconst (pc' := 13) B X199 (z := (0 : Int32)) at_12 rfl rfl ?_
    refine own_iloadN (pc' := 14) B X199 at_13 rfl rfl ?_
    refine own_callS (pc' := 17) B X199 (own_w hw 2 rfl) (own_w hw 3 rfl) (own_w hw 4 rfl) (own_w hw 5 rfl) (by decide) [(.int i1)] [(.int (0 : Int32)), (.ref b199), (.ref b199)] (rm_1 l Z a0 hw [] (i1) h199 n0 (Nat.le_trans Z0 K.1) ) 3 (by decide) (by decide) rfl pd_0 rfl rfl (Nat.le_of_eq rfl) at_14 rfl (k' := 1) (n' := 4) rfl rfl (by decide) (by decide) ?_
    intro T200 v200 h200 X200 q200
    obtain ⟨y201, hy202, rfl, rfl⟩ := q200
    show own_Go p e below (T200.setTop (mkF m 17 #[.val (.int i0), .val (.int i1), .val (.int i2), .val (.int i3), .val (.int i4), .val (.int (4 : Int32)), .unset, .unset, .unset, .unset] [(.int y201), (.int (0 : Int32)), (.ref b199), (.ref b199)])) _
    obtain ⟨y203, hy203⟩ : ∃ z : Int32, y201.toInt8.toInt32 = z := ⟨_, rfl⟩
    refine own_bastore (pc' := 18) B X200 (x' := y203) V_b199 g_b199 ⟨by decide, by decide⟩ 0 (by decide) (Nat.le_of_ble_eq_true rfl) hy203 at_17 rfl ?_
    intro T204 h204 X204 W204 V_b199
    replace V_b199 : Arv Z h204 b199 kb199 .byte (4 : Int32) [(.int y203), (.int (0 : Int32)), (.int (0 : Int32)), (.int (0 : Int32))] (.int (0 : Int32)) := V_b199
    replace E_b199 := E_b199.wr W204
    replace K := K.wr W204 (Or.inr sz_b199)
    refine own_dup (pc' := 19) B X204 at_18 rfl rfl ?_
    refine own_iconst (pc' := 20) B X204 (z := (1 : Int32)) at_19 rfl rfl ?_
    refine own_iloadN (pc' := 21) B X204 at_20 rfl rfl ?_
    refine own_callS (pc' := 24) B X204 (own_w hw 2 rfl) (own_w hw 3 rfl) (own_w hw 4 rfl) (own_w hw 5 rfl) (by decide) [(.int i2)] [(.int (1 : Int32)), (.ref b199), (.ref b199)] (rm_1 l Z a0 hw [] (i2) h204 n0 (Nat.le_trans Z0 K.1) ) 3 (by decide) (by decide) rfl pd_0 rfl rfl (Nat.le_of_eq rfl) at_21 rfl (k' := 1) (n' := 4) rfl rfl (by decide) (by decide) ?_
    intro T205 v205 h205 X205 q205
    obtain ⟨y206, hy207, rfl, rfl⟩ := q205
    show own_Go p e below (T205.setTop (mkF m 24 #[.val (.int i0), .val (.int i1), .val (.int i2), .val (.int i3), .val (.int i4), .val (.int (4 : Int32)), .unset, .unset, .unset, .unset] [(.int y206), (.int (1 : Int32)), (.ref b199), (.ref b199)])) _
    obtain ⟨y208, hy208⟩ : ∃ z : Int32, y206.toInt8.toInt32 = z := ⟨_, rfl⟩
    refine own_bastore (pc' := 25) B X205 (x' := y208) V_b199 g_b199 ⟨by decide, by decide⟩ 1 (by decide) (Nat.le_of_ble_eq_true rfl) hy208 at_24 rfl ?_
    intro T209 h209 X209 W209 V_b199
    replace V_b199 : Arv Z h209 b199 kb199 .byte (4 : Int32) [(.int y203), (.int y208), (.int (0 : Int32)), (.int (0 : Int32))] (.int (0 : Int32)) := V_b199
    replace E_b199 := E_b199.wr W209
    replace K := K.wr W209 (Or.inr sz_b199)
    refine own_dup (pc' := 26) B X209 at_25 rfl rfl ?_
    refine own_iconst (pc' := 27) B X209 (z := (2 : Int32)) at_26 rfl rfl ?_
    refine own_iloadN (pc' := 28) B X209 at_27 rfl rfl ?_
    refine own_callS (pc' := 31) B X209 (own_w hw 2 rfl) (own_w hw 3 rfl) (own_w hw 4 rfl) (own_w hw 5 rfl) (by decide) [(.int i3)] [(.int (2 : Int32)), (.ref b199), (.ref b199)] (rm_1 l Z a0 hw [] (i3) h209 n0 (Nat.le_trans Z0 K.1) ) 3 (by decide) (by decide) rfl pd_0 rfl rfl (Nat.le_of_eq rfl) at_28 rfl (k' := 1) (n' := 4) rfl rfl (by decide) (by decide) ?_
    intro T210 v210 h210 X210 q210
    obtain ⟨y211, hy212, rfl, rfl⟩ := q210
    show own_Go p e below (T210.setTop (mkF m 31 #[.val (.int i0), .val (.int i1), .val (.int i2), .val (.int i3), .val (.int i4), .val (.int (4 : Int32)), .unset, .unset, .unset, .unset] [(.int y211), (.int (2 : Int32)), (.ref b199), (.ref b199)])) _
    obtain ⟨y213, hy213⟩ : ∃ z : Int32, y211.toInt8.toInt32 = z := ⟨_, rfl⟩
    refine own_bastore (pc' := 32) B X210 (x' := y213) V_b199 g_b199 ⟨by decide, by decide⟩ 2 (by decide) (Nat.le_of_ble_eq_true rfl) hy213 at_31 rfl ?_
    intro T214 h214 X214 W214 V_b199
    replace V_b199 : Arv Z h214 b199 kb199 .byte (4 : Int32) [(.int y203), (.int y208), (.int y213), (.int (0 : Int32))] (.int (0 : Int32)) := V_b199
    replace E_b199 := E_b199.wr W214
    replace K := K.wr W214 (Or.inr sz_b199)
    refine own_dup (pc' := 33) B X214 at_32 rfl rfl ?_
    refine own_iconst (pc' := 34) B X214 (z := (3 : Int32)) at_33 rfl rfl ?_
    refine own_iload (pc' := 36) B X214 at_34 rfl rfl ?_
    refine own_callS (pc' := 39) B X214 (own_w hw 2 rfl) (own_w hw 3 rfl) (own_w hw 4 rfl) (own_w hw 5 rfl) (by decide) [(.int i4)] [(.int (3 : Int32)), (.ref b199), (.ref b199)] (rm_1 l Z a0 hw [] (i4) h214 n0 (Nat.le_trans Z0 K.1) ) 3 (by decide) (by decide) rfl pd_0 rfl rfl (Nat.le_of_eq rfl) at_36 rfl (k' := 1) (n' := 4) rfl rfl (by decide) (by decide) ?_
    intro T215 v215 h215 X215 q215
    obtain ⟨y216, hy217, rfl, rfl⟩ := q215
    show own_Go p e below (T215.setTop (mkF m 39 #[.val (.int i0), .val (.int i1), .val (.int i2), .val (.int i3), .val (.int i4), .val (.int (4 : Int32)), .unset, .unset, .unset, .unset] [(.int y216), (.int (3 : Int32)), (.ref b199), (.ref b199)])) _
    obtain ⟨y218, hy218⟩ : ∃ z : Int32, y216.toInt8.toInt32 = z := ⟨_, rfl⟩
    refine own_bastore (pc' := 40) B X215 (x' := y218) V_b199 g_b199 ⟨by decide, by decide⟩ 3 (by decide) (Nat.le_of_ble_eq_true rfl) hy218 at_39 rfl ?_
    intro T219 h219 X219 W219 V_b199
    replace V_b199 : Arv Z h219 b199 kb199 .byte (4 : Int32) [(.int y203), (.int y208), (.int y213), (.int y218)] (.int (0 : Int32)) := V_b199
    replace E_b199 := E_b199.wr W219
    replace K := K.wr W219 (Or.inr sz_b199)
    refine own_astore (pc' := 42) B X219 (Ls' := #[.val (.int i0), .val (.int i1), .val (.int i2), .val (.int i3), .val (.int i4), .val (.int (4 : Int32)), .val (.ref b199), .unset, .unset, .unset]) at_40 rfl rfl rfl ?_
    refine own_iload (pc' := 44) B X219 at_42 rfl rfl ?_
    refine own_newarray (pc' := 46) B X219 (own_w hw 1 rfl) at_44 rfl rfl (by decide) 4 (by decide) (by decide) (k' := 2) (n' := 8) rfl rfl (by decide) (by decide) "[B" (by decide) (.int (0 : Int32)) rfl ?_
    intro T220 h220 b220 kb220 X220 g220 E220 V_b220 E_b220
    have ne_b199_b220 : b199 ≠ b220 := own_ne E_b199.lt g220
    have sz_b220 : h0.size ≤ b220 := own_sz K g220
    have g_b220 : n0 ≤ b220 := Nat.le_trans Z0 sz_b220
    replace K := K.ext E220
    replace E_b199 := E_b199.ext E220
    replace V_b199 := V_b199.ext E220
    replace V_b220 : Arv Z h220 b220 kb220 .byte (4 : Int32) [(.int (0 : Int32)), (.int (0 : Int32)), (.int (0 : Int32)), (.int (0 : Int32))] (.int (0 : Int32)) := V_b220.pad (pad_rep [] (.int (0 : Int32)) 4)
    refine own_astore (pc' := 48) B X220 (Ls' := #[.val (.int i0), .val (.int i1), .val (.int i2), .val (.int i3), .val (.int i4), .val (.int (4 : Int32)), .val (.ref b199), .val (.ref b220), .unset, .unset]) at_46 rfl rfl rfl ?_
    refine own_iload (pc' := 50) B X220 at_48 rfl rfl ?_
    refine own_ifNo (pc' := 53) B X220 at_50 ((if0 _ _).trans (tlt (by decide : (0 : Int32) < (4 : Int32))).2.2.2) rfl ?_
    refine own_aload (pc' := 55) B X220 at_53 rfl rfl rfl ?_
    refine own_iconst (pc' := 56) B X220 (z := (0 : Int32)) at_55 rfl rfl ?_
    refine own_aload (pc' := 58) B X220 at_56 rfl rfl rfl ?_
    refine own_iconst (pc' := 59) B X220 (z := (0 : Int32)) at_58 rfl rfl ?_
    refine own_baload (pc' := 60) B X220 V_b199 (v := (.int y203)) ⟨by decide, by decide⟩ rfl at_59 rfl ?_
    refine own_bastore (pc' := 61) B X220 (x' := y203) V_b220 g_b220 ⟨by decide, by decide⟩ 0 (by decide) (Nat.le_of_ble_eq_true rfl) (own_idem_i2b hy203) at_60 rfl ?_
    intro T221 h221 X221 W221 V_b220
    replace V_b220 : Arv Z h221 b220 kb220 .byte (4 : Int32) [(.int y203), (.int (0 : Int32)), (.int (0 : Int32)), (.int (0 : Int32))] (.int (0 : Int32)) := V_b220
    replace E_b199 := E_b199.wr W221
    replace V_b199 := V_b199.other W221 ne_b199_b220
    replace E_b220 := E_b220.wr W221
    replace K := K.wr W221 (Or.inr sz_b220)
    refine own_iload (pc' := 63) B X221 at_61 rfl rfl ?_
    refine own_iconst (pc' := 64) B X221 (z := (1 : Int32)) at_63 rfl rfl ?_
    refine own_icmpNo (pc' := 67) B X221 at_64 (tlt (by decide : (1 : Int32) < (4 : Int32))).2.2.2 rfl ?_
    refine own_aload (pc' := 69) B X221 at_67 rfl rfl rfl ?_
    refine own_iconst (pc' := 70) B X221 (z := (1 : Int32)) at_69 rfl rfl ?_
    refine own_aload (pc' := 72) B X221 at_70 rfl rfl rfl ?_
    refine own_iconst (pc' := 73) B X221 (z := (1 : Int32)) at_72 rfl rfl ?_
    refine own_baload (pc' := 74) B X221 V_b199 (v := (.int y208)) ⟨by decide, by decide⟩ rfl at_73 rfl ?_
    refine own_bastore (pc' := 75) B X221 (x' := y208) V_b220 g_b220 ⟨by decide, by decide⟩ 1 (by decide) (Nat.le_of_ble_eq_true rfl) (own_idem_i2b hy208) at_74 rfl ?_
    intro T222 h222 X222 W222 V_b220
    replace V_b220 : Arv Z h222 b220 kb220 .byte (4 : Int32) [(.int y203), (.int y208), (.int (0 : Int32)), (.int (0 : Int32))] (.int (0 : Int32)) := V_b220
    replace E_b199 := E_b199.wr W222
    replace V_b199 := V_b199.other W222 ne_b199_b220
    replace E_b220 := E_b220.wr W222
    replace K := K.wr W222 (Or.inr sz_b220)
    refine own_iload (pc' := 77) B X222 at_75 rfl rfl ?_
    refine own_iconst (pc' := 78) B X222 (z := (2 : Int32)) at_77 rfl rfl ?_
    refine own_icmpNo (pc' := 81) B X222 at_78 (tlt (by decide : (2 : Int32) < (4 : Int32))).2.2.2 rfl ?_
    refine own_aload (pc' := 83) B X222 at_81 rfl rfl rfl ?_
    refine own_iconst (pc' := 84) B X222 (z := (2 : Int32)) at_83 rfl rfl ?_
    refine own_aload (pc' := 86) B X222 at_84 rfl rfl rfl ?_
    refine own_iconst (pc' := 87) B X222 (z := (2 : Int32)) at_86 rfl rfl ?_
    refine own_baload (pc' := 88) B X222 V_b199 (v := (.int y213)) ⟨by decide, by decide⟩ rfl at_87 rfl ?_
    refine own_bastore (pc' := 89) B X222 (x' := y213) V_b220 g_b220 ⟨by decide, by decide⟩ 2 (by decide) (Nat.le_of_ble_eq_true rfl) (own_idem_i2b hy213) at_88 rfl ?_
    intro T223 h223 X223 W223 V_b220
    replace V_b220 : Arv Z h223 b220 kb220 .byte (4 : Int32) [(.int y203), (.int y208), (.int y213), (.int (0 : Int32))] (.int (0 : Int32)) := V_b220
    replace E_b199 := E_b199.wr W223
    replace V_b199 := V_b199.other W223 ne_b199_b220
    replace E_b220 := E_b220.wr W223
    replace K := K.wr W223 (Or.inr sz_b220)
    refine own_iload (pc' := 91) B X223 at_89 rfl rfl ?_
    refine own_iconst (pc' := 92) B X223 (z := (3 : Int32)) at_91 rfl rfl ?_
    refine own_icmpNo (pc' := 95) B X223 at_92 (tlt (by decide : (3 : Int32) < (4 : Int32))).2.2.2 rfl ?_
    refine own_aload (pc' := 97) B X223 at_95 rfl rfl rfl ?_
    refine own_iconst (pc' := 98) B X223 (z := (3 : Int32)) at_97 rfl rfl ?_
    refine own_aload (pc' := 100) B X223 at_98 rfl rfl rfl ?_
    refine own_iconst (pc' := 101) B X223 (z := (3 : Int32)) at_100 rfl rfl ?_
    refine own_baload (pc' := 102) B X223 V_b199 (v := (.int y218)) ⟨by decide, by decide⟩ rfl at_101 rfl ?_
    refine own_bastore (pc' := 103) B X223 (x' := y218) V_b220 g_b220 ⟨by decide, by decide⟩ 3 (by decide) (Nat.le_of_ble_eq_true rfl) (own_idem_i2b hy218) at_102 rfl ?_
    intro T224 h224 X224 W224 V_b220
    replace V_b220 : Arv Z h224 b220 kb220 .byte (4 : Int32) [(.int y203), (.int y208), (.int y213), (.int y218)] (.int (0 : Int32)) := V_b220
    replace E_b199 := E_b199.wr W224
    replace V_b199 := V_b199.other W224 ne_b199_b220
    replace E_b220 := E_b220.wr W224
    replace K := K.wr W224 (Or.inr sz_b220)
    refine own_aload (pc' := 105) B X224 at_103 rfl rfl rfl ?_
    refine own_callS (pc' := 108) B X224 (own_w hw 6 rfl) (own_w hw 7 rfl) (own_w hw 8 rfl) (own_w hw 9 rfl) (by decide) [(.ref b220)] [] (rm_55 l Z a0 hw [] b220 kb220 (y203) (y208) (y213) (y218) (y201) (y206) (y211) (y216) (i1) (i2) (i3) (i4) h224 n0 (Nat.le_trans Z0 K.1) E_b220 V_b220 g_b220 hy203 hy208 hy213 hy218 hy202 hy207 hy212 hy217) 0 (by decide) (by decide) rfl pd_1 rfl rfl (Nat.le_of_eq rfl) at_105 rfl (k' := 3) (n' := 12) rfl rfl (by decide) (by decide) ?_
    intro T225 v225 h225 X225 q225
    have lt_b199 := E_b199.lt
    have lt_b220 := E_b220.lt
    rcases q225 with ⟨b226, k227, c228, c229, c230, c231, rfl, K225, z_b226, E_b226, V_b226⟩ | ⟨y232, y233, b234, k235, c236, c237, c238, c239, hy240, hy241, rfl, K225, z_b234, E_b234, V_b234⟩ | ⟨y242, y243, b244, k245, c246, c247, c248, hy249, hy250, rfl, K225, z_b244, E_b244, V_b244⟩ | ⟨y251, y252, b253, k254, c255, c256, hy257, hy258, rfl, K225, z_b253, E_b253, V_b253⟩ | ⟨y259, y260, b261, c262, hy263, hy264, rfl, K225, z_b261, E_b261, V_b261⟩
    · have ne_b199_b226 : b199 ≠ b226 := own_ne' lt_b199 z_b226
      have ne_b220_b226 : b220 ≠ b226 := own_ne' lt_b220 z_b226
      have sz_b226 : h0.size ≤ b226 := Nat.le_trans K.1 z_b226
      have g_b226 : n0 ≤ b226 := Nat.le_trans Z0 sz_b226
      replace K := K.trans K225 all0
      replace E_b199 := E_b199.keep K225
      replace V_b199 := V_b199.keep K225 nin0
      replace E_b220 := E_b220.keep K225
      replace V_b220 := V_b220.keep K225 nin0
      show own_Go p e below (T225.setTop (mkF m 108 #[.val (.int i0), .val (.int i1), .val (.int i2), .val (.int i3), .val (.int i4), .val (.int (4 : Int32)), .val (.ref b199), .val (.ref b220), .unset, .unset] [(.ref b226)])) _
      refine own_astore (pc' := 110) B X225 (Ls' := #[.val (.int i0), .val (.int i1), .val (.int i2), .val (.int i3), .val (.int i4), .val (.int (4 : Int32)), .val (.ref b199), .val (.ref b220), .val (.ref b226), .unset]) at_108 rfl rfl rfl ?_
      refine own_aload (pc' := 112) B X225 at_110 rfl rfl rfl ?_
      refine own_arraylength (pc' := 113) B X225 V_b226 at_112 rfl ?_
      refine own_istore (pc' := 115) B X225 (Ls' := #[.val (.int i0), .val (.int i1), .val (.int i2), .val (.int i3), .val (.int i4), .val (.int (4 : Int32)), .val (.ref b199), .val (.ref b220), .val (.ref b226), .val (.int (0 : Int32))]) at_113 rfl rfl ?_
      refine own_iload (pc' := 117) B X225 at_115 rfl rfl ?_
      refine own_iload (pc' := 119) B X225 at_117 rfl rfl ?_
      refine own_icmpYes (pc' := 124) B X225 at_119 (flt (by decide : ¬ ((4 : Int32) < (0 : Int32)))).2.2.2 (by decide) rfl ?_
      refine own_aload (pc' := 126) B X225 at_124 rfl rfl rfl ?_
      refine own_aload (pc' := 128) B X225 at_126 rfl rfl rfl ?_
      refine own_aload (pc' := 130) B X225 at_128 rfl rfl rfl ?_
      refine own_iload (pc' := 132) B X225 at_130 rfl rfl ?_
      refine own_iload (pc' := 134) B X225 at_132 rfl rfl ?_
      refine own_iconst (pc' := 135) B X225 (z := (0 : Int32)) at_134 rfl rfl ?_
      refine own_callS (pc' := 138) B X225 (own_w hw 10 rfl) (own_w hw 11 rfl) (own_w hw 4 rfl) (own_w hw 12 rfl) (by decide) [(.ref b220), (.ref b226), (.ref b199), (.int (4 : Int32)), (.int (0 : Int32)), (.int (0 : Int32))] [] (rm_63 l Z a0 hw [] b220 kb220 (y203) (y208) (y213) (y218) b226 k227 b199 kb199 (y201) (y206) (y211) (y216) (i1) (i2) (i3) (i4) h225 n0 (Nat.le_trans Z0 K.1) E_b220 V_b220 g_b220 E_b226 V_b226 g_b226 E_b199 V_b199 g_b199 ne_b220_b226 (Ne.symm ne_b199_b220) (Ne.symm ne_b199_b226) hy203 hy208 hy213 hy218 hy202 hy207 hy212 hy217 c228 c229 c230 c231) 0 (by decide) (by decide) rfl pd_2 rfl rfl (Nat.le_of_eq rfl) at_135 rfl (k' := 3) (n' := 12) rfl rfl (by decide) (by decide) ?_
      intro T265 v265 h265 X265 q265
      obtain ⟨rfl, rfl⟩ := q265
      show own_Go p e below (T265.setTop (mkF m 138 #[.val (.int i0), .val (.int i1), .val (.int i2), .val (.int i3), .val (.int i4), .val (.int (4 : Int32)), .val (.ref b199), .val (.ref b220), .val (.ref b226), .val (.int (0 : Int32))] [(.int (1 : Int32))])) _
      refine own_ifNo (pc' := 141) B X265 at_138 ((if0 _ _).trans (feq (by decide : ¬ ((1 : Int32) = (0 : Int32)))).1) rfl ?_
      refine own_aload (pc' := 143) B X265 at_141 rfl rfl rfl ?_
      refine own_aload (pc' := 145) B X265 at_143 rfl rfl rfl ?_
      refine own_aload (pc' := 147) B X265 at_145 rfl rfl rfl ?_
      refine own_iload (pc' := 149) B X265 at_147 rfl rfl ?_
      refine own_iload (pc' := 151) B X265 at_149 rfl rfl ?_
      refine own_iconst (pc' := 152) B X265 (z := (1 : Int32)) at_151 rfl rfl ?_
      refine own_callS (pc' := 155) B X265 (own_w hw 10 rfl) (own_w hw 11 rfl) (own_w hw 4 rfl) (own_w hw 12 rfl) (by decide) [(.ref b220), (.ref b226), (.ref b199), (.int (4 : Int32)), (.int (0 : Int32)), (.int (1 : Int32))] [] (rm_64 l Z a0 hw [] b220 kb220 (y203) (y208) (y213) (y218) b226 k227 b199 kb199 (y201) (y206) (y211) (y216) (i1) (i2) (i3) (i4) h225 n0 (Nat.le_trans Z0 K.1) E_b220 V_b220 g_b220 E_b226 V_b226 g_b226 E_b199 V_b199 g_b199 ne_b220_b226 (Ne.symm ne_b199_b220) (Ne.symm ne_b199_b226) hy203 hy208 hy213 hy218 hy202 hy207 hy212 hy217 c228 c229 c230 c231) 0 (by decide) (by decide) rfl pd_2 rfl rfl (Nat.le_of_eq rfl) at_152 rfl (k' := 3) (n' := 12) rfl rfl (by decide) (by decide) ?_
      intro T266 v266 h266 X266 q266
      obtain ⟨rfl, rfl⟩ := q266
      show own_Go p e below (T266.setTop (mkF m 155 #[.val (.int i0), .val (.int i1), .val (.int i2), .val (.int i3), .val (.int i4), .val (.int (4 : Int32)), .val (.ref b199), .val (.ref b220), .val (.ref b226), .val (.int (0 : Int32))] [(.int (1 : Int32))])) _
      refine own_ifNo (pc' := 158) B X266 at_155 ((if0 _ _).trans (feq (by decide : ¬ ((1 : Int32) = (0 : Int32)))).1) rfl ?_
      refine own_aload (pc' := 160) B X266 at_158 rfl rfl rfl ?_
      refine own_aload (pc' := 162) B X266 at_160 rfl rfl rfl ?_
      refine own_aload (pc' := 164) B X266 at_162 rfl rfl rfl ?_
      refine own_iload (pc' := 166) B X266 at_164 rfl rfl ?_
      refine own_iload (pc' := 168) B X266 at_166 rfl rfl ?_
      refine own_iconst (pc' := 169) B X266 (z := (2 : Int32)) at_168 rfl rfl ?_
      refine own_callS (pc' := 172) B X266 (own_w hw 10 rfl) (own_w hw 11 rfl) (own_w hw 4 rfl) (own_w hw 12 rfl) (by decide) [(.ref b220), (.ref b226), (.ref b199), (.int (4 : Int32)), (.int (0 : Int32)), (.int (2 : Int32))] [] (rm_65 l Z a0 hw [] b220 kb220 (y203) (y208) (y213) (y218) b226 k227 b199 kb199 (y201) (y206) (y211) (y216) (i1) (i2) (i3) (i4) h225 n0 (Nat.le_trans Z0 K.1) E_b220 V_b220 g_b220 E_b226 V_b226 g_b226 E_b199 V_b199 g_b199 ne_b220_b226 (Ne.symm ne_b199_b220) (Ne.symm ne_b199_b226) hy203 hy208 hy213 hy218 hy202 hy207 hy212 hy217 c228 c229 c230 c231) 0 (by decide) (by decide) rfl pd_2 rfl rfl (Nat.le_of_eq rfl) at_169 rfl (k' := 3) (n' := 12) rfl rfl (by decide) (by decide) ?_
      intro T267 v267 h267 X267 q267
      obtain ⟨rfl, rfl⟩ := q267
      show own_Go p e below (T267.setTop (mkF m 172 #[.val (.int i0), .val (.int i1), .val (.int i2), .val (.int i3), .val (.int i4), .val (.int (4 : Int32)), .val (.ref b199), .val (.ref b220), .val (.ref b226), .val (.int (0 : Int32))] [(.int (1 : Int32))])) _
      refine own_ifNo (pc' := 175) B X267 at_172 ((if0 _ _).trans (feq (by decide : ¬ ((1 : Int32) = (0 : Int32)))).1) rfl ?_
      refine own_aload (pc' := 177) B X267 at_175 rfl rfl rfl ?_
      refine own_aload (pc' := 179) B X267 at_177 rfl rfl rfl ?_
      refine own_aload (pc' := 181) B X267 at_179 rfl rfl rfl ?_
      refine own_iload (pc' := 183) B X267 at_181 rfl rfl ?_
      refine own_iload (pc' := 185) B X267 at_183 rfl rfl ?_
      refine own_iconst (pc' := 186) B X267 (z := (3 : Int32)) at_185 rfl rfl ?_
      refine own_callS (pc' := 189) B X267 (own_w hw 10 rfl) (own_w hw 11 rfl) (own_w hw 4 rfl) (own_w hw 12 rfl) (by decide) [(.ref b220), (.ref b226), (.ref b199), (.int (4 : Int32)), (.int (0 : Int32)), (.int (3 : Int32))] [] (rm_66 l Z a0 hw [] b220 kb220 (y203) (y208) (y213) (y218) b226 k227 b199 kb199 (y201) (y206) (y211) (y216) (i1) (i2) (i3) (i4) h225 n0 (Nat.le_trans Z0 K.1) E_b220 V_b220 g_b220 E_b226 V_b226 g_b226 E_b199 V_b199 g_b199 ne_b220_b226 (Ne.symm ne_b199_b220) (Ne.symm ne_b199_b226) hy203 hy208 hy213 hy218 hy202 hy207 hy212 hy217 c228 c229 c230 c231) 0 (by decide) (by decide) rfl pd_2 rfl rfl (Nat.le_of_eq rfl) at_186 rfl (k' := 3) (n' := 12) rfl rfl (by decide) (by decide) ?_
      intro T268 v268 h268 X268 q268
      obtain ⟨rfl, rfl⟩ := q268
      show own_Go p e below (T268.setTop (mkF m 189 #[.val (.int i0), .val (.int i1), .val (.int i2), .val (.int i3), .val (.int i4), .val (.int (4 : Int32)), .val (.ref b199), .val (.ref b220), .val (.ref b226), .val (.int (0 : Int32))] [(.int (1 : Int32))])) _
      refine own_ifNo (pc' := 192) B X268 at_189 ((if0 _ _).trans (feq (by decide : ¬ ((1 : Int32) = (0 : Int32)))).1) rfl ?_
      refine own_iconst (pc' := 193) B X268 (z := (1 : Int32)) at_192 rfl rfl ?_
      refine own_goto (pc' := 197) B X268 at_193 (by decide) rfl ?_
      exact own_retN B X268 (t := .boolean) (z' := (1 : Int32)) (by simp) (by decide) at_197 (by decide) (by decide) rfl
    · have ne_b199_b234 : b199 ≠ b234 := own_ne' lt_b199 z_b234
      have ne_b220_b234 : b220 ≠ b234 := own_ne' lt_b220 z_b234
      have sz_b234 : h0.size ≤ b234 := Nat.le_trans K.1 z_b234
      have g_b234 : n0 ≤ b234 := Nat.le_trans Z0 sz_b234
      replace K := K.trans K225 all0
      replace E_b199 := E_b199.keep K225
      replace V_b199 := V_b199.keep K225 nin0
      replace E_b220 := E_b220.keep K225
      replace V_b220 := V_b220.keep K225 nin0
      show own_Go p e below (T225.setTop (mkF m 108 #[.val (.int i0), .val (.int i1), .val (.int i2), .val (.int i3), .val (.int i4), .val (.int (4 : Int32)), .val (.ref b199), .val (.ref b220), .unset, .unset] [(.ref b234)])) _
      refine own_astore (pc' := 110) B X225 (Ls' := #[.val (.int i0), .val (.int i1), .val (.int i2), .val (.int i3), .val (.int i4), .val (.int (4 : Int32)), .val (.ref b199), .val (.ref b220), .val (.ref b234), .unset]) at_108 rfl rfl rfl ?_
      refine own_aload (pc' := 112) B X225 at_110 rfl rfl rfl ?_
      refine own_arraylength (pc' := 113) B X225 V_b234 at_112 rfl ?_
      refine own_istore (pc' := 115) B X225 (Ls' := #[.val (.int i0), .val (.int i1), .val (.int i2), .val (.int i3), .val (.int i4), .val (.int (4 : Int32)), .val (.ref b199), .val (.ref b220), .val (.ref b234), .val (.int (1 : Int32))]) at_113 rfl rfl ?_
      refine own_iload (pc' := 117) B X225 at_115 rfl rfl ?_
      refine own_iload (pc' := 119) B X225 at_117 rfl rfl ?_
      refine own_icmpYes (pc' := 124) B X225 at_119 (flt (by decide : ¬ ((4 : Int32) < (1 : Int32)))).2.2.2 (by decide) rfl ?_
      refine own_aload (pc' := 126) B X225 at_124 rfl rfl rfl ?_
      refine own_aload (pc' := 128) B X225 at_126 rfl rfl rfl ?_
      refine own_aload (pc' := 130) B X225 at_128 rfl rfl rfl ?_
      refine own_iload (pc' := 132) B X225 at_130 rfl rfl ?_
      refine own_iload (pc' := 134) B X225 at_132 rfl rfl ?_
      refine own_iconst (pc' := 135) B X225 (z := (0 : Int32)) at_134 rfl rfl ?_
      refine own_callS (pc' := 138) B X225 (own_w hw 10 rfl) (own_w hw 11 rfl) (own_w hw 4 rfl) (own_w hw 12 rfl) (by decide) [(.ref b220), (.ref b234), (.ref b199), (.int (4 : Int32)), (.int (1 : Int32)), (.int (0 : Int32))] [] (rm_67 l Z a0 hw [] b220 kb220 (y203) (y208) (y213) (y218) b234 k235 (y233) b199 kb199 (y201) (y206) (y211) (y216) (y232) (i1) (i2) (i3) (i4) h225 n0 (Nat.le_trans Z0 K.1) E_b220 V_b220 g_b220 E_b234 V_b234 g_b234 E_b199 V_b199 g_b199 ne_b220_b234 (Ne.symm ne_b199_b220) (Ne.symm ne_b199_b234) hy203 hy208 hy213 hy218 hy241 hy202 hy207 hy212 hy217 hy240 c236 c237 c238 c239) 0 (by decide) (by decide) rfl pd_2 rfl rfl (Nat.le_of_eq rfl) at_135 rfl (k' := 3) (n' := 12) rfl rfl (by decide) (by decide) ?_
      intro T269 v269 h269 X269 q269
      obtain ⟨rfl, rfl⟩ := q269
      show own_Go p e below (T269.setTop (mkF m 138 #[.val (.int i0), .val (.int i1), .val (.int i2), .val (.int i3), .val (.int i4), .val (.int (4 : Int32)), .val (.ref b199), .val (.ref b220), .val (.ref b234), .val (.int (1 : Int32))] [(.int (1 : Int32))])) _
      refine own_ifNo (pc' := 141) B X269 at_138 ((if0 _ _).trans (feq (by decide : ¬ ((1 : Int32) = (0 : Int32)))).1) rfl ?_
      refine own_aload (pc' := 143) B X269 at_141 rfl rfl rfl ?_
      refine own_aload (pc' := 145) B X269 at_143 rfl rfl rfl ?_
      refine own_aload (pc' := 147) B X269 at_145 rfl rfl rfl ?_
      refine own_iload (pc' := 149) B X269 at_147 rfl rfl ?_
      refine own_iload (pc' := 151) B X269 at_149 rfl rfl ?_
      refine own_iconst (pc' := 152) B X269 (z := (1 : Int32)) at_151 rfl rfl ?_
      refine own_callS (pc' := 155) B X269 (own_w hw 10 rfl) (own_w hw 11 rfl) (own_w hw 4 rfl) (own_w hw 12 rfl) (by decide) [(.ref b220), (.ref b234), (.ref b199), (.int (4 : Int32)), (.int (1 : Int32)), (.int (1 : Int32))] [] (rm_68 l Z a0 hw [] b220 kb220 (y203) (y208) (y213) (y218) b234 k235 (y233) b199 kb199 (y201) (y206) (y211) (y216) (y232) (i1) (i2) (i3) (i4) h225 n0 (Nat.le_trans Z0 K.1) E_b220 V_b220 g_b220 E_b234 V_b234 g_b234 E_b199 V_b199 g_b199 ne_b220_b234 (Ne.symm ne_b199_b220) (Ne.symm ne_b199_b234) hy203 hy208 hy213 hy218 hy241 hy202 hy207 hy212 hy217 hy240 c236 c237 c238 c239) 0 (by decide) (by decide) rfl pd_2 rfl rfl (Nat.le_of_eq rfl) at_152 rfl (k' := 3) (n' := 12) rfl rfl (by decide) (by decide) ?_
      intro T270 v270 h270 X270 q270
      obtain ⟨rfl, rfl⟩ := q270
      show own_Go p e below (T270.setTop (mkF m 155 #[.val (.int i0), .val (.int i1), .val (.int i2), .val (.int i3), .val (.int i4), .val (.int (4 : Int32)), .val (.ref b199), .val (.ref b220), .val (.ref b234), .val (.int (1 : Int32))] [(.int (1 : Int32))])) _
      refine own_ifNo (pc' := 158) B X270 at_155 ((if0 _ _).trans (feq (by decide : ¬ ((1 : Int32) = (0 : Int32)))).1) rfl ?_
      refine own_aload (pc' := 160) B X270 at_158 rfl rfl rfl ?_
      refine own_aload (pc' := 162) B X270 at_160 rfl rfl rfl ?_
      refine own_aload (pc' := 164) B X270 at_162 rfl rfl rfl ?_
      refine own_iload (pc' := 166) B X270 at_164 rfl rfl ?_
      refine own_iload (pc' := 168) B X270 at_166 rfl rfl ?_
      refine own_iconst (pc' := 169) B X270 (z := (2 : Int32)) at_168 rfl rfl ?_
      refine own_callS (pc' := 172) B X270 (own_w hw 10 rfl) (own_w hw 11 rfl) (own_w hw 4 rfl) (own_w hw 12 rfl) (by decide) [(.ref b220), (.ref b234), (.ref b199), (.int (4 : Int32)), (.int (1 : Int32)), (.int (2 : Int32))] [] (rm_69 l Z a0 hw [] b220 kb220 (y203) (y208) (y213) (y218) b234 k235 (y233) b199 kb199 (y201) (y206) (y211) (y216) (y232) (i1) (i2) (i3) (i4) h225 n0 (Nat.le_trans Z0 K.1) E_b220 V_b220 g_b220 E_b234 V_b234 g_b234 E_b199 V_b199 g_b199 ne_b220_b234 (Ne.symm ne_b199_b220) (Ne.symm ne_b199_b234) hy203 hy208 hy213 hy218 hy241 hy202 hy207 hy212 hy217 hy240 c236 c237 c238 c239) 0 (by decide) (by decide) rfl pd_2 rfl rfl (Nat.le_of_eq rfl) at_169 rfl (k' := 3) (n' := 12) rfl rfl (by decide) (by decide) ?_
      intro T271 v271 h271 X271 q271
      obtain ⟨rfl, rfl⟩ := q271
      show own_Go p e below (T271.setTop (mkF m 172 #[.val (.int i0), .val (.int i1), .val (.int i2), .val (.int i3), .val (.int i4), .val (.int (4 : Int32)), .val (.ref b199), .val (.ref b220), .val (.ref b234), .val (.int (1 : Int32))] [(.int (1 : Int32))])) _
      refine own_ifNo (pc' := 175) B X271 at_172 ((if0 _ _).trans (feq (by decide : ¬ ((1 : Int32) = (0 : Int32)))).1) rfl ?_
      refine own_aload (pc' := 177) B X271 at_175 rfl rfl rfl ?_
      refine own_aload (pc' := 179) B X271 at_177 rfl rfl rfl ?_
      refine own_aload (pc' := 181) B X271 at_179 rfl rfl rfl ?_
      refine own_iload (pc' := 183) B X271 at_181 rfl rfl ?_
      refine own_iload (pc' := 185) B X271 at_183 rfl rfl ?_
      refine own_iconst (pc' := 186) B X271 (z := (3 : Int32)) at_185 rfl rfl ?_
      refine own_callS (pc' := 189) B X271 (own_w hw 10 rfl) (own_w hw 11 rfl) (own_w hw 4 rfl) (own_w hw 12 rfl) (by decide) [(.ref b220), (.ref b234), (.ref b199), (.int (4 : Int32)), (.int (1 : Int32)), (.int (3 : Int32))] [] (rm_70 l Z a0 hw [] b220 kb220 (y203) (y208) (y213) (y218) b234 k235 (y233) b199 kb199 (y201) (y206) (y211) (y216) (y232) (i1) (i2) (i3) (i4) h225 n0 (Nat.le_trans Z0 K.1) E_b220 V_b220 g_b220 E_b234 V_b234 g_b234 E_b199 V_b199 g_b199 ne_b220_b234 (Ne.symm ne_b199_b220) (Ne.symm ne_b199_b234) hy203 hy208 hy213 hy218 hy241 hy202 hy207 hy212 hy217 hy240 c236 c237 c238 c239) 0 (by decide) (by decide) rfl pd_2 rfl rfl (Nat.le_of_eq rfl) at_186 rfl (k' := 3) (n' := 12) rfl rfl (by decide) (by decide) ?_
      intro T272 v272 h272 X272 q272
      obtain ⟨rfl, rfl⟩ := q272
      show own_Go p e below (T272.setTop (mkF m 189 #[.val (.int i0), .val (.int i1), .val (.int i2), .val (.int i3), .val (.int i4), .val (.int (4 : Int32)), .val (.ref b199), .val (.ref b220), .val (.ref b234), .val (.int (1 : Int32))] [(.int (1 : Int32))])) _
      refine own_ifNo (pc' := 192) B X272 at_189 ((if0 _ _).trans (feq (by decide : ¬ ((1 : Int32) = (0 : Int32)))).1) rfl ?_
      refine own_iconst (pc' := 193) B X272 (z := (1 : Int32)) at_192 rfl rfl ?_
      refine own_goto (pc' := 197) B X272 at_193 (by decide) rfl ?_
      exact own_retN B X272 (t := .boolean) (z' := (1 : Int32)) (by simp) (by decide) at_197 (by decide) (by decide) rfl
    · have ne_b199_b244 : b199 ≠ b244 := own_ne' lt_b199 z_b244
      have ne_b220_b244 : b220 ≠ b244 := own_ne' lt_b220 z_b244
      have sz_b244 : h0.size ≤ b244 := Nat.le_trans K.1 z_b244
      have g_b244 : n0 ≤ b244 := Nat.le_trans Z0 sz_b244
      replace K := K.trans K225 all0
      replace E_b199 := E_b199.keep K225
      replace V_b199 := V_b199.keep K225 nin0
      replace E_b220 := E_b220.keep K225
      replace V_b220 := V_b220.keep K225 nin0
      show own_Go p e below (T225.setTop (mkF m 108 #[.val (.int i0), .val (.int i1), .val (.int i2), .val (.int i3), .val (.int i4), .val (.int (4 : Int32)), .val (.ref b199), .val (.ref b220), .unset, .unset] [(.ref b244)])) _
      refine own_astore (pc' := 110) B X225 (Ls' := #[.val (.int i0), .val (.int i1), .val (.int i2), .val (.int i3), .val (.int i4), .val (.int (4 : Int32)), .val (.ref b199), .val (.ref b220), .val (.ref b244), .unset]) at_108 rfl rfl rfl ?_
      refine own_aload (pc' := 112) B X225 at_110 rfl rfl rfl ?_
      refine own_arraylength (pc' := 113) B X225 V_b244 at_112 rfl ?_
      refine own_istore (pc' := 115) B X225 (Ls' := #[.val (.int i0), .val (.int i1), .val (.int i2), .val (.int i3), .val (.int i4), .val (.int (4 : Int32)), .val (.ref b199), .val (.ref b220), .val (.ref b244), .val (.int (2 : Int32))]) at_113 rfl rfl ?_
      refine own_iload (pc' := 117) B X225 at_115 rfl rfl ?_
      refine own_iload (pc' := 119) B X225 at_117 rfl rfl ?_
      refine own_icmpYes (pc' := 124) B X225 at_119 (flt (by decide : ¬ ((4 : Int32) < (2 : Int32)))).2.2.2 (by decide) rfl ?_
      refine own_aload (pc' := 126) B X225 at_124 rfl rfl rfl ?_
      refine own_aload (pc' := 128) B X225 at_126 rfl rfl rfl ?_
      refine own_aload (pc' := 130) B X225 at_128 rfl rfl rfl ?_
      refine own_iload (pc' := 132) B X225 at_130 rfl rfl ?_
      refine own_iload (pc' := 134) B X225 at_132 rfl rfl ?_
      refine own_iconst (pc' := 135) B X225 (z := (0 : Int32)) at_134 rfl rfl ?_
      refine own_callS (pc' := 138) B X225 (own_w hw 10 rfl) (own_w hw 11 rfl) (own_w hw 4 rfl) (own_w hw 12 rfl) (by decide) [(.ref b220), (.ref b244), (.ref b199), (.int (4 : Int32)), (.int (2 : Int32)), (.int (0 : Int32))] [] (rm_71 l Z a0 hw [] b220 kb220 (y203) (y208) (y213) (y218) b244 k245 (y243) b199 kb199 (y201) (y206) (y211) (y216) (y242) (i1) (i2) (i3) (i4) h225 n0 (Nat.le_trans Z0 K.1) E_b220 V_b220 g_b220 E_b244 V_b244 g_b244 E_b199 V_b199 g_b199 ne_b220_b244 (Ne.symm ne_b199_b220) (Ne.symm ne_b199_b244) hy203 hy208 hy213 hy218 hy250 hy202 hy207 hy212 hy217 hy249 c246 c247 c248) 0 (by decide) (by decide) rfl pd_2 rfl rfl (Nat.le_of_eq rfl) at_135 rfl (k' := 3) (n' := 12) rfl rfl (by decide) (by decide) ?_
      intro T273 v273 h273 X273 q273
      obtain ⟨rfl, rfl⟩ := q273
      show own_Go p e below (T273.setTop (mkF m 138 #[.val (.int i0), .val (.int i1), .val (.int i2), .val (.int i3), .val (.int i4), .val (.int (4 : Int32)), .val (.ref b199), .val (.ref b220), .val (.ref b244), .val (.int (2 : Int32))] [(.int (1 : Int32))])) _
      refine own_ifNo (pc' := 141) B X273 at_138 ((if0 _ _).trans (feq (by decide : ¬ ((1 : Int32) = (0 : Int32)))).1) rfl ?_
      refine own_aload (pc' := 143) B X273 at_141 rfl rfl rfl ?_
      refine own_aload (pc' := 145) B X273 at_143 rfl rfl rfl ?_
      refine own_aload (pc' := 147) B X273 at_145 rfl rfl rfl ?_
      refine own_iload (pc' := 149) B X273 at_147 rfl rfl ?_
      refine own_iload (pc' := 151) B X273 at_149 rfl rfl ?_
      refine own_iconst (pc' := 152) B X273 (z := (1 : Int32)) at_151 rfl rfl ?_
      refine own_callS (pc' := 155) B X273 (own_w hw 10 rfl) (own_w hw 11 rfl) (own_w hw 4 rfl) (own_w hw 12 rfl) (by decide) [(.ref b220), (.ref b244), (.ref b199), (.int (4 : Int32)), (.int (2 : Int32)), (.int (1 : Int32))] [] (rm_72 l Z a0 hw [] b220 kb220 (y203) (y208) (y213) (y218) b244 k245 (y243) b199 kb199 (y201) (y206) (y211) (y216) (y242) (i1) (i2) (i3) (i4) h225 n0 (Nat.le_trans Z0 K.1) E_b220 V_b220 g_b220 E_b244 V_b244 g_b244 E_b199 V_b199 g_b199 ne_b220_b244 (Ne.symm ne_b199_b220) (Ne.symm ne_b199_b244) hy203 hy208 hy213 hy218 hy250 hy202 hy207 hy212 hy217 hy249 c246 c247 c248) 0 (by decide) (by decide) rfl pd_2 rfl rfl (Nat.le_of_eq rfl) at_152 rfl (k' := 3) (n' := 12) rfl rfl (by decide) (by decide) ?_
      intro T274 v274 h274 X274 q274
      obtain ⟨rfl, rfl⟩ := q274
      show own_Go p e below (T274.setTop (mkF m 155 #[.val (.int i0), .val (.int i1), .val (.int i2), .val (.int i3), .val (.int i4), .val (.int (4 : Int32)), .val (.ref b199), .val (.ref b220), .val (.ref b244), .val (.int (2 : Int32))] [(.int (1 : Int32))])) _
      refine own_ifNo (pc' := 158) B X274 at_155 ((if0 _ _).trans (feq (by decide : ¬ ((1 : Int32) = (0 : Int32)))).1) rfl ?_
      refine own_aload (pc' := 160) B X274 at_158 rfl rfl rfl ?_
      refine own_aload (pc' := 162) B X274 at_160 rfl rfl rfl ?_
      refine own_aload (pc' := 164) B X274 at_162 rfl rfl rfl ?_
      refine own_iload (pc' := 166) B X274 at_164 rfl rfl ?_
      refine own_iload (pc' := 168) B X274 at_166 rfl rfl ?_
      refine own_iconst (pc' := 169) B X274 (z := (2 : Int32)) at_168 rfl rfl ?_
      refine own_callS (pc' := 172) B X274 (own_w hw 10 rfl) (own_w hw 11 rfl) (own_w hw 4 rfl) (own_w hw 12 rfl) (by decide) [(.ref b220), (.ref b244), (.ref b199), (.int (4 : Int32)), (.int (2 : Int32)), (.int (2 : Int32))] [] (rm_73 l Z a0 hw [] b220 kb220 (y203) (y208) (y213) (y218) b244 k245 (y243) b199 kb199 (y201) (y206) (y211) (y216) (y242) (i1) (i2) (i3) (i4) h225 n0 (Nat.le_trans Z0 K.1) E_b220 V_b220 g_b220 E_b244 V_b244 g_b244 E_b199 V_b199 g_b199 ne_b220_b244 (Ne.symm ne_b199_b220) (Ne.symm ne_b199_b244) hy203 hy208 hy213 hy218 hy250 hy202 hy207 hy212 hy217 hy249 c246 c247 c248) 0 (by decide) (by decide) rfl pd_2 rfl rfl (Nat.le_of_eq rfl) at_169 rfl (k' := 3) (n' := 12) rfl rfl (by decide) (by decide) ?_
      intro T275 v275 h275 X275 q275
      obtain ⟨rfl, rfl⟩ := q275
      show own_Go p e below (T275.setTop (mkF m 172 #[.val (.int i0), .val (.int i1), .val (.int i2), .val (.int i3), .val (.int i4), .val (.int (4 : Int32)), .val (.ref b199), .val (.ref b220), .val (.ref b244), .val (.int (2 : Int32))] [(.int (1 : Int32))])) _
      refine own_ifNo (pc' := 175) B X275 at_172 ((if0 _ _).trans (feq (by decide : ¬ ((1 : Int32) = (0 : Int32)))).1) rfl ?_
      refine own_aload (pc' := 177) B X275 at_175 rfl rfl rfl ?_
      refine own_aload (pc' := 179) B X275 at_177 rfl rfl rfl ?_
      refine own_aload (pc' := 181) B X275 at_179 rfl rfl rfl ?_
      refine own_iload (pc' := 183) B X275 at_181 rfl rfl ?_
      refine own_iload (pc' := 185) B X275 at_183 rfl rfl ?_
      refine own_iconst (pc' := 186) B X275 (z := (3 : Int32)) at_185 rfl rfl ?_
      refine own_callS (pc' := 189) B X275 (own_w hw 10 rfl) (own_w hw 11 rfl) (own_w hw 4 rfl) (own_w hw 12 rfl) (by decide) [(.ref b220), (.ref b244), (.ref b199), (.int (4 : Int32)), (.int (2 : Int32)), (.int (3 : Int32))] [] (rm_74 l Z a0 hw [] b220 kb220 (y203) (y208) (y213) (y218) b244 k245 (y243) b199 kb199 (y201) (y206) (y211) (y216) (y242) (i1) (i2) (i3) (i4) h225 n0 (Nat.le_trans Z0 K.1) E_b220 V_b220 g_b220 E_b244 V_b244 g_b244 E_b199 V_b199 g_b199 ne_b220_b244 (Ne.symm ne_b199_b220) (Ne.symm ne_b199_b244) hy203 hy208 hy213 hy218 hy250 hy202 hy207 hy212 hy217 hy249 c246 c247 c248) 0 (by decide) (by decide) rfl pd_2 rfl rfl (Nat.le_of_eq rfl) at_186 rfl (k' := 3) (n' := 12) rfl rfl (by decide) (by decide) ?_
      intro T276 v276 h276 X276 q276
      obtain ⟨rfl, rfl⟩ := q276
      show own_Go p e below (T276.setTop (mkF m 189 #[.val (.int i0), .val (.int i1), .val (.int i2), .val (.int i3), .val (.int i4), .val (.int (4 : Int32)), .val (.ref b199), .val (.ref b220), .val (.ref b244), .val (.int (2 : Int32))] [(.int (1 : Int32))])) _
      refine own_ifNo (pc' := 192) B X276 at_189 ((if0 _ _).trans (feq (by decide : ¬ ((1 : Int32) = (0 : Int32)))).1) rfl ?_
      refine own_iconst (pc' := 193) B X276 (z := (1 : Int32)) at_192 rfl rfl ?_
      refine own_goto (pc' := 197) B X276 at_193 (by decide) rfl ?_
      exact own_retN B X276 (t := .boolean) (z' := (1 : Int32)) (by simp) (by decide) at_197 (by decide) (by decide) rfl
    · have ne_b199_b253 : b199 ≠ b253 := own_ne' lt_b199 z_b253
      have ne_b220_b253 : b220 ≠ b253 := own_ne' lt_b220 z_b253
      have sz_b253 : h0.size ≤ b253 := Nat.le_trans K.1 z_b253
      have g_b253 : n0 ≤ b253 := Nat.le_trans Z0 sz_b253
      replace K := K.trans K225 all0
      replace E_b199 := E_b199.keep K225
      replace V_b199 := V_b199.keep K225 nin0
      replace E_b220 := E_b220.keep K225
      replace V_b220 := V_b220.keep K225 nin0
      show own_Go p e below (T225.setTop (mkF m 108 #[.val (.int i0), .val (.int i1), .val (.int i2), .val (.int i3), .val (.int i4), .val (.int (4 : Int32)), .val (.ref b199), .val (.ref b220), .unset, .unset] [(.ref b253)])) _
      refine own_astore (pc' := 110) B X225 (Ls' := #[.val (.int i0), .val (.int i1), .val (.int i2), .val (.int i3), .val (.int i4), .val (.int (4 : Int32)), .val (.ref b199), .val (.ref b220), .val (.ref b253), .unset]) at_108 rfl rfl rfl ?_
      refine own_aload (pc' := 112) B X225 at_110 rfl rfl rfl ?_
      refine own_arraylength (pc' := 113) B X225 V_b253 at_112 rfl ?_
      refine own_istore (pc' := 115) B X225 (Ls' := #[.val (.int i0), .val (.int i1), .val (.int i2), .val (.int i3), .val (.int i4), .val (.int (4 : Int32)), .val (.ref b199), .val (.ref b220), .val (.ref b253), .val (.int (3 : Int32))]) at_113 rfl rfl ?_
      refine own_iload (pc' := 117) B X225 at_115 rfl rfl ?_
      refine own_iload (pc' := 119) B X225 at_117 rfl rfl ?_
      refine own_icmpYes (pc' := 124) B X225 at_119 (flt (by decide : ¬ ((4 : Int32) < (3 : Int32)))).2.2.2 (by decide) rfl ?_
      refine own_aload (pc' := 126) B X225 at_124 rfl rfl rfl ?_
      refine own_aload (pc' := 128) B X225 at_126 rfl rfl rfl ?_
      refine own_aload (pc' := 130) B X225 at_128 rfl rfl rfl ?_
      refine own_iload (pc' := 132) B X225 at_130 rfl rfl ?_
      refine own_iload (pc' := 134) B X225 at_132 rfl rfl ?_
      refine own_iconst (pc' := 135) B X225 (z := (0 : Int32)) at_134 rfl rfl ?_
      refine own_callS (pc' := 138) B X225 (own_w hw 10 rfl) (own_w hw 11 rfl) (own_w hw 4 rfl) (own_w hw 12 rfl) (by decide) [(.ref b220), (.ref b253), (.ref b199), (.int (4 : Int32)), (.int (3 : Int32)), (.int (0 : Int32))] [] (rm_75 l Z a0 hw [] b220 kb220 (y203) (y208) (y213) (y218) b253 k254 (y252) b199 kb199 (y201) (y206) (y211) (y216) (y251) (i1) (i2) (i3) (i4) h225 n0 (Nat.le_trans Z0 K.1) E_b220 V_b220 g_b220 E_b253 V_b253 g_b253 E_b199 V_b199 g_b199 ne_b220_b253 (Ne.symm ne_b199_b220) (Ne.symm ne_b199_b253) hy203 hy208 hy213 hy218 hy258 hy202 hy207 hy212 hy217 hy257 c255 c256) 0 (by decide) (by decide) rfl pd_2 rfl rfl (Nat.le_of_eq rfl) at_135 rfl (k' := 3) (n' := 12) rfl rfl (by decide) (by decide) ?_
      intro T277 v277 h277 X277 q277
      obtain ⟨rfl, rfl⟩ := q277
      show own_Go p e below (T277.setTop (mkF m 138 #[.val (.int i0), .val (.int i1), .val (.int i2), .val (.int i3), .val (.int i4), .val (.int (4 : Int32)), .val (.ref b199), .val (.ref b220), .val (.ref b253), .val (.int (3 : Int32))] [(.int (1 : Int32))])) _
      refine own_ifNo (pc' := 141) B X277 at_138 ((if0 _ _).trans (feq (by decide : ¬ ((1 : Int32) = (0 : Int32)))).1) rfl ?_
      refine own_aload (pc' := 143) B X277 at_141 rfl rfl rfl ?_
      refine own_aload (pc' := 145) B X277 at_143 rfl rfl rfl ?_
      refine own_aload (pc' := 147) B X277 at_145 rfl rfl rfl ?_
      refine own_iload (pc' := 149) B X277 at_147 rfl rfl ?_
      refine own_iload (pc' := 151) B X277 at_149 rfl rfl ?_
      refine own_iconst (pc' := 152) B X277 (z := (1 : Int32)) at_151 rfl rfl ?_
      refine own_callS (pc' := 155) B X277 (own_w hw 10 rfl) (own_w hw 11 rfl) (own_w hw 4 rfl) (own_w hw 12 rfl) (by decide) [(.ref b220), (.ref b253), (.ref b199), (.int (4 : Int32)), (.int (3 : Int32)), (.int (1 : Int32))] [] (rm_76 l Z a0 hw [] b220 kb220 (y203) (y208) (y213) (y218) b253 k254 (y252) b199 kb199 (y201) (y206) (y211) (y216) (y251) (i1) (i2) (i3) (i4) h225 n0 (Nat.le_trans Z0 K.1) E_b220 V_b220 g_b220 E_b253 V_b253 g_b253 E_b199 V_b199 g_b199 ne_b220_b253 (Ne.symm ne_b199_b220) (Ne.symm ne_b199_b253) hy203 hy208 hy213 hy218 hy258 hy202 hy207 hy212 hy217 hy257 c255 c256) 0 (by decide) (by decide) rfl pd_2 rfl rfl (Nat.le_of_eq rfl) at_152 rfl (k' := 3) (n' := 12) rfl rfl (by decide) (by decide) ?_
      intro T278 v278 h278 X278 q278
      obtain ⟨rfl, rfl⟩ := q278
      show own_Go p e below (T278.setTop (mkF m 155 #[.val (.int i0), .val (.int i1), .val (.int i2), .val (.int i3), .val (.int i4), .val (.int (4 : Int32)), .val (.ref b199), .val (.ref b220), .val (.ref b253), .val (.int (3 : Int32))] [(.int (1 : Int32))])) _
      refine own_ifNo (pc' := 158) B X278 at_155 ((if0 _ _).trans (feq (by decide : ¬ ((1 : Int32) = (0 : Int32)))).1) rfl ?_
      refine own_aload (pc' := 160) B X278 at_158 rfl rfl rfl ?_
      refine own_aload (pc' := 162) B X278 at_160 rfl rfl rfl ?_
      refine own_aload (pc' := 164) B X278 at_162 rfl rfl rfl ?_
      refine own_iload (pc' := 166) B X278 at_164 rfl rfl ?_
      refine own_iload (pc' := 168) B X278 at_166 rfl rfl ?_
      refine own_iconst (pc' := 169) B X278 (z := (2 : Int32)) at_168 rfl rfl ?_
      refine own_callS (pc' := 172) B X278 (own_w hw 10 rfl) (own_w hw 11 rfl) (own_w hw 4 rfl) (own_w hw 12 rfl) (by decide) [(.ref b220), (.ref b253), (.ref b199), (.int (4 : Int32)), (.int (3 : Int32)), (.int (2 : Int32))] [] (rm_77 l Z a0 hw [] b220 kb220 (y203) (y208) (y213) (y218) b253 k254 (y252) b199 kb199 (y201) (y206) (y211) (y216) (y251) (i1) (i2) (i3) (i4) h225 n0 (Nat.le_trans Z0 K.1) E_b220 V_b220 g_b220 E_b253 V_b253 g_b253 E_b199 V_b199 g_b199 ne_b220_b253 (Ne.symm ne_b199_b220) (Ne.symm ne_b199_b253) hy203 hy208 hy213 hy218 hy258 hy202 hy207 hy212 hy217 hy257 c255 c256) 0 (by decide) (by decide) rfl pd_2 rfl rfl (Nat.le_of_eq rfl) at_169 rfl (k' := 3) (n' := 12) rfl rfl (by decide) (by decide) ?_
      intro T279 v279 h279 X279 q279
      obtain ⟨rfl, rfl⟩ := q279
      show own_Go p e below (T279.setTop (mkF m 172 #[.val (.int i0), .val (.int i1), .val (.int i2), .val (.int i3), .val (.int i4), .val (.int (4 : Int32)), .val (.ref b199), .val (.ref b220), .val (.ref b253), .val (.int (3 : Int32))] [(.int (1 : Int32))])) _
      refine own_ifNo (pc' := 175) B X279 at_172 ((if0 _ _).trans (feq (by decide : ¬ ((1 : Int32) = (0 : Int32)))).1) rfl ?_
      refine own_aload (pc' := 177) B X279 at_175 rfl rfl rfl ?_
      refine own_aload (pc' := 179) B X279 at_177 rfl rfl rfl ?_
      refine own_aload (pc' := 181) B X279 at_179 rfl rfl rfl ?_
      refine own_iload (pc' := 183) B X279 at_181 rfl rfl ?_
      refine own_iload (pc' := 185) B X279 at_183 rfl rfl ?_
      refine own_iconst (pc' := 186) B X279 (z := (3 : Int32)) at_185 rfl rfl ?_
      refine own_callS (pc' := 189) B X279 (own_w hw 10 rfl) (own_w hw 11 rfl) (own_w hw 4 rfl) (own_w hw 12 rfl) (by decide) [(.ref b220), (.ref b253), (.ref b199), (.int (4 : Int32)), (.int (3 : Int32)), (.int (3 : Int32))] [] (rm_78 l Z a0 hw [] b220 kb220 (y203) (y208) (y213) (y218) b253 k254 (y252) b199 kb199 (y201) (y206) (y211) (y216) (y251) (i1) (i2) (i3) (i4) h225 n0 (Nat.le_trans Z0 K.1) E_b220 V_b220 g_b220 E_b253 V_b253 g_b253 E_b199 V_b199 g_b199 ne_b220_b253 (Ne.symm ne_b199_b220) (Ne.symm ne_b199_b253) hy203 hy208 hy213 hy218 hy258 hy202 hy207 hy212 hy217 hy257 c255 c256) 0 (by decide) (by decide) rfl pd_2 rfl rfl (Nat.le_of_eq rfl) at_186 rfl (k' := 3) (n' := 12) rfl rfl (by decide) (by decide) ?_
      intro T280 v280 h280 X280 q280
      obtain ⟨rfl, rfl⟩ := q280
      show own_Go p e below (T280.setTop (mkF m 189 #[.val (.int i0), .val (.int i1), .val (.int i2), .val (.int i3), .val (.int i4), .val (.int (4 : Int32)), .val (.ref b199), .val (.ref b220), .val (.ref b253), .val (.int (3 : Int32))] [(.int (1 : Int32))])) _
      refine own_ifNo (pc' := 192) B X280 at_189 ((if0 _ _).trans (feq (by decide : ¬ ((1 : Int32) = (0 : Int32)))).1) rfl ?_
      refine own_iconst (pc' := 193) B X280 (z := (1 : Int32)) at_192 rfl rfl ?_
      refine own_goto (pc' := 197) B X280 at_193 (by decide) rfl ?_
      exact own_retN B X280 (t := .boolean) (z' := (1 : Int32)) (by simp) (by decide) at_197 (by decide) (by decide) rfl
    · have ne_b199_b261 : b199 ≠ b261 := own_ne' lt_b199 z_b261
      have ne_b220_b261 : b220 ≠ b261 := own_ne' lt_b220 z_b261
      have sz_b261 : h0.size ≤ b261 := Nat.le_trans K.1 z_b261
      have g_b261 : n0 ≤ b261 := Nat.le_trans Z0 sz_b261
      replace K := K.trans K225 all0
      replace E_b199 := E_b199.keep K225
      replace V_b199 := V_b199.keep K225 nin0
      replace E_b220 := E_b220.keep K225
      replace V_b220 := V_b220.keep K225 nin0
      show own_Go p e below (T225.setTop (mkF m 108 #[.val (.int i0), .val (.int i1), .val (.int i2), .val (.int i3), .val (.int i4), .val (.int (4 : Int32)), .val (.ref b199), .val (.ref b220), .unset, .unset] [(.ref b261)])) _
      refine own_astore (pc' := 110) B X225 (Ls' := #[.val (.int i0), .val (.int i1), .val (.int i2), .val (.int i3), .val (.int i4), .val (.int (4 : Int32)), .val (.ref b199), .val (.ref b220), .val (.ref b261), .unset]) at_108 rfl rfl rfl ?_
      refine own_aload (pc' := 112) B X225 at_110 rfl rfl rfl ?_
      refine own_arraylength (pc' := 113) B X225 V_b261 at_112 rfl ?_
      refine own_istore (pc' := 115) B X225 (Ls' := #[.val (.int i0), .val (.int i1), .val (.int i2), .val (.int i3), .val (.int i4), .val (.int (4 : Int32)), .val (.ref b199), .val (.ref b220), .val (.ref b261), .val (.int (4 : Int32))]) at_113 rfl rfl ?_
      refine own_iload (pc' := 117) B X225 at_115 rfl rfl ?_
      refine own_iload (pc' := 119) B X225 at_117 rfl rfl ?_
      refine own_icmpYes (pc' := 124) B X225 at_119 (flt (by decide : ¬ ((4 : Int32) < (4 : Int32)))).2.2.2 (by decide) rfl ?_
      refine own_aload (pc' := 126) B X225 at_124 rfl rfl rfl ?_
      refine own_aload (pc' := 128) B X225 at_126 rfl rfl rfl ?_
      refine own_aload (pc' := 130) B X225 at_128 rfl rfl rfl ?_
      refine own_iload (pc' := 132) B X225 at_130 rfl rfl ?_
      refine own_iload (pc' := 134) B X225 at_132 rfl rfl ?_
      refine own_iconst (pc' := 135) B X225 (z := (0 : Int32)) at_134 rfl rfl ?_
      refine own_callS (pc' := 138) B X225 (own_w hw 10 rfl) (own_w hw 11 rfl) (own_w hw 4 rfl) (own_w hw 12 rfl) (by decide) [(.ref b220), (.ref b261), (.ref b199), (.int (4 : Int32)), (.int (4 : Int32)), (.int (0 : Int32))] [] (rm_79 l Z a0 hw [] b220 kb220 (y203) (y208) (y213) (y218) b261 kb220 (y260) b199 kb199 (y201) (y206) (y211) (y216) (y259) (i1) (i2) (i3) (i4) h225 n0 (Nat.le_trans Z0 K.1) E_b220 V_b220 g_b220 E_b261 V_b261 g_b261 E_b199 V_b199 g_b199 ne_b220_b261 (Ne.symm ne_b199_b220) (Ne.symm ne_b199_b261) hy203 hy208 hy213 hy218 hy264 hy202 hy207 hy212 hy217 hy263 c262) 0 (by decide) (by decide) rfl pd_2 rfl rfl (Nat.le_of_eq rfl) at_135 rfl (k' := 3) (n' := 12) rfl rfl (by decide) (by decide) ?_
      intro T281 v281 h281 X281 q281
      obtain ⟨rfl, rfl⟩ := q281
      show own_Go p e below (T281.setTop (mkF m 138 #[.val (.int i0), .val (.int i1), .val (.int i2), .val (.int i3), .val (.int i4), .val (.int (4 : Int32)), .val (.ref b199), .val (.ref b220), .val (.ref b261), .val (.int (4 : Int32))] [(.int (1 : Int32))])) _
      refine own_ifNo (pc' := 141) B X281 at_138 ((if0 _ _).trans (feq (by decide : ¬ ((1 : Int32) = (0 : Int32)))).1) rfl ?_
      refine own_aload (pc' := 143) B X281 at_141 rfl rfl rfl ?_
      refine own_aload (pc' := 145) B X281 at_143 rfl rfl rfl ?_
      refine own_aload (pc' := 147) B X281 at_145 rfl rfl rfl ?_
      refine own_iload (pc' := 149) B X281 at_147 rfl rfl ?_
      refine own_iload (pc' := 151) B X281 at_149 rfl rfl ?_
      refine own_iconst (pc' := 152) B X281 (z := (1 : Int32)) at_151 rfl rfl ?_
      refine own_callS (pc' := 155) B X281 (own_w hw 10 rfl) (own_w hw 11 rfl) (own_w hw 4 rfl) (own_w hw 12 rfl) (by decide) [(.ref b220), (.ref b261), (.ref b199), (.int (4 : Int32)), (.int (4 : Int32)), (.int (1 : Int32))] [] (rm_80 l Z a0 hw [] b220 kb220 (y203) (y208) (y213) (y218) b261 kb220 (y260) b199 kb199 (y201) (y206) (y211) (y216) (y259) (i1) (i2) (i3) (i4) h225 n0 (Nat.le_trans Z0 K.1) E_b220 V_b220 g_b220 E_b261 V_b261 g_b261 E_b199 V_b199 g_b199 ne_b220_b261 (Ne.symm ne_b199_b220) (Ne.symm ne_b199_b261) hy203 hy208 hy213 hy218 hy264 hy202 hy207 hy212 hy217 hy263 c262) 0 (by decide) (by decide) rfl pd_2 rfl rfl (Nat.le_of_eq rfl) at_152 rfl (k' := 3) (n' := 12) rfl rfl (by decide) (by decide) ?_
      intro T282 v282 h282 X282 q282
      obtain ⟨rfl, rfl⟩ := q282
      show own_Go p e below (T282.setTop (mkF m 155 #[.val (.int i0), .val (.int i1), .val (.int i2), .val (.int i3), .val (.int i4), .val (.int (4 : Int32)), .val (.ref b199), .val (.ref b220), .val (.ref b261), .val (.int (4 : Int32))] [(.int (1 : Int32))])) _
      refine own_ifNo (pc' := 158) B X282 at_155 ((if0 _ _).trans (feq (by decide : ¬ ((1 : Int32) = (0 : Int32)))).1) rfl ?_
      refine own_aload (pc' := 160) B X282 at_158 rfl rfl rfl ?_
      refine own_aload (pc' := 162) B X282 at_160 rfl rfl rfl ?_
      refine own_aload (pc' := 164) B X282 at_162 rfl rfl rfl ?_
      refine own_iload (pc' := 166) B X282 at_164 rfl rfl ?_
      refine own_iload (pc' := 168) B X282 at_166 rfl rfl ?_
      refine own_iconst (pc' := 169) B X282 (z := (2 : Int32)) at_168 rfl rfl ?_
      refine own_callS (pc' := 172) B X282 (own_w hw 10 rfl) (own_w hw 11 rfl) (own_w hw 4 rfl) (own_w hw 12 rfl) (by decide) [(.ref b220), (.ref b261), (.ref b199), (.int (4 : Int32)), (.int (4 : Int32)), (.int (2 : Int32))] [] (rm_81 l Z a0 hw [] b220 kb220 (y203) (y208) (y213) (y218) b261 kb220 (y260) b199 kb199 (y201) (y206) (y211) (y216) (y259) (i1) (i2) (i3) (i4) h225 n0 (Nat.le_trans Z0 K.1) E_b220 V_b220 g_b220 E_b261 V_b261 g_b261 E_b199 V_b199 g_b199 ne_b220_b261 (Ne.symm ne_b199_b220) (Ne.symm ne_b199_b261) hy203 hy208 hy213 hy218 hy264 hy202 hy207 hy212 hy217 hy263 c262) 0 (by decide) (by decide) rfl pd_2 rfl rfl (Nat.le_of_eq rfl) at_169 rfl (k' := 3) (n' := 12) rfl rfl (by decide) (by decide) ?_
      intro T283 v283 h283 X283 q283
      obtain ⟨rfl, rfl⟩ := q283
      show own_Go p e below (T283.setTop (mkF m 172 #[.val (.int i0), .val (.int i1), .val (.int i2), .val (.int i3), .val (.int i4), .val (.int (4 : Int32)), .val (.ref b199), .val (.ref b220), .val (.ref b261), .val (.int (4 : Int32))] [(.int (1 : Int32))])) _
      refine own_ifNo (pc' := 175) B X283 at_172 ((if0 _ _).trans (feq (by decide : ¬ ((1 : Int32) = (0 : Int32)))).1) rfl ?_
      refine own_aload (pc' := 177) B X283 at_175 rfl rfl rfl ?_
      refine own_aload (pc' := 179) B X283 at_177 rfl rfl rfl ?_
      refine own_aload (pc' := 181) B X283 at_179 rfl rfl rfl ?_
      refine own_iload (pc' := 183) B X283 at_181 rfl rfl ?_
      refine own_iload (pc' := 185) B X283 at_183 rfl rfl ?_
      refine own_iconst (pc' := 186) B X283 (z := (3 : Int32)) at_185 rfl rfl ?_
      refine own_callS (pc' := 189) B X283 (own_w hw 10 rfl) (own_w hw 11 rfl) (own_w hw 4 rfl) (own_w hw 12 rfl) (by decide) [(.ref b220), (.ref b261), (.ref b199), (.int (4 : Int32)), (.int (4 : Int32)), (.int (3 : Int32))] [] (rm_82 l Z a0 hw [] b220 kb220 (y203) (y208) (y213) (y218) b261 kb220 (y260) b199 kb199 (y201) (y206) (y211) (y216) (y259) (i1) (i2) (i3) (i4) h225 n0 (Nat.le_trans Z0 K.1) E_b220 V_b220 g_b220 E_b261 V_b261 g_b261 E_b199 V_b199 g_b199 ne_b220_b261 (Ne.symm ne_b199_b220) (Ne.symm ne_b199_b261) hy203 hy208 hy213 hy218 hy264 hy202 hy207 hy212 hy217 hy263 c262) 0 (by decide) (by decide) rfl pd_2 rfl rfl (Nat.le_of_eq rfl) at_186 rfl (k' := 3) (n' := 12) rfl rfl (by decide) (by decide) ?_
      intro T284 v284 h284 X284 q284
      obtain ⟨rfl, rfl⟩ := q284
      show own_Go p e below (T284.setTop (mkF m 189 #[.val (.int i0), .val (.int i1), .val (.int i2), .val (.int i3), .val (.int i4), .val (.int (4 : Int32)), .val (.ref b199), .val (.ref b220), .val (.ref b261), .val (.int (4 : Int32))] [(.int (1 : Int32))])) _
      refine own_ifNo (pc' := 192) B X284 at_189 ((if0 _ _).trans (feq (by decide : ¬ ((1 : Int32) = (0 : Int32)))).1) rfl ?_
      refine own_iconst (pc' := 193) B X284 (z := (1 : Int32)) at_192 rfl rfl ?_
      refine own_goto (pc' := 197) B X284 at_193 (by decide) rfl ?_
      exact own_retN B X284 (t := .boolean) (z' := (1 : Int32)) (by simp) (by decide) at_197 (by decide) (by decide) rfl
set_option maxRecDepth 65536 in
set_option maxHeartbeats 40000000 in
theorem comes_1 {Post : Tables → Env → Array Value → State → Outcome → State → Prop} (hpost : ∀ tb e args s v u, (limb_1_1.after args s (.returned v) u = true ∧ limb_1_2.after args s (.returned v) u = true ∧ True) → FrameEnd s (.returned v) u (Jvm.fieldLocs frame_1_writes args s ++ Jvm.arrayLocs frame_1_arrays args s ++ Jvm.staticLocs frame_1_statics s) 16 128 → Post tb e args s (.returned v) u) :
    ArmFor flags0 classFile x code maxLocals ret World_1 tables_1 room_1 Calls_1 rest_1 Pre_1 Post := by
  intro l hfl _ _ p e ha hc hk s m args below hf hA hF happ hP
  obtain ⟨hcalls, hrest, hpre⟩ := hP
  obtain ⟨-, -, -, hnamed, -, -, -, hat⟩ := (Spec.applies_iff hf).mp happ
  obtain ⟨hg, hn⟩ := and_e (Cond.before_iff.mp (show (Jvm.Cond.and given_1 narrow_1).before args s = true from hpre))
  obtain ⟨g1, g2⟩ := and_e hg
  obtain ⟨g3, g4⟩ := and_e g2
  obtain ⟨g5, g6⟩ := and_e g4
  obtain ⟨g7, g8⟩ := and_e g6
  obtain ⟨g9, g10⟩ := and_e g8
  obtain ⟨w0, w1, w2, w3, w4, rfl⟩ : ∃ w0 w1 w2 w3 w4 : Value, args = #[w0, w1, w2, w3, w4] := by
    have hs : args.size = 5 := by simpa [Cond.value, given_1] using g1
    obtain ⟨L⟩ := args
    match L, hs with
    | [w0, w1, w2, w3, w4], _ => exact ⟨w0, w1, w2, w3, w4, rfl⟩
  have hw := fun d (hd : d ∈ tables_1) => atoms_spec (ws := Jvm.Cond.code x code maxLocals ret :: tables_1) hat d (List.mem_cons_of_mem _ hd)
  obtain ⟨i0, ei0⟩ := is_v g3
  obtain rfl : w0 = (.int i0) := Option.some.inj ei0
  obtain ⟨i1, ei1⟩ := is_v g5
  obtain rfl : w1 = (.int i1) := Option.some.inj ei1
  obtain ⟨i2, ei2⟩ := is_v g7
  obtain rfl : w2 = (.int i2) := Option.some.inj ei2
  obtain ⟨i3, ei3⟩ := is_v g9
  obtain rfl : w3 = (.int i3) := Option.some.inj ei3
  obtain ⟨i4, ei4⟩ := is_v g10
  obtain rfl : w4 = (.int i4) := Option.some.inj ei4
  obtain ⟨n, o, h1, h2, h3, _, L, rfl, ⟨N, rfl⟩, hq⟩ := rm_0 l s _ hw tables_1 i0 i1 i2 i3 i4 s.heap s.heap.size (Nat.le_refl _)  p e ha hc hk s m _ below hf ((Spec.applies_iff_loose hf).mp happ).1 ⟨rfl, State.Warmed39.refl s, rfl⟩ trivial
  refine ⟨n, _, h1, h2, h3, hpost _ _ _ _ _ _ ⟨Cond.after_iff.mpr rfl, Cond.after_iff.mpr (eq_i res_at (Term.int_eval (1)) rfl), trivial⟩ ⟨hq.1, hq.2.1, (hq.2.2.sift fun y hy => Or.inr (N y hy)).mono (by decide) (by decide)⟩⟩
theorem main_1_1 : Claimed_1_1 := comes_1 fun _ _ _ _ _ _ h hF => ⟨h.1, hF⟩
theorem main_1_2 : Claimed_1_2 := comes_1 fun _ _ _ _ _ _ h hF => ⟨h.2.1, hF⟩
end Jvm.Pilot.@@N@@
namespace Jvm.Pilot.@@N@@
open Jvm Jvm.ClassFile Sem Op Lib Jvm.Free Jvm.Stand Jvm.Pilot.@@N@@.Jvm.D
/-! MADE BY PROGRAM (witnessworld.py) out of the Statement's table words and the real class files: 12 classes; the members and pool entries that the words name. The judged class is class 1, her method 3. -/
namespace start1
open Jvm.ClassFile
def u (s : String) : CpInfo := .utf8 (stringToUtf16 s)
/-- a pool by its gaps: so many unusable entries, then the entry; so many at the end -/
def gap : Nat → List CpInfo → List CpInfo
  | 0, r => r
  | n + 1, r => .unusable :: gap n r
def poolList (es : List (Nat × CpInfo)) (last : Nat) : List CpInfo := es.foldr (fun e r => gap e.1 (e.2 :: r)) (gap last [])
def pool (es : List (Nat × CpInfo)) (last : Nat) : Array CpInfo := ⟨poolList es last⟩
def fileOf (pool : Array CpInfo) (this : Nat) (attrs : Array Attribute := #[]) (ms : Array MethodInfo := #[]) (fl : Nat := 33) (sup : Nat := 0) (ifs : Array Nat := #[]) (fds : Array FieldInfo := #[]) : ClassFile where
  minorVersion := 0
  majorVersion := 65
  constantPool := pool
  accessFlags := fl
  thisClass := this
  superClass := sup
  interfaces := ifs
  fields := fds
  methods := ms
  attributes := attrs
def plain (name : String) (sup : Option ClassId) : Class where
  name := name
  kind := .ordinary
  loader := none
  accessFlags := 33
  super := sup
  interfaces := #[]
  cf := none
  fields := #[]
  methods := #[]
  instanceTypes := #[]
  staticTypes := #[]
  resolved := #[]
  callSites := []
  init := .initialized
  statics := none
  mirror := none

def pool0 : Array CpInfo := pool [(5, u "<init>"), (0, u "()V"), (1, .class_ 10), (1, u "java/lang/Object"), (85, u "clone"), (0, u "()Ljava/lang/Object;")] 26

def k0m0 : Method := { name := "<init>", desc := "()V", sig := { parameters := [], returnType := none }, accessFlags := 1, code := none }
def k0m1 : Method := { name := "clone", desc := "()Ljava/lang/Object;", sig := { parameters := [], returnType := some (.object "java/lang/Object") }, accessFlags := 260, code := none }
/-- java/lang/Object -/
def k0 : Class := { plain "java/lang/Object" none with
  accessFlags := 33
  interfaces := #[]
  cf := some (fileOf pool0 8 #[] #[{ accessFlags := 1, nameIndex := 5, descriptorIndex := 6, attributes := #[] }, { accessFlags := 260, nameIndex := 96, descriptorIndex := 97, attributes := #[] }] 33 0 #[] #[])
  fields := #[]
  methods := #[k0m0, k0m1]
  instanceTypes := #[]
  staticTypes := #[]
  resolved := Array.replicate 124 none
  statics := none }

def pool1 : Array CpInfo := pool [(2, .class_ 4), (1, u "java/lang/Object"), (0, u "<init>"), (0, u "()V"), (0, .integer 2147483647), (0, .methodref 9 10), (0, .class_ 11), (0, .nameAndType 12 13), (0, u "com/example/keyer/keyer/QuerySuccessorPinLaw"), (0, u "pick"), (0, u "(I)B"), (0, .methodref 15 16), (0, .class_ 17), (0, .nameAndType 18 19), (0, u "com/example/keyer/keyer/Query"), (0, u "successor"), (0, u "([B)[B"), (0, .methodref 9 21), (0, .nameAndType 22 23), (0, u "ok"), (0, u "([B[B[BIII)Z"), (3, u "law"), (0, u "(IIIII)Z")] 4

def k1m0 : Method := { name := "<init>", desc := "()V", sig := { parameters := [], returnType := none }, accessFlags := 1, code := none }
def k1c1 : Code := { maxStack := 2, maxLocals := 1, code := method_2_code, exceptionTable := #[], attributes := #[] }
def k1m1 : Method := { name := "pick", desc := "(I)B", sig := { parameters := [.int], returnType := some .byte }, accessFlags := 10, code := some k1c1 }
def k1c2 : Code := { maxStack := 3, maxLocals := 6, code := method_3_code, exceptionTable := #[], attributes := #[] }
def k1m2 : Method := { name := "ok", desc := "([B[B[BIII)Z", sig := { parameters := [(.array .byte), (.array .byte), (.array .byte), .int, .int, .int], returnType := some .boolean }, accessFlags := 10, code := some k1c2 }
def k1c3 : Code := { maxStack := 6, maxLocals := 10, code := code, exceptionTable := #[], attributes := #[] }
def k1m3 : Method := { name := "law", desc := "(IIIII)Z", sig := { parameters := [.int, .int, .int, .int, .int], returnType := some .boolean }, accessFlags := 9, code := some k1c3 }
/-- com/example/keyer/keyer/QuerySuccessorPinLaw -/
def k1 : Class := { plain "com/example/keyer/keyer/QuerySuccessorPinLaw" (some 0) with
  accessFlags := 49
  interfaces := #[]
  cf := some (fileOf pool1 9 #[] #[{ accessFlags := 1, nameIndex := 5, descriptorIndex := 6, attributes := #[] }, { accessFlags := 10, nameIndex := 12, descriptorIndex := 13, attributes := #[] }, { accessFlags := 10, nameIndex := 22, descriptorIndex := 23, attributes := #[] }, { accessFlags := 9, nameIndex := 27, descriptorIndex := 28, attributes := #[] }] 49 2 #[] #[])
  fields := #[]
  methods := #[k1m0, k1m1, k1m2, k1m3]
  instanceTypes := #[]
  staticTypes := #[]
  resolved := Array.replicate 33 none
  statics := none }

def pool2 : Array CpInfo := pool [(2, .class_ 4), (1, u "java/lang/Object"), (6, .class_ 13), (1, u "com/example/keyer/keyer/Query"), (0, u "equal"), (0, u "Ljava/util/Map;"), (10, u "layout"), (0, u "Lcom/example/keyer/keyer/Layout;"), (23, u "from"), (0, u "Ljava/lang/Object;"), (2, u "rangeField"), (3, u "Lcom/example/keyer/keyer/Field;"), (4, u "to"), (117, u "successor"), (0, u "([B)[B"), (37, u "copyOf"), (8, .methodref 231 232), (0, .class_ 233), (0, .nameAndType 221 234), (0, u "java/util/Arrays"), (0, u "([BI)[B")] 89

def k2c0 : Code := { maxStack := 4, maxLocals := 3, code := prog_18_method_14_code, exceptionTable := #[], attributes := #[] }
def k2m0 : Method := { name := "successor", desc := "([B)[B", sig := { parameters := [(.array .byte)], returnType := some (.array .byte) }, accessFlags := 8, code := some k2c0 }
/-- com/example/keyer/keyer/Query -/
def k2 : Class := { plain "com/example/keyer/keyer/Query" (some 0) with
  accessFlags := 49
  interfaces := #[]
  cf := some (fileOf pool2 11 #[] #[{ accessFlags := 8, nameIndex := 182, descriptorIndex := 183, attributes := #[] }] 49 2 #[] #[{ accessFlags := 18, nameIndex := 26, descriptorIndex := 27, attributes := #[] }, { accessFlags := 18, nameIndex := 14, descriptorIndex := 15, attributes := #[] }, { accessFlags := 2, nameIndex := 55, descriptorIndex := 59, attributes := #[] }, { accessFlags := 2, nameIndex := 51, descriptorIndex := 52, attributes := #[] }, { accessFlags := 2, nameIndex := 64, descriptorIndex := 52, attributes := #[] }])
  fields := #[{ name := "layout", type := (.object "com/example/keyer/keyer/Layout"), accessFlags := 18, slot := 0, constantValue := 0 }, { name := "equal", type := (.object "java/util/Map"), accessFlags := 18, slot := 1, constantValue := 0 }, { name := "rangeField", type := (.object "com/example/keyer/keyer/Field"), accessFlags := 2, slot := 2, constantValue := 0 }, { name := "from", type := (.object "java/lang/Object"), accessFlags := 2, slot := 3, constantValue := 0 }, { name := "to", type := (.object "java/lang/Object"), accessFlags := 2, slot := 4, constantValue := 0 }]
  methods := #[k2m0]
  instanceTypes := #[(.object "com/example/keyer/keyer/Layout"), (.object "java/util/Map"), (.object "com/example/keyer/keyer/Field"), (.object "java/lang/Object"), (.object "java/lang/Object")]
  staticTypes := #[]
  resolved := Array.replicate 324 none
  statics := none }

def pool3 : Array CpInfo := pool [(2, .class_ 4), (1, u "java/lang/Object"), (0, u "<init>"), (0, u "()V"), (7, .class_ 16), (1, u "java/util/Arrays"), (57, .class_ 76), (1, u "java/util/Arrays$NaturalOrder"), (32, u "()Ljava/lang/Object;"), (3, .class_ 115), (1, u "java/util/Arrays$LegacyMergeSort"), (1, u "Z"), (10, .nameAndType 129 109), (0, u "clone"), (20, .methodref 151 152), (0, .class_ 153), (0, .nameAndType 154 155), (0, u "java/lang/System"), (0, u "arraycopy"), (0, u "(Ljava/lang/Object;ILjava/lang/Object;II)V"), (146, u "copyOf"), (1, .methodref 305 306), (0, .class_ 307), (0, .nameAndType 308 309), (0, u "java/lang/Math"), (0, u "min"), (0, u "(II)I"), (0, .methodref 311 128), (0, .class_ 312), (0, u "[B"), (62, .class_ 376), (0, u "java/util/Arrays$ArrayList"), (68, u "$assertionsDisabled"), (269, u "MIN_ARRAY_SORT_GRAN"), (0, u "I"), (2, u "INSERTIONSORT_THRESHOLD"), (149, u "([BI)[B"), (105, .class_ 976), (0, u "java/util/Arrays$ArrayItr")] 52

def k3m0 : Method := { name := "<init>", desc := "()V", sig := { parameters := [], returnType := none }, accessFlags := 2, code := none }
def k3c1 : Code := { maxStack := 6, maxLocals := 3, code := jdk_65_method_121_code, exceptionTable := #[], attributes := #[] }
def k3m1 : Method := { name := "copyOf", desc := "([BI)[B", sig := { parameters := [(.array .byte), .int], returnType := some (.array .byte) }, accessFlags := 9, code := some k3c1 }
/-- java/util/Arrays -/
def k3 : Class := { plain "java/util/Arrays" (some 0) with
  accessFlags := 49
  interfaces := #[]
  cf := some (fileOf pool3 14 #[.nestMembers #[975, 375, 113, 74]] #[{ accessFlags := 2, nameIndex := 5, descriptorIndex := 6, attributes := #[] }, { accessFlags := 9, nameIndex := 302, descriptorIndex := 869, attributes := #[] }] 49 2 #[] #[{ accessFlags := 26, nameIndex := 715, descriptorIndex := 716, attributes := #[] }, { accessFlags := 26, nameIndex := 719, descriptorIndex := 716, attributes := #[] }, { accessFlags := 4120, nameIndex := 445, descriptorIndex := 117, attributes := #[] }])
  fields := #[{ name := "MIN_ARRAY_SORT_GRAN", type := .int, accessFlags := 26, slot := 0, constantValue := 0 }, { name := "INSERTIONSORT_THRESHOLD", type := .int, accessFlags := 26, slot := 1, constantValue := 0 }, { name := "$assertionsDisabled", type := .boolean, accessFlags := 4120, slot := 2, constantValue := 0 }]
  methods := #[k3m0, k3m1]
  instanceTypes := #[]
  staticTypes := #[.int, .int, .boolean]
  resolved := Array.replicate 1029 none
  statics := none }

def pool4 : Array CpInfo := pool [(1, .class_ 2), (0, u "java/lang/Cloneable"), (0, .class_ 4), (0, u "java/lang/Object")] 2

/-- java/lang/Cloneable -/
def k4 : Class := { plain "java/lang/Cloneable" (some 0) with
  accessFlags := 1537
  interfaces := #[]
  cf := some (fileOf pool4 1 #[] #[] 1537 3 #[] #[])
  fields := #[]
  methods := #[]
  instanceTypes := #[]
  staticTypes := #[]
  resolved := Array.replicate 7 none
  statics := none }

def pool5 : Array CpInfo := pool [(1, .class_ 2), (0, u "java/lang/Math"), (1, .class_ 6), (1, u "java/lang/Object"), (0, u "<init>"), (0, u "()V"), (89, .class_ 100), (1, u "java/lang/Math$RandomNumberGeneratorHolder"), (71, u "negativeZeroFloatBits"), (0, u "J"), (2, u "negativeZeroDoubleBits"), (24, u "min"), (43, u "$assertionsDisabled"), (0, u "Z"), (88, u "(II)I"), (2, u "twoToTheDoubleScaleDown"), (0, u "D"), (4, u "twoToTheDoubleScaleUp"), (9, u "E"), (3, u "PI"), (2, u "TAU"), (2, u "DEGREES_TO_RADIANS"), (0, u "RADIANS_TO_DEGREES")] 94

def k5m0 : Method := { name := "<init>", desc := "()V", sig := { parameters := [], returnType := none }, accessFlags := 2, code := none }
def k5c1 : Code := { maxStack := 2, maxLocals := 2, code := jdk_29_method_69_code, exceptionTable := #[], attributes := #[] }
def k5m1 : Method := { name := "min", desc := "(II)I", sig := { parameters := [.int, .int], returnType := some .int }, accessFlags := 9, code := some k5c1 }
/-- java/lang/Math -/
def k5 : Class := { plain "java/lang/Math" (some 0) with
  accessFlags := 49
  interfaces := #[]
  cf := some (fileOf pool5 1 #[.nestMembers #[98]] #[{ accessFlags := 2, nameIndex := 7, descriptorIndex := 8, attributes := #[] }, { accessFlags := 9, nameIndex := 201, descriptorIndex := 335, attributes := #[] }] 49 4 #[] #[{ accessFlags := 25, nameIndex := 354, descriptorIndex := 339, attributes := #[] }, { accessFlags := 25, nameIndex := 358, descriptorIndex := 339, attributes := #[] }, { accessFlags := 25, nameIndex := 361, descriptorIndex := 339, attributes := #[] }, { accessFlags := 26, nameIndex := 364, descriptorIndex := 339, attributes := #[] }, { accessFlags := 26, nameIndex := 365, descriptorIndex := 339, attributes := #[] }, { accessFlags := 26, nameIndex := 172, descriptorIndex := 173, attributes := #[] }, { accessFlags := 26, nameIndex := 176, descriptorIndex := 173, attributes := #[] }, { accessFlags := 8, nameIndex := 344, descriptorIndex := 339, attributes := #[] }, { accessFlags := 8, nameIndex := 338, descriptorIndex := 339, attributes := #[] }, { accessFlags := 4120, nameIndex := 245, descriptorIndex := 246, attributes := #[] }])
  fields := #[{ name := "E", type := .double, accessFlags := 25, slot := 0, constantValue := 0 }, { name := "PI", type := .double, accessFlags := 25, slot := 1, constantValue := 0 }, { name := "TAU", type := .double, accessFlags := 25, slot := 2, constantValue := 0 }, { name := "DEGREES_TO_RADIANS", type := .double, accessFlags := 26, slot := 3, constantValue := 0 }, { name := "RADIANS_TO_DEGREES", type := .double, accessFlags := 26, slot := 4, constantValue := 0 }, { name := "negativeZeroFloatBits", type := .long, accessFlags := 26, slot := 5, constantValue := 0 }, { name := "negativeZeroDoubleBits", type := .long, accessFlags := 26, slot := 6, constantValue := 0 }, { name := "twoToTheDoubleScaleUp", type := .double, accessFlags := 8, slot := 7, constantValue := 0 }, { name := "twoToTheDoubleScaleDown", type := .double, accessFlags := 8, slot := 8, constantValue := 0 }, { name := "$assertionsDisabled", type := .boolean, accessFlags := 4120, slot := 9, constantValue := 0 }]
  methods := #[k5m0, k5m1]
  instanceTypes := #[]
  staticTypes := #[.double, .double, .double, .double, .double, .long, .long, .double, .double, .boolean]
  resolved := Array.replicate 460 none
  statics := none }

def pool6 : Array CpInfo := pool [(2, .class_ 4), (1, u "java/lang/Object"), (0, u "<init>"), (0, u "()V"), (1, .class_ 10), (1, u "java/lang/System"), (0, u "allowSecurityManager"), (0, u "I"), (16, u "cons"), (0, u "Ljava/io/Console;"), (77, .class_ 110), (1, u "java/lang/System$CallersHolder"), (43, u "initialErrStream"), (0, u "Ljava/io/PrintStream;"), (19, u "security"), (0, u "Ljava/lang/SecurityManager;"), (31, .class_ 209), (0, u "java/lang/System$1"), (7, u "props"), (0, u "Ljava/util/Properties;"), (2, u "lineSeparator"), (0, u "Ljava/lang/String;"), (96, .class_ 321), (1, u "java/lang/System$LoggerFinder"), (5, .class_ 328), (0, u "java/lang/System$Logger"), (67, u "err"), (2, u "out"), (91, u "notSupportedJnuEncoding"), (15, u "in"), (17, u "initialIn"), (0, u "Ljava/io/InputStream;"), (35, u "bootLayer"), (0, u "Ljava/lang/ModuleLayer;"), (99, .class_ 664), (0, u "java/lang/System$2"), (9, u "NEVER"), (2, u "MAYBE"), (49, u "arraycopy"), (0, u "(Ljava/lang/Object;ILjava/lang/Object;II)V"), (72, .class_ 802), (0, u "java/lang/System$Logger$Level")] 31

def k6m0 : Method := { name := "<init>", desc := "()V", sig := { parameters := [], returnType := none }, accessFlags := 2, code := none }
def k6m1 : Method := { name := "arraycopy", desc := "(Ljava/lang/Object;ILjava/lang/Object;II)V", sig := { parameters := [(.object "java/lang/Object"), .int, (.object "java/lang/Object"), .int, .int], returnType := none }, accessFlags := 265, code := none }
/-- java/lang/System -/
def k6 : Class := { plain "java/lang/System" (some 0) with
  accessFlags := 49
  interfaces := #[]
  cf := some (fileOf pool6 8 #[.nestMembers #[319, 327, 801, 108, 663, 208]] #[{ accessFlags := 2, nameIndex := 5, descriptorIndex := 6, attributes := #[] }, { accessFlags := 265, nameIndex := 727, descriptorIndex := 728, attributes := #[] }] 49 2 #[] #[{ accessFlags := 25, nameIndex := 507, descriptorIndex := 526, attributes := #[] }, { accessFlags := 25, nameIndex := 399, descriptorIndex := 155, attributes := #[] }, { accessFlags := 25, nameIndex := 396, descriptorIndex := 155, attributes := #[] }, { accessFlags := 10, nameIndex := 525, descriptorIndex := 526, attributes := #[] }, { accessFlags := 26, nameIndex := 674, descriptorIndex := 12, attributes := #[] }, { accessFlags := 26, nameIndex := 677, descriptorIndex := 12, attributes := #[] }, { accessFlags := 10, nameIndex := 11, descriptorIndex := 12, attributes := #[] }, { accessFlags := 74, nameIndex := 175, descriptorIndex := 176, attributes := #[] }, { accessFlags := 10, nameIndex := 491, descriptorIndex := 222, attributes := #[] }, { accessFlags := 74, nameIndex := 29, descriptorIndex := 30, attributes := #[] }, { accessFlags := 74, nameIndex := 154, descriptorIndex := 155, attributes := #[] }, { accessFlags := 10, nameIndex := 217, descriptorIndex := 218, attributes := #[] }, { accessFlags := 10, nameIndex := 221, descriptorIndex := 222, attributes := #[] }, { accessFlags := 8, nameIndex := 562, descriptorIndex := 563, attributes := #[] }])
  fields := #[{ name := "in", type := (.object "java/io/InputStream"), accessFlags := 25, slot := 0, constantValue := 0 }, { name := "out", type := (.object "java/io/PrintStream"), accessFlags := 25, slot := 1, constantValue := 0 }, { name := "err", type := (.object "java/io/PrintStream"), accessFlags := 25, slot := 2, constantValue := 0 }, { name := "initialIn", type := (.object "java/io/InputStream"), accessFlags := 10, slot := 3, constantValue := 0 }, { name := "NEVER", type := .int, accessFlags := 26, slot := 4, constantValue := 0 }, { name := "MAYBE", type := .int, accessFlags := 26, slot := 5, constantValue := 0 }, { name := "allowSecurityManager", type := .int, accessFlags := 10, slot := 6, constantValue := 0 }, { name := "security", type := (.object "java/lang/SecurityManager"), accessFlags := 74, slot := 7, constantValue := 0 }, { name := "notSupportedJnuEncoding", type := (.object "java/lang/String"), accessFlags := 10, slot := 8, constantValue := 0 }, { name := "cons", type := (.object "java/io/Console"), accessFlags := 74, slot := 9, constantValue := 0 }, { name := "initialErrStream", type := (.object "java/io/PrintStream"), accessFlags := 74, slot := 10, constantValue := 0 }, { name := "props", type := (.object "java/util/Properties"), accessFlags := 10, slot := 11, constantValue := 0 }, { name := "lineSeparator", type := (.object "java/lang/String"), accessFlags := 10, slot := 12, constantValue := 0 }, { name := "bootLayer", type := (.object "java/lang/ModuleLayer"), accessFlags := 8, slot := 13, constantValue := 0 }]
  methods := #[k6m0, k6m1]
  instanceTypes := #[]
  staticTypes := #[(.object "java/io/InputStream"), (.object "java/io/PrintStream"), (.object "java/io/PrintStream"), (.object "java/io/InputStream"), .int, .int, .int, (.object "java/lang/SecurityManager"), (.object "java/lang/String"), (.object "java/io/Console"), (.object "java/io/PrintStream"), (.object "java/util/Properties"), (.object "java/lang/String"), (.object "java/lang/ModuleLayer")]
  resolved := Array.replicate 834 none
  statics := none }

def pool7 : Array CpInfo := pool [(1, u "java/io/Serializable"), (0, .class_ 1), (0, u "java/lang/Object"), (0, .class_ 3)] 3

/-- java/io/Serializable -/
def k7 : Class := { plain "java/io/Serializable" (some 0) with
  accessFlags := 1537
  interfaces := #[]
  cf := some (fileOf pool7 2 #[] #[] 1537 4 #[] #[])
  fields := #[]
  methods := #[]
  instanceTypes := #[]
  staticTypes := #[]
  resolved := Array.replicate 8 none
  statics := none }

/-- the primitive byte -/
def k8 : Class := { plain "byte" none with kind := .primitive 'B', accessFlags := 0x411 }
/-- [B -/
def k9 : Class := { plain "[B" (some 0) with kind := .array 8 .byte, interfaces := #[4, 7], accessFlags := 1041 }

/-- the primitive int -/
def k10 : Class := { plain "int" none with kind := .primitive 'I', accessFlags := 0x411 }
/-- [I -/
def k11 : Class := { plain "[I" (some 0) with kind := .array 10 .int, interfaces := #[4, 7], accessFlags := 1041 }

def heap : Heap := #[]
def classes : Array Class := #[k0, k1, k2, k3, k4, k5, k6, k7, k8, k9, k10, k11]
def interned : List (Array UInt16 × Addr) := []
def slotsUsed : Nat := 0
def theMethod : MethodId := ⟨1, 3⟩
def args0 : Array Value := #[.int 3, .int 1, .int 2, .int 3, .int 4]
def aboutOver (below : List Frame) : State where
  vm := { classes := classes, interned := interned.toArray }
  heap := heap
  slotsUsed := slotsUsed
  threads := #[{ frames := .invoking theMethod args0 :: below }]
def below0 : List Frame := [.native { method := ⟨0, 0⟩, args := #[] }]
def about1 : State := aboutOver below0
def p0 : Program := .bare "" "" ""
def e0 : Env := launch0.env 0 0 0
theorem w_frames : about1.frames = Frame.invoking theMethod args0 :: below0 := rfl
set_option maxRecDepth 65536 in
theorem w_args : argsFit about1.vm theMethod args0 = true := by decide +kernel
set_option maxRecDepth 65536 in
theorem w_heap : heapFits about1 = true := by decide +kernel
set_option maxRecDepth 65536 in
theorem w_runnable : about1.curStatus? = some .runnable := by decide +kernel
set_option maxRecDepth 65536 in
theorem w_alone : about1.alone = true := by decide +kernel
set_option maxRecDepth 65536 in
theorem w_named : about1.methodNamed? x = some theMethod := by decide +kernel
set_option maxRecDepth 65536 in
theorem w_hears : about1.hears theMethod below0 = true := by decide +kernel
set_option maxRecDepth 65536 in
theorem w_ripe : about1.ripe theMethod args0 below0 = true := by decide +kernel
theorem w_running : about1.status = .running := rfl
set_option maxRecDepth 65536 in
theorem w_room : about1.hasRoom e0.platform room_1 = true :=
  launch0.hasRoom_least _ room_1 (by decide +kernel) (by decide +kernel) (by decide +kernel) (by decide +kernel) (by decide +kernel) (by decide +kernel)
theorem allAtoms_all (ts : List Jvm.Cond) (a : Array Jvm.Value) (st : Jvm.State) : (allAtoms ts).before a st = ts.all (fun c => c.before a st) := by
  induction ts with
  | nil => rfl
  | cons c t ih =>
    show (Jvm.Cond.and c (allAtoms t)).before a st = _
    rw [Jvm.Cond.before_and, ih, List.all_cons]
def words1 : List Jvm.Cond := Jvm.Cond.code x code maxLocals ret :: tables_1
/-- a 'code' word, met by the world's own term for the bytes: nothing is compared byte by byte -/
theorem code_word {y : MethodName} {bytes : ByteArray} {mx : Nat} {rt : Option FieldType} {a : Array Value} {s : State} {m : MethodId} {meth : Method} {c : Code} (h1 : s.methodNamed? y = some m) (h2 : s.vm.method? m = some meth) (h3 : meth.code = some c) (h4 : c.code = bytes)
    (h5 : (c.maxLocals == mx && c.exceptionTable.isEmpty && decide (c.maxStack ≤ mostOperands) && decide (meth.sig.returnType = rt) && !meth.locks && decide (parseMethodDescriptor y.desc = some meth.sig)) = true) : (Jvm.Cond.code y bytes mx rt).before a s = true := by
  simp only [Bool.and_eq_true, beq_iff_eq, Bool.not_eq_true', decide_eq_true_eq] at h5
  obtain ⟨⟨⟨⟨⟨g1, g2⟩, g3⟩, g4⟩, g5⟩, g6⟩ := h5
  simp [Cond.before, Cond.holds, Cond.value, h1, h2, h3, h4, g1, g2, g3, g4, g5, g6]
def isCode : Jvm.Cond → Bool
  | .code _ _ _ _ => true
  | _ => false
theorem all_split {L : List Jvm.Cond} {P : Jvm.Cond → Bool} (h1 : L.all (fun c => isCode c || P c) = true) (h2 : ∀ c ∈ L.filter isCode, P c = true) : L.all P = true := by
  refine List.all_eq_true.mpr fun c hc => ?_
  have h := List.all_eq_true.mp h1 c hc
  rcases Bool.eq_false_or_eq_true (isCode c) with hi | hi
  · exact h2 c (List.mem_filter.mpr ⟨hc, hi⟩)
  · simpa [hi] using h
set_option maxRecDepth 65536 in
theorem w_c0 : (Jvm.Cond.code x code maxLocals ret).before args0 about1 = true := code_word (m := ⟨1, 3⟩) (meth := k1m3) (c := k1c3) (by decide +kernel) rfl rfl rfl (by decide +kernel)
set_option maxRecDepth 65536 in
theorem w_c1 : (Jvm.Cond.code ({ cls := "com/example/keyer/keyer/QuerySuccessorPinLaw", name := "pick", desc := "(I)B" } : Jvm.MethodName) method_2_code (1 : Nat) (Option.some Jvm.ClassFile.FieldType.byte)).before args0 about1 = true := code_word (m := ⟨1, 1⟩) (meth := k1m1) (c := k1c1) (by decide +kernel) rfl rfl rfl (by decide +kernel)
set_option maxRecDepth 65536 in
theorem w_c2 : (Jvm.Cond.code ({ cls := "com/example/keyer/keyer/Query", name := "successor", desc := "([B)[B" } : Jvm.MethodName) prog_18_method_14_code (3 : Nat) (Option.some (Jvm.ClassFile.FieldType.array Jvm.ClassFile.FieldType.byte))).before args0 about1 = true := code_word (m := ⟨2, 0⟩) (meth := k2m0) (c := k2c0) (by decide +kernel) rfl rfl rfl (by decide +kernel)
set_option maxRecDepth 65536 in
theorem w_c3 : (Jvm.Cond.code ({ cls := "com/example/keyer/keyer/QuerySuccessorPinLaw", name := "ok", desc := "([B[B[BIII)Z" } : Jvm.MethodName) method_3_code (6 : Nat) (Option.some Jvm.ClassFile.FieldType.boolean)).before args0 about1 = true := code_word (m := ⟨1, 2⟩) (meth := k1m2) (c := k1c2) (by decide +kernel) rfl rfl rfl (by decide +kernel)
set_option maxRecDepth 65536 in
theorem w_c4 : (Jvm.Cond.code ({ cls := "java/util/Arrays", name := "copyOf", desc := "([BI)[B" } : Jvm.MethodName) jdk_65_method_121_code (3 : Nat) (Option.some (Jvm.ClassFile.FieldType.array Jvm.ClassFile.FieldType.byte))).before args0 about1 = true := code_word (m := ⟨3, 1⟩) (meth := k3m1) (c := k3c1) (by decide +kernel) rfl rfl rfl (by decide +kernel)
set_option maxRecDepth 65536 in
theorem w_c5 : (Jvm.Cond.code ({ cls := "java/lang/Math", name := "min", desc := "(II)I" } : Jvm.MethodName) jdk_29_method_69_code (2 : Nat) (Option.some Jvm.ClassFile.FieldType.int)).before args0 about1 = true := code_word (m := ⟨5, 1⟩) (meth := k5m1) (c := k5c1) (by decide +kernel) rfl rfl rfl (by decide +kernel)
def codes1 : List Jvm.Cond := [Jvm.Cond.code x code maxLocals ret, Jvm.Cond.code ({ cls := "com/example/keyer/keyer/QuerySuccessorPinLaw", name := "pick", desc := "(I)B" } : Jvm.MethodName) method_2_code (1 : Nat) (Option.some Jvm.ClassFile.FieldType.byte), Jvm.Cond.code ({ cls := "com/example/keyer/keyer/Query", name := "successor", desc := "([B)[B" } : Jvm.MethodName) prog_18_method_14_code (3 : Nat) (Option.some (Jvm.ClassFile.FieldType.array Jvm.ClassFile.FieldType.byte)), Jvm.Cond.code ({ cls := "com/example/keyer/keyer/QuerySuccessorPinLaw", name := "ok", desc := "([B[B[BIII)Z" } : Jvm.MethodName) method_3_code (6 : Nat) (Option.some Jvm.ClassFile.FieldType.boolean), Jvm.Cond.code ({ cls := "java/util/Arrays", name := "copyOf", desc := "([BI)[B" } : Jvm.MethodName) jdk_65_method_121_code (3 : Nat) (Option.some (Jvm.ClassFile.FieldType.array Jvm.ClassFile.FieldType.byte)), Jvm.Cond.code ({ cls := "java/lang/Math", name := "min", desc := "(II)I" } : Jvm.MethodName) jdk_29_method_69_code (2 : Nat) (Option.some Jvm.ClassFile.FieldType.int)]
set_option maxRecDepth 65536 in
theorem codes_eq : words1.filter isCode = codes1 := rfl
theorem w_codes : ∀ c ∈ words1.filter isCode, c.before args0 about1 = true := by
  rw [codes_eq]
  intro c hc
  simp only [codes1, List.mem_cons, List.not_mem_nil, or_false] at hc
  rcases hc with rfl | rfl | rfl | rfl | rfl | rfl
  · exact w_c0
  · exact w_c1
  · exact w_c2
  · exact w_c3
  · exact w_c4
  · exact w_c5
set_option maxRecDepth 65536 in
theorem w_t1 : (words1.take 24).all (fun c => isCode c || c.before args0 about1) = true := by decide +kernel
set_option maxRecDepth 65536 in
theorem w_t2 : (words1.drop 24).all (fun c => isCode c || c.before args0 about1) = true := by decide +kernel
theorem w_tables : (allAtoms (Jvm.Cond.code x code maxLocals ret :: tables_1)).before args0 about1 = true := by
  rw [allAtoms_all]
  show words1.all (fun c => c.before args0 about1) = true
  refine all_split ?_ w_codes
  rw [← List.take_append_drop 24 words1, List.all_append, w_t1, w_t2]
  rfl
set_option maxRecDepth 65536 in
theorem w_case : (Jvm.Cond.and given_1 narrow_1).before args0 about1 = true := by decide +kernel
theorem w_applies : (headSpec (Jvm.Cond.code x code maxLocals ret :: tables_1) room_1).applies x e0.platform about1 = true :=
  (Spec.applies_iff w_frames).mpr ⟨w_running, w_runnable, w_alone, w_named, w_hears, w_ripe, w_room, w_tables⟩
theorem atStart : AtStart classFile x code maxLocals ret World_1 tables_1 room_1 Calls_1 rest_1 Pre_1 launch0 p0 e0 about1 theMethod args0 below0 :=
  ⟨lists_1, trivial, launch0.admits_env _ _ _, launch0.least_env, fairChoices_fair.cas, fairChoices_fair.clock, w_frames, w_args, w_heap, w_applies, trivial, trivial, w_case⟩
end start1
theorem witness_1 : WitnessClaimed_1 := ⟨start1.p0, start1.e0, start1.about1, start1.theMethod, start1.args0, start1.below0, start1.atStart⟩
end Jvm.Pilot.@@N@@
