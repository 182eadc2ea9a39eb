import JvmDerived
import JvmDerived.Pilot.@@N@@Statement
import JvmDerived.Pilot.@@N@@Code
set_option linter.unusedVariables false
set_option linter.unusedSimpArgs false
namespace Jvm.Pilot.@@N@@
open Jvm Jvm.ClassFile Sem Op Lib Jvm.Free Jvm.Stand Jvm.LawKit Jvm.RoadKit Bundle Jvm.Pilot.@@N@@.Jvm.D
section OwnKit
variable {p : Program} {l : Launch} {e : Env} {R : Room} {s : State} {m : MethodId} {args : Array Value} {below : List Frame} {meth : Method} {c : Code} {T : State} {cells slots : Nat} {P : State → Outcome → Prop}
variable {Z : State} {a0 : Array Value} {h h0 : Heap} {n0 : Nat} {own nm : String} {bytes : ByteArray} {maxL : Nat} {ret : Option FieldType}
variable {pc pc' : Nat} {Ls : Array Slot} {st : List Value}
/-- from the state U the run comes to an end that P allows -/
def own_Go (p : Program) (e : Env) (below : List Frame) (U : State) (P : State → Outcome → Prop) : Prop := ∃ a o, Steps p.tables e below U a ∧ P a o
theorem own_by {U U' : State} (q : ∀ t, Steps p.tables e below U' t → Steps p.tables e below U t) (G : own_Go p e below U' P) : own_Go p e below U P := by
  obtain ⟨a, o, h1, h2⟩ := G
  exact ⟨a, o, q a h1, h2⟩
/-- what stays the same in one body -/
def own_B (p : Program) (s : State) (m : MethodId) (meth : Method) (c : Code) (Z : State) (own nm : String) (bytes : ByteArray) (maxL : Nat) (ret : Option FieldType) : Prop :=
  p.tables.exec = Jvm.exec ∧ Z.Warmed39 s.vm ∧ c.maxLocals = maxL ∧ s.vm.findClass own = some m.cls ∧ meth.sig.returnType = ret ∧ meth.locks = false ∧ meth.name = nm ∧ c.code = bytes
/-- where the run stands: the state T, its heap h; nothing below n0 has been written -/
def own_S (p : Program) (l : Launch) (e : Env) (R : Room) (s : State) (m : MethodId) (args : Array Value) (below : List Frame) (meth : Method) (c : Code) (n0 : Nat) (T : State) (h : Heap) (cells slots : Nat) : Prop :=
  ∃ locs, Stand p l e R s m args below meth c T locs cells slots ∧ T.heap = h ∧ Fr n0 locs
/-- what a body owes at its end -/
def own_P (s : State) (below : List Frame) (n0 : Nat) (Q : Option Value → Heap → Prop) (k n : Nat) (a : State) (o : Outcome) : Prop :=
  a.status = .running ∧ Ended a below o ∧ ∃ v L, o = .returned v ∧ (Fr n0 L ∧ Q v a.heap) ∧ FrameEnd s o a L k n
theorem own_iload (B : own_B p s m meth c Z own nm bytes maxL ret) (X : own_S p l e R s m args below meth c n0 T h cells slots) {k : Nat} {v : Int32} (d : decode bytes pc = .ok (.iload k, 2)) (hp : pc + 2 = pc') (hl : Ls[k]? = some (.val (.int v)))
    (G : own_Go p e below (T.setTop (mkF m pc' Ls (.int v :: st))) P) : own_Go p e below (T.setTop (mkF m pc Ls (st))) P := by
  obtain ⟨locs, X, -, -⟩ := X
  subst hp
  exact own_by (fun _ => XS.iload X.here B.1 rfl (hb B.2.2.2.2.2.2.2 d) hl) G
theorem own_iloadN (B : own_B p s m meth c Z own nm bytes maxL ret) (X : own_S p l e R s m args below meth c n0 T h cells slots) {k : Fin 4} {v : Int32} (d : decode bytes pc = .ok (.iload_n k, 1)) (hp : pc + 1 = pc') (hl : Ls[k.val]? = some (.val (.int v)))
    (G : own_Go p e below (T.setTop (mkF m pc' Ls (.int v :: st))) P) : own_Go p e below (T.setTop (mkF m pc Ls (st))) P := by
  obtain ⟨locs, X, -, -⟩ := X
  subst hp
  exact own_by (fun _ => XS.iloadN X.here B.1 rfl (hb B.2.2.2.2.2.2.2 d) hl) G
theorem own_aload (B : own_B p s m meth c Z own nm bytes maxL ret) (X : own_S p l e R s m args below meth c n0 T h cells slots) {k : Nat} {v : Value} (d : decode bytes pc = .ok (.aload k, 2)) (hp : pc + 2 = pc') (hl : Ls[k]? = some (.val v)) (hv : v.isRef = true)
    (G : own_Go p e below (T.setTop (mkF m pc' Ls (v :: st))) P) : own_Go p e below (T.setTop (mkF m pc Ls (st))) P := by
  obtain ⟨locs, X, -, -⟩ := X
  subst hp
  exact own_by (fun _ => XS.aload X.here B.1 rfl (hb B.2.2.2.2.2.2.2 d) hl hv) G
theorem own_aloadN (B : own_B p s m meth c Z own nm bytes maxL ret) (X : own_S p l e R s m args below meth c n0 T h cells slots) {k : Fin 4} {v : Value} (d : decode bytes pc = .ok (.aload_n k, 1)) (hp : pc + 1 = pc') (hl : Ls[k.val]? = some (.val v)) (hv : v.isRef = true)
    (G : own_Go p e below (T.setTop (mkF m pc' Ls (v :: st))) P) : own_Go p e below (T.setTop (mkF m pc Ls (st))) P := by
  obtain ⟨locs, X, -, -⟩ := X
  subst hp
  exact own_by (fun _ => XS.aloadN X.here B.1 rfl (hb B.2.2.2.2.2.2.2 d) hl hv) G
theorem own_istore (B : own_B p s m meth c Z own nm bytes maxL ret) (X : own_S p l e R s m args below meth c n0 T h cells slots) {k : Nat} {v : Int32} {Ls' : Array Slot} (d : decode bytes pc = .ok (.istore k, 2)) (hp : pc + 2 = pc') (hl : storeLocals Ls k (.int v) = some Ls')
    (G : own_Go p e below (T.setTop (mkF m pc' Ls' st)) P) : own_Go p e below (T.setTop (mkF m pc Ls (.int v :: st))) P := by
  obtain ⟨locs, X, -, -⟩ := X
  subst hp
  exact own_by (fun _ => XS.istore X.here B.1 rfl (hb B.2.2.2.2.2.2.2 d) rfl hl) G
theorem own_astore (B : own_B p s m meth c Z own nm bytes maxL ret) (X : own_S p l e R s m args below meth c n0 T h cells slots) {k : Nat} {v : Value} {Ls' : Array Slot} (d : decode bytes pc = .ok (.astore k, 2)) (hp : pc + 2 = pc') (hv : v.isRef = true) (hl : storeLocals Ls k (v) = some Ls')
    (G : own_Go p e below (T.setTop (mkF m pc' Ls' st)) P) : own_Go p e below (T.setTop (mkF m pc Ls (v :: st))) P := by
  obtain ⟨locs, X, -, -⟩ := X
  subst hp
  exact own_by (fun _ => XS.astore X.here B.1 rfl (hb B.2.2.2.2.2.2.2 d) rfl hv hl) G
theorem own_astoreN (B : own_B p s m meth c Z own nm bytes maxL ret) (X : own_S p l e R s m args below meth c n0 T h cells slots) {k : Fin 4} {v : Value} {Ls' : Array Slot} (d : decode bytes pc = .ok (.astore_n k, 1)) (hp : pc + 1 = pc') (hv : v.isRef = true) (hl : storeLocals Ls k.val (v) = some Ls')
    (G : own_Go p e below (T.setTop (mkF m pc' Ls' st)) P) : own_Go p e below (T.setTop (mkF m pc Ls (v :: st))) P := by
  obtain ⟨locs, X, -, -⟩ := X
  subst hp
  exact own_by (fun _ => XS.astoreN X.here B.1 rfl (hb B.2.2.2.2.2.2.2 d) rfl hv hl) G
theorem own_iconst (B : own_B p s m meth c Z own nm bytes maxL ret) (X : own_S p l e R s m args below meth c n0 T h cells slots) {i : Int} {z : Int32} (d : decode bytes pc = .ok (.iconst i, 1)) (hp : pc + 1 = pc') (hz : Int32.ofInt i = z)
    (G : own_Go p e below (T.setTop (mkF m pc' Ls (.int z :: st))) P) : own_Go p e below (T.setTop (mkF m pc Ls (st))) P := by
  obtain ⟨locs, X, -, -⟩ := X
  subst hp
  subst hz
  exact own_by (fun _ => XS.iconst X.here B.1 rfl (hb B.2.2.2.2.2.2.2 d)) G
theorem own_bipush (B : own_B p s m meth c Z own nm bytes maxL ret) (X : own_S p l e R s m args below meth c n0 T h cells slots) {i : Int} {z : Int32} (d : decode bytes pc = .ok (.bipush i, 2)) (hp : pc + 2 = pc') (hz : (Int8.ofInt i).toInt32 = z)
    (G : own_Go p e below (T.setTop (mkF m pc' Ls (.int z :: st))) P) : own_Go p e below (T.setTop (mkF m pc Ls (st))) P := by
  obtain ⟨locs, X, -, -⟩ := X
  subst hp
  subst hz
  exact own_by (fun _ => XS.bipush X.here B.1 rfl (hb B.2.2.2.2.2.2.2 d)) G
theorem own_ldcI (B : own_B p s m meth c Z own nm bytes maxL ret) (X : own_S p l e R s m args below meth c n0 T h cells slots) {i : Nat} {z : Int32} (w : (Cond.constant own i z).before a0 Z = true) (d : decode bytes pc = .ok (.ldc i, 2)) (hp : pc + 2 = pc') 
    (G : own_Go p e below (T.setTop (mkF m pc' Ls (.int z :: st))) P) : own_Go p e below (T.setTop (mkF m pc Ls (st))) P := by
  obtain ⟨locs, X, -, -⟩ := X
  subst hp
  exact own_by (fun _ => X.ldcInt B.1 B.2.2.2.1 (mvT B.2.1 w) (g := mkF m pc Ls st) rfl (hb B.2.2.2.2.2.2.2 d) _) G
theorem own_iadd (B : own_B p s m meth c Z own nm bytes maxL ret) (X : own_S p l e R s m args below meth c n0 T h cells slots) {x y z : Int32} (d : decode bytes pc = .ok (.iadd, 1)) (hp : pc + 1 = pc') (hz : x + y = z)
    (G : own_Go p e below (T.setTop (mkF m pc' Ls (.int z :: st))) P) : own_Go p e below (T.setTop (mkF m pc Ls (.int y :: .int x :: st))) P := by
  obtain ⟨locs, X, -, -⟩ := X
  subst hp
  subst hz
  exact own_by (fun _ => XS.iadd X.here B.1 rfl (hb B.2.2.2.2.2.2.2 d) rfl) G
theorem own_isub (B : own_B p s m meth c Z own nm bytes maxL ret) (X : own_S p l e R s m args below meth c n0 T h cells slots) {x y z : Int32} (d : decode bytes pc = .ok (.isub, 1)) (hp : pc + 1 = pc') (hz : x - y = z)
    (G : own_Go p e below (T.setTop (mkF m pc' Ls (.int z :: st))) P) : own_Go p e below (T.setTop (mkF m pc Ls (.int y :: .int x :: st))) P := by
  obtain ⟨locs, X, -, -⟩ := X
  subst hp
  subst hz
  exact own_by (fun _ => XS.isub X.here B.1 rfl (hb B.2.2.2.2.2.2.2 d) rfl) G
theorem own_imul (B : own_B p s m meth c Z own nm bytes maxL ret) (X : own_S p l e R s m args below meth c n0 T h cells slots) {x y z : Int32} (d : decode bytes pc = .ok (.imul, 1)) (hp : pc + 1 = pc') (hz : x * y = z)
    (G : own_Go p e below (T.setTop (mkF m pc' Ls (.int z :: st))) P) : own_Go p e below (T.setTop (mkF m pc Ls (.int y :: .int x :: st))) P := by
  obtain ⟨locs, X, -, -⟩ := X
  subst hp
  subst hz
  exact own_by (fun _ => XS.imul X.here B.1 rfl (hb B.2.2.2.2.2.2.2 d) rfl) G
theorem own_iand (B : own_B p s m meth c Z own nm bytes maxL ret) (X : own_S p l e R s m args below meth c n0 T h cells slots) {x y z : Int32} (d : decode bytes pc = .ok (.iand, 1)) (hp : pc + 1 = pc') (hz : x &&& y = z)
    (G : own_Go p e below (T.setTop (mkF m pc' Ls (.int z :: st))) P) : own_Go p e below (T.setTop (mkF m pc Ls (.int y :: .int x :: st))) P := by
  obtain ⟨locs, X, -, -⟩ := X
  subst hp
  subst hz
  exact own_by (fun _ => XS.iand X.here B.1 rfl (hb B.2.2.2.2.2.2.2 d) rfl) G
theorem own_iushr (B : own_B p s m meth c Z own nm bytes maxL ret) (X : own_S p l e R s m args below meth c n0 T h cells slots) {x y z : Int32} (d : decode bytes pc = .ok (.iushr, 1)) (hp : pc + 1 = pc') (hz : (x.toUInt32 >>> (y &&& 31).toUInt32).toInt32 = z)
    (G : own_Go p e below (T.setTop (mkF m pc' Ls (.int z :: st))) P) : own_Go p e below (T.setTop (mkF m pc Ls (.int y :: .int x :: st))) P := by
  obtain ⟨locs, X, -, -⟩ := X
  subst hp
  subst hz
  exact own_by (fun _ => XS.iushr X.here B.1 rfl (hb B.2.2.2.2.2.2.2 d) rfl) G
theorem own_irem (B : own_B p s m meth c Z own nm bytes maxL ret) (X : own_S p l e R s m args below meth c n0 T h cells slots) {x y z : Int32} (d : decode bytes pc = .ok (.irem, 1)) (hp : pc + 1 = pc') (hy : y ≠ 0) (hz : x % y = z)
    (G : own_Go p e below (T.setTop (mkF m pc' Ls (.int z :: st))) P) : own_Go p e below (T.setTop (mkF m pc Ls (.int y :: .int x :: st))) P := by
  obtain ⟨locs, X, -, -⟩ := X
  subst hp
  subst hz
  exact own_by (fun _ => iremM X B.1 rfl (hb B.2.2.2.2.2.2.2 d) rfl hy) G
theorem own_i2b (B : own_B p s m meth c Z own nm bytes maxL ret) (X : own_S p l e R s m args below meth c n0 T h cells slots) {x : Int32} {z : Int32} (d : decode bytes pc = .ok (.i2b, 1)) (hp : pc + 1 = pc') (hz : x.toInt8.toInt32 = z)
    (G : own_Go p e below (T.setTop (mkF m pc' Ls (.int z :: st))) P) : own_Go p e below (T.setTop (mkF m pc Ls (.int x :: st))) P := by
  obtain ⟨locs, X, -, -⟩ := X
  subst hp
  subst hz
  exact own_by (fun _ => XS.i2b X.here B.1 rfl (hb B.2.2.2.2.2.2.2 d) rfl) G
theorem own_dup (B : own_B p s m meth c Z own nm bytes maxL ret) (X : own_S p l e R s m args below meth c n0 T h cells slots) {v : Value} (d : decode bytes pc = .ok (.dup, 1)) (hp : pc + 1 = pc') (hv : v.category = 1)
    (G : own_Go p e below (T.setTop (mkF m pc' Ls (v :: v :: st))) P) : own_Go p e below (T.setTop (mkF m pc Ls (v :: st))) P := by
  obtain ⟨locs, X, -, -⟩ := X
  subst hp
  exact own_by (fun _ => XS.dup X.here B.1 rfl (hb B.2.2.2.2.2.2.2 d) rfl hv) G
theorem own_dup_x1 (B : own_B p s m meth c Z own nm bytes maxL ret) (X : own_S p l e R s m args below meth c n0 T h cells slots) {v w : Value} (d : decode bytes pc = .ok (.dup_x1, 1)) (hp : pc + 1 = pc') (hv : v.category = 1) (hw : w.category = 1)
    (G : own_Go p e below (T.setTop (mkF m pc' Ls (v :: w :: v :: st))) P) : own_Go p e below (T.setTop (mkF m pc Ls (v :: w :: st))) P := by
  obtain ⟨locs, X, -, -⟩ := X
  subst hp
  exact own_by (fun _ => XS.dupX1 X.here B.1 rfl (hb B.2.2.2.2.2.2.2 d) rfl hv hw) G
theorem own_goto (B : own_B p s m meth c Z own nm bytes maxL ret) (X : own_S p l e R s m args below meth c n0 T h cells slots) {o : Int} (d : decode bytes pc = .ok (.goto o, 3)) (ho : 0 ≤ (pc : Int) + o) (hp : ((pc : Int) + o).toNat = pc')
    (G : own_Go p e below (T.setTop (mkF m pc' Ls st)) P) : own_Go p e below (T.setTop (mkF m pc Ls st)) P := by
  obtain ⟨locs, X, -, -⟩ := X
  exact own_by (fun _ => XS.goto X.here B.1 rfl (pc0 := pc) rfl (hb B.2.2.2.2.2.2.2 d) ho hp) G
theorem own_ifNo (B : own_B p s m meth c Z own nm bytes maxL ret) (X : own_S p l e R s m args below meth c n0 T h cells slots) {cd : ClassFile.Cond} {o : Int} {x : Int32} (d : decode bytes pc = .ok (.ifCond cd o, 3)) (hc : ifCond.holds cd x = false) (hp : pc + 3 = pc')
    (G : own_Go p e below (T.setTop (mkF m pc' Ls st)) P) : own_Go p e below (T.setTop (mkF m pc Ls (.int x :: st))) P := by
  obtain ⟨locs, X, -, -⟩ := X
  subst hp
  exact own_by (fun _ => XS.ifNo X.here B.1 rfl (hb B.2.2.2.2.2.2.2 d) rfl hc) G
theorem own_icmpYes (B : own_B p s m meth c Z own nm bytes maxL ret) (X : own_S p l e R s m args below meth c n0 T h cells slots) {cd : ClassFile.Cond} {o : Int} {x y : Int32} (d : decode bytes pc = .ok (.if_icmp cd o, 3)) (hc : if_icmp.holds cd x y = true) (ho : 0 ≤ (pc : Int) + o) (hp : ((pc : Int) + o).toNat = pc')
    (G : own_Go p e below (T.setTop (mkF m pc' Ls st)) P) : own_Go p e below (T.setTop (mkF m pc Ls (.int y :: .int x :: st))) P := by
  obtain ⟨locs, X, -, -⟩ := X
  exact own_by (fun _ => XS.icmpYes X.here B.1 rfl (pc0 := pc) rfl (hb B.2.2.2.2.2.2.2 d) rfl hc ho hp) G
theorem own_icmpNo (B : own_B p s m meth c Z own nm bytes maxL ret) (X : own_S p l e R s m args below meth c n0 T h cells slots) {cd : ClassFile.Cond} {o : Int} {x y : Int32} (d : decode bytes pc = .ok (.if_icmp cd o, 3)) (hc : if_icmp.holds cd x y = false) (hp : pc + 3 = pc')
    (G : own_Go p e below (T.setTop (mkF m pc' Ls st)) P) : own_Go p e below (T.setTop (mkF m pc Ls (.int y :: .int x :: st))) P := by
  obtain ⟨locs, X, -, -⟩ := X
  subst hp
  exact own_by (fun _ => XS.icmpNo X.here B.1 rfl (hb B.2.2.2.2.2.2.2 d) rfl hc) G
theorem own_arraylength (B : own_B p s m meth c Z own nm bytes maxL ret) (X : own_S p l e R s m args below meth c n0 T h cells slots) {a : Addr} {k : ClassId} {z : Int32} {vs : List Value} {dv : Value} {ty : FieldType} (V : Arv Z h a k ty z vs dv) (d : decode bytes pc = .ok (.arraylength, 1)) (hp : pc + 1 = pc')
    (G : own_Go p e below (T.setTop (mkF m pc' Ls (.int z :: st))) P) : own_Go p e below (T.setTop (mkF m pc Ls (.ref a :: st))) P := by
  obtain ⟨locs, X, eT, -⟩ := X
  subst hp
  obtain ⟨cl, A, -, S, N, -, -⟩ := V
  refine own_by (fun t ht => ?_) G
  refine X.arraylength B.1 (by rw [eT]; exact A.1) (State.isArrayOf_alike B.2.1.alike A.2.1) (g := mkF m pc Ls (.ref a :: st)) rfl rfl (hb B.2.2.2.2.2.2.2 d) _ ?_
  rw [len_of S N]; exact ht
theorem own_baload (B : own_B p s m meth c Z own nm bytes maxL ret) (X : own_S p l e R s m args below meth c n0 T h cells slots) {a : Addr} {k : ClassId} {z : Int32} {vs : List Value} {dv : Value} {j : Int32} {v : Value} (V : Arv Z h a k .byte z vs dv) (hj : ¬ j < 0 ∧ j < z) (hv : vs.getD j.toNatClampNeg dv = v) (d : decode bytes pc = .ok (.baload, 1)) (hp : pc + 1 = pc')
    (G : own_Go p e below (T.setTop (mkF m pc' Ls (v :: st))) P) : own_Go p e below (T.setTop (mkF m pc Ls (.int j :: .ref a :: st))) P := by
  obtain ⟨locs, X, eT, -⟩ := X
  subst hp
  obtain ⟨cl, A, -, S, N, H, -⟩ := V
  have hin := inb_of S hj
  exact own_by (fun t => X.baloadBytes B.1 (j := j) (v := v) (by rw [eT]; exact A.1) (State.isArrayOf_alike B.2.1.alike A.2.1) A.2.2 hin (H.at hin hv) (g := mkF m pc Ls (.int j :: .ref a :: st)) rfl rfl (hb B.2.2.2.2.2.2.2 d) t) G
theorem own_bastore (B : own_B p s m meth c Z own nm bytes maxL ret) (X : own_S p l e R s m args below meth c n0 T h cells slots) {a : Addr} {k : ClassId} {z : Int32} {vs : List Value} {dv : Value} {j : Int32} {x x' : Int32} (V : Arv Z h a k .byte z vs dv) (ge : n0 ≤ a) (hj : ¬ j < 0 ∧ j < z) (i : Nat) (hi : j.toNatClampNeg = i) (hl : i < vs.length) (hz : x.toInt8.toInt32 = x') (d : decode bytes pc = .ok (.bastore, 1)) (hp : pc + 1 = pc')
    (G : ∀ T' h', own_S p l e R s m args below meth c n0 T' h' cells slots → Wr h h' a i (.int x') → Arv Z h' a k .byte z (vs.set i (.int x')) dv → own_Go p e below (T'.setTop (mkF m pc' Ls st)) P) : own_Go p e below (T.setTop (mkF m pc Ls (.int x :: .int j :: .ref a :: st))) P := by
  obtain ⟨locs, X, eT, N0⟩ := X
  subst hp hi hz
  obtain ⟨cl, A, q, S, N, H, F⟩ := V
  have hin := inb_of S hj
  obtain ⟨T', h', X', e', W, st'⟩ := stB X B.1 B.2.1 eT A (j := j) hin (g := mkF m pc Ls (.int x :: .int j :: .ref a :: st)) rfl rfl (hb B.2.2.2.2.2.2.2 d)
  exact own_by st' (G T' h' ⟨_, X', e', Fr.snoc X' N0 ge⟩ W (Arv.set A q S N H F (fits_nar_byte _) W _ rfl hl))
theorem own_newarray (B : own_B p s m meth c Z own nm bytes maxL ret) (X : own_S p l e R s m args below meth c n0 T h cells slots) {aty : ArrayType} {t : FieldType} (w : (Cond.arrayClass t).before a0 Z = true) (d : decode bytes pc = .ok (.newarray aty, 2)) (hp : pc + 2 = pc') (hty : newarray.typeOf aty = t) {z : Int32} (hz : ¬ z < 0) (cap : Nat) (hcap : z.toNatClampNeg ≤ cap) (hbig : cap * 8 ≤ 536870912) {k' n' : Nat} (hk : cells + 1 = k') (hn : slots + cap = n') (hkR : k' ≤ R.cells) (hnR : n' ≤ R.slots) (ad : String) (had : "[" ++ (newarray.typeOf aty).toString = ad) (dv : Value) (hdv : defaultValue t = dv)
    (G : ∀ T' h' b k, own_S p l e R s m args below meth c n0 T' h' k' n' → b = h.size → Ext h h' → Arv Z h' b k t z [] dv → Exa Z h' b ad → own_Go p e below (T'.setTop (mkF m pc' Ls (.ref b :: st))) P) : own_Go p e below (T.setTop (mkF m pc Ls (.int z :: st))) P := by
  obtain ⟨locs, X, eT, N0⟩ := X
  subst hp hk hn hdv hty
  obtain ⟨T', h', kA, X', e', E, A, A', st'⟩ := newPE X B.1 B.2.1 w eT (g := mkF m pc Ls (.int z :: st)) rfl (hb B.2.2.2.2.2.2.2 d) rfl hz (cap := cap) hcap hbig hkR hnR had
  exact own_by st' (G T' h' _ kA ⟨_, X', e', N0⟩ rfl E (Arv.new A hz) A')
theorem own_new (B : own_B p s m meth c Z own nm bytes maxL ret) (X : own_S p l e R s m args below meth c n0 T h cells slots) {C : String} {i n : Nat} (w : (Cond.classLink own i C).before a0 Z = true) (wi : (Cond.instantiable C n).before a0 Z = true) (wz : (Cond.initialized C).before a0 Z = true) (d : decode bytes pc = .ok (.new i, 3)) (hp : pc + 3 = pc') {k' n' : Nat} (hk : cells + 1 = k') (hn : slots + n = n') (hkR : k' ≤ R.cells) (hnR : n' ≤ R.slots)
    (G : ∀ T' h' b, own_S p l e R s m args below meth c n0 T' h' k' n' → b = h.size → Ext h h' → Exa Z h' b C → (∀ {O f t : String} {ty : FieldType}, Laid Z a0 C O f t → parseFieldDescriptor t = some ty → Fld Z h' b O f t (defaultValue ty)) → own_Go p e below (T'.setTop (mkF m pc' Ls (.ref b :: st))) P) : own_Go p e below (T.setTop (mkF m pc Ls st)) P := by
  obtain ⟨locs, X, eT, N0⟩ := X
  subst hp hk hn
  obtain ⟨T', h', X', e', E, A, D, -, st'⟩ := newO X B.1 B.2.1 B.2.2.2.1 w wi wz eT (g := mkF m pc Ls st) rfl (hb B.2.2.2.2.2.2.2 d) hkR hnR
  exact own_by st' (G T' h' _ ⟨_, X', e', N0⟩ rfl E A D)
theorem own_objinit (B : own_B p s m meth c Z own nm bytes maxL ret) (X : own_S p l e R s m args below meth c n0 T h cells slots) {i : Nat} {a : Addr} (w1 : (Cond.methodLink own i Lib.objectInit).before a0 Z = true) (w2 : (Cond.instanceMethod Lib.objectInit).before a0 Z = true) (w3 : (Cond.code Lib.objectInit ⟨#[0xb1]⟩ 1 none).before a0 Z = true) (d : decode bytes pc = .ok (.invokespecial i, 3)) (hp : pc + 3 = pc') (hsz : Ls.size = maxL) (hf : 1 ≤ R.frames) (W : Nat) (hW : (st.map fun v => v.category).sum ≤ W) (hl : W + 12 ≤ R.locals)
    (G : ∀ T', own_S p l e R s m args below meth c n0 T' h cells slots → own_Go p e below (T'.setTop (mkF m pc' Ls st)) P) : own_Go p e below (T.setTop (mkF m pc Ls (.ref a :: st))) P := by
  obtain ⟨locs, X, eT, N0⟩ := X
  subst hp
  obtain ⟨T', X', e', st'⟩ := initO X B.1 B.2.1 B.2.2.2.1 w1 w2 w3 eT (g := mkF m pc Ls (.ref a :: st)) rfl (by rw [B.2.2.1]; exact hsz) rfl (hb B.2.2.2.2.2.2.2 d) hf (W := W) (by show 2 * 0 + _ ≤ _; omega) hl
  exact own_by st' (G T' ⟨_, X', e', N0⟩)
theorem own_getfield (B : own_B p s m meth c Z own nm bytes maxL ret) (X : own_S p l e R s m args below meth c n0 T h cells slots) {R0 O n t : String} {host : String} {i : Nat} {a : Addr} {v : Value} (w : (Cond.fieldLink own i R0 n t).before a0 Z = true ∨ (Cond.fieldLinkNest own i R0 n t host).before a0 Z = true) (via : Via Z R0 O n t) (F : Fld Z h a O n t v) (d : decode bytes pc = .ok (.getfield i, 3)) (hp : pc + 3 = pc')
    (G : ∀ T', own_S p l e R s m args below meth c n0 T' h cells slots → own_Go p e below (T'.setTop (mkF m pc' Ls (v :: st))) P) : own_Go p e below (T.setTop (mkF m pc Ls (.ref a :: st))) P := by
  obtain ⟨locs, X, eT, N0⟩ := X
  subst hp
  obtain ⟨T', X', e', st'⟩ := getF X B.1 B.2.1 B.2.2.2.1 w via eT F (g := mkF m pc Ls (.ref a :: st)) rfl rfl (hb B.2.2.2.2.2.2.2 d)
  exact own_by st' (G T' ⟨_, X', e', N0⟩)
theorem own_putfield (B : own_B p s m meth c Z own nm bytes maxL ret) (X : own_S p l e R s m args below meth c n0 T h cells slots) {R0 O n t C : String} {host : String} {i kk : Nat} {ty : FieldType} {a : Addr} {v old : Value} (w : (Cond.fieldLink own i R0 n t).before a0 Z = true ∨ (Cond.fieldLinkNest own i R0 n t host).before a0 Z = true) (via : Via Z R0 O n t) (F : Fld Z h a O n t old) (E : Exa Z h a C) (ge : n0 ≤ a) (L : (Cond.lays C O n t).before a0 Z = true ∨ ((Cond.laysFinal C O n t).before a0 Z = true ∧ own = O ∧ nm = "<init>")) (wi : (Cond.instantiable C kk).before a0 Z = true) (hty : parseFieldDescriptor t = some ty) (hn : narrow ty v = v) (hf : fits ty v = true) (d : decode bytes pc = .ok (.putfield i, 3)) (hp : pc + 3 = pc')
    (G : ∀ T' h', own_S p l e R s m args below meth c n0 T' h' cells slots → Wr h h' a (Jvm.RoadKit.slotOf Z O n t) v → Fld Z h' a O n t v → own_Go p e below (T'.setTop (mkF m pc' Ls st)) P) : own_Go p e below (T.setTop (mkF m pc Ls (v :: .ref a :: st))) P := by
  obtain ⟨locs, X, eT, N0⟩ := X
  subst hp
  obtain ⟨T', h', X', e', W, st'⟩ := putF X B.1 B.2.1 B.2.2.2.1 w via eT F E (L.imp id fun q => ⟨q.1, q.2.1, B.2.2.2.2.2.2.1.trans q.2.2⟩) wi hty hn hf (g := mkF m pc Ls (v :: .ref a :: st)) rfl rfl (hb B.2.2.2.2.2.2.2 d)
  exact own_by st' (G T' h' ⟨_, X', e', Fr.snoc X' N0 ge⟩ W (F.same W))
theorem own_arraycopy (B : own_B p s m meth c Z own nm bytes maxL ret) (X : own_S p l e R s m args below meth c n0 T h cells slots) {i : Nat} (w1 : (Cond.methodLink own i Jvm.Stand.acN).before a0 Z = true) (w2 : (Cond.native Jvm.Stand.acN).before a0 Z = true) (w3 : (Cond.static Jvm.Stand.acN).before a0 Z = true) (w4 : (Cond.initialized "java/lang/System").before a0 Z = true) {a b : Addr} {k k' : ClassId} {ty : FieldType} {z z' sp dp nn : Int32} {vs vd us rs : List Value} {dv dd : Value} (A : Arv Z h a k ty z vs dv) (A' : Arv Z h b k' ty z' vd dd) (hty : refKind ty = false) (ge : n0 ≤ b) (h1 : ¬ sp < 0) (h2 : ¬ dp < 0) (h3 : ¬ nn < 0) (h4 : sp.toNatClampNeg + nn.toNatClampNeg ≤ z.toNatClampNeg) (h5 : dp.toNatClampNeg + nn.toNatClampNeg ≤ z'.toNatClampNeg) (hus : us = (List.range nn.toNatClampNeg).map fun i => vs.getD (sp.toNatClampNeg + i) dv) (hl : dp.toNatClampNeg + nn.toNatClampNeg ≤ vd.length) (hrs : vd.take dp.toNatClampNeg ++ us ++ vd.drop (dp.toNatClampNeg + nn.toNatClampNeg) = rs) (d : decode bytes pc = .ok (.invokestatic i, 3)) (hp : pc + 3 = pc') (hsz : Ls.size = maxL) (hf : 1 ≤ R.frames) (W : Nat) (hW : (st.map fun v => v.category).sum ≤ W) (hlo : W + (nativeFrameWords "java/lang/System" "arraycopy" 5 + 11) ≤ R.locals)
    (G : ∀ T' h', own_S p l e R s m args below meth c n0 T' h' cells slots → Keep h h' [b] → Arv Z h' b k' ty z' rs dd → own_Go p e below (T'.setTop (mkF m pc' Ls st)) P) : own_Go p e below (T.setTop (mkF m pc Ls (.int nn :: .int dp :: .ref b :: .int sp :: .ref a :: st))) P := by
  obtain ⟨locs, X, eT, N0⟩ := X
  subst hp hrs
  obtain ⟨T', h', L, X', e', N', K, V, st'⟩ := cpA X B.1 B.2.1 B.2.2.2.1 w1 w2 w3 w4 eT A A' (Or.inl ⟨rfl, hty⟩) h1 h2 h3 h4 h5 hus hl N0 ge (g := mkF m pc Ls (.int nn :: .int dp :: .ref b :: .int sp :: .ref a :: st)) rfl (by rw [B.2.2.1]; exact hsz) rfl (hb B.2.2.2.2.2.2.2 d) hf (W := W) (by show 2 * 0 + _ ≤ _; omega) hlo
  exact own_by st' (G T' h' ⟨_, X', e', N'⟩ K V)
theorem own_retI (B : own_B p s m meth c Z own nm bytes maxL (some .int)) (X : own_S p l e R s m args below meth c n0 T h cells slots) {Q : Option Value → Heap → Prop} {k n : Nat} {z : Int32} (d : decode bytes pc = .ok (.ireturn, 1)) (hk : cells ≤ k) (hn : slots ≤ n) (hq : Q (some (.int z)) h) : own_Go p e below (T.setTop (mkF m pc Ls (.int z :: st))) (own_P s below n0 Q k n) := by
  obtain ⟨locs, X, eT, N0⟩ := X
  obtain ⟨fs, hr, hrun, hended, hW, hsame⟩ := X.leave (v := (some (.int z))) (fun h => by rw [B.2.2.2.2.1] at h; cases h) B.2.2.2.2.2.1
  exact ⟨_, _, retOut X B.1 B.2.2.2.2.1 rfl (Or.inl ⟨rfl, Or.inl rfl, _, rfl⟩) (hb B.2.2.2.2.2.2.2 d) hr, hrun, hended, _, _, rfl, ⟨N0, by show Q _ T.heap; rw [eT]; exact hq⟩, ⟨_, rfl⟩, hW, hsame.mono hk hn⟩
theorem own_retN {t : FieldType} (B : own_B p s m meth c Z own nm bytes maxL (some t)) (X : own_S p l e R s m args below meth c n0 T h cells slots) {Q : Option Value → Heap → Prop} {k n : Nat} {z z' : Int32} (ht : t = .boolean ∨ t = .byte ∨ t = .char ∨ t = .short) (hz : nar t z = z') (d : decode bytes pc = .ok (.ireturn, 1)) (hk : cells ≤ k) (hn : slots ≤ n) (hq : Q (some (.int z')) h) : own_Go p e below (T.setTop (mkF m pc Ls (.int z :: st))) (own_P s below n0 Q k n) := by
  subst hz
  obtain ⟨locs, X, eT, N0⟩ := X
  obtain ⟨fs, hr, hrun, hended, hW, hsame⟩ := X.leave (v := (some (.int (nar t z)))) (fun h => by rw [B.2.2.2.2.1] at h; cases h) B.2.2.2.2.2.1
  exact ⟨_, _, retN X B.1 B.2.2.2.2.1 ht (hb B.2.2.2.2.2.2.2 d) hr, hrun, hended, _, _, rfl, ⟨N0, by show Q _ T.heap; rw [eT]; exact hq⟩, ⟨_, rfl⟩, hW, hsame.mono hk hn⟩
theorem own_retA {t : FieldType} (B : own_B p s m meth c Z own nm bytes maxL (some t)) (X : own_S p l e R s m args below meth c n0 T h cells slots) {Q : Option Value → Heap → Prop} {k n : Nat} {w : Value} (ht : t.isReference = true) (hw : w.isRef = true) (hnw : narrow t w = w) (d : decode bytes pc = .ok (.areturn, 1)) (hk : cells ≤ k) (hn : slots ≤ n) (hq : Q (some w) h) : own_Go p e below (T.setTop (mkF m pc Ls (w :: st))) (own_P s below n0 Q k n) := by
  obtain ⟨locs, X, eT, N0⟩ := X
  obtain ⟨fs, hr, hrun, hended, hW, hsame⟩ := X.leave (v := (some w)) (fun h => by rw [B.2.2.2.2.1] at h; cases h) B.2.2.2.2.2.1
  exact ⟨_, _, retOut X B.1 B.2.2.2.2.1 hnw (Or.inr (Or.inr (Or.inr (Or.inr ⟨rfl, ht, hw⟩)))) (hb B.2.2.2.2.2.2.2 d) hr, hrun, hended, _, _, rfl, ⟨N0, by show Q _ T.heap; rw [eT]; exact hq⟩, ⟨_, rfl⟩, hW, hsame.mono hk hn⟩
theorem own_ret (B : own_B p s m meth c Z own nm bytes maxL none) (X : own_S p l e R s m args below meth c n0 T h cells slots) {Q : Option Value → Heap → Prop} {k n : Nat} (d : decode bytes pc = .ok (.return_, 1)) (hk : cells ≤ k) (hn : slots ≤ n) (hq : Q none h) : own_Go p e below (T.setTop (mkF m pc Ls [])) (own_P s below n0 Q k n) := by
  obtain ⟨locs, X, eT, N0⟩ := X
  obtain ⟨fs, hr, hrun, hended, hW, hsame⟩ := X.leave (v := none) (fun _ => rfl) B.2.2.2.2.2.1
  exact ⟨_, _, X.returnOut B.1 B.2.2.2.2.1 (hb B.2.2.2.2.2.2.2 d) hr, hrun, hended, _, _, rfl, ⟨N0, by show Q _ T.heap; rw [eT]; exact hq⟩, ⟨_, rfl⟩, hW, hsame.mono hk hn⟩
theorem own_enter {y : MethodName} {rm : Room} {ws : List Jvm.Cond} {as' : Array Value} {Q : Option Value → Heap → Prop} {F : MethodId → JFrame} (hpl : plainFor y = true) (hF : ∀ m, entryFrame m as' maxL = F m)
    (body : ∀ p e s m below meth c s₁, own_B p s m meth c Z y.cls y.name bytes maxL ret → own_S p l e rm s m as' below meth c n0 s₁ h0 0 0 → own_Go p e below (s₁.setTop (F m)) (own_P s below n0 Q rm.cells rm.slots)) :
    MetFree l y (head1 (Jvm.Cond.code y bytes maxL ret :: ws) rm) (fun a U => a = as' ∧ Z.Warmed39 U.vm ∧ U.heap = h0) (fun _ _ _ _ _ => True) (fun _ U o U' => ∃ v L, o = .returned v ∧ (Fr n0 L ∧ Q v U'.heap) ∧ FrameEnd U o U' L rm.cells rm.slots) := by
  refine MetFree.of_bodySF hpl hisR ?_
  intro p e s m args below meth c s₁ Bd hml0 hP hK
  obtain ⟨rfl, hZ, hh⟩ := hP
  have e0 : s₁.heap = h0 := by rw [← hh, Bd.state]; rfl
  have nm := (name_of_methodNamed Bd.named Bd.method).1
  obtain ⟨a, o, h1, h2⟩ := body p e s m below meth c s₁ ⟨Bd.exec, hZ, hml0, findClass_of_methodNamed Bd.named, Bd.returns, Bd.notSynchronized, nm, Bd.bytes⟩ ⟨[], Stand.of_body Bd, e0, Fr.nil n0⟩
  exact ⟨a, o, castTop (hF m) h1, h2⟩
theorem own_callS (B : own_B p s m meth c Z own nm bytes maxL ret) (X : own_S p l e R s m args below meth c n0 T h cells slots) {i : Nat} {y : MethodName} {yb : ByteArray} {yl : Nat} {yr : Option FieldType} (w1 : (Cond.methodLink own i y).before a0 Z = true) (w2 : (Cond.static y).before a0 Z = true) (w3 : (Cond.initialized y.cls).before a0 Z = true) (w4 : (Cond.code y yb yl yr).before a0 Z = true) (hy : y.cls ≠ "java/lang/invoke/MethodHandle" ∧ y.cls ≠ "java/lang/invoke/VarHandle") {rm : Room} {Q : Option Value → Heap → Prop} (argsL rest : List Value)
    (hM : MetFree l y (head1 [Jvm.Cond.code y yb yl yr] rm) (fun b U => b = argsL.toArray ∧ Z.Warmed39 U.vm ∧ U.heap = h) (fun _ _ _ _ _ => True) (fun _ U o U' => ∃ v L, o = .returned v ∧ (Fr n0 L ∧ Q v U'.heap) ∧ FrameEnd U o U' L rm.cells rm.slots))
    (W : Nat) (hf : rm.frames + 1 ≤ R.frames) (hl : W + (yl + 11) + rm.locals ≤ R.locals) (hsz : Ls.size = maxL) {ps : List FieldType} {rt : Option FieldType} (hpd : parseMethodDescriptor y.desc = some ⟨ps, rt⟩) (hln : argsL.length = ps.length) (hst : st = argsL.reverse ++ rest) (hW : (rest.map fun v => v.category).sum ≤ W) (d : decode bytes pc = .ok (.invokestatic i, 3)) (hp : pc + 3 = pc') {k' n' : Nat} (hk : cells + rm.cells = k') (hn : slots + rm.slots = n') (hkR : k' ≤ R.cells) (hnR : n' ≤ R.slots)
    (G : ∀ T' v h', own_S p l e R s m args below meth c n0 T' h' k' n' → Q v h' → own_Go p e below (T'.setTop (mkF m pc' Ls (v.toList ++ rest))) P) : own_Go p e below (T.setTop (mkF m pc Ls st)) P := by
  obtain ⟨locs, X, eT, N0⟩ := X
  subst hp hk hn
  have bk := backOf (p := p) (e := e) (below := below) (args := args) (len := 3) (W := W) (Q := fun v h' L => Fr n0 L ∧ Q v h') hM B.2.1 w4 w3 hf hl
  obtain ⟨v, vm₁, ⟨T', L', k1, n1⟩, hW1, X', ⟨Lc, hQ, l1, y1, z1⟩, stp⟩ := Jvm.LawKit.callS X B.1 (y := y) B.2.2.2.1 (mvT B.2.1 w1) (mvT B.2.1 w2) (mvT B.2.1 w3) (mvT B.2.1 w4) hy bk (g := mkF m pc Ls st) rfl (by rw [B.2.2.1]; exact hsz) (argsL := argsL) (rest := rest) (lenOf hpd hln) hst (by show 2 * 0 + _ ≤ _; omega) (hb B.2.2.2.2.2.2.2 d) (fun _ _ => ⟨rfl, eT, hkR, hnR⟩)
  dsimp only [Pt.U, Pt.locs, Pt.cells, Pt.slots] at X' l1 y1 z1 stp hQ
  subst l1 y1 z1
  exact own_by stp (G T' v _ ⟨_, X', rfl, N0.app hQ.1⟩ hQ.2)
theorem own_callI (B : own_B p s m meth c Z own nm bytes maxL ret) (X : own_S p l e R s m args below meth c n0 T h cells slots) {i : Nat} {y : MethodName} {yb : ByteArray} {yl : Nat} {yr : Option FieldType} (hyn : y.name = "<init>") (hyr : yr = none) (w1 : (Cond.methodLink own i y).before a0 Z = true) (w2 : (Cond.instanceMethod y).before a0 Z = true) (w3 : (Cond.initialized y.cls).before a0 Z = true) (w4 : (Cond.code y yb yl yr).before a0 Z = true) (hy : y.cls ≠ "java/lang/invoke/MethodHandle" ∧ y.cls ≠ "java/lang/invoke/VarHandle") {rm : Room} {Q : Option Value → Heap → Prop} {a : Addr} (argsL rest : List Value)
    (hM : MetFree l y (head1 [Jvm.Cond.code y yb yl yr] rm) (fun b U => b = (Value.ref a :: argsL).toArray ∧ Z.Warmed39 U.vm ∧ U.heap = h) (fun _ _ _ _ _ => True) (fun _ U o U' => ∃ v L, o = .returned v ∧ (Fr n0 L ∧ Q v U'.heap) ∧ FrameEnd U o U' L rm.cells rm.slots))
    (W : Nat) (hf : rm.frames + 1 ≤ R.frames) (hl : W + (yl + 11) + rm.locals ≤ R.locals) (hsz : Ls.size = maxL) {ps : List FieldType} {rt : Option FieldType} (hpd : parseMethodDescriptor y.desc = some ⟨ps, rt⟩) (hln : argsL.length = ps.length) (hst : st = argsL.reverse ++ .ref a :: rest) (hW : (rest.map fun v => v.category).sum ≤ W) (d : decode bytes pc = .ok (.invokespecial i, 3)) (hp : pc + 3 = pc') {k' n' : Nat} (hk : cells + rm.cells = k') (hn : slots + rm.slots = n') (hkR : k' ≤ R.cells) (hnR : n' ≤ R.slots)
    (G : ∀ T' v h', own_S p l e R s m args below meth c n0 T' h' k' n' → Q v h' → own_Go p e below (T'.setTop (mkF m pc' Ls (v.toList ++ rest))) P) : own_Go p e below (T.setTop (mkF m pc Ls st)) P := by
  obtain ⟨locs, X, eT, N0⟩ := X
  subst hp hk hn
  have bk := backOf (p := p) (e := e) (below := below) (args := args) (len := 3) (W := W) (Q := fun v h' L => Fr n0 L ∧ Q v h') hM B.2.1 w4 w3 hf hl
  subst hyr
  obtain ⟨v, vm₁, ⟨T', L', k1, n1⟩, hW1, X', ⟨Lc, hQ, l1, y1, z1⟩, stp⟩ := X.specialBack B.1 (y := y) hyn B.2.2.2.1 (mvT B.2.1 w1) (mvT B.2.1 w2) (mvT B.2.1 w4) hy bk (g := mkF m pc Ls st) rfl (by rw [B.2.2.1]; exact hsz) (Steps.refl _) (a := a) (argsL := argsL) (rest := rest) (lenOf hpd hln) hst (by show 2 * 0 + _ ≤ _; omega) (hb B.2.2.2.2.2.2.2 d) (fun _ _ => ⟨rfl, eT, hkR, hnR⟩)
  dsimp only [Pt.U, Pt.locs, Pt.cells, Pt.slots] at X' l1 y1 z1 stp hQ
  subst l1 y1 z1
  exact own_by (fun _ k => stp.trans k) (G T' v _ ⟨_, X', rfl, N0.app hQ.1⟩ hQ.2)
theorem own_callV (B : own_B p s m meth c Z own nm bytes maxL ret) (X : own_S p l e R s m args below meth c n0 T h cells slots) {i : Nat} {a : Addr} {y : MethodName} {yb : ByteArray} {yl : Nat} {yr : Option FieldType} {C : String} (w1 : (Cond.methodLink own i y).before a0 Z = true) (w2 : (Cond.declares y).before a0 Z = true) (w5 : (Cond.selects C y y).before a0 Z = true) (w6 : (Cond.instanceMethod y).before a0 Z = true) (w3 : (Cond.initialized y.cls).before a0 Z = true) (w4 : (Cond.code y yb yl yr).before a0 Z = true) (E : Exa Z h a C) (hy : y.cls ≠ "java/lang/invoke/MethodHandle" ∧ y.cls ≠ "java/lang/invoke/VarHandle") {rm : Room} {Q : Option Value → Heap → Prop} (argsL rest : List Value)
    (hM : MetFree l y (head1 [Jvm.Cond.code y yb yl yr] rm) (fun b U => b = (Value.ref a :: argsL).toArray ∧ Z.Warmed39 U.vm ∧ U.heap = h) (fun _ _ _ _ _ => True) (fun _ U o U' => ∃ v L, o = .returned v ∧ (Fr n0 L ∧ Q v U'.heap) ∧ FrameEnd U o U' L rm.cells rm.slots))
    (W : Nat) (hf : rm.frames + 1 ≤ R.frames) (hl : W + (yl + 11) + rm.locals ≤ R.locals) (hsz : Ls.size = maxL) {ps : List FieldType} {rt : Option FieldType} (hpd : parseMethodDescriptor y.desc = some ⟨ps, rt⟩) (hln : argsL.length = ps.length) (hst : st = argsL.reverse ++ .ref a :: rest) (hW : (rest.map fun v => v.category).sum ≤ W) (d : decode bytes pc = .ok (.invokevirtual i, 3)) (hp : pc + 3 = pc') {k' n' : Nat} (hk : cells + rm.cells = k') (hn : slots + rm.slots = n') (hkR : k' ≤ R.cells) (hnR : n' ≤ R.slots)
    (G : ∀ T' v h', own_S p l e R s m args below meth c n0 T' h' k' n' → Q v h' → own_Go p e below (T'.setTop (mkF m pc' Ls (v.toList ++ rest))) P) : own_Go p e below (T.setTop (mkF m pc Ls st)) P := by
  obtain ⟨locs, X, eT, N0⟩ := X
  subst hp hk hn
  have bk := backOf (p := p) (e := e) (below := below) (args := args) (len := 3) (W := W) (Q := fun v h' L => Fr n0 L ∧ Q v h') hM B.2.1 w4 w3 hf hl
  obtain ⟨cq, kq, qa, qb, qc⟩ := isOf B.2.1 eT E
  obtain ⟨v, vm₁, ⟨T', L', k1, n1⟩, hW1, X', ⟨Lc, hQ, l1, y1, z1⟩, stp⟩ := X.virtualBack B.1 (y := y) (z := y) B.2.2.2.1 (mvT B.2.1 w1) (mvT B.2.1 w2) (notFace_of_selects (args := #[]) (mvT B.2.1 w5)) (mvT B.2.1 w5) (mvT B.2.1 w6) hy bk qa qc (g := mkF m pc Ls st) rfl (by rw [B.2.2.1]; exact hsz) (Steps.refl _) (argsL := argsL) (rest := rest) (lenOf hpd hln) hst (by show 2 * 0 + _ ≤ _; omega) (hb B.2.2.2.2.2.2.2 d) (fun _ _ => ⟨rfl, eT, hkR, hnR⟩)
  dsimp only [Pt.U, Pt.locs, Pt.cells, Pt.slots] at X' l1 y1 z1 stp hQ
  subst l1 y1 z1
  exact own_by (fun _ k => stp.trans k) (G T' v _ ⟨_, X', rfl, N0.app hQ.1⟩ hQ.2)
theorem own_callP (B : own_B p s m meth c Z own nm bytes maxL ret) (X : own_S p l e R s m args below meth c n0 T h cells slots) {i : Nat} {a : Addr} {y : MethodName} {yb : ByteArray} {yl : Nat} {yr : Option FieldType} {n : Nat} (w1 : (Cond.methodLink own i y).before a0 Z = true) (w2 : (Cond.instanceMethod y).before a0 Z = true) (w5 : (Cond.privateMethod y).before a0 Z = true) (w6 : (Cond.instantiable y.cls n).before a0 Z = true) (w3 : (Cond.initialized y.cls).before a0 Z = true) (w4 : (Cond.code y yb yl yr).before a0 Z = true) (E : Exa Z h a y.cls) (hy : y.cls ≠ "java/lang/invoke/MethodHandle" ∧ y.cls ≠ "java/lang/invoke/VarHandle") {rm : Room} {Q : Option Value → Heap → Prop} (argsL rest : List Value)
    (hM : MetFree l y (head1 [Jvm.Cond.code y yb yl yr] rm) (fun b U => b = (Value.ref a :: argsL).toArray ∧ Z.Warmed39 U.vm ∧ U.heap = h) (fun _ _ _ _ _ => True) (fun _ U o U' => ∃ v L, o = .returned v ∧ (Fr n0 L ∧ Q v U'.heap) ∧ FrameEnd U o U' L rm.cells rm.slots))
    (W : Nat) (hf : rm.frames + 1 ≤ R.frames) (hl : W + (yl + 11) + rm.locals ≤ R.locals) (hsz : Ls.size = maxL) {ps : List FieldType} {rt : Option FieldType} (hpd : parseMethodDescriptor y.desc = some ⟨ps, rt⟩) (hln : argsL.length = ps.length) (hst : st = argsL.reverse ++ .ref a :: rest) (hW : (rest.map fun v => v.category).sum ≤ W) (d : decode bytes pc = .ok (.invokevirtual i, 3)) (hp : pc + 3 = pc') {k' n' : Nat} (hk : cells + rm.cells = k') (hn : slots + rm.slots = n') (hkR : k' ≤ R.cells) (hnR : n' ≤ R.slots)
    (G : ∀ T' v h', own_S p l e R s m args below meth c n0 T' h' k' n' → Q v h' → own_Go p e below (T'.setTop (mkF m pc' Ls (v.toList ++ rest))) P) : own_Go p e below (T.setTop (mkF m pc Ls st)) P := by
  obtain ⟨locs, X, eT, N0⟩ := X
  subst hp hk hn
  have bk := backOf (p := p) (e := e) (below := below) (args := args) (len := 3) (W := W) (Q := fun v h' L => Fr n0 L ∧ Q v h') hM B.2.1 w4 w3 hf hl
  obtain ⟨cq, q1, q2⟩ := E.cell
  have hpr := Cond.privateMethod_at (mvP B.2.1 w5 (args := #[]))
  have wi : (Cond.instantiable y.cls n).before #[] s = true := mvT B.2.1 w6
  obtain ⟨ci, ki, i1, i2, i3, i4, -⟩ := Cond.instantiable_spec wi
  have hsel : (Cond.selects y.cls y y).before args s = true := selects_self_of_private i1 i2 (by cases hh : ki.isInterface <;> simp [hh] at i4 ⊢) hpr (mvT B.2.1 w2) hy
  obtain ⟨v, vm₁, ⟨T', L', k1, n1⟩, hW1, X', ⟨Lc, hQ, l1, y1, z1⟩, stp⟩ := X.privateBack B.1 (y := y) B.2.2.2.1 (mvT B.2.1 w1) (mvT B.2.1 w2) hsel hpr (mvT B.2.1 w4) hy bk (g := mkF m pc Ls st) rfl (by rw [B.2.2.1]; exact hsz) (Steps.refl _) (a := a) (by rw [eT]; exact q1) q2 (argsL := argsL) (rest := rest) (lenOf hpd hln) hst (by show 2 * 0 + _ ≤ _; omega) (hb B.2.2.2.2.2.2.2 d) (fun _ _ => ⟨rfl, eT, hkR, hnR⟩)
  dsimp only [Pt.U, Pt.locs, Pt.cells, Pt.slots] at X' l1 y1 z1 stp hQ
  subst l1 y1 z1
  exact own_by (fun _ k => stp.trans k) (G T' v _ ⟨_, X', rfl, N0.app hQ.1⟩ hQ.2)
theorem own_sz {h1 : Heap} {ws : List Addr} {b : Addr} (K : Keep h0 h1 ws) (g : b = h1.size) : h0.size ≤ b := g ▸ K.1
theorem own_ne {h1 : Heap} {x b : Addr} (q : x < h1.size) (g : b = h1.size) : x ≠ b := fun u => by rw [u, g] at q; exact Nat.lt_irrefl _ q
theorem own_ne' {h1 : Heap} {x b : Addr} (q : x < h1.size) (g : h1.size ≤ b) : x ≠ b := Nat.ne_of_lt (Nat.lt_of_lt_of_le q g)
end OwnKit
section OwnNum
theorem own_ush0 (x : Int32) : (x.toUInt32 >>> ((0 : Int32) &&& 31).toUInt32).toInt32 = x := by
  have e : ((0 : Int32) &&& 31).toUInt32 = 0 := by decide
  rw [e]; simp
theorem own_idem_i2b {x y : Int32} (h : x.toInt8.toInt32 = y) : y.toInt8.toInt32 = y := by subst h; simp
theorem own_w {a0 : Array Value} {Z : State} (hw : ∀ d ∈ tables_1, d.before a0 Z = true) (i : Nat) {d : Jvm.Cond} (hd : tables_1[i]? = some d) : d.before a0 Z = true := hw _ (List.mem_of_getElem? hd)
theorem own_eqI {x y : Int32} (h : x.toInt = y.toInt) : x = y := Int32.toInt_inj.mp h
theorem own_o_mask {x m z : Int32} (h : x &&& m = z) (k : Nat) (hk : k ≤ 31) (hm : m.toBitVec.toNat = 2 ^ k - 1) : z.toInt = x.toInt % (2 ^ k : Nat) := h ▸ c_mask x m k hk hm
theorem own_o_irem {x y z : Int32} (h : x % y = z) (d : Int) (hy : y.toInt = d) : (0 ≤ x.toInt → z.toInt = x.toInt % d) ∧ (x.toInt < 0 → z.toInt = -((-x.toInt) % d)) := h ▸ c_irem x y d hy
theorem own_o_iushr {x q z : Int32} (h : (x.toUInt32 >>> (q &&& 31).toUInt32).toInt32 = z) (k : Nat) (hk : q.toBitVec.toNat % 32 = k) (h0 : 0 < k) : z.toInt = (x.toInt % 4294967296) / (2 ^ k : Nat) := h ▸ c_iushr x q k hk h0
theorem own_o_i2b {x z : Int32} (h : x.toInt8.toInt32 = z) : (z.toInt - x.toInt) % 256 = 0 ∧ -128 ≤ z.toInt ∧ z.toInt < 128 := h ▸ c_i2b x
end OwnNum

theorem d1_0 : decode prog_64_method_1_code 0 = .ok (.aload_n 0, 1) := by decide +kernel
theorem d1_1 : decode prog_64_method_1_code 1 = .ok (.invokespecial 1, 3) := by decide +kernel
theorem d1_4 : decode prog_64_method_1_code 4 = .ok (.aload_n 0, 1) := by decide +kernel
theorem d1_5 : decode prog_64_method_1_code 5 = .ok (.bipush 64, 2) := by decide +kernel
theorem d1_7 : decode prog_64_method_1_code 7 = .ok (.newarray .byte, 2) := by decide +kernel
theorem d1_9 : decode prog_64_method_1_code 9 = .ok (.putfield 7, 3) := by decide +kernel
theorem d1_12 : decode prog_64_method_1_code 12 = .ok (.return_, 1) := by decide +kernel
theorem pn_0 : plainName "demitasse/interp/Bytes" = true := by first | (simp [plainName, overriddenIn]; done) | decide +kernel
theorem pd_0 : parseMethodDescriptor "()V" = some ⟨[], none⟩ := by decide +kernel
theorem d3_0 : decode prog_64_method_5_code 0 = .ok (.aload_n 0, 1) := by decide +kernel
theorem d3_1 : decode prog_64_method_5_code 1 = .ok (.iload_n 1, 1) := by decide +kernel
theorem d3_2 : decode prog_64_method_5_code 2 = .ok (.bipush 16, 2) := by decide +kernel
theorem d3_4 : decode prog_64_method_5_code 4 = .ok (.iushr, 1) := by decide +kernel
theorem d3_5 : decode prog_64_method_5_code 5 = .ok (.invokevirtual 24, 3) := by decide +kernel
theorem d4_0 : decode prog_64_method_4_code 0 = .ok (.aload_n 0, 1) := by decide +kernel
theorem d4_1 : decode prog_64_method_4_code 1 = .ok (.iload_n 1, 1) := by decide +kernel
theorem d4_2 : decode prog_64_method_4_code 2 = .ok (.bipush 8, 2) := by decide +kernel
theorem d4_4 : decode prog_64_method_4_code 4 = .ok (.iushr, 1) := by decide +kernel
theorem d4_5 : decode prog_64_method_4_code 5 = .ok (.invokevirtual 21, 3) := by decide +kernel
theorem d5_0 : decode prog_64_method_3_code 0 = .ok (.aload_n 0, 1) := by decide +kernel
theorem d5_1 : decode prog_64_method_3_code 1 = .ok (.iconst 1, 1) := by decide +kernel
theorem d5_2 : decode prog_64_method_3_code 2 = .ok (.invokevirtual 17, 3) := by decide +kernel
theorem d6_0 : decode prog_64_method_10_code 0 = .ok (.aload_n 0, 1) := by decide +kernel
theorem d6_1 : decode prog_64_method_10_code 1 = .ok (.getfield 13, 3) := by decide +kernel
theorem d6_4 : decode prog_64_method_10_code 4 = .ok (.iload_n 1, 1) := by decide +kernel
theorem d6_5 : decode prog_64_method_10_code 5 = .ok (.iadd, 1) := by decide +kernel
theorem d6_6 : decode prog_64_method_10_code 6 = .ok (.aload_n 0, 1) := by decide +kernel
theorem d6_7 : decode prog_64_method_10_code 7 = .ok (.getfield 7, 3) := by decide +kernel
theorem d6_10 : decode prog_64_method_10_code 10 = .ok (.arraylength, 1) := by decide +kernel
theorem d6_11 : decode prog_64_method_10_code 11 = .ok (.if_icmp .le 30, 3) := by decide +kernel
theorem d6_41 : decode prog_64_method_10_code 41 = .ok (.return_, 1) := by decide +kernel
theorem pd_1 : parseMethodDescriptor "(I)V" = some ⟨[.int], none⟩ := by decide +kernel
theorem d5_5 : decode prog_64_method_3_code 5 = .ok (.aload_n 0, 1) := by decide +kernel
theorem d5_6 : decode prog_64_method_3_code 6 = .ok (.getfield 7, 3) := by decide +kernel
theorem d5_9 : decode prog_64_method_3_code 9 = .ok (.aload_n 0, 1) := by decide +kernel
theorem d5_10 : decode prog_64_method_3_code 10 = .ok (.dup, 1) := by decide +kernel
theorem d5_11 : decode prog_64_method_3_code 11 = .ok (.getfield 13, 3) := by decide +kernel
theorem d5_14 : decode prog_64_method_3_code 14 = .ok (.dup_x1, 1) := by decide +kernel
theorem d5_15 : decode prog_64_method_3_code 15 = .ok (.iconst 1, 1) := by decide +kernel
theorem d5_16 : decode prog_64_method_3_code 16 = .ok (.iadd, 1) := by decide +kernel
theorem d5_17 : decode prog_64_method_3_code 17 = .ok (.putfield 13, 3) := by decide +kernel
theorem d5_20 : decode prog_64_method_3_code 20 = .ok (.iload_n 1, 1) := by decide +kernel
theorem d5_21 : decode prog_64_method_3_code 21 = .ok (.i2b, 1) := by decide +kernel
theorem d5_22 : decode prog_64_method_3_code 22 = .ok (.bastore, 1) := by decide +kernel
theorem d5_23 : decode prog_64_method_3_code 23 = .ok (.return_, 1) := by decide +kernel
theorem d4_8 : decode prog_64_method_4_code 8 = .ok (.aload_n 0, 1) := by decide +kernel
theorem d4_9 : decode prog_64_method_4_code 9 = .ok (.iload_n 1, 1) := by decide +kernel
theorem d4_10 : decode prog_64_method_4_code 10 = .ok (.invokevirtual 21, 3) := by decide +kernel
theorem d4_13 : decode prog_64_method_4_code 13 = .ok (.return_, 1) := by decide +kernel
theorem d3_8 : decode prog_64_method_5_code 8 = .ok (.aload_n 0, 1) := by decide +kernel
theorem d3_9 : decode prog_64_method_5_code 9 = .ok (.iload_n 1, 1) := by decide +kernel
theorem d3_10 : decode prog_64_method_5_code 10 = .ok (.invokevirtual 24, 3) := by decide +kernel
theorem d3_13 : decode prog_64_method_5_code 13 = .ok (.return_, 1) := by decide +kernel
theorem d7_0 : decode prog_64_method_7_code 0 = .ok (.aload_n 0, 1) := by decide +kernel
theorem d7_1 : decode prog_64_method_7_code 1 = .ok (.iload_n 1, 1) := by decide +kernel
theorem d7_2 : decode prog_64_method_7_code 2 = .ok (.iload_n 2, 1) := by decide +kernel
theorem d7_3 : decode prog_64_method_7_code 3 = .ok (.bipush 16, 2) := by decide +kernel
theorem d7_5 : decode prog_64_method_7_code 5 = .ok (.iushr, 1) := by decide +kernel
theorem d7_6 : decode prog_64_method_7_code 6 = .ok (.invokevirtual 27, 3) := by decide +kernel
theorem d8_0 : decode prog_64_method_6_code 0 = .ok (.aload_n 0, 1) := by decide +kernel
theorem d8_1 : decode prog_64_method_6_code 1 = .ok (.getfield 7, 3) := by decide +kernel
theorem d8_4 : decode prog_64_method_6_code 4 = .ok (.iload_n 1, 1) := by decide +kernel
theorem d8_5 : decode prog_64_method_6_code 5 = .ok (.iload_n 2, 1) := by decide +kernel
theorem d8_6 : decode prog_64_method_6_code 6 = .ok (.bipush 8, 2) := by decide +kernel
theorem d8_8 : decode prog_64_method_6_code 8 = .ok (.iushr, 1) := by decide +kernel
theorem d8_9 : decode prog_64_method_6_code 9 = .ok (.i2b, 1) := by decide +kernel
theorem d8_10 : decode prog_64_method_6_code 10 = .ok (.bastore, 1) := by decide +kernel
theorem d8_11 : decode prog_64_method_6_code 11 = .ok (.aload_n 0, 1) := by decide +kernel
theorem d8_12 : decode prog_64_method_6_code 12 = .ok (.getfield 7, 3) := by decide +kernel
theorem d8_15 : decode prog_64_method_6_code 15 = .ok (.iload_n 1, 1) := by decide +kernel
theorem d8_16 : decode prog_64_method_6_code 16 = .ok (.iconst 1, 1) := by decide +kernel
theorem d8_17 : decode prog_64_method_6_code 17 = .ok (.iadd, 1) := by decide +kernel
theorem d8_18 : decode prog_64_method_6_code 18 = .ok (.iload_n 2, 1) := by decide +kernel
theorem d8_19 : decode prog_64_method_6_code 19 = .ok (.i2b, 1) := by decide +kernel
theorem d8_20 : decode prog_64_method_6_code 20 = .ok (.bastore, 1) := by decide +kernel
theorem d8_21 : decode prog_64_method_6_code 21 = .ok (.return_, 1) := by decide +kernel
theorem pd_2 : parseMethodDescriptor "(II)V" = some ⟨[.int, .int], none⟩ := by decide +kernel
theorem d7_9 : decode prog_64_method_7_code 9 = .ok (.aload_n 0, 1) := by decide +kernel
theorem d7_10 : decode prog_64_method_7_code 10 = .ok (.iload_n 1, 1) := by decide +kernel
theorem d7_11 : decode prog_64_method_7_code 11 = .ok (.iconst 2, 1) := by decide +kernel
theorem d7_12 : decode prog_64_method_7_code 12 = .ok (.iadd, 1) := by decide +kernel
theorem d7_13 : decode prog_64_method_7_code 13 = .ok (.iload_n 2, 1) := by decide +kernel
theorem d7_14 : decode prog_64_method_7_code 14 = .ok (.invokevirtual 27, 3) := by decide +kernel
theorem d7_17 : decode prog_64_method_7_code 17 = .ok (.return_, 1) := by decide +kernel
theorem d9_0 : decode prog_64_method_11_code 0 = .ok (.aload_n 0, 1) := by decide +kernel
theorem d9_1 : decode prog_64_method_11_code 1 = .ok (.getfield 7, 3) := by decide +kernel
theorem d9_4 : decode prog_64_method_11_code 4 = .ok (.aload_n 0, 1) := by decide +kernel
theorem d9_5 : decode prog_64_method_11_code 5 = .ok (.getfield 13, 3) := by decide +kernel
theorem d9_8 : decode prog_64_method_11_code 8 = .ok (.invokestatic 43, 3) := by decide +kernel
theorem d10_0 : decode jdk_65_method_121_code 0 = .ok (.iload_n 1, 1) := by decide +kernel
theorem d10_1 : decode jdk_65_method_121_code 1 = .ok (.aload_n 0, 1) := by decide +kernel
theorem d10_2 : decode jdk_65_method_121_code 2 = .ok (.arraylength, 1) := by decide +kernel
theorem d10_3 : decode jdk_65_method_121_code 3 = .ok (.if_icmp .ne 11, 3) := by decide +kernel
theorem d10_14 : decode jdk_65_method_121_code 14 = .ok (.iload_n 1, 1) := by decide +kernel
theorem d10_15 : decode jdk_65_method_121_code 15 = .ok (.newarray .byte, 2) := by decide +kernel
theorem d10_17 : decode jdk_65_method_121_code 17 = .ok (.astore_n 2, 1) := by decide +kernel
theorem d10_18 : decode jdk_65_method_121_code 18 = .ok (.aload_n 0, 1) := by decide +kernel
theorem d10_19 : decode jdk_65_method_121_code 19 = .ok (.iconst 0, 1) := by decide +kernel
theorem d10_20 : decode jdk_65_method_121_code 20 = .ok (.aload_n 2, 1) := by decide +kernel
theorem d10_21 : decode jdk_65_method_121_code 21 = .ok (.iconst 0, 1) := by decide +kernel
theorem d10_22 : decode jdk_65_method_121_code 22 = .ok (.aload_n 0, 1) := by decide +kernel
theorem d10_23 : decode jdk_65_method_121_code 23 = .ok (.arraylength, 1) := by decide +kernel
theorem d10_24 : decode jdk_65_method_121_code 24 = .ok (.iload_n 1, 1) := by decide +kernel
theorem d10_25 : decode jdk_65_method_121_code 25 = .ok (.invokestatic 304, 3) := by decide +kernel
theorem d11_0 : decode jdk_29_method_69_code 0 = .ok (.iload_n 0, 1) := by decide +kernel
theorem d11_1 : decode jdk_29_method_69_code 1 = .ok (.iload_n 1, 1) := by decide +kernel
theorem d11_2 : decode jdk_29_method_69_code 2 = .ok (.if_icmp .gt 7, 3) := by decide +kernel
theorem d11_9 : decode jdk_29_method_69_code 9 = .ok (.iload_n 1, 1) := by decide +kernel
theorem d11_10 : decode jdk_29_method_69_code 10 = .ok (.ireturn, 1) := by decide +kernel
theorem pd_3 : parseMethodDescriptor "(II)I" = some ⟨[.int, .int], some .int⟩ := by decide +kernel
theorem d10_28 : decode jdk_65_method_121_code 28 = .ok (.invokestatic 150, 3) := by decide +kernel
theorem d10_31 : decode jdk_65_method_121_code 31 = .ok (.aload_n 2, 1) := by decide +kernel
theorem d10_32 : decode jdk_65_method_121_code 32 = .ok (.areturn, 1) := by decide +kernel
theorem pn_1 : plainName "java/util/Arrays" = true := by first | (simp [plainName, overriddenIn]; done) | decide +kernel
theorem pd_4 : parseMethodDescriptor "([BI)[B" = some ⟨[(.array .byte), .int], some (.array .byte)⟩ := by decide +kernel
theorem d9_11 : decode prog_64_method_11_code 11 = .ok (.areturn, 1) := by decide +kernel
theorem pd_5 : parseMethodDescriptor "()[B" = some ⟨[], some (.array .byte)⟩ := by decide +kernel
theorem d12_0 : decode prog_64_method_2_code 0 = .ok (.aload_n 0, 1) := by decide +kernel
theorem d12_1 : decode prog_64_method_2_code 1 = .ok (.getfield 13, 3) := by decide +kernel
theorem d12_4 : decode prog_64_method_2_code 4 = .ok (.ireturn, 1) := by decide +kernel
theorem pd_6 : parseMethodDescriptor "()I" = some ⟨[], some .int⟩ := by decide +kernel
theorem d13_0 : decode method_3_code 0 = .ok (.iload_n 1, 1) := by decide +kernel
theorem d13_1 : decode method_3_code 1 = .ok (.iload 4, 2) := by decide +kernel
theorem d13_3 : decode method_3_code 3 = .ok (.if_icmp .lt 29, 3) := by decide +kernel
theorem d13_6 : decode method_3_code 6 = .ok (.iload_n 1, 1) := by decide +kernel
theorem d13_7 : decode method_3_code 7 = .ok (.iload 4, 2) := by decide +kernel
theorem d13_9 : decode method_3_code 9 = .ok (.iconst 4, 1) := by decide +kernel
theorem d13_10 : decode method_3_code 10 = .ok (.iadd, 1) := by decide +kernel
theorem d13_11 : decode method_3_code 11 = .ok (.if_icmp .ge 21, 3) := by decide +kernel
theorem d13_14 : decode method_3_code 14 = .ok (.iload 5, 2) := by decide +kernel
theorem d13_16 : decode method_3_code 16 = .ok (.bipush 24, 2) := by decide +kernel
theorem d13_18 : decode method_3_code 18 = .ok (.bipush 8, 2) := by decide +kernel
theorem d13_20 : decode method_3_code 20 = .ok (.iload_n 1, 1) := by decide +kernel
theorem d13_21 : decode method_3_code 21 = .ok (.iload 4, 2) := by decide +kernel
theorem d13_23 : decode method_3_code 23 = .ok (.isub, 1) := by decide +kernel
theorem d13_24 : decode method_3_code 24 = .ok (.imul, 1) := by decide +kernel
theorem d13_25 : decode method_3_code 25 = .ok (.isub, 1) := by decide +kernel
theorem d13_26 : decode method_3_code 26 = .ok (.iushr, 1) := by decide +kernel
theorem d13_27 : decode method_3_code 27 = .ok (.istore 6, 2) := by decide +kernel
theorem d13_29 : decode method_3_code 29 = .ok (.goto 35, 3) := by decide +kernel
theorem d13_64 : decode method_3_code 64 = .ok (.aload_n 0, 1) := by decide +kernel
theorem d13_65 : decode method_3_code 65 = .ok (.iload_n 1, 1) := by decide +kernel
theorem d13_66 : decode method_3_code 66 = .ok (.baload, 1) := by decide +kernel
theorem d13_67 : decode method_3_code 67 = .ok (.iload 6, 2) := by decide +kernel
theorem d13_69 : decode method_3_code 69 = .ok (.i2b, 1) := by decide +kernel
theorem d13_70 : decode method_3_code 70 = .ok (.if_icmp .ne 7, 3) := by decide +kernel
theorem d13_73 : decode method_3_code 73 = .ok (.iconst 1, 1) := by decide +kernel
theorem d13_74 : decode method_3_code 74 = .ok (.goto 4, 3) := by decide +kernel
theorem d13_78 : decode method_3_code 78 = .ok (.ireturn, 1) := by decide +kernel
theorem pn_2 : plainName "demitasse/interp/BytesU4AtPinLaw" = true := by first | (simp [plainName, overriddenIn]; done) | decide +kernel
theorem pd_7 : parseMethodDescriptor "([BIIIII)Z" = some ⟨[(.array .byte), .int, .int, .int, .int, .int], some .boolean⟩ := by decide +kernel
theorem d13_32 : decode method_3_code 32 = .ok (.iload_n 1, 1) := by decide +kernel
theorem d13_33 : decode method_3_code 33 = .ok (.iconst 4, 1) := by decide +kernel
theorem d13_34 : decode method_3_code 34 = .ok (.if_icmp .ge 17, 3) := by decide +kernel
theorem d13_51 : decode method_3_code 51 = .ok (.iload_n 3, 1) := by decide +kernel
theorem d13_52 : decode method_3_code 52 = .ok (.bipush 24, 2) := by decide +kernel
theorem d13_54 : decode method_3_code 54 = .ok (.bipush 8, 2) := by decide +kernel
theorem d13_56 : decode method_3_code 56 = .ok (.iload_n 1, 1) := by decide +kernel
theorem d13_57 : decode method_3_code 57 = .ok (.iconst 4, 1) := by decide +kernel
theorem d13_58 : decode method_3_code 58 = .ok (.isub, 1) := by decide +kernel
theorem d13_59 : decode method_3_code 59 = .ok (.imul, 1) := by decide +kernel
theorem d13_60 : decode method_3_code 60 = .ok (.isub, 1) := by decide +kernel
theorem d13_61 : decode method_3_code 61 = .ok (.iushr, 1) := by decide +kernel
theorem d13_62 : decode method_3_code 62 = .ok (.istore 6, 2) := by decide +kernel
theorem d13_37 : decode method_3_code 37 = .ok (.iload_n 2, 1) := by decide +kernel
theorem d13_38 : decode method_3_code 38 = .ok (.bipush 24, 2) := by decide +kernel
theorem d13_40 : decode method_3_code 40 = .ok (.bipush 8, 2) := by decide +kernel
theorem d13_42 : decode method_3_code 42 = .ok (.iload_n 1, 1) := by decide +kernel
theorem d13_43 : decode method_3_code 43 = .ok (.imul, 1) := by decide +kernel
theorem d13_44 : decode method_3_code 44 = .ok (.isub, 1) := by decide +kernel
theorem d13_45 : decode method_3_code 45 = .ok (.iushr, 1) := by decide +kernel
theorem d13_46 : decode method_3_code 46 = .ok (.istore 6, 2) := by decide +kernel
theorem d13_48 : decode method_3_code 48 = .ok (.goto 16, 3) := by decide +kernel
def Q_1 (Z : State) (w0 : Addr) (h0 : Heap) (n0 : Nat) (v : Option Value) (h : Heap) : Prop :=
  (∃ (b2 : Addr) (kb2 : ClassId), v = none ∧ Keep h0 h [w0] ∧ h0.size ≤ b2 ∧ Exa Z h w0 "demitasse/interp/Bytes" ∧ Fld Z h w0 "demitasse/interp/Bytes" "bytes" "[B" (.ref b2) ∧ Fld Z h w0 "demitasse/interp/Bytes" "length" "I" (.int (0 : Int32)) ∧ Exa Z h b2 "[B" ∧ Arv Z h b2 kb2 .byte (64 : Int32) [] (.int (0 : Int32)))
set_option maxRecDepth 65536 in
set_option maxHeartbeats 40000000 in
theorem rm_1 (l : Launch) (Z : State) (a0 : Array Value) (hw : ∀ d ∈ tables_1, d.before a0 Z = true) (ws : List Jvm.Cond) (w0 : Addr) (h0 : Heap) (n0 : Nat) (Z0 : n0 ≤ h0.size) (E_w0 : Exa Z h0 w0 "demitasse/interp/Bytes") (F_w0_bytes : Fld Z h0 w0 "demitasse/interp/Bytes" "bytes" "[B" .null) (F_w0_length : Fld Z h0 w0 "demitasse/interp/Bytes" "length" "I" (.int (0 : Int32))) (g_w0 : n0 ≤ w0) :
    MetFree l (⟨"demitasse/interp/Bytes", "<init>", "()V"⟩ : MethodName) (head1 (Jvm.Cond.code (⟨"demitasse/interp/Bytes", "<init>", "()V"⟩ : MethodName) prog_64_method_1_code 1 none :: ws) ({ frames := 1, cells := 1, slots := 64, locals := 12 } : Room)) (fun a U => a = #[(.ref w0)] ∧ Z.Warmed39 U.vm ∧ U.heap = h0) (fun _ _ _ _ _ => True) (fun _ U o U' => ∃ v L, o = .returned v ∧ (Fr n0 L ∧ Q_1 Z w0 h0 n0 v U'.heap) ∧ FrameEnd U o U' L ({ frames := 1, cells := 1, slots := 64, locals := 12 } : Room).cells ({ frames := 1, cells := 1, slots := 64, locals := 12 } : Room).slots) := by
  refine own_enter (Q := Q_1 Z w0 h0 n0) (F := fun m => mkF m 0 #[.val (.ref w0)] []) (plainFor_of_name pn_0) (fun m => by first | (simp [entryFrame, mkF, argsToLocals, Value.category]; done) | rfl) ?_
  intro p e s m below meth c s₁ B X0
  have K : Keep h0 h0 [w0] := Keep.refl h0 _
  refine own_aloadN (pc' := 1) B X0 d1_0 rfl rfl rfl ?_
  refine own_objinit (pc' := 4) B X0 (own_w hw 7 rfl) (own_w hw 8 rfl) (own_w hw 9 rfl) d1_1 rfl rfl (by decide) 0 (Nat.le_of_eq rfl) (by decide) ?_
  intro T1 X1
  refine own_aloadN (pc' := 5) B X1 d1_4 rfl rfl rfl ?_
  refine own_bipush (pc' := 7) B X1 (z := (64 : Int32)) d1_5 rfl (by decide) ?_
  refine own_newarray (pc' := 9) B X1 (own_w hw 10 rfl) d1_7 rfl rfl (by decide) 64 (by decide) (by decide) (k' := 1) (n' := 64) rfl rfl (by decide) (by decide) "[B" (by decide) (.int (0 : Int32)) rfl ?_
  intro T2 h2 b2 kb2 X2 g2 E2 V_b2 E_b2
  have ne_w0_b2 : w0 ≠ b2 := own_ne E_w0.lt g2
  have sz_b2 : h0.size ≤ b2 := own_sz K g2
  have g_b2 : n0 ≤ b2 := Nat.le_trans Z0 sz_b2
  replace K := K.ext E2
  replace E_w0 := E_w0.ext E2
  replace F_w0_bytes := F_w0_bytes.ext E2
  replace F_w0_length := F_w0_length.ext E2
  refine own_putfield (pc' := 12) B X2 (host := "") (Or.inl (own_w hw 11 rfl)) Via.refl F_w0_bytes E_w0 g_w0 (Or.inl (own_w hw 12 rfl)) (own_w hw 2 rfl) (ty := (.array .byte)) (by decide) rfl rfl d1_9 rfl ?_
  intro T3 h3 X3 W3 F_w0_bytes
  replace E_w0 := E_w0.wr W3
  replace F_w0_length := F_w0_length.other W3 (Or.inr (slot_ne (Or.inl (own_w hw 33 rfl)) (Or.inl (own_w hw 12 rfl)) (by decide) (t := .int) (t' := (.array .byte)) (by decide) (by decide)))
  replace E_b2 := E_b2.wr W3
  replace V_b2 := V_b2.other W3 (Ne.symm ne_w0_b2)
  replace K := K.wr W3 (Or.inl (List.mem_of_getElem? (i := 0) rfl))
  exact own_ret B X3 d1_12 (by decide) (by decide) (⟨b2, kb2, rfl, K, sz_b2, E_w0, F_w0_bytes, F_w0_length, E_b2, V_b2⟩)
def Q_5 (Z : State) (w0 : Addr) (w1 : Addr) (kw1 : ClassId) (h0 : Heap) (n0 : Nat) (v : Option Value) (h : Heap) : Prop :=
  (v = none ∧ h0 = h)
set_option maxRecDepth 65536 in
set_option maxHeartbeats 40000000 in
theorem rm_5 (l : Launch) (Z : State) (a0 : Array Value) (hw : ∀ d ∈ tables_1, d.before a0 Z = true) (ws : List Jvm.Cond) (w0 : Addr) (w1 : Addr) (kw1 : ClassId) (h0 : Heap) (n0 : Nat) (Z0 : n0 ≤ h0.size) (E_w0 : Exa Z h0 w0 "demitasse/interp/Bytes") (F_w0_bytes : Fld Z h0 w0 "demitasse/interp/Bytes" "bytes" "[B" (.ref w1)) (F_w0_length : Fld Z h0 w0 "demitasse/interp/Bytes" "length" "I" (.int (0 : Int32))) (g_w0 : n0 ≤ w0) (E_w1 : Exa Z h0 w1 "[B") (V_w1 : Arv Z h0 w1 kw1 .byte (64 : Int32) [] (.int (0 : Int32))) (g_w1 : n0 ≤ w1) (ne_w0_w1 : w0 ≠ w1) :
    MetFree l (⟨"demitasse/interp/Bytes", "makeRoom", "(I)V"⟩ : MethodName) (head1 (Jvm.Cond.code (⟨"demitasse/interp/Bytes", "makeRoom", "(I)V"⟩ : MethodName) prog_64_method_10_code 2 none :: ws) ({ frames := 0, cells := 0, slots := 0, locals := 0 } : Room)) (fun a U => a = #[(.ref w0), (.int (1 : Int32))] ∧ Z.Warmed39 U.vm ∧ U.heap = h0) (fun _ _ _ _ _ => True) (fun _ U o U' => ∃ v L, o = .returned v ∧ (Fr n0 L ∧ Q_5 Z w0 w1 kw1 h0 n0 v U'.heap) ∧ FrameEnd U o U' L ({ frames := 0, cells := 0, slots := 0, locals := 0 } : Room).cells ({ frames := 0, cells := 0, slots := 0, locals := 0 } : Room).slots) := by
  refine own_enter (Q := Q_5 Z w0 w1 kw1 h0 n0) (F := fun m => mkF m 0 #[.val (.ref w0), .val (.int (1 : Int32))] []) (plainFor_of_name pn_0) (fun m => by first | (simp [entryFrame, mkF, argsToLocals, Value.category]; done) | rfl) ?_
  intro p e s m below meth c s₁ B X0
  have K : Keep h0 h0 [] := Keep.refl h0 _
  refine own_aloadN (pc' := 1) B X0 d6_0 rfl rfl rfl ?_
  refine own_getfield (pc' := 4) B X0 (host := "") (Or.inl (own_w hw 32 rfl)) Via.refl F_w0_length d6_1 rfl ?_
  intro T1 X1
  refine own_iloadN (pc' := 5) B X1 d6_4 rfl rfl ?_
  refine own_iadd (pc' := 6) B X1 (z := (1 : Int32)) d6_5 rfl (by decide) ?_
  refine own_aloadN (pc' := 7) B X1 d6_6 rfl rfl rfl ?_
  refine own_getfield (pc' := 10) B X1 (host := "") (Or.inl (own_w hw 11 rfl)) Via.refl F_w0_bytes d6_7 rfl ?_
  intro T2 X2
  refine own_arraylength (pc' := 11) B X2 V_w1 d6_10 rfl ?_
  refine own_icmpYes (pc' := 41) B X2 d6_11 (flt (by decide : ¬ ((64 : Int32) < (1 : Int32)))).2.2.2 (by decide) rfl ?_
  exact own_ret B X2 d6_41 (by decide) (by decide) (⟨rfl, rfl⟩)
def Q_4 (Z : State) (w0 : Addr) (w1 : Addr) (kw1 : ClassId) (p3 : Int32) (h0 : Heap) (n0 : Nat) (v : Option Value) (h : Heap) : Prop :=
  (∃ (y5 : Int32), p3.toInt8.toInt32 = y5 ∧ v = none ∧ Keep h0 h [w0, w1] ∧ Exa Z h w0 "demitasse/interp/Bytes" ∧ Fld Z h w0 "demitasse/interp/Bytes" "bytes" "[B" (.ref w1) ∧ Fld Z h w0 "demitasse/interp/Bytes" "length" "I" (.int (1 : Int32)) ∧ Exa Z h w1 "[B" ∧ Arv Z h w1 kw1 .byte (64 : Int32) [(.int y5)] (.int (0 : Int32)))
set_option maxRecDepth 65536 in
set_option maxHeartbeats 40000000 in
theorem rm_4 (l : Launch) (Z : State) (a0 : Array Value) (hw : ∀ d ∈ tables_1, d.before a0 Z = true) (ws : List Jvm.Cond) (w0 : Addr) (w1 : Addr) (kw1 : ClassId) (p3 : Int32) (h0 : Heap) (n0 : Nat) (Z0 : n0 ≤ h0.size) (E_w0 : Exa Z h0 w0 "demitasse/interp/Bytes") (F_w0_bytes : Fld Z h0 w0 "demitasse/interp/Bytes" "bytes" "[B" (.ref w1)) (F_w0_length : Fld Z h0 w0 "demitasse/interp/Bytes" "length" "I" (.int (0 : Int32))) (g_w0 : n0 ≤ w0) (E_w1 : Exa Z h0 w1 "[B") (V_w1 : Arv Z h0 w1 kw1 .byte (64 : Int32) [] (.int (0 : Int32))) (g_w1 : n0 ≤ w1) (ne_w0_w1 : w0 ≠ w1) :
    MetFree l (⟨"demitasse/interp/Bytes", "u1", "(I)V"⟩ : MethodName) (head1 (Jvm.Cond.code (⟨"demitasse/interp/Bytes", "u1", "(I)V"⟩ : MethodName) prog_64_method_3_code 2 none :: ws) ({ frames := 1, cells := 0, slots := 0, locals := 13 } : Room)) (fun a U => a = #[(.ref w0), (.int p3)] ∧ Z.Warmed39 U.vm ∧ U.heap = h0) (fun _ _ _ _ _ => True) (fun _ U o U' => ∃ v L, o = .returned v ∧ (Fr n0 L ∧ Q_4 Z w0 w1 kw1 p3 h0 n0 v U'.heap) ∧ FrameEnd U o U' L ({ frames := 1, cells := 0, slots := 0, locals := 13 } : Room).cells ({ frames := 1, cells := 0, slots := 0, locals := 13 } : Room).slots) := by
  refine own_enter (Q := Q_4 Z w0 w1 kw1 p3 h0 n0) (F := fun m => mkF m 0 #[.val (.ref w0), .val (.int p3)] []) (plainFor_of_name pn_0) (fun m => by first | (simp [entryFrame, mkF, argsToLocals, Value.category]; done) | rfl) ?_
  intro p e s m below meth c s₁ B X0
  have K : Keep h0 h0 [w0, w1] := Keep.refl h0 _
  refine own_aloadN (pc' := 1) B X0 d5_0 rfl rfl rfl ?_
  refine own_iconst (pc' := 2) B X0 (z := (1 : Int32)) d5_1 rfl rfl ?_
  refine own_callP (pc' := 5) B X0 (own_w hw 28 rfl) (own_w hw 29 rfl) (own_w hw 30 rfl) (own_w hw 2 rfl) (own_w hw 3 rfl) (own_w hw 31 rfl) E_w0 (by decide) [(.int (1 : Int32))] [] (rm_5 l Z a0 hw [] w0 w1 kw1 h0 n0 (Nat.le_trans Z0 K.1) E_w0 F_w0_bytes F_w0_length g_w0 E_w1 V_w1 g_w1 ne_w0_w1) 0 (by decide) (by decide) rfl pd_1 rfl rfl (Nat.le_of_eq rfl) d5_2 rfl (k' := 0) (n' := 0) rfl rfl (by decide) (by decide) ?_
  intro T1 v1 h1 X1 q1
  obtain ⟨rfl, rfl⟩ := q1
  show own_Go p e below (T1.setTop (mkF m 5 #[.val (.ref w0), .val (.int p3)] [])) _
  refine own_aloadN (pc' := 6) B X1 d5_5 rfl rfl rfl ?_
  refine own_getfield (pc' := 9) B X1 (host := "") (Or.inl (own_w hw 11 rfl)) Via.refl F_w0_bytes d5_6 rfl ?_
  intro T2 X2
  refine own_aloadN (pc' := 10) B X2 d5_9 rfl rfl rfl ?_
  refine own_dup (pc' := 11) B X2 d5_10 rfl rfl ?_
  refine own_getfield (pc' := 14) B X2 (host := "") (Or.inl (own_w hw 32 rfl)) Via.refl F_w0_length d5_11 rfl ?_
  intro T3 X3
  refine own_dup_x1 (pc' := 15) B X3 d5_14 rfl rfl rfl ?_
  refine own_iconst (pc' := 16) B X3 (z := (1 : Int32)) d5_15 rfl rfl ?_
  refine own_iadd (pc' := 17) B X3 (z := (1 : Int32)) d5_16 rfl (by decide) ?_
  refine own_putfield (pc' := 20) B X3 (host := "") (Or.inl (own_w hw 32 rfl)) Via.refl F_w0_length E_w0 g_w0 (Or.inl (own_w hw 33 rfl)) (own_w hw 2 rfl) (ty := .int) (by decide) rfl rfl d5_17 rfl ?_
  intro T4 h4 X4 W4 F_w0_length
  replace E_w0 := E_w0.wr W4
  replace F_w0_bytes := F_w0_bytes.other W4 (Or.inr (slot_ne (Or.inl (own_w hw 12 rfl)) (Or.inl (own_w hw 33 rfl)) (by decide) (t := (.array .byte)) (t' := .int) (by decide) (by decide)))
  replace E_w1 := E_w1.wr W4
  replace V_w1 := V_w1.other W4 (Ne.symm ne_w0_w1)
  replace K := K.wr W4 (Or.inl (List.mem_of_getElem? (i := 0) rfl))
  refine own_iloadN (pc' := 21) B X4 d5_20 rfl rfl ?_
  obtain ⟨y5, hy5⟩ : ∃ z : Int32, p3.toInt8.toInt32 = z := ⟨_, rfl⟩
  refine own_i2b (pc' := 22) B X4 d5_21 rfl hy5 ?_
  replace V_w1 : Arv Z h4 w1 kw1 .byte (64 : Int32) [(.int (0 : Int32))] (.int (0 : Int32)) := V_w1.pad (pad_rep [] (.int (0 : Int32)) 1)
  refine own_bastore (pc' := 23) B X4 (x' := y5) V_w1 g_w1 ⟨by decide, by decide⟩ 0 (by decide) (Nat.le_of_ble_eq_true rfl) (own_idem_i2b hy5) d5_22 rfl ?_
  intro T6 h6 X6 W6 V_w1
  replace V_w1 : Arv Z h6 w1 kw1 .byte (64 : Int32) [(.int y5)] (.int (0 : Int32)) := V_w1
  replace E_w0 := E_w0.wr W6
  replace F_w0_bytes := F_w0_bytes.other W6 (Or.inl ne_w0_w1)
  replace F_w0_length := F_w0_length.other W6 (Or.inl ne_w0_w1)
  replace E_w1 := E_w1.wr W6
  replace K := K.wr W6 (Or.inl (List.mem_of_getElem? (i := 1) rfl))
  exact own_ret B X6 d5_23 (by decide) (by decide) (⟨y5, hy5, rfl, K, E_w0, F_w0_bytes, F_w0_length, E_w1, V_w1⟩)
def Q_7 (Z : State) (w0 : Addr) (w1 : Addr) (kw1 : ClassId) (p3 : Int32) (h0 : Heap) (n0 : Nat) (v : Option Value) (h : Heap) : Prop :=
  (v = none ∧ h0 = h)
set_option maxRecDepth 65536 in
set_option maxHeartbeats 40000000 in
theorem rm_7 (l : Launch) (Z : State) (a0 : Array Value) (hw : ∀ d ∈ tables_1, d.before a0 Z = true) (ws : List Jvm.Cond) (w0 : Addr) (w1 : Addr) (kw1 : ClassId) (p3 : Int32) (h0 : Heap) (n0 : Nat) (Z0 : n0 ≤ h0.size) (E_w0 : Exa Z h0 w0 "demitasse/interp/Bytes") (F_w0_bytes : Fld Z h0 w0 "demitasse/interp/Bytes" "bytes" "[B" (.ref w1)) (F_w0_length : Fld Z h0 w0 "demitasse/interp/Bytes" "length" "I" (.int (1 : Int32))) (g_w0 : n0 ≤ w0) (E_w1 : Exa Z h0 w1 "[B") (V_w1 : Arv Z h0 w1 kw1 .byte (64 : Int32) [(.int p3)] (.int (0 : Int32))) (g_w1 : n0 ≤ w1) (ne_w0_w1 : w0 ≠ w1) :
    MetFree l (⟨"demitasse/interp/Bytes", "makeRoom", "(I)V"⟩ : MethodName) (head1 (Jvm.Cond.code (⟨"demitasse/interp/Bytes", "makeRoom", "(I)V"⟩ : MethodName) prog_64_method_10_code 2 none :: ws) ({ frames := 0, cells := 0, slots := 0, locals := 0 } : Room)) (fun a U => a = #[(.ref w0), (.int (1 : Int32))] ∧ Z.Warmed39 U.vm ∧ U.heap = h0) (fun _ _ _ _ _ => True) (fun _ U o U' => ∃ v L, o = .returned v ∧ (Fr n0 L ∧ Q_7 Z w0 w1 kw1 p3 h0 n0 v U'.heap) ∧ FrameEnd U o U' L ({ frames := 0, cells := 0, slots := 0, locals := 0 } : Room).cells ({ frames := 0, cells := 0, slots := 0, locals := 0 } : Room).slots) := by
  refine own_enter (Q := Q_7 Z w0 w1 kw1 p3 h0 n0) (F := fun m => mkF m 0 #[.val (.ref w0), .val (.int (1 : Int32))] []) (plainFor_of_name pn_0) (fun m => by first | (simp [entryFrame, mkF, argsToLocals, Value.category]; done) | rfl) ?_
  intro p e s m below meth c s₁ B X0
  have K : Keep h0 h0 [] := Keep.refl h0 _
  refine own_aloadN (pc' := 1) B X0 d6_0 rfl rfl rfl ?_
  refine own_getfield (pc' := 4) B X0 (host := "") (Or.inl (own_w hw 32 rfl)) Via.refl F_w0_length d6_1 rfl ?_
  intro T1 X1
  refine own_iloadN (pc' := 5) B X1 d6_4 rfl rfl ?_
  refine own_iadd (pc' := 6) B X1 (z := (2 : Int32)) d6_5 rfl (by decide) ?_
  refine own_aloadN (pc' := 7) B X1 d6_6 rfl rfl rfl ?_
  refine own_getfield (pc' := 10) B X1 (host := "") (Or.inl (own_w hw 11 rfl)) Via.refl F_w0_bytes d6_7 rfl ?_
  intro T2 X2
  refine own_arraylength (pc' := 11) B X2 V_w1 d6_10 rfl ?_
  refine own_icmpYes (pc' := 41) B X2 d6_11 (flt (by decide : ¬ ((64 : Int32) < (2 : Int32)))).2.2.2 (by decide) rfl ?_
  exact own_ret B X2 d6_41 (by decide) (by decide) (⟨rfl, rfl⟩)
def Q_6 (Z : State) (w0 : Addr) (w1 : Addr) (kw1 : ClassId) (p3 : Int32) (p4 : Int32) (h0 : Heap) (n0 : Nat) (v : Option Value) (h : Heap) : Prop :=
  (∃ (y5 : Int32), p4.toInt8.toInt32 = y5 ∧ v = none ∧ Keep h0 h [w0, w1] ∧ Exa Z h w0 "demitasse/interp/Bytes" ∧ Fld Z h w0 "demitasse/interp/Bytes" "bytes" "[B" (.ref w1) ∧ Fld Z h w0 "demitasse/interp/Bytes" "length" "I" (.int (2 : Int32)) ∧ Exa Z h w1 "[B" ∧ Arv Z h w1 kw1 .byte (64 : Int32) [(.int p3), (.int y5)] (.int (0 : Int32)))
set_option maxRecDepth 65536 in
set_option maxHeartbeats 40000000 in
theorem rm_6 (l : Launch) (Z : State) (a0 : Array Value) (hw : ∀ d ∈ tables_1, d.before a0 Z = true) (ws : List Jvm.Cond) (w0 : Addr) (w1 : Addr) (kw1 : ClassId) (p3 : Int32) (p4 : Int32) (h0 : Heap) (n0 : Nat) (Z0 : n0 ≤ h0.size) (E_w0 : Exa Z h0 w0 "demitasse/interp/Bytes") (F_w0_bytes : Fld Z h0 w0 "demitasse/interp/Bytes" "bytes" "[B" (.ref w1)) (F_w0_length : Fld Z h0 w0 "demitasse/interp/Bytes" "length" "I" (.int (1 : Int32))) (g_w0 : n0 ≤ w0) (E_w1 : Exa Z h0 w1 "[B") (V_w1 : Arv Z h0 w1 kw1 .byte (64 : Int32) [(.int p3)] (.int (0 : Int32))) (g_w1 : n0 ≤ w1) (ne_w0_w1 : w0 ≠ w1) :
    MetFree l (⟨"demitasse/interp/Bytes", "u1", "(I)V"⟩ : MethodName) (head1 (Jvm.Cond.code (⟨"demitasse/interp/Bytes", "u1", "(I)V"⟩ : MethodName) prog_64_method_3_code 2 none :: ws) ({ frames := 1, cells := 0, slots := 0, locals := 13 } : Room)) (fun a U => a = #[(.ref w0), (.int p4)] ∧ Z.Warmed39 U.vm ∧ U.heap = h0) (fun _ _ _ _ _ => True) (fun _ U o U' => ∃ v L, o = .returned v ∧ (Fr n0 L ∧ Q_6 Z w0 w1 kw1 p3 p4 h0 n0 v U'.heap) ∧ FrameEnd U o U' L ({ frames := 1, cells := 0, slots := 0, locals := 13 } : Room).cells ({ frames := 1, cells := 0, slots := 0, locals := 13 } : Room).slots) := by
  refine own_enter (Q := Q_6 Z w0 w1 kw1 p3 p4 h0 n0) (F := fun m => mkF m 0 #[.val (.ref w0), .val (.int p4)] []) (plainFor_of_name pn_0) (fun m => by first | (simp [entryFrame, mkF, argsToLocals, Value.category]; done) | rfl) ?_
  intro p e s m below meth c s₁ B X0
  have K : Keep h0 h0 [w0, w1] := Keep.refl h0 _
  refine own_aloadN (pc' := 1) B X0 d5_0 rfl rfl rfl ?_
  refine own_iconst (pc' := 2) B X0 (z := (1 : Int32)) d5_1 rfl rfl ?_
  refine own_callP (pc' := 5) B X0 (own_w hw 28 rfl) (own_w hw 29 rfl) (own_w hw 30 rfl) (own_w hw 2 rfl) (own_w hw 3 rfl) (own_w hw 31 rfl) E_w0 (by decide) [(.int (1 : Int32))] [] (rm_7 l Z a0 hw [] w0 w1 kw1 (p3) h0 n0 (Nat.le_trans Z0 K.1) E_w0 F_w0_bytes F_w0_length g_w0 E_w1 V_w1 g_w1 ne_w0_w1) 0 (by decide) (by decide) rfl pd_1 rfl rfl (Nat.le_of_eq rfl) d5_2 rfl (k' := 0) (n' := 0) rfl rfl (by decide) (by decide) ?_
  intro T1 v1 h1 X1 q1
  obtain ⟨rfl, rfl⟩ := q1
  show own_Go p e below (T1.setTop (mkF m 5 #[.val (.ref w0), .val (.int p4)] [])) _
  refine own_aloadN (pc' := 6) B X1 d5_5 rfl rfl rfl ?_
  refine own_getfield (pc' := 9) B X1 (host := "") (Or.inl (own_w hw 11 rfl)) Via.refl F_w0_bytes d5_6 rfl ?_
  intro T2 X2
  refine own_aloadN (pc' := 10) B X2 d5_9 rfl rfl rfl ?_
  refine own_dup (pc' := 11) B X2 d5_10 rfl rfl ?_
  refine own_getfield (pc' := 14) B X2 (host := "") (Or.inl (own_w hw 32 rfl)) Via.refl F_w0_length d5_11 rfl ?_
  intro T3 X3
  refine own_dup_x1 (pc' := 15) B X3 d5_14 rfl rfl rfl ?_
  refine own_iconst (pc' := 16) B X3 (z := (1 : Int32)) d5_15 rfl rfl ?_
  refine own_iadd (pc' := 17) B X3 (z := (2 : Int32)) d5_16 rfl (by decide) ?_
  refine own_putfield (pc' := 20) B X3 (host := "") (Or.inl (own_w hw 32 rfl)) Via.refl F_w0_length E_w0 g_w0 (Or.inl (own_w hw 33 rfl)) (own_w hw 2 rfl) (ty := .int) (by decide) rfl rfl d5_17 rfl ?_
  intro T4 h4 X4 W4 F_w0_length
  replace E_w0 := E_w0.wr W4
  replace F_w0_bytes := F_w0_bytes.other W4 (Or.inr (slot_ne (Or.inl (own_w hw 12 rfl)) (Or.inl (own_w hw 33 rfl)) (by decide) (t := (.array .byte)) (t' := .int) (by decide) (by decide)))
  replace E_w1 := E_w1.wr W4
  replace V_w1 := V_w1.other W4 (Ne.symm ne_w0_w1)
  replace K := K.wr W4 (Or.inl (List.mem_of_getElem? (i := 0) rfl))
  refine own_iloadN (pc' := 21) B X4 d5_20 rfl rfl ?_
  obtain ⟨y5, hy5⟩ : ∃ z : Int32, p4.toInt8.toInt32 = z := ⟨_, rfl⟩
  refine own_i2b (pc' := 22) B X4 d5_21 rfl hy5 ?_
  replace V_w1 : Arv Z h4 w1 kw1 .byte (64 : Int32) [(.int p3), (.int (0 : Int32))] (.int (0 : Int32)) := V_w1.pad (pad_rep [(.int p3)] (.int (0 : Int32)) 1)
  refine own_bastore (pc' := 23) B X4 (x' := y5) V_w1 g_w1 ⟨by decide, by decide⟩ 1 (by decide) (Nat.le_of_ble_eq_true rfl) (own_idem_i2b hy5) d5_22 rfl ?_
  intro T6 h6 X6 W6 V_w1
  replace V_w1 : Arv Z h6 w1 kw1 .byte (64 : Int32) [(.int p3), (.int y5)] (.int (0 : Int32)) := V_w1
  replace E_w0 := E_w0.wr W6
  replace F_w0_bytes := F_w0_bytes.other W6 (Or.inl ne_w0_w1)
  replace F_w0_length := F_w0_length.other W6 (Or.inl ne_w0_w1)
  replace E_w1 := E_w1.wr W6
  replace K := K.wr W6 (Or.inl (List.mem_of_getElem? (i := 1) rfl))
  exact own_ret B X6 d5_23 (by decide) (by decide) (⟨y5, hy5, rfl, K, E_w0, F_w0_bytes, F_w0_length, E_w1, V_w1⟩)
def Q_3 (Z : State) (w0 : Addr) (w1 : Addr) (kw1 : ClassId) (p3 : Int32) (h0 : Heap) (n0 : Nat) (v : Option Value) (h : Heap) : Prop :=
  (∃ (y1 : Int32) (y3 : Int32) (y6 : Int32), (p3.toUInt32 >>> ((8 : Int32) &&& 31).toUInt32).toInt32 = y1 ∧ y1.toInt8.toInt32 = y3 ∧ p3.toInt8.toInt32 = y6 ∧ v = none ∧ Keep h0 h [w0, w1] ∧ Exa Z h w0 "demitasse/interp/Bytes" ∧ Fld Z h w0 "demitasse/interp/Bytes" "bytes" "[B" (.ref w1) ∧ Fld Z h w0 "demitasse/interp/Bytes" "length" "I" (.int (2 : Int32)) ∧ Exa Z h w1 "[B" ∧ Arv Z h w1 kw1 .byte (64 : Int32) [(.int y3), (.int y6)] (.int (0 : Int32)))
set_option maxRecDepth 65536 in
set_option maxHeartbeats 40000000 in
theorem rm_3 (l : Launch) (Z : State) (a0 : Array Value) (hw : ∀ d ∈ tables_1, d.before a0 Z = true) (ws : List Jvm.Cond) (w0 : Addr) (w1 : Addr) (kw1 : ClassId) (p3 : Int32) (h0 : Heap) (n0 : Nat) (Z0 : n0 ≤ h0.size) (E_w0 : Exa Z h0 w0 "demitasse/interp/Bytes") (F_w0_bytes : Fld Z h0 w0 "demitasse/interp/Bytes" "bytes" "[B" (.ref w1)) (F_w0_length : Fld Z h0 w0 "demitasse/interp/Bytes" "length" "I" (.int (0 : Int32))) (g_w0 : n0 ≤ w0) (E_w1 : Exa Z h0 w1 "[B") (V_w1 : Arv Z h0 w1 kw1 .byte (64 : Int32) [] (.int (0 : Int32))) (g_w1 : n0 ≤ w1) (ne_w0_w1 : w0 ≠ w1) :
    MetFree l (⟨"demitasse/interp/Bytes", "u2", "(I)V"⟩ : MethodName) (head1 (Jvm.Cond.code (⟨"demitasse/interp/Bytes", "u2", "(I)V"⟩ : MethodName) prog_64_method_4_code 2 none :: ws) ({ frames := 2, cells := 0, slots := 0, locals := 26 } : Room)) (fun a U => a = #[(.ref w0), (.int p3)] ∧ Z.Warmed39 U.vm ∧ U.heap = h0) (fun _ _ _ _ _ => True) (fun _ U o U' => ∃ v L, o = .returned v ∧ (Fr n0 L ∧ Q_3 Z w0 w1 kw1 p3 h0 n0 v U'.heap) ∧ FrameEnd U o U' L ({ frames := 2, cells := 0, slots := 0, locals := 26 } : Room).cells ({ frames := 2, cells := 0, slots := 0, locals := 26 } : Room).slots) := by
  refine own_enter (Q := Q_3 Z w0 w1 kw1 p3 h0 n0) (F := fun m => mkF m 0 #[.val (.ref w0), .val (.int p3)] []) (plainFor_of_name pn_0) (fun m => by first | (simp [entryFrame, mkF, argsToLocals, Value.category]; done) | rfl) ?_
  intro p e s m below meth c s₁ B X0
  have K : Keep h0 h0 [w0, w1] := Keep.refl h0 _
  refine own_aloadN (pc' := 1) B X0 d4_0 rfl rfl rfl ?_
  refine own_iloadN (pc' := 2) B X0 d4_1 rfl rfl ?_
  refine own_bipush (pc' := 4) B X0 (z := (8 : Int32)) d4_2 rfl (by decide) ?_
  obtain ⟨y1, hy1⟩ : ∃ z : Int32, (p3.toUInt32 >>> ((8 : Int32) &&& 31).toUInt32).toInt32 = z := ⟨_, rfl⟩
  refine own_iushr (pc' := 5) B X0 d4_4 rfl hy1 ?_
  refine own_callV (pc' := 8) B X0 (own_w hw 23 rfl) (own_w hw 24 rfl) (own_w hw 26 rfl) (own_w hw 25 rfl) (own_w hw 3 rfl) (own_w hw 27 rfl) E_w0 (by decide) [(.int y1)] [] (rm_4 l Z a0 hw [] w0 w1 kw1 (y1) h0 n0 (Nat.le_trans Z0 K.1) E_w0 F_w0_bytes F_w0_length g_w0 E_w1 V_w1 g_w1 ne_w0_w1) 0 (by decide) (by decide) rfl pd_1 rfl rfl (Nat.le_of_eq rfl) d4_5 rfl (k' := 0) (n' := 0) rfl rfl (by decide) (by decide) ?_
  intro T2 v2 h2 X2 q2
  obtain ⟨y3, hy4, rfl, K2, E_w0, F_w0_bytes, F_w0_length, E_w1, V_w1⟩ := q2
  replace K := K.trans K2 (allS (Or.inl (List.mem_of_getElem? (i := 0) rfl)) (allS (Or.inl (List.mem_of_getElem? (i := 1) rfl)) all0))
  show own_Go p e below (T2.setTop (mkF m 8 #[.val (.ref w0), .val (.int p3)] [])) _
  refine own_aloadN (pc' := 9) B X2 d4_8 rfl rfl rfl ?_
  refine own_iloadN (pc' := 10) B X2 d4_9 rfl rfl ?_
  refine own_callV (pc' := 13) B X2 (own_w hw 23 rfl) (own_w hw 24 rfl) (own_w hw 26 rfl) (own_w hw 25 rfl) (own_w hw 3 rfl) (own_w hw 27 rfl) E_w0 (by decide) [(.int p3)] [] (rm_6 l Z a0 hw [] w0 w1 kw1 (y3) (p3) h2 n0 (Nat.le_trans Z0 K.1) E_w0 F_w0_bytes F_w0_length g_w0 E_w1 V_w1 g_w1 ne_w0_w1) 0 (by decide) (by decide) rfl pd_1 rfl rfl (Nat.le_of_eq rfl) d4_10 rfl (k' := 0) (n' := 0) rfl rfl (by decide) (by decide) ?_
  intro T5 v5 h5 X5 q5
  obtain ⟨y6, hy7, rfl, K5, E_w0, F_w0_bytes, F_w0_length, E_w1, V_w1⟩ := q5
  replace K := K.trans K5 (allS (Or.inl (List.mem_of_getElem? (i := 0) rfl)) (allS (Or.inl (List.mem_of_getElem? (i := 1) rfl)) all0))
  show own_Go p e below (T5.setTop (mkF m 13 #[.val (.ref w0), .val (.int p3)] [])) _
  exact own_ret B X5 d4_13 (by decide) (by decide) (⟨y1, y3, y6, hy1, hy4, hy7, rfl, K, E_w0, F_w0_bytes, F_w0_length, E_w1, V_w1⟩)
def Q_10 (Z : State) (w0 : Addr) (w1 : Addr) (kw1 : ClassId) (p3 : Int32) (p4 : Int32) (h0 : Heap) (n0 : Nat) (v : Option Value) (h : Heap) : Prop :=
  (v = none ∧ h0 = h)
set_option maxRecDepth 65536 in
set_option maxHeartbeats 40000000 in
theorem rm_10 (l : Launch) (Z : State) (a0 : Array Value) (hw : ∀ d ∈ tables_1, d.before a0 Z = true) (ws : List Jvm.Cond) (w0 : Addr) (w1 : Addr) (kw1 : ClassId) (p3 : Int32) (p4 : Int32) (h0 : Heap) (n0 : Nat) (Z0 : n0 ≤ h0.size) (E_w0 : Exa Z h0 w0 "demitasse/interp/Bytes") (F_w0_bytes : Fld Z h0 w0 "demitasse/interp/Bytes" "bytes" "[B" (.ref w1)) (F_w0_length : Fld Z h0 w0 "demitasse/interp/Bytes" "length" "I" (.int (2 : Int32))) (g_w0 : n0 ≤ w0) (E_w1 : Exa Z h0 w1 "[B") (V_w1 : Arv Z h0 w1 kw1 .byte (64 : Int32) [(.int p3), (.int p4)] (.int (0 : Int32))) (g_w1 : n0 ≤ w1) (ne_w0_w1 : w0 ≠ w1) :
    MetFree l (⟨"demitasse/interp/Bytes", "makeRoom", "(I)V"⟩ : MethodName) (head1 (Jvm.Cond.code (⟨"demitasse/interp/Bytes", "makeRoom", "(I)V"⟩ : MethodName) prog_64_method_10_code 2 none :: ws) ({ frames := 0, cells := 0, slots := 0, locals := 0 } : Room)) (fun a U => a = #[(.ref w0), (.int (1 : Int32))] ∧ Z.Warmed39 U.vm ∧ U.heap = h0) (fun _ _ _ _ _ => True) (fun _ U o U' => ∃ v L, o = .returned v ∧ (Fr n0 L ∧ Q_10 Z w0 w1 kw1 p3 p4 h0 n0 v U'.heap) ∧ FrameEnd U o U' L ({ frames := 0, cells := 0, slots := 0, locals := 0 } : Room).cells ({ frames := 0, cells := 0, slots := 0, locals := 0 } : Room).slots) := by
  refine own_enter (Q := Q_10 Z w0 w1 kw1 p3 p4 h0 n0) (F := fun m => mkF m 0 #[.val (.ref w0), .val (.int (1 : Int32))] []) (plainFor_of_name pn_0) (fun m => by first | (simp [entryFrame, mkF, argsToLocals, Value.category]; done) | rfl) ?_
  intro p e s m below meth c s₁ B X0
  have K : Keep h0 h0 [] := Keep.refl h0 _
  refine own_aloadN (pc' := 1) B X0 d6_0 rfl rfl rfl ?_
  refine own_getfield (pc' := 4) B X0 (host := "") (Or.inl (own_w hw 32 rfl)) Via.refl F_w0_length d6_1 rfl ?_
  intro T1 X1
  refine own_iloadN (pc' := 5) B X1 d6_4 rfl rfl ?_
  refine own_iadd (pc' := 6) B X1 (z := (3 : Int32)) d6_5 rfl (by decide) ?_
  refine own_aloadN (pc' := 7) B X1 d6_6 rfl rfl rfl ?_
  refine own_getfield (pc' := 10) B X1 (host := "") (Or.inl (own_w hw 11 rfl)) Via.refl F_w0_bytes d6_7 rfl ?_
  intro T2 X2
  refine own_arraylength (pc' := 11) B X2 V_w1 d6_10 rfl ?_
  refine own_icmpYes (pc' := 41) B X2 d6_11 (flt (by decide : ¬ ((64 : Int32) < (3 : Int32)))).2.2.2 (by decide) rfl ?_
  exact own_ret B X2 d6_41 (by decide) (by decide) (⟨rfl, rfl⟩)
def Q_9 (Z : State) (w0 : Addr) (w1 : Addr) (kw1 : ClassId) (p3 : Int32) (p4 : Int32) (p5 : Int32) (h0 : Heap) (n0 : Nat) (v : Option Value) (h : Heap) : Prop :=
  (∃ (y5 : Int32), p5.toInt8.toInt32 = y5 ∧ v = none ∧ Keep h0 h [w0, w1] ∧ Exa Z h w0 "demitasse/interp/Bytes" ∧ Fld Z h w0 "demitasse/interp/Bytes" "bytes" "[B" (.ref w1) ∧ Fld Z h w0 "demitasse/interp/Bytes" "length" "I" (.int (3 : Int32)) ∧ Exa Z h w1 "[B" ∧ Arv Z h w1 kw1 .byte (64 : Int32) [(.int p3), (.int p4), (.int y5)] (.int (0 : Int32)))
set_option maxRecDepth 65536 in
set_option maxHeartbeats 40000000 in
theorem rm_9 (l : Launch) (Z : State) (a0 : Array Value) (hw : ∀ d ∈ tables_1, d.before a0 Z = true) (ws : List Jvm.Cond) (w0 : Addr) (w1 : Addr) (kw1 : ClassId) (p3 : Int32) (p4 : Int32) (p5 : Int32) (h0 : Heap) (n0 : Nat) (Z0 : n0 ≤ h0.size) (E_w0 : Exa Z h0 w0 "demitasse/interp/Bytes") (F_w0_bytes : Fld Z h0 w0 "demitasse/interp/Bytes" "bytes" "[B" (.ref w1)) (F_w0_length : Fld Z h0 w0 "demitasse/interp/Bytes" "length" "I" (.int (2 : Int32))) (g_w0 : n0 ≤ w0) (E_w1 : Exa Z h0 w1 "[B") (V_w1 : Arv Z h0 w1 kw1 .byte (64 : Int32) [(.int p3), (.int p4)] (.int (0 : Int32))) (g_w1 : n0 ≤ w1) (ne_w0_w1 : w0 ≠ w1) :
    MetFree l (⟨"demitasse/interp/Bytes", "u1", "(I)V"⟩ : MethodName) (head1 (Jvm.Cond.code (⟨"demitasse/interp/Bytes", "u1", "(I)V"⟩ : MethodName) prog_64_method_3_code 2 none :: ws) ({ frames := 1, cells := 0, slots := 0, locals := 13 } : Room)) (fun a U => a = #[(.ref w0), (.int p5)] ∧ Z.Warmed39 U.vm ∧ U.heap = h0) (fun _ _ _ _ _ => True) (fun _ U o U' => ∃ v L, o = .returned v ∧ (Fr n0 L ∧ Q_9 Z w0 w1 kw1 p3 p4 p5 h0 n0 v U'.heap) ∧ FrameEnd U o U' L ({ frames := 1, cells := 0, slots := 0, locals := 13 } : Room).cells ({ frames := 1, cells := 0, slots := 0, locals := 13 } : Room).slots) := by
  refine own_enter (Q := Q_9 Z w0 w1 kw1 p3 p4 p5 h0 n0) (F := fun m => mkF m 0 #[.val (.ref w0), .val (.int p5)] []) (plainFor_of_name pn_0) (fun m => by first | (simp [entryFrame, mkF, argsToLocals, Value.category]; done) | rfl) ?_
  intro p e s m below meth c s₁ B X0
  have K : Keep h0 h0 [w0, w1] := Keep.refl h0 _
  refine own_aloadN (pc' := 1) B X0 d5_0 rfl rfl rfl ?_
  refine own_iconst (pc' := 2) B X0 (z := (1 : Int32)) d5_1 rfl rfl ?_
  refine own_callP (pc' := 5) B X0 (own_w hw 28 rfl) (own_w hw 29 rfl) (own_w hw 30 rfl) (own_w hw 2 rfl) (own_w hw 3 rfl) (own_w hw 31 rfl) E_w0 (by decide) [(.int (1 : Int32))] [] (rm_10 l Z a0 hw [] w0 w1 kw1 (p3) (p4) h0 n0 (Nat.le_trans Z0 K.1) E_w0 F_w0_bytes F_w0_length g_w0 E_w1 V_w1 g_w1 ne_w0_w1) 0 (by decide) (by decide) rfl pd_1 rfl rfl (Nat.le_of_eq rfl) d5_2 rfl (k' := 0) (n' := 0) rfl rfl (by decide) (by decide) ?_
  intro T1 v1 h1 X1 q1
  obtain ⟨rfl, rfl⟩ := q1
  show own_Go p e below (T1.setTop (mkF m 5 #[.val (.ref w0), .val (.int p5)] [])) _
  refine own_aloadN (pc' := 6) B X1 d5_5 rfl rfl rfl ?_
  refine own_getfield (pc' := 9) B X1 (host := "") (Or.inl (own_w hw 11 rfl)) Via.refl F_w0_bytes d5_6 rfl ?_
  intro T2 X2
  refine own_aloadN (pc' := 10) B X2 d5_9 rfl rfl rfl ?_
  refine own_dup (pc' := 11) B X2 d5_10 rfl rfl ?_
  refine own_getfield (pc' := 14) B X2 (host := "") (Or.inl (own_w hw 32 rfl)) Via.refl F_w0_length d5_11 rfl ?_
  intro T3 X3
  refine own_dup_x1 (pc' := 15) B X3 d5_14 rfl rfl rfl ?_
  refine own_iconst (pc' := 16) B X3 (z := (1 : Int32)) d5_15 rfl rfl ?_
  refine own_iadd (pc' := 17) B X3 (z := (3 : Int32)) d5_16 rfl (by decide) ?_
  refine own_putfield (pc' := 20) B X3 (host := "") (Or.inl (own_w hw 32 rfl)) Via.refl F_w0_length E_w0 g_w0 (Or.inl (own_w hw 33 rfl)) (own_w hw 2 rfl) (ty := .int) (by decide) rfl rfl d5_17 rfl ?_
  intro T4 h4 X4 W4 F_w0_length
  replace E_w0 := E_w0.wr W4
  replace F_w0_bytes := F_w0_bytes.other W4 (Or.inr (slot_ne (Or.inl (own_w hw 12 rfl)) (Or.inl (own_w hw 33 rfl)) (by decide) (t := (.array .byte)) (t' := .int) (by decide) (by decide)))
  replace E_w1 := E_w1.wr W4
  replace V_w1 := V_w1.other W4 (Ne.symm ne_w0_w1)
  replace K := K.wr W4 (Or.inl (List.mem_of_getElem? (i := 0) rfl))
  refine own_iloadN (pc' := 21) B X4 d5_20 rfl rfl ?_
  obtain ⟨y5, hy5⟩ : ∃ z : Int32, p5.toInt8.toInt32 = z := ⟨_, rfl⟩
  refine own_i2b (pc' := 22) B X4 d5_21 rfl hy5 ?_
  replace V_w1 : Arv Z h4 w1 kw1 .byte (64 : Int32) [(.int p3), (.int p4), (.int (0 : Int32))] (.int (0 : Int32)) := V_w1.pad (pad_rep [(.int p3), (.int p4)] (.int (0 : Int32)) 1)
  refine own_bastore (pc' := 23) B X4 (x' := y5) V_w1 g_w1 ⟨by decide, by decide⟩ 2 (by decide) (Nat.le_of_ble_eq_true rfl) (own_idem_i2b hy5) d5_22 rfl ?_
  intro T6 h6 X6 W6 V_w1
  replace V_w1 : Arv Z h6 w1 kw1 .byte (64 : Int32) [(.int p3), (.int p4), (.int y5)] (.int (0 : Int32)) := V_w1
  replace E_w0 := E_w0.wr W6
  replace F_w0_bytes := F_w0_bytes.other W6 (Or.inl ne_w0_w1)
  replace F_w0_length := F_w0_length.other W6 (Or.inl ne_w0_w1)
  replace E_w1 := E_w1.wr W6
  replace K := K.wr W6 (Or.inl (List.mem_of_getElem? (i := 1) rfl))
  exact own_ret B X6 d5_23 (by decide) (by decide) (⟨y5, hy5, rfl, K, E_w0, F_w0_bytes, F_w0_length, E_w1, V_w1⟩)
def Q_12 (Z : State) (w0 : Addr) (w1 : Addr) (kw1 : ClassId) (p3 : Int32) (p4 : Int32) (p5 : Int32) (h0 : Heap) (n0 : Nat) (v : Option Value) (h : Heap) : Prop :=
  (v = none ∧ h0 = h)
set_option maxRecDepth 65536 in
set_option maxHeartbeats 40000000 in
theorem rm_12 (l : Launch) (Z : State) (a0 : Array Value) (hw : ∀ d ∈ tables_1, d.before a0 Z = true) (ws : List Jvm.Cond) (w0 : Addr) (w1 : Addr) (kw1 : ClassId) (p3 : Int32) (p4 : Int32) (p5 : Int32) (h0 : Heap) (n0 : Nat) (Z0 : n0 ≤ h0.size) (E_w0 : Exa Z h0 w0 "demitasse/interp/Bytes") (F_w0_bytes : Fld Z h0 w0 "demitasse/interp/Bytes" "bytes" "[B" (.ref w1)) (F_w0_length : Fld Z h0 w0 "demitasse/interp/Bytes" "length" "I" (.int (3 : Int32))) (g_w0 : n0 ≤ w0) (E_w1 : Exa Z h0 w1 "[B") (V_w1 : Arv Z h0 w1 kw1 .byte (64 : Int32) [(.int p3), (.int p4), (.int p5)] (.int (0 : Int32))) (g_w1 : n0 ≤ w1) (ne_w0_w1 : w0 ≠ w1) :
    MetFree l (⟨"demitasse/interp/Bytes", "makeRoom", "(I)V"⟩ : MethodName) (head1 (Jvm.Cond.code (⟨"demitasse/interp/Bytes", "makeRoom", "(I)V"⟩ : MethodName) prog_64_method_10_code 2 none :: ws) ({ frames := 0, cells := 0, slots := 0, locals := 0 } : Room)) (fun a U => a = #[(.ref w0), (.int (1 : Int32))] ∧ Z.Warmed39 U.vm ∧ U.heap = h0) (fun _ _ _ _ _ => True) (fun _ U o U' => ∃ v L, o = .returned v ∧ (Fr n0 L ∧ Q_12 Z w0 w1 kw1 p3 p4 p5 h0 n0 v U'.heap) ∧ FrameEnd U o U' L ({ frames := 0, cells := 0, slots := 0, locals := 0 } : Room).cells ({ frames := 0, cells := 0, slots := 0, locals := 0 } : Room).slots) := by
  refine own_enter (Q := Q_12 Z w0 w1 kw1 p3 p4 p5 h0 n0) (F := fun m => mkF m 0 #[.val (.ref w0), .val (.int (1 : Int32))] []) (plainFor_of_name pn_0) (fun m => by first | (simp [entryFrame, mkF, argsToLocals, Value.category]; done) | rfl) ?_
  intro p e s m below meth c s₁ B X0
  have K : Keep h0 h0 [] := Keep.refl h0 _
  refine own_aloadN (pc' := 1) B X0 d6_0 rfl rfl rfl ?_
  refine own_getfield (pc' := 4) B X0 (host := "") (Or.inl (own_w hw 32 rfl)) Via.refl F_w0_length d6_1 rfl ?_
  intro T1 X1
  refine own_iloadN (pc' := 5) B X1 d6_4 rfl rfl ?_
  refine own_iadd (pc' := 6) B X1 (z := (4 : Int32)) d6_5 rfl (by decide) ?_
  refine own_aloadN (pc' := 7) B X1 d6_6 rfl rfl rfl ?_
  refine own_getfield (pc' := 10) B X1 (host := "") (Or.inl (own_w hw 11 rfl)) Via.refl F_w0_bytes d6_7 rfl ?_
  intro T2 X2
  refine own_arraylength (pc' := 11) B X2 V_w1 d6_10 rfl ?_
  refine own_icmpYes (pc' := 41) B X2 d6_11 (flt (by decide : ¬ ((64 : Int32) < (4 : Int32)))).2.2.2 (by decide) rfl ?_
  exact own_ret B X2 d6_41 (by decide) (by decide) (⟨rfl, rfl⟩)
def Q_11 (Z : State) (w0 : Addr) (w1 : Addr) (kw1 : ClassId) (p3 : Int32) (p4 : Int32) (p5 : Int32) (p6 : Int32) (h0 : Heap) (n0 : Nat) (v : Option Value) (h : Heap) : Prop :=
  (∃ (y5 : Int32), p6.toInt8.toInt32 = y5 ∧ v = none ∧ Keep h0 h [w0, w1] ∧ Exa Z h w0 "demitasse/interp/Bytes" ∧ Fld Z h w0 "demitasse/interp/Bytes" "bytes" "[B" (.ref w1) ∧ Fld Z h w0 "demitasse/interp/Bytes" "length" "I" (.int (4 : Int32)) ∧ Exa Z h w1 "[B" ∧ Arv Z h w1 kw1 .byte (64 : Int32) [(.int p3), (.int p4), (.int p5), (.int y5)] (.int (0 : Int32)))
set_option maxRecDepth 65536 in
set_option maxHeartbeats 40000000 in
theorem rm_11 (l : Launch) (Z : State) (a0 : Array Value) (hw : ∀ d ∈ tables_1, d.before a0 Z = true) (ws : List Jvm.Cond) (w0 : Addr) (w1 : Addr) (kw1 : ClassId) (p3 : Int32) (p4 : Int32) (p5 : Int32) (p6 : Int32) (h0 : Heap) (n0 : Nat) (Z0 : n0 ≤ h0.size) (E_w0 : Exa Z h0 w0 "demitasse/interp/Bytes") (F_w0_bytes : Fld Z h0 w0 "demitasse/interp/Bytes" "bytes" "[B" (.ref w1)) (F_w0_length : Fld Z h0 w0 "demitasse/interp/Bytes" "length" "I" (.int (3 : Int32))) (g_w0 : n0 ≤ w0) (E_w1 : Exa Z h0 w1 "[B") (V_w1 : Arv Z h0 w1 kw1 .byte (64 : Int32) [(.int p3), (.int p4), (.int p5)] (.int (0 : Int32))) (g_w1 : n0 ≤ w1) (ne_w0_w1 : w0 ≠ w1) :
    MetFree l (⟨"demitasse/interp/Bytes", "u1", "(I)V"⟩ : MethodName) (head1 (Jvm.Cond.code (⟨"demitasse/interp/Bytes", "u1", "(I)V"⟩ : MethodName) prog_64_method_3_code 2 none :: ws) ({ frames := 1, cells := 0, slots := 0, locals := 13 } : Room)) (fun a U => a = #[(.ref w0), (.int p6)] ∧ Z.Warmed39 U.vm ∧ U.heap = h0) (fun _ _ _ _ _ => True) (fun _ U o U' => ∃ v L, o = .returned v ∧ (Fr n0 L ∧ Q_11 Z w0 w1 kw1 p3 p4 p5 p6 h0 n0 v U'.heap) ∧ FrameEnd U o U' L ({ frames := 1, cells := 0, slots := 0, locals := 13 } : Room).cells ({ frames := 1, cells := 0, slots := 0, locals := 13 } : Room).slots) := by
  refine own_enter (Q := Q_11 Z w0 w1 kw1 p3 p4 p5 p6 h0 n0) (F := fun m => mkF m 0 #[.val (.ref w0), .val (.int p6)] []) (plainFor_of_name pn_0) (fun m => by first | (simp [entryFrame, mkF, argsToLocals, Value.category]; done) | rfl) ?_
  intro p e s m below meth c s₁ B X0
  have K : Keep h0 h0 [w0, w1] := Keep.refl h0 _
  refine own_aloadN (pc' := 1) B X0 d5_0 rfl rfl rfl ?_
  refine own_iconst (pc' := 2) B X0 (z := (1 : Int32)) d5_1 rfl rfl ?_
  refine own_callP (pc' := 5) B X0 (own_w hw 28 rfl) (own_w hw 29 rfl) (own_w hw 30 rfl) (own_w hw 2 rfl) (own_w hw 3 rfl) (own_w hw 31 rfl) E_w0 (by decide) [(.int (1 : Int32))] [] (rm_12 l Z a0 hw [] w0 w1 kw1 (p3) (p4) (p5) h0 n0 (Nat.le_trans Z0 K.1) E_w0 F_w0_bytes F_w0_length g_w0 E_w1 V_w1 g_w1 ne_w0_w1) 0 (by decide) (by decide) rfl pd_1 rfl rfl (Nat.le_of_eq rfl) d5_2 rfl (k' := 0) (n' := 0) rfl rfl (by decide) (by decide) ?_
  intro T1 v1 h1 X1 q1
  obtain ⟨rfl, rfl⟩ := q1
  show own_Go p e below (T1.setTop (mkF m 5 #[.val (.ref w0), .val (.int p6)] [])) _
  refine own_aloadN (pc' := 6) B X1 d5_5 rfl rfl rfl ?_
  refine own_getfield (pc' := 9) B X1 (host := "") (Or.inl (own_w hw 11 rfl)) Via.refl F_w0_bytes d5_6 rfl ?_
  intro T2 X2
  refine own_aloadN (pc' := 10) B X2 d5_9 rfl rfl rfl ?_
  refine own_dup (pc' := 11) B X2 d5_10 rfl rfl ?_
  refine own_getfield (pc' := 14) B X2 (host := "") (Or.inl (own_w hw 32 rfl)) Via.refl F_w0_length d5_11 rfl ?_
  intro T3 X3
  refine own_dup_x1 (pc' := 15) B X3 d5_14 rfl rfl rfl ?_
  refine own_iconst (pc' := 16) B X3 (z := (1 : Int32)) d5_15 rfl rfl ?_
  refine own_iadd (pc' := 17) B X3 (z := (4 : Int32)) d5_16 rfl (by decide) ?_
  refine own_putfield (pc' := 20) B X3 (host := "") (Or.inl (own_w hw 32 rfl)) Via.refl F_w0_length E_w0 g_w0 (Or.inl (own_w hw 33 rfl)) (own_w hw 2 rfl) (ty := .int) (by decide) rfl rfl d5_17 rfl ?_
  intro T4 h4 X4 W4 F_w0_length
  replace E_w0 := E_w0.wr W4
  replace F_w0_bytes := F_w0_bytes.other W4 (Or.inr (slot_ne (Or.inl (own_w hw 12 rfl)) (Or.inl (own_w hw 33 rfl)) (by decide) (t := (.array .byte)) (t' := .int) (by decide) (by decide)))
  replace E_w1 := E_w1.wr W4
  replace V_w1 := V_w1.other W4 (Ne.symm ne_w0_w1)
  replace K := K.wr W4 (Or.inl (List.mem_of_getElem? (i := 0) rfl))
  refine own_iloadN (pc' := 21) B X4 d5_20 rfl rfl ?_
  obtain ⟨y5, hy5⟩ : ∃ z : Int32, p6.toInt8.toInt32 = z := ⟨_, rfl⟩
  refine own_i2b (pc' := 22) B X4 d5_21 rfl hy5 ?_
  replace V_w1 : Arv Z h4 w1 kw1 .byte (64 : Int32) [(.int p3), (.int p4), (.int p5), (.int (0 : Int32))] (.int (0 : Int32)) := V_w1.pad (pad_rep [(.int p3), (.int p4), (.int p5)] (.int (0 : Int32)) 1)
  refine own_bastore (pc' := 23) B X4 (x' := y5) V_w1 g_w1 ⟨by decide, by decide⟩ 3 (by decide) (Nat.le_of_ble_eq_true rfl) (own_idem_i2b hy5) d5_22 rfl ?_
  intro T6 h6 X6 W6 V_w1
  replace V_w1 : Arv Z h6 w1 kw1 .byte (64 : Int32) [(.int p3), (.int p4), (.int p5), (.int y5)] (.int (0 : Int32)) := V_w1
  replace E_w0 := E_w0.wr W6
  replace F_w0_bytes := F_w0_bytes.other W6 (Or.inl ne_w0_w1)
  replace F_w0_length := F_w0_length.other W6 (Or.inl ne_w0_w1)
  replace E_w1 := E_w1.wr W6
  replace K := K.wr W6 (Or.inl (List.mem_of_getElem? (i := 1) rfl))
  exact own_ret B X6 d5_23 (by decide) (by decide) (⟨y5, hy5, rfl, K, E_w0, F_w0_bytes, F_w0_length, E_w1, V_w1⟩)
def Q_8 (Z : State) (w0 : Addr) (w1 : Addr) (kw1 : ClassId) (p3 : Int32) (p4 : Int32) (p5 : Int32) (h0 : Heap) (n0 : Nat) (v : Option Value) (h : Heap) : Prop :=
  (∃ (y1 : Int32) (y3 : Int32) (y6 : Int32), (p5.toUInt32 >>> ((8 : Int32) &&& 31).toUInt32).toInt32 = y1 ∧ y1.toInt8.toInt32 = y3 ∧ p5.toInt8.toInt32 = y6 ∧ v = none ∧ Keep h0 h [w0, w1] ∧ Exa Z h w0 "demitasse/interp/Bytes" ∧ Fld Z h w0 "demitasse/interp/Bytes" "bytes" "[B" (.ref w1) ∧ Fld Z h w0 "demitasse/interp/Bytes" "length" "I" (.int (4 : Int32)) ∧ Exa Z h w1 "[B" ∧ Arv Z h w1 kw1 .byte (64 : Int32) [(.int p3), (.int p4), (.int y3), (.int y6)] (.int (0 : Int32)))
set_option maxRecDepth 65536 in
set_option maxHeartbeats 40000000 in
theorem rm_8 (l : Launch) (Z : State) (a0 : Array Value) (hw : ∀ d ∈ tables_1, d.before a0 Z = true) (ws : List Jvm.Cond) (w0 : Addr) (w1 : Addr) (kw1 : ClassId) (p3 : Int32) (p4 : Int32) (p5 : Int32) (h0 : Heap) (n0 : Nat) (Z0 : n0 ≤ h0.size) (E_w0 : Exa Z h0 w0 "demitasse/interp/Bytes") (F_w0_bytes : Fld Z h0 w0 "demitasse/interp/Bytes" "bytes" "[B" (.ref w1)) (F_w0_length : Fld Z h0 w0 "demitasse/interp/Bytes" "length" "I" (.int (2 : Int32))) (g_w0 : n0 ≤ w0) (E_w1 : Exa Z h0 w1 "[B") (V_w1 : Arv Z h0 w1 kw1 .byte (64 : Int32) [(.int p3), (.int p4)] (.int (0 : Int32))) (g_w1 : n0 ≤ w1) (ne_w0_w1 : w0 ≠ w1) :
    MetFree l (⟨"demitasse/interp/Bytes", "u2", "(I)V"⟩ : MethodName) (head1 (Jvm.Cond.code (⟨"demitasse/interp/Bytes", "u2", "(I)V"⟩ : MethodName) prog_64_method_4_code 2 none :: ws) ({ frames := 2, cells := 0, slots := 0, locals := 26 } : Room)) (fun a U => a = #[(.ref w0), (.int p5)] ∧ Z.Warmed39 U.vm ∧ U.heap = h0) (fun _ _ _ _ _ => True) (fun _ U o U' => ∃ v L, o = .returned v ∧ (Fr n0 L ∧ Q_8 Z w0 w1 kw1 p3 p4 p5 h0 n0 v U'.heap) ∧ FrameEnd U o U' L ({ frames := 2, cells := 0, slots := 0, locals := 26 } : Room).cells ({ frames := 2, cells := 0, slots := 0, locals := 26 } : Room).slots) := by
  refine own_enter (Q := Q_8 Z w0 w1 kw1 p3 p4 p5 h0 n0) (F := fun m => mkF m 0 #[.val (.ref w0), .val (.int p5)] []) (plainFor_of_name pn_0) (fun m => by first | (simp [entryFrame, mkF, argsToLocals, Value.category]; done) | rfl) ?_
  intro p e s m below meth c s₁ B X0
  have K : Keep h0 h0 [w0, w1] := Keep.refl h0 _
  refine own_aloadN (pc' := 1) B X0 d4_0 rfl rfl rfl ?_
  refine own_iloadN (pc' := 2) B X0 d4_1 rfl rfl ?_
  refine own_bipush (pc' := 4) B X0 (z := (8 : Int32)) d4_2 rfl (by decide) ?_
  obtain ⟨y1, hy1⟩ : ∃ z : Int32, (p5.toUInt32 >>> ((8 : Int32) &&& 31).toUInt32).toInt32 = z := ⟨_, rfl⟩
  refine own_iushr (pc' := 5) B X0 d4_4 rfl hy1 ?_
  refine own_callV (pc' := 8) B X0 (own_w hw 23 rfl) (own_w hw 24 rfl) (own_w hw 26 rfl) (own_w hw 25 rfl) (own_w hw 3 rfl) (own_w hw 27 rfl) E_w0 (by decide) [(.int y1)] [] (rm_9 l Z a0 hw [] w0 w1 kw1 (p3) (p4) (y1) h0 n0 (Nat.le_trans Z0 K.1) E_w0 F_w0_bytes F_w0_length g_w0 E_w1 V_w1 g_w1 ne_w0_w1) 0 (by decide) (by decide) rfl pd_1 rfl rfl (Nat.le_of_eq rfl) d4_5 rfl (k' := 0) (n' := 0) rfl rfl (by decide) (by decide) ?_
  intro T2 v2 h2 X2 q2
  obtain ⟨y3, hy4, rfl, K2, E_w0, F_w0_bytes, F_w0_length, E_w1, V_w1⟩ := q2
  replace K := K.trans K2 (allS (Or.inl (List.mem_of_getElem? (i := 0) rfl)) (allS (Or.inl (List.mem_of_getElem? (i := 1) rfl)) all0))
  show own_Go p e below (T2.setTop (mkF m 8 #[.val (.ref w0), .val (.int p5)] [])) _
  refine own_aloadN (pc' := 9) B X2 d4_8 rfl rfl rfl ?_
  refine own_iloadN (pc' := 10) B X2 d4_9 rfl rfl ?_
  refine own_callV (pc' := 13) B X2 (own_w hw 23 rfl) (own_w hw 24 rfl) (own_w hw 26 rfl) (own_w hw 25 rfl) (own_w hw 3 rfl) (own_w hw 27 rfl) E_w0 (by decide) [(.int p5)] [] (rm_11 l Z a0 hw [] w0 w1 kw1 (p3) (p4) (y3) (p5) h2 n0 (Nat.le_trans Z0 K.1) E_w0 F_w0_bytes F_w0_length g_w0 E_w1 V_w1 g_w1 ne_w0_w1) 0 (by decide) (by decide) rfl pd_1 rfl rfl (Nat.le_of_eq rfl) d4_10 rfl (k' := 0) (n' := 0) rfl rfl (by decide) (by decide) ?_
  intro T5 v5 h5 X5 q5
  obtain ⟨y6, hy7, rfl, K5, E_w0, F_w0_bytes, F_w0_length, E_w1, V_w1⟩ := q5
  replace K := K.trans K5 (allS (Or.inl (List.mem_of_getElem? (i := 0) rfl)) (allS (Or.inl (List.mem_of_getElem? (i := 1) rfl)) all0))
  show own_Go p e below (T5.setTop (mkF m 13 #[.val (.ref w0), .val (.int p5)] [])) _
  exact own_ret B X5 d4_13 (by decide) (by decide) (⟨y1, y3, y6, hy1, hy4, hy7, rfl, K, E_w0, F_w0_bytes, F_w0_length, E_w1, V_w1⟩)
def Q_2 (Z : State) (w0 : Addr) (w1 : Addr) (kw1 : ClassId) (p3 : Int32) (h0 : Heap) (n0 : Nat) (v : Option Value) (h : Heap) : Prop :=
  (∃ (y1 : Int32) (y3 : Int32) (y4 : Int32) (y5 : Int32) (y10 : Int32) (y11 : Int32) (y12 : Int32), (p3.toUInt32 >>> ((16 : Int32) &&& 31).toUInt32).toInt32 = y1 ∧ (y1.toUInt32 >>> ((8 : Int32) &&& 31).toUInt32).toInt32 = y3 ∧ y3.toInt8.toInt32 = y4 ∧ y1.toInt8.toInt32 = y5 ∧ (p3.toUInt32 >>> ((8 : Int32) &&& 31).toUInt32).toInt32 = y10 ∧ y10.toInt8.toInt32 = y11 ∧ p3.toInt8.toInt32 = y12 ∧ v = none ∧ Keep h0 h [w0, w1] ∧ Exa Z h w0 "demitasse/interp/Bytes" ∧ Fld Z h w0 "demitasse/interp/Bytes" "bytes" "[B" (.ref w1) ∧ Fld Z h w0 "demitasse/interp/Bytes" "length" "I" (.int (4 : Int32)) ∧ Exa Z h w1 "[B" ∧ Arv Z h w1 kw1 .byte (64 : Int32) [(.int y4), (.int y5), (.int y11), (.int y12)] (.int (0 : Int32)))
set_option maxRecDepth 65536 in
set_option maxHeartbeats 40000000 in
theorem rm_2 (l : Launch) (Z : State) (a0 : Array Value) (hw : ∀ d ∈ tables_1, d.before a0 Z = true) (ws : List Jvm.Cond) (w0 : Addr) (w1 : Addr) (kw1 : ClassId) (p3 : Int32) (h0 : Heap) (n0 : Nat) (Z0 : n0 ≤ h0.size) (E_w0 : Exa Z h0 w0 "demitasse/interp/Bytes") (F_w0_bytes : Fld Z h0 w0 "demitasse/interp/Bytes" "bytes" "[B" (.ref w1)) (F_w0_length : Fld Z h0 w0 "demitasse/interp/Bytes" "length" "I" (.int (0 : Int32))) (g_w0 : n0 ≤ w0) (E_w1 : Exa Z h0 w1 "[B") (V_w1 : Arv Z h0 w1 kw1 .byte (64 : Int32) [] (.int (0 : Int32))) (g_w1 : n0 ≤ w1) (ne_w0_w1 : w0 ≠ w1) :
    MetFree l (⟨"demitasse/interp/Bytes", "u4", "(I)V"⟩ : MethodName) (head1 (Jvm.Cond.code (⟨"demitasse/interp/Bytes", "u4", "(I)V"⟩ : MethodName) prog_64_method_5_code 2 none :: ws) ({ frames := 3, cells := 0, slots := 0, locals := 39 } : Room)) (fun a U => a = #[(.ref w0), (.int p3)] ∧ Z.Warmed39 U.vm ∧ U.heap = h0) (fun _ _ _ _ _ => True) (fun _ U o U' => ∃ v L, o = .returned v ∧ (Fr n0 L ∧ Q_2 Z w0 w1 kw1 p3 h0 n0 v U'.heap) ∧ FrameEnd U o U' L ({ frames := 3, cells := 0, slots := 0, locals := 39 } : Room).cells ({ frames := 3, cells := 0, slots := 0, locals := 39 } : Room).slots) := by
  refine own_enter (Q := Q_2 Z w0 w1 kw1 p3 h0 n0) (F := fun m => mkF m 0 #[.val (.ref w0), .val (.int p3)] []) (plainFor_of_name pn_0) (fun m => by first | (simp [entryFrame, mkF, argsToLocals, Value.category]; done) | rfl) ?_
  intro p e s m below meth c s₁ B X0
  have K : Keep h0 h0 [w0, w1] := Keep.refl h0 _
  refine own_aloadN (pc' := 1) B X0 d3_0 rfl rfl rfl ?_
  refine own_iloadN (pc' := 2) B X0 d3_1 rfl rfl ?_
  refine own_bipush (pc' := 4) B X0 (z := (16 : Int32)) d3_2 rfl (by decide) ?_
  obtain ⟨y1, hy1⟩ : ∃ z : Int32, (p3.toUInt32 >>> ((16 : Int32) &&& 31).toUInt32).toInt32 = z := ⟨_, rfl⟩
  refine own_iushr (pc' := 5) B X0 d3_4 rfl hy1 ?_
  refine own_callV (pc' := 8) B X0 (own_w hw 18 rfl) (own_w hw 19 rfl) (own_w hw 21 rfl) (own_w hw 20 rfl) (own_w hw 3 rfl) (own_w hw 22 rfl) E_w0 (by decide) [(.int y1)] [] (rm_3 l Z a0 hw [] w0 w1 kw1 (y1) h0 n0 (Nat.le_trans Z0 K.1) E_w0 F_w0_bytes F_w0_length g_w0 E_w1 V_w1 g_w1 ne_w0_w1) 0 (by decide) (by decide) rfl pd_1 rfl rfl (Nat.le_of_eq rfl) d3_5 rfl (k' := 0) (n' := 0) rfl rfl (by decide) (by decide) ?_
  intro T2 v2 h2 X2 q2
  obtain ⟨y3, y4, y5, hy6, hy7, hy8, rfl, K2, E_w0, F_w0_bytes, F_w0_length, E_w1, V_w1⟩ := q2
  replace K := K.trans K2 (allS (Or.inl (List.mem_of_getElem? (i := 0) rfl)) (allS (Or.inl (List.mem_of_getElem? (i := 1) rfl)) all0))
  show own_Go p e below (T2.setTop (mkF m 8 #[.val (.ref w0), .val (.int p3)] [])) _
  refine own_aloadN (pc' := 9) B X2 d3_8 rfl rfl rfl ?_
  refine own_iloadN (pc' := 10) B X2 d3_9 rfl rfl ?_
  refine own_callV (pc' := 13) B X2 (own_w hw 18 rfl) (own_w hw 19 rfl) (own_w hw 21 rfl) (own_w hw 20 rfl) (own_w hw 3 rfl) (own_w hw 22 rfl) E_w0 (by decide) [(.int p3)] [] (rm_8 l Z a0 hw [] w0 w1 kw1 (y4) (y5) (p3) h2 n0 (Nat.le_trans Z0 K.1) E_w0 F_w0_bytes F_w0_length g_w0 E_w1 V_w1 g_w1 ne_w0_w1) 0 (by decide) (by decide) rfl pd_1 rfl rfl (Nat.le_of_eq rfl) d3_10 rfl (k' := 0) (n' := 0) rfl rfl (by decide) (by decide) ?_
  intro T9 v9 h9 X9 q9
  obtain ⟨y10, y11, y12, hy13, hy14, hy15, rfl, K9, E_w0, F_w0_bytes, F_w0_length, E_w1, V_w1⟩ := q9
  replace K := K.trans K9 (allS (Or.inl (List.mem_of_getElem? (i := 0) rfl)) (allS (Or.inl (List.mem_of_getElem? (i := 1) rfl)) all0))
  show own_Go p e below (T9.setTop (mkF m 13 #[.val (.ref w0), .val (.int p3)] [])) _
  exact own_ret B X9 d3_13 (by decide) (by decide) (⟨y1, y3, y4, y5, y10, y11, y12, hy1, hy6, hy7, hy8, hy13, hy14, hy15, rfl, K, E_w0, F_w0_bytes, F_w0_length, E_w1, V_w1⟩)
def Q_16 (Z : State) (w0 : Addr) (w1 : Addr) (kw1 : ClassId) (p3 : Int32) (p4 : Int32) (p5 : Int32) (p6 : Int32) (h0 : Heap) (n0 : Nat) (v : Option Value) (h : Heap) : Prop :=
  (v = none ∧ h0 = h)
set_option maxRecDepth 65536 in
set_option maxHeartbeats 40000000 in
theorem rm_16 (l : Launch) (Z : State) (a0 : Array Value) (hw : ∀ d ∈ tables_1, d.before a0 Z = true) (ws : List Jvm.Cond) (w0 : Addr) (w1 : Addr) (kw1 : ClassId) (p3 : Int32) (p4 : Int32) (p5 : Int32) (p6 : Int32) (h0 : Heap) (n0 : Nat) (Z0 : n0 ≤ h0.size) (E_w0 : Exa Z h0 w0 "demitasse/interp/Bytes") (F_w0_bytes : Fld Z h0 w0 "demitasse/interp/Bytes" "bytes" "[B" (.ref w1)) (F_w0_length : Fld Z h0 w0 "demitasse/interp/Bytes" "length" "I" (.int (4 : Int32))) (g_w0 : n0 ≤ w0) (E_w1 : Exa Z h0 w1 "[B") (V_w1 : Arv Z h0 w1 kw1 .byte (64 : Int32) [(.int p3), (.int p4), (.int p5), (.int p6)] (.int (0 : Int32))) (g_w1 : n0 ≤ w1) (ne_w0_w1 : w0 ≠ w1) :
    MetFree l (⟨"demitasse/interp/Bytes", "makeRoom", "(I)V"⟩ : MethodName) (head1 (Jvm.Cond.code (⟨"demitasse/interp/Bytes", "makeRoom", "(I)V"⟩ : MethodName) prog_64_method_10_code 2 none :: ws) ({ frames := 0, cells := 0, slots := 0, locals := 0 } : Room)) (fun a U => a = #[(.ref w0), (.int (1 : Int32))] ∧ Z.Warmed39 U.vm ∧ U.heap = h0) (fun _ _ _ _ _ => True) (fun _ U o U' => ∃ v L, o = .returned v ∧ (Fr n0 L ∧ Q_16 Z w0 w1 kw1 p3 p4 p5 p6 h0 n0 v U'.heap) ∧ FrameEnd U o U' L ({ frames := 0, cells := 0, slots := 0, locals := 0 } : Room).cells ({ frames := 0, cells := 0, slots := 0, locals := 0 } : Room).slots) := by
  refine own_enter (Q := Q_16 Z w0 w1 kw1 p3 p4 p5 p6 h0 n0) (F := fun m => mkF m 0 #[.val (.ref w0), .val (.int (1 : Int32))] []) (plainFor_of_name pn_0) (fun m => by first | (simp [entryFrame, mkF, argsToLocals, Value.category]; done) | rfl) ?_
  intro p e s m below meth c s₁ B X0
  have K : Keep h0 h0 [] := Keep.refl h0 _
  refine own_aloadN (pc' := 1) B X0 d6_0 rfl rfl rfl ?_
  refine own_getfield (pc' := 4) B X0 (host := "") (Or.inl (own_w hw 32 rfl)) Via.refl F_w0_length d6_1 rfl ?_
  intro T1 X1
  refine own_iloadN (pc' := 5) B X1 d6_4 rfl rfl ?_
  refine own_iadd (pc' := 6) B X1 (z := (5 : Int32)) d6_5 rfl (by decide) ?_
  refine own_aloadN (pc' := 7) B X1 d6_6 rfl rfl rfl ?_
  refine own_getfield (pc' := 10) B X1 (host := "") (Or.inl (own_w hw 11 rfl)) Via.refl F_w0_bytes d6_7 rfl ?_
  intro T2 X2
  refine own_arraylength (pc' := 11) B X2 V_w1 d6_10 rfl ?_
  refine own_icmpYes (pc' := 41) B X2 d6_11 (flt (by decide : ¬ ((64 : Int32) < (5 : Int32)))).2.2.2 (by decide) rfl ?_
  exact own_ret B X2 d6_41 (by decide) (by decide) (⟨rfl, rfl⟩)
def Q_15 (Z : State) (w0 : Addr) (w1 : Addr) (kw1 : ClassId) (p3 : Int32) (p4 : Int32) (p5 : Int32) (p6 : Int32) (p7 : Int32) (h0 : Heap) (n0 : Nat) (v : Option Value) (h : Heap) : Prop :=
  (∃ (y5 : Int32), p7.toInt8.toInt32 = y5 ∧ v = none ∧ Keep h0 h [w0, w1] ∧ Exa Z h w0 "demitasse/interp/Bytes" ∧ Fld Z h w0 "demitasse/interp/Bytes" "bytes" "[B" (.ref w1) ∧ Fld Z h w0 "demitasse/interp/Bytes" "length" "I" (.int (5 : Int32)) ∧ Exa Z h w1 "[B" ∧ Arv Z h w1 kw1 .byte (64 : Int32) [(.int p3), (.int p4), (.int p5), (.int p6), (.int y5)] (.int (0 : Int32)))
set_option maxRecDepth 65536 in
set_option maxHeartbeats 40000000 in
theorem rm_15 (l : Launch) (Z : State) (a0 : Array Value) (hw : ∀ d ∈ tables_1, d.before a0 Z = true) (ws : List Jvm.Cond) (w0 : Addr) (w1 : Addr) (kw1 : ClassId) (p3 : Int32) (p4 : Int32) (p5 : Int32) (p6 : Int32) (p7 : Int32) (h0 : Heap) (n0 : Nat) (Z0 : n0 ≤ h0.size) (E_w0 : Exa Z h0 w0 "demitasse/interp/Bytes") (F_w0_bytes : Fld Z h0 w0 "demitasse/interp/Bytes" "bytes" "[B" (.ref w1)) (F_w0_length : Fld Z h0 w0 "demitasse/interp/Bytes" "length" "I" (.int (4 : Int32))) (g_w0 : n0 ≤ w0) (E_w1 : Exa Z h0 w1 "[B") (V_w1 : Arv Z h0 w1 kw1 .byte (64 : Int32) [(.int p3), (.int p4), (.int p5), (.int p6)] (.int (0 : Int32))) (g_w1 : n0 ≤ w1) (ne_w0_w1 : w0 ≠ w1) :
    MetFree l (⟨"demitasse/interp/Bytes", "u1", "(I)V"⟩ : MethodName) (head1 (Jvm.Cond.code (⟨"demitasse/interp/Bytes", "u1", "(I)V"⟩ : MethodName) prog_64_method_3_code 2 none :: ws) ({ frames := 1, cells := 0, slots := 0, locals := 13 } : Room)) (fun a U => a = #[(.ref w0), (.int p7)] ∧ Z.Warmed39 U.vm ∧ U.heap = h0) (fun _ _ _ _ _ => True) (fun _ U o U' => ∃ v L, o = .returned v ∧ (Fr n0 L ∧ Q_15 Z w0 w1 kw1 p3 p4 p5 p6 p7 h0 n0 v U'.heap) ∧ FrameEnd U o U' L ({ frames := 1, cells := 0, slots := 0, locals := 13 } : Room).cells ({ frames := 1, cells := 0, slots := 0, locals := 13 } : Room).slots) := by
  refine own_enter (Q := Q_15 Z w0 w1 kw1 p3 p4 p5 p6 p7 h0 n0) (F := fun m => mkF m 0 #[.val (.ref w0), .val (.int p7)] []) (plainFor_of_name pn_0) (fun m => by first | (simp [entryFrame, mkF, argsToLocals, Value.category]; done) | rfl) ?_
  intro p e s m below meth c s₁ B X0
  have K : Keep h0 h0 [w0, w1] := Keep.refl h0 _
  refine own_aloadN (pc' := 1) B X0 d5_0 rfl rfl rfl ?_
  refine own_iconst (pc' := 2) B X0 (z := (1 : Int32)) d5_1 rfl rfl ?_
  refine own_callP (pc' := 5) B X0 (own_w hw 28 rfl) (own_w hw 29 rfl) (own_w hw 30 rfl) (own_w hw 2 rfl) (own_w hw 3 rfl) (own_w hw 31 rfl) E_w0 (by decide) [(.int (1 : Int32))] [] (rm_16 l Z a0 hw [] w0 w1 kw1 (p3) (p4) (p5) (p6) h0 n0 (Nat.le_trans Z0 K.1) E_w0 F_w0_bytes F_w0_length g_w0 E_w1 V_w1 g_w1 ne_w0_w1) 0 (by decide) (by decide) rfl pd_1 rfl rfl (Nat.le_of_eq rfl) d5_2 rfl (k' := 0) (n' := 0) rfl rfl (by decide) (by decide) ?_
  intro T1 v1 h1 X1 q1
  obtain ⟨rfl, rfl⟩ := q1
  show own_Go p e below (T1.setTop (mkF m 5 #[.val (.ref w0), .val (.int p7)] [])) _
  refine own_aloadN (pc' := 6) B X1 d5_5 rfl rfl rfl ?_
  refine own_getfield (pc' := 9) B X1 (host := "") (Or.inl (own_w hw 11 rfl)) Via.refl F_w0_bytes d5_6 rfl ?_
  intro T2 X2
  refine own_aloadN (pc' := 10) B X2 d5_9 rfl rfl rfl ?_
  refine own_dup (pc' := 11) B X2 d5_10 rfl rfl ?_
  refine own_getfield (pc' := 14) B X2 (host := "") (Or.inl (own_w hw 32 rfl)) Via.refl F_w0_length d5_11 rfl ?_
  intro T3 X3
  refine own_dup_x1 (pc' := 15) B X3 d5_14 rfl rfl rfl ?_
  refine own_iconst (pc' := 16) B X3 (z := (1 : Int32)) d5_15 rfl rfl ?_
  refine own_iadd (pc' := 17) B X3 (z := (5 : Int32)) d5_16 rfl (by decide) ?_
  refine own_putfield (pc' := 20) B X3 (host := "") (Or.inl (own_w hw 32 rfl)) Via.refl F_w0_length E_w0 g_w0 (Or.inl (own_w hw 33 rfl)) (own_w hw 2 rfl) (ty := .int) (by decide) rfl rfl d5_17 rfl ?_
  intro T4 h4 X4 W4 F_w0_length
  replace E_w0 := E_w0.wr W4
  replace F_w0_bytes := F_w0_bytes.other W4 (Or.inr (slot_ne (Or.inl (own_w hw 12 rfl)) (Or.inl (own_w hw 33 rfl)) (by decide) (t := (.array .byte)) (t' := .int) (by decide) (by decide)))
  replace E_w1 := E_w1.wr W4
  replace V_w1 := V_w1.other W4 (Ne.symm ne_w0_w1)
  replace K := K.wr W4 (Or.inl (List.mem_of_getElem? (i := 0) rfl))
  refine own_iloadN (pc' := 21) B X4 d5_20 rfl rfl ?_
  obtain ⟨y5, hy5⟩ : ∃ z : Int32, p7.toInt8.toInt32 = z := ⟨_, rfl⟩
  refine own_i2b (pc' := 22) B X4 d5_21 rfl hy5 ?_
  replace V_w1 : Arv Z h4 w1 kw1 .byte (64 : Int32) [(.int p3), (.int p4), (.int p5), (.int p6), (.int (0 : Int32))] (.int (0 : Int32)) := V_w1.pad (pad_rep [(.int p3), (.int p4), (.int p5), (.int p6)] (.int (0 : Int32)) 1)
  refine own_bastore (pc' := 23) B X4 (x' := y5) V_w1 g_w1 ⟨by decide, by decide⟩ 4 (by decide) (Nat.le_of_ble_eq_true rfl) (own_idem_i2b hy5) d5_22 rfl ?_
  intro T6 h6 X6 W6 V_w1
  replace V_w1 : Arv Z h6 w1 kw1 .byte (64 : Int32) [(.int p3), (.int p4), (.int p5), (.int p6), (.int y5)] (.int (0 : Int32)) := V_w1
  replace E_w0 := E_w0.wr W6
  replace F_w0_bytes := F_w0_bytes.other W6 (Or.inl ne_w0_w1)
  replace F_w0_length := F_w0_length.other W6 (Or.inl ne_w0_w1)
  replace E_w1 := E_w1.wr W6
  replace K := K.wr W6 (Or.inl (List.mem_of_getElem? (i := 1) rfl))
  exact own_ret B X6 d5_23 (by decide) (by decide) (⟨y5, hy5, rfl, K, E_w0, F_w0_bytes, F_w0_length, E_w1, V_w1⟩)
def Q_18 (Z : State) (w0 : Addr) (w1 : Addr) (kw1 : ClassId) (p3 : Int32) (p4 : Int32) (p5 : Int32) (p6 : Int32) (p7 : Int32) (h0 : Heap) (n0 : Nat) (v : Option Value) (h : Heap) : Prop :=
  (v = none ∧ h0 = h)
set_option maxRecDepth 65536 in
set_option maxHeartbeats 40000000 in
theorem rm_18 (l : Launch) (Z : State) (a0 : Array Value) (hw : ∀ d ∈ tables_1, d.before a0 Z = true) (ws : List Jvm.Cond) (w0 : Addr) (w1 : Addr) (kw1 : ClassId) (p3 : Int32) (p4 : Int32) (p5 : Int32) (p6 : Int32) (p7 : Int32) (h0 : Heap) (n0 : Nat) (Z0 : n0 ≤ h0.size) (E_w0 : Exa Z h0 w0 "demitasse/interp/Bytes") (F_w0_bytes : Fld Z h0 w0 "demitasse/interp/Bytes" "bytes" "[B" (.ref w1)) (F_w0_length : Fld Z h0 w0 "demitasse/interp/Bytes" "length" "I" (.int (5 : Int32))) (g_w0 : n0 ≤ w0) (E_w1 : Exa Z h0 w1 "[B") (V_w1 : Arv Z h0 w1 kw1 .byte (64 : Int32) [(.int p3), (.int p4), (.int p5), (.int p6), (.int p7)] (.int (0 : Int32))) (g_w1 : n0 ≤ w1) (ne_w0_w1 : w0 ≠ w1) :
    MetFree l (⟨"demitasse/interp/Bytes", "makeRoom", "(I)V"⟩ : MethodName) (head1 (Jvm.Cond.code (⟨"demitasse/interp/Bytes", "makeRoom", "(I)V"⟩ : MethodName) prog_64_method_10_code 2 none :: ws) ({ frames := 0, cells := 0, slots := 0, locals := 0 } : Room)) (fun a U => a = #[(.ref w0), (.int (1 : Int32))] ∧ Z.Warmed39 U.vm ∧ U.heap = h0) (fun _ _ _ _ _ => True) (fun _ U o U' => ∃ v L, o = .returned v ∧ (Fr n0 L ∧ Q_18 Z w0 w1 kw1 p3 p4 p5 p6 p7 h0 n0 v U'.heap) ∧ FrameEnd U o U' L ({ frames := 0, cells := 0, slots := 0, locals := 0 } : Room).cells ({ frames := 0, cells := 0, slots := 0, locals := 0 } : Room).slots) := by
  refine own_enter (Q := Q_18 Z w0 w1 kw1 p3 p4 p5 p6 p7 h0 n0) (F := fun m => mkF m 0 #[.val (.ref w0), .val (.int (1 : Int32))] []) (plainFor_of_name pn_0) (fun m => by first | (simp [entryFrame, mkF, argsToLocals, Value.category]; done) | rfl) ?_
  intro p e s m below meth c s₁ B X0
  have K : Keep h0 h0 [] := Keep.refl h0 _
  refine own_aloadN (pc' := 1) B X0 d6_0 rfl rfl rfl ?_
  refine own_getfield (pc' := 4) B X0 (host := "") (Or.inl (own_w hw 32 rfl)) Via.refl F_w0_length d6_1 rfl ?_
  intro T1 X1
  refine own_iloadN (pc' := 5) B X1 d6_4 rfl rfl ?_
  refine own_iadd (pc' := 6) B X1 (z := (6 : Int32)) d6_5 rfl (by decide) ?_
  refine own_aloadN (pc' := 7) B X1 d6_6 rfl rfl rfl ?_
  refine own_getfield (pc' := 10) B X1 (host := "") (Or.inl (own_w hw 11 rfl)) Via.refl F_w0_bytes d6_7 rfl ?_
  intro T2 X2
  refine own_arraylength (pc' := 11) B X2 V_w1 d6_10 rfl ?_
  refine own_icmpYes (pc' := 41) B X2 d6_11 (flt (by decide : ¬ ((64 : Int32) < (6 : Int32)))).2.2.2 (by decide) rfl ?_
  exact own_ret B X2 d6_41 (by decide) (by decide) (⟨rfl, rfl⟩)
def Q_17 (Z : State) (w0 : Addr) (w1 : Addr) (kw1 : ClassId) (p3 : Int32) (p4 : Int32) (p5 : Int32) (p6 : Int32) (p7 : Int32) (p8 : Int32) (h0 : Heap) (n0 : Nat) (v : Option Value) (h : Heap) : Prop :=
  (∃ (y5 : Int32), p8.toInt8.toInt32 = y5 ∧ v = none ∧ Keep h0 h [w0, w1] ∧ Exa Z h w0 "demitasse/interp/Bytes" ∧ Fld Z h w0 "demitasse/interp/Bytes" "bytes" "[B" (.ref w1) ∧ Fld Z h w0 "demitasse/interp/Bytes" "length" "I" (.int (6 : Int32)) ∧ Exa Z h w1 "[B" ∧ Arv Z h w1 kw1 .byte (64 : Int32) [(.int p3), (.int p4), (.int p5), (.int p6), (.int p7), (.int y5)] (.int (0 : Int32)))
set_option maxRecDepth 65536 in
set_option maxHeartbeats 40000000 in
theorem rm_17 (l : Launch) (Z : State) (a0 : Array Value) (hw : ∀ d ∈ tables_1, d.before a0 Z = true) (ws : List Jvm.Cond) (w0 : Addr) (w1 : Addr) (kw1 : ClassId) (p3 : Int32) (p4 : Int32) (p5 : Int32) (p6 : Int32) (p7 : Int32) (p8 : Int32) (h0 : Heap) (n0 : Nat) (Z0 : n0 ≤ h0.size) (E_w0 : Exa Z h0 w0 "demitasse/interp/Bytes") (F_w0_bytes : Fld Z h0 w0 "demitasse/interp/Bytes" "bytes" "[B" (.ref w1)) (F_w0_length : Fld Z h0 w0 "demitasse/interp/Bytes" "length" "I" (.int (5 : Int32))) (g_w0 : n0 ≤ w0) (E_w1 : Exa Z h0 w1 "[B") (V_w1 : Arv Z h0 w1 kw1 .byte (64 : Int32) [(.int p3), (.int p4), (.int p5), (.int p6), (.int p7)] (.int (0 : Int32))) (g_w1 : n0 ≤ w1) (ne_w0_w1 : w0 ≠ w1) :
    MetFree l (⟨"demitasse/interp/Bytes", "u1", "(I)V"⟩ : MethodName) (head1 (Jvm.Cond.code (⟨"demitasse/interp/Bytes", "u1", "(I)V"⟩ : MethodName) prog_64_method_3_code 2 none :: ws) ({ frames := 1, cells := 0, slots := 0, locals := 13 } : Room)) (fun a U => a = #[(.ref w0), (.int p8)] ∧ Z.Warmed39 U.vm ∧ U.heap = h0) (fun _ _ _ _ _ => True) (fun _ U o U' => ∃ v L, o = .returned v ∧ (Fr n0 L ∧ Q_17 Z w0 w1 kw1 p3 p4 p5 p6 p7 p8 h0 n0 v U'.heap) ∧ FrameEnd U o U' L ({ frames := 1, cells := 0, slots := 0, locals := 13 } : Room).cells ({ frames := 1, cells := 0, slots := 0, locals := 13 } : Room).slots) := by
  refine own_enter (Q := Q_17 Z w0 w1 kw1 p3 p4 p5 p6 p7 p8 h0 n0) (F := fun m => mkF m 0 #[.val (.ref w0), .val (.int p8)] []) (plainFor_of_name pn_0) (fun m => by first | (simp [entryFrame, mkF, argsToLocals, Value.category]; done) | rfl) ?_
  intro p e s m below meth c s₁ B X0
  have K : Keep h0 h0 [w0, w1] := Keep.refl h0 _
  refine own_aloadN (pc' := 1) B X0 d5_0 rfl rfl rfl ?_
  refine own_iconst (pc' := 2) B X0 (z := (1 : Int32)) d5_1 rfl rfl ?_
  refine own_callP (pc' := 5) B X0 (own_w hw 28 rfl) (own_w hw 29 rfl) (own_w hw 30 rfl) (own_w hw 2 rfl) (own_w hw 3 rfl) (own_w hw 31 rfl) E_w0 (by decide) [(.int (1 : Int32))] [] (rm_18 l Z a0 hw [] w0 w1 kw1 (p3) (p4) (p5) (p6) (p7) h0 n0 (Nat.le_trans Z0 K.1) E_w0 F_w0_bytes F_w0_length g_w0 E_w1 V_w1 g_w1 ne_w0_w1) 0 (by decide) (by decide) rfl pd_1 rfl rfl (Nat.le_of_eq rfl) d5_2 rfl (k' := 0) (n' := 0) rfl rfl (by decide) (by decide) ?_
  intro T1 v1 h1 X1 q1
  obtain ⟨rfl, rfl⟩ := q1
  show own_Go p e below (T1.setTop (mkF m 5 #[.val (.ref w0), .val (.int p8)] [])) _
  refine own_aloadN (pc' := 6) B X1 d5_5 rfl rfl rfl ?_
  refine own_getfield (pc' := 9) B X1 (host := "") (Or.inl (own_w hw 11 rfl)) Via.refl F_w0_bytes d5_6 rfl ?_
  intro T2 X2
  refine own_aloadN (pc' := 10) B X2 d5_9 rfl rfl rfl ?_
  refine own_dup (pc' := 11) B X2 d5_10 rfl rfl ?_
  refine own_getfield (pc' := 14) B X2 (host := "") (Or.inl (own_w hw 32 rfl)) Via.refl F_w0_length d5_11 rfl ?_
  intro T3 X3
  refine own_dup_x1 (pc' := 15) B X3 d5_14 rfl rfl rfl ?_
  refine own_iconst (pc' := 16) B X3 (z := (1 : Int32)) d5_15 rfl rfl ?_
  refine own_iadd (pc' := 17) B X3 (z := (6 : Int32)) d5_16 rfl (by decide) ?_
  refine own_putfield (pc' := 20) B X3 (host := "") (Or.inl (own_w hw 32 rfl)) Via.refl F_w0_length E_w0 g_w0 (Or.inl (own_w hw 33 rfl)) (own_w hw 2 rfl) (ty := .int) (by decide) rfl rfl d5_17 rfl ?_
  intro T4 h4 X4 W4 F_w0_length
  replace E_w0 := E_w0.wr W4
  replace F_w0_bytes := F_w0_bytes.other W4 (Or.inr (slot_ne (Or.inl (own_w hw 12 rfl)) (Or.inl (own_w hw 33 rfl)) (by decide) (t := (.array .byte)) (t' := .int) (by decide) (by decide)))
  replace E_w1 := E_w1.wr W4
  replace V_w1 := V_w1.other W4 (Ne.symm ne_w0_w1)
  replace K := K.wr W4 (Or.inl (List.mem_of_getElem? (i := 0) rfl))
  refine own_iloadN (pc' := 21) B X4 d5_20 rfl rfl ?_
  obtain ⟨y5, hy5⟩ : ∃ z : Int32, p8.toInt8.toInt32 = z := ⟨_, rfl⟩
  refine own_i2b (pc' := 22) B X4 d5_21 rfl hy5 ?_
  replace V_w1 : Arv Z h4 w1 kw1 .byte (64 : Int32) [(.int p3), (.int p4), (.int p5), (.int p6), (.int p7), (.int (0 : Int32))] (.int (0 : Int32)) := V_w1.pad (pad_rep [(.int p3), (.int p4), (.int p5), (.int p6), (.int p7)] (.int (0 : Int32)) 1)
  refine own_bastore (pc' := 23) B X4 (x' := y5) V_w1 g_w1 ⟨by decide, by decide⟩ 5 (by decide) (Nat.le_of_ble_eq_true rfl) (own_idem_i2b hy5) d5_22 rfl ?_
  intro T6 h6 X6 W6 V_w1
  replace V_w1 : Arv Z h6 w1 kw1 .byte (64 : Int32) [(.int p3), (.int p4), (.int p5), (.int p6), (.int p7), (.int y5)] (.int (0 : Int32)) := V_w1
  replace E_w0 := E_w0.wr W6
  replace F_w0_bytes := F_w0_bytes.other W6 (Or.inl ne_w0_w1)
  replace F_w0_length := F_w0_length.other W6 (Or.inl ne_w0_w1)
  replace E_w1 := E_w1.wr W6
  replace K := K.wr W6 (Or.inl (List.mem_of_getElem? (i := 1) rfl))
  exact own_ret B X6 d5_23 (by decide) (by decide) (⟨y5, hy5, rfl, K, E_w0, F_w0_bytes, F_w0_length, E_w1, V_w1⟩)
def Q_14 (Z : State) (w0 : Addr) (w1 : Addr) (kw1 : ClassId) (p3 : Int32) (p4 : Int32) (p5 : Int32) (p6 : Int32) (p7 : Int32) (h0 : Heap) (n0 : Nat) (v : Option Value) (h : Heap) : Prop :=
  (∃ (y1 : Int32) (y3 : Int32) (y6 : Int32), (p7.toUInt32 >>> ((8 : Int32) &&& 31).toUInt32).toInt32 = y1 ∧ y1.toInt8.toInt32 = y3 ∧ p7.toInt8.toInt32 = y6 ∧ v = none ∧ Keep h0 h [w0, w1] ∧ Exa Z h w0 "demitasse/interp/Bytes" ∧ Fld Z h w0 "demitasse/interp/Bytes" "bytes" "[B" (.ref w1) ∧ Fld Z h w0 "demitasse/interp/Bytes" "length" "I" (.int (6 : Int32)) ∧ Exa Z h w1 "[B" ∧ Arv Z h w1 kw1 .byte (64 : Int32) [(.int p3), (.int p4), (.int p5), (.int p6), (.int y3), (.int y6)] (.int (0 : Int32)))
set_option maxRecDepth 65536 in
set_option maxHeartbeats 40000000 in
theorem rm_14 (l : Launch) (Z : State) (a0 : Array Value) (hw : ∀ d ∈ tables_1, d.before a0 Z = true) (ws : List Jvm.Cond) (w0 : Addr) (w1 : Addr) (kw1 : ClassId) (p3 : Int32) (p4 : Int32) (p5 : Int32) (p6 : Int32) (p7 : Int32) (h0 : Heap) (n0 : Nat) (Z0 : n0 ≤ h0.size) (E_w0 : Exa Z h0 w0 "demitasse/interp/Bytes") (F_w0_bytes : Fld Z h0 w0 "demitasse/interp/Bytes" "bytes" "[B" (.ref w1)) (F_w0_length : Fld Z h0 w0 "demitasse/interp/Bytes" "length" "I" (.int (4 : Int32))) (g_w0 : n0 ≤ w0) (E_w1 : Exa Z h0 w1 "[B") (V_w1 : Arv Z h0 w1 kw1 .byte (64 : Int32) [(.int p3), (.int p4), (.int p5), (.int p6)] (.int (0 : Int32))) (g_w1 : n0 ≤ w1) (ne_w0_w1 : w0 ≠ w1) :
    MetFree l (⟨"demitasse/interp/Bytes", "u2", "(I)V"⟩ : MethodName) (head1 (Jvm.Cond.code (⟨"demitasse/interp/Bytes", "u2", "(I)V"⟩ : MethodName) prog_64_method_4_code 2 none :: ws) ({ frames := 2, cells := 0, slots := 0, locals := 26 } : Room)) (fun a U => a = #[(.ref w0), (.int p7)] ∧ Z.Warmed39 U.vm ∧ U.heap = h0) (fun _ _ _ _ _ => True) (fun _ U o U' => ∃ v L, o = .returned v ∧ (Fr n0 L ∧ Q_14 Z w0 w1 kw1 p3 p4 p5 p6 p7 h0 n0 v U'.heap) ∧ FrameEnd U o U' L ({ frames := 2, cells := 0, slots := 0, locals := 26 } : Room).cells ({ frames := 2, cells := 0, slots := 0, locals := 26 } : Room).slots) := by
  refine own_enter (Q := Q_14 Z w0 w1 kw1 p3 p4 p5 p6 p7 h0 n0) (F := fun m => mkF m 0 #[.val (.ref w0), .val (.int p7)] []) (plainFor_of_name pn_0) (fun m => by first | (simp [entryFrame, mkF, argsToLocals, Value.category]; done) | rfl) ?_
  intro p e s m below meth c s₁ B X0
  have K : Keep h0 h0 [w0, w1] := Keep.refl h0 _
  refine own_aloadN (pc' := 1) B X0 d4_0 rfl rfl rfl ?_
  refine own_iloadN (pc' := 2) B X0 d4_1 rfl rfl ?_
  refine own_bipush (pc' := 4) B X0 (z := (8 : Int32)) d4_2 rfl (by decide) ?_
  obtain ⟨y1, hy1⟩ : ∃ z : Int32, (p7.toUInt32 >>> ((8 : Int32) &&& 31).toUInt32).toInt32 = z := ⟨_, rfl⟩
  refine own_iushr (pc' := 5) B X0 d4_4 rfl hy1 ?_
  refine own_callV (pc' := 8) B X0 (own_w hw 23 rfl) (own_w hw 24 rfl) (own_w hw 26 rfl) (own_w hw 25 rfl) (own_w hw 3 rfl) (own_w hw 27 rfl) E_w0 (by decide) [(.int y1)] [] (rm_15 l Z a0 hw [] w0 w1 kw1 (p3) (p4) (p5) (p6) (y1) h0 n0 (Nat.le_trans Z0 K.1) E_w0 F_w0_bytes F_w0_length g_w0 E_w1 V_w1 g_w1 ne_w0_w1) 0 (by decide) (by decide) rfl pd_1 rfl rfl (Nat.le_of_eq rfl) d4_5 rfl (k' := 0) (n' := 0) rfl rfl (by decide) (by decide) ?_
  intro T2 v2 h2 X2 q2
  obtain ⟨y3, hy4, rfl, K2, E_w0, F_w0_bytes, F_w0_length, E_w1, V_w1⟩ := q2
  replace K := K.trans K2 (allS (Or.inl (List.mem_of_getElem? (i := 0) rfl)) (allS (Or.inl (List.mem_of_getElem? (i := 1) rfl)) all0))
  show own_Go p e below (T2.setTop (mkF m 8 #[.val (.ref w0), .val (.int p7)] [])) _
  refine own_aloadN (pc' := 9) B X2 d4_8 rfl rfl rfl ?_
  refine own_iloadN (pc' := 10) B X2 d4_9 rfl rfl ?_
  refine own_callV (pc' := 13) B X2 (own_w hw 23 rfl) (own_w hw 24 rfl) (own_w hw 26 rfl) (own_w hw 25 rfl) (own_w hw 3 rfl) (own_w hw 27 rfl) E_w0 (by decide) [(.int p7)] [] (rm_17 l Z a0 hw [] w0 w1 kw1 (p3) (p4) (p5) (p6) (y3) (p7) h2 n0 (Nat.le_trans Z0 K.1) E_w0 F_w0_bytes F_w0_length g_w0 E_w1 V_w1 g_w1 ne_w0_w1) 0 (by decide) (by decide) rfl pd_1 rfl rfl (Nat.le_of_eq rfl) d4_10 rfl (k' := 0) (n' := 0) rfl rfl (by decide) (by decide) ?_
  intro T5 v5 h5 X5 q5
  obtain ⟨y6, hy7, rfl, K5, E_w0, F_w0_bytes, F_w0_length, E_w1, V_w1⟩ := q5
  replace K := K.trans K5 (allS (Or.inl (List.mem_of_getElem? (i := 0) rfl)) (allS (Or.inl (List.mem_of_getElem? (i := 1) rfl)) all0))
  show own_Go p e below (T5.setTop (mkF m 13 #[.val (.ref w0), .val (.int p7)] [])) _
  exact own_ret B X5 d4_13 (by decide) (by decide) (⟨y1, y3, y6, hy1, hy4, hy7, rfl, K, E_w0, F_w0_bytes, F_w0_length, E_w1, V_w1⟩)
def Q_21 (Z : State) (w0 : Addr) (w1 : Addr) (kw1 : ClassId) (p3 : Int32) (p4 : Int32) (p5 : Int32) (p6 : Int32) (p7 : Int32) (p8 : Int32) (h0 : Heap) (n0 : Nat) (v : Option Value) (h : Heap) : Prop :=
  (v = none ∧ h0 = h)
set_option maxRecDepth 65536 in
set_option maxHeartbeats 40000000 in
theorem rm_21 (l : Launch) (Z : State) (a0 : Array Value) (hw : ∀ d ∈ tables_1, d.before a0 Z = true) (ws : List Jvm.Cond) (w0 : Addr) (w1 : Addr) (kw1 : ClassId) (p3 : Int32) (p4 : Int32) (p5 : Int32) (p6 : Int32) (p7 : Int32) (p8 : Int32) (h0 : Heap) (n0 : Nat) (Z0 : n0 ≤ h0.size) (E_w0 : Exa Z h0 w0 "demitasse/interp/Bytes") (F_w0_bytes : Fld Z h0 w0 "demitasse/interp/Bytes" "bytes" "[B" (.ref w1)) (F_w0_length : Fld Z h0 w0 "demitasse/interp/Bytes" "length" "I" (.int (6 : Int32))) (g_w0 : n0 ≤ w0) (E_w1 : Exa Z h0 w1 "[B") (V_w1 : Arv Z h0 w1 kw1 .byte (64 : Int32) [(.int p3), (.int p4), (.int p5), (.int p6), (.int p7), (.int p8)] (.int (0 : Int32))) (g_w1 : n0 ≤ w1) (ne_w0_w1 : w0 ≠ w1) :
    MetFree l (⟨"demitasse/interp/Bytes", "makeRoom", "(I)V"⟩ : MethodName) (head1 (Jvm.Cond.code (⟨"demitasse/interp/Bytes", "makeRoom", "(I)V"⟩ : MethodName) prog_64_method_10_code 2 none :: ws) ({ frames := 0, cells := 0, slots := 0, locals := 0 } : Room)) (fun a U => a = #[(.ref w0), (.int (1 : Int32))] ∧ Z.Warmed39 U.vm ∧ U.heap = h0) (fun _ _ _ _ _ => True) (fun _ U o U' => ∃ v L, o = .returned v ∧ (Fr n0 L ∧ Q_21 Z w0 w1 kw1 p3 p4 p5 p6 p7 p8 h0 n0 v U'.heap) ∧ FrameEnd U o U' L ({ frames := 0, cells := 0, slots := 0, locals := 0 } : Room).cells ({ frames := 0, cells := 0, slots := 0, locals := 0 } : Room).slots) := by
  refine own_enter (Q := Q_21 Z w0 w1 kw1 p3 p4 p5 p6 p7 p8 h0 n0) (F := fun m => mkF m 0 #[.val (.ref w0), .val (.int (1 : Int32))] []) (plainFor_of_name pn_0) (fun m => by first | (simp [entryFrame, mkF, argsToLocals, Value.category]; done) | rfl) ?_
  intro p e s m below meth c s₁ B X0
  have K : Keep h0 h0 [] := Keep.refl h0 _
  refine own_aloadN (pc' := 1) B X0 d6_0 rfl rfl rfl ?_
  refine own_getfield (pc' := 4) B X0 (host := "") (Or.inl (own_w hw 32 rfl)) Via.refl F_w0_length d6_1 rfl ?_
  intro T1 X1
  refine own_iloadN (pc' := 5) B X1 d6_4 rfl rfl ?_
  refine own_iadd (pc' := 6) B X1 (z := (7 : Int32)) d6_5 rfl (by decide) ?_
  refine own_aloadN (pc' := 7) B X1 d6_6 rfl rfl rfl ?_
  refine own_getfield (pc' := 10) B X1 (host := "") (Or.inl (own_w hw 11 rfl)) Via.refl F_w0_bytes d6_7 rfl ?_
  intro T2 X2
  refine own_arraylength (pc' := 11) B X2 V_w1 d6_10 rfl ?_
  refine own_icmpYes (pc' := 41) B X2 d6_11 (flt (by decide : ¬ ((64 : Int32) < (7 : Int32)))).2.2.2 (by decide) rfl ?_
  exact own_ret B X2 d6_41 (by decide) (by decide) (⟨rfl, rfl⟩)
def Q_20 (Z : State) (w0 : Addr) (w1 : Addr) (kw1 : ClassId) (p3 : Int32) (p4 : Int32) (p5 : Int32) (p6 : Int32) (p7 : Int32) (p8 : Int32) (p9 : Int32) (h0 : Heap) (n0 : Nat) (v : Option Value) (h : Heap) : Prop :=
  (∃ (y5 : Int32), p9.toInt8.toInt32 = y5 ∧ v = none ∧ Keep h0 h [w0, w1] ∧ Exa Z h w0 "demitasse/interp/Bytes" ∧ Fld Z h w0 "demitasse/interp/Bytes" "bytes" "[B" (.ref w1) ∧ Fld Z h w0 "demitasse/interp/Bytes" "length" "I" (.int (7 : Int32)) ∧ Exa Z h w1 "[B" ∧ Arv Z h w1 kw1 .byte (64 : Int32) [(.int p3), (.int p4), (.int p5), (.int p6), (.int p7), (.int p8), (.int y5)] (.int (0 : Int32)))
set_option maxRecDepth 65536 in
set_option maxHeartbeats 40000000 in
theorem rm_20 (l : Launch) (Z : State) (a0 : Array Value) (hw : ∀ d ∈ tables_1, d.before a0 Z = true) (ws : List Jvm.Cond) (w0 : Addr) (w1 : Addr) (kw1 : ClassId) (p3 : Int32) (p4 : Int32) (p5 : Int32) (p6 : Int32) (p7 : Int32) (p8 : Int32) (p9 : Int32) (h0 : Heap) (n0 : Nat) (Z0 : n0 ≤ h0.size) (E_w0 : Exa Z h0 w0 "demitasse/interp/Bytes") (F_w0_bytes : Fld Z h0 w0 "demitasse/interp/Bytes" "bytes" "[B" (.ref w1)) (F_w0_length : Fld Z h0 w0 "demitasse/interp/Bytes" "length" "I" (.int (6 : Int32))) (g_w0 : n0 ≤ w0) (E_w1 : Exa Z h0 w1 "[B") (V_w1 : Arv Z h0 w1 kw1 .byte (64 : Int32) [(.int p3), (.int p4), (.int p5), (.int p6), (.int p7), (.int p8)] (.int (0 : Int32))) (g_w1 : n0 ≤ w1) (ne_w0_w1 : w0 ≠ w1) :
    MetFree l (⟨"demitasse/interp/Bytes", "u1", "(I)V"⟩ : MethodName) (head1 (Jvm.Cond.code (⟨"demitasse/interp/Bytes", "u1", "(I)V"⟩ : MethodName) prog_64_method_3_code 2 none :: ws) ({ frames := 1, cells := 0, slots := 0, locals := 13 } : Room)) (fun a U => a = #[(.ref w0), (.int p9)] ∧ Z.Warmed39 U.vm ∧ U.heap = h0) (fun _ _ _ _ _ => True) (fun _ U o U' => ∃ v L, o = .returned v ∧ (Fr n0 L ∧ Q_20 Z w0 w1 kw1 p3 p4 p5 p6 p7 p8 p9 h0 n0 v U'.heap) ∧ FrameEnd U o U' L ({ frames := 1, cells := 0, slots := 0, locals := 13 } : Room).cells ({ frames := 1, cells := 0, slots := 0, locals := 13 } : Room).slots) := by
  refine own_enter (Q := Q_20 Z w0 w1 kw1 p3 p4 p5 p6 p7 p8 p9 h0 n0) (F := fun m => mkF m 0 #[.val (.ref w0), .val (.int p9)] []) (plainFor_of_name pn_0) (fun m => by first | (simp [entryFrame, mkF, argsToLocals, Value.category]; done) | rfl) ?_
  intro p e s m below meth c s₁ B X0
  have K : Keep h0 h0 [w0, w1] := Keep.refl h0 _
  refine own_aloadN (pc' := 1) B X0 d5_0 rfl rfl rfl ?_
  refine own_iconst (pc' := 2) B X0 (z := (1 : Int32)) d5_1 rfl rfl ?_
  refine own_callP (pc' := 5) B X0 (own_w hw 28 rfl) (own_w hw 29 rfl) (own_w hw 30 rfl) (own_w hw 2 rfl) (own_w hw 3 rfl) (own_w hw 31 rfl) E_w0 (by decide) [(.int (1 : Int32))] [] (rm_21 l Z a0 hw [] w0 w1 kw1 (p3) (p4) (p5) (p6) (p7) (p8) h0 n0 (Nat.le_trans Z0 K.1) E_w0 F_w0_bytes F_w0_length g_w0 E_w1 V_w1 g_w1 ne_w0_w1) 0 (by decide) (by decide) rfl pd_1 rfl rfl (Nat.le_of_eq rfl) d5_2 rfl (k' := 0) (n' := 0) rfl rfl (by decide) (by decide) ?_
  intro T1 v1 h1 X1 q1
  obtain ⟨rfl, rfl⟩ := q1
  show own_Go p e below (T1.setTop (mkF m 5 #[.val (.ref w0), .val (.int p9)] [])) _
  refine own_aloadN (pc' := 6) B X1 d5_5 rfl rfl rfl ?_
  refine own_getfield (pc' := 9) B X1 (host := "") (Or.inl (own_w hw 11 rfl)) Via.refl F_w0_bytes d5_6 rfl ?_
  intro T2 X2
  refine own_aloadN (pc' := 10) B X2 d5_9 rfl rfl rfl ?_
  refine own_dup (pc' := 11) B X2 d5_10 rfl rfl ?_
  refine own_getfield (pc' := 14) B X2 (host := "") (Or.inl (own_w hw 32 rfl)) Via.refl F_w0_length d5_11 rfl ?_
  intro T3 X3
  refine own_dup_x1 (pc' := 15) B X3 d5_14 rfl rfl rfl ?_
  refine own_iconst (pc' := 16) B X3 (z := (1 : Int32)) d5_15 rfl rfl ?_
  refine own_iadd (pc' := 17) B X3 (z := (7 : Int32)) d5_16 rfl (by decide) ?_
  refine own_putfield (pc' := 20) B X3 (host := "") (Or.inl (own_w hw 32 rfl)) Via.refl F_w0_length E_w0 g_w0 (Or.inl (own_w hw 33 rfl)) (own_w hw 2 rfl) (ty := .int) (by decide) rfl rfl d5_17 rfl ?_
  intro T4 h4 X4 W4 F_w0_length
  replace E_w0 := E_w0.wr W4
  replace F_w0_bytes := F_w0_bytes.other W4 (Or.inr (slot_ne (Or.inl (own_w hw 12 rfl)) (Or.inl (own_w hw 33 rfl)) (by decide) (t := (.array .byte)) (t' := .int) (by decide) (by decide)))
  replace E_w1 := E_w1.wr W4
  replace V_w1 := V_w1.other W4 (Ne.symm ne_w0_w1)
  replace K := K.wr W4 (Or.inl (List.mem_of_getElem? (i := 0) rfl))
  refine own_iloadN (pc' := 21) B X4 d5_20 rfl rfl ?_
  obtain ⟨y5, hy5⟩ : ∃ z : Int32, p9.toInt8.toInt32 = z := ⟨_, rfl⟩
  refine own_i2b (pc' := 22) B X4 d5_21 rfl hy5 ?_
  replace V_w1 : Arv Z h4 w1 kw1 .byte (64 : Int32) [(.int p3), (.int p4), (.int p5), (.int p6), (.int p7), (.int p8), (.int (0 : Int32))] (.int (0 : Int32)) := V_w1.pad (pad_rep [(.int p3), (.int p4), (.int p5), (.int p6), (.int p7), (.int p8)] (.int (0 : Int32)) 1)
  refine own_bastore (pc' := 23) B X4 (x' := y5) V_w1 g_w1 ⟨by decide, by decide⟩ 6 (by decide) (Nat.le_of_ble_eq_true rfl) (own_idem_i2b hy5) d5_22 rfl ?_
  intro T6 h6 X6 W6 V_w1
  replace V_w1 : Arv Z h6 w1 kw1 .byte (64 : Int32) [(.int p3), (.int p4), (.int p5), (.int p6), (.int p7), (.int p8), (.int y5)] (.int (0 : Int32)) := V_w1
  replace E_w0 := E_w0.wr W6
  replace F_w0_bytes := F_w0_bytes.other W6 (Or.inl ne_w0_w1)
  replace F_w0_length := F_w0_length.other W6 (Or.inl ne_w0_w1)
  replace E_w1 := E_w1.wr W6
  replace K := K.wr W6 (Or.inl (List.mem_of_getElem? (i := 1) rfl))
  exact own_ret B X6 d5_23 (by decide) (by decide) (⟨y5, hy5, rfl, K, E_w0, F_w0_bytes, F_w0_length, E_w1, V_w1⟩)
def Q_23 (Z : State) (w0 : Addr) (w1 : Addr) (kw1 : ClassId) (p3 : Int32) (p4 : Int32) (p5 : Int32) (p6 : Int32) (p7 : Int32) (p8 : Int32) (p9 : Int32) (h0 : Heap) (n0 : Nat) (v : Option Value) (h : Heap) : Prop :=
  (v = none ∧ h0 = h)
set_option maxRecDepth 65536 in
set_option maxHeartbeats 40000000 in
theorem rm_23 (l : Launch) (Z : State) (a0 : Array Value) (hw : ∀ d ∈ tables_1, d.before a0 Z = true) (ws : List Jvm.Cond) (w0 : Addr) (w1 : Addr) (kw1 : ClassId) (p3 : Int32) (p4 : Int32) (p5 : Int32) (p6 : Int32) (p7 : Int32) (p8 : Int32) (p9 : Int32) (h0 : Heap) (n0 : Nat) (Z0 : n0 ≤ h0.size) (E_w0 : Exa Z h0 w0 "demitasse/interp/Bytes") (F_w0_bytes : Fld Z h0 w0 "demitasse/interp/Bytes" "bytes" "[B" (.ref w1)) (F_w0_length : Fld Z h0 w0 "demitasse/interp/Bytes" "length" "I" (.int (7 : Int32))) (g_w0 : n0 ≤ w0) (E_w1 : Exa Z h0 w1 "[B") (V_w1 : Arv Z h0 w1 kw1 .byte (64 : Int32) [(.int p3), (.int p4), (.int p5), (.int p6), (.int p7), (.int p8), (.int p9)] (.int (0 : Int32))) (g_w1 : n0 ≤ w1) (ne_w0_w1 : w0 ≠ w1) :
    MetFree l (⟨"demitasse/interp/Bytes", "makeRoom", "(I)V"⟩ : MethodName) (head1 (Jvm.Cond.code (⟨"demitasse/interp/Bytes", "makeRoom", "(I)V"⟩ : MethodName) prog_64_method_10_code 2 none :: ws) ({ frames := 0, cells := 0, slots := 0, locals := 0 } : Room)) (fun a U => a = #[(.ref w0), (.int (1 : Int32))] ∧ Z.Warmed39 U.vm ∧ U.heap = h0) (fun _ _ _ _ _ => True) (fun _ U o U' => ∃ v L, o = .returned v ∧ (Fr n0 L ∧ Q_23 Z w0 w1 kw1 p3 p4 p5 p6 p7 p8 p9 h0 n0 v U'.heap) ∧ FrameEnd U o U' L ({ frames := 0, cells := 0, slots := 0, locals := 0 } : Room).cells ({ frames := 0, cells := 0, slots := 0, locals := 0 } : Room).slots) := by
  refine own_enter (Q := Q_23 Z w0 w1 kw1 p3 p4 p5 p6 p7 p8 p9 h0 n0) (F := fun m => mkF m 0 #[.val (.ref w0), .val (.int (1 : Int32))] []) (plainFor_of_name pn_0) (fun m => by first | (simp [entryFrame, mkF, argsToLocals, Value.category]; done) | rfl) ?_
  intro p e s m below meth c s₁ B X0
  have K : Keep h0 h0 [] := Keep.refl h0 _
  refine own_aloadN (pc' := 1) B X0 d6_0 rfl rfl rfl ?_
  refine own_getfield (pc' := 4) B X0 (host := "") (Or.inl (own_w hw 32 rfl)) Via.refl F_w0_length d6_1 rfl ?_
  intro T1 X1
  refine own_iloadN (pc' := 5) B X1 d6_4 rfl rfl ?_
  refine own_iadd (pc' := 6) B X1 (z := (8 : Int32)) d6_5 rfl (by decide) ?_
  refine own_aloadN (pc' := 7) B X1 d6_6 rfl rfl rfl ?_
  refine own_getfield (pc' := 10) B X1 (host := "") (Or.inl (own_w hw 11 rfl)) Via.refl F_w0_bytes d6_7 rfl ?_
  intro T2 X2
  refine own_arraylength (pc' := 11) B X2 V_w1 d6_10 rfl ?_
  refine own_icmpYes (pc' := 41) B X2 d6_11 (flt (by decide : ¬ ((64 : Int32) < (8 : Int32)))).2.2.2 (by decide) rfl ?_
  exact own_ret B X2 d6_41 (by decide) (by decide) (⟨rfl, rfl⟩)
def Q_22 (Z : State) (w0 : Addr) (w1 : Addr) (kw1 : ClassId) (p3 : Int32) (p4 : Int32) (p5 : Int32) (p6 : Int32) (p7 : Int32) (p8 : Int32) (p9 : Int32) (p10 : Int32) (h0 : Heap) (n0 : Nat) (v : Option Value) (h : Heap) : Prop :=
  (∃ (y5 : Int32), p10.toInt8.toInt32 = y5 ∧ v = none ∧ Keep h0 h [w0, w1] ∧ Exa Z h w0 "demitasse/interp/Bytes" ∧ Fld Z h w0 "demitasse/interp/Bytes" "bytes" "[B" (.ref w1) ∧ Fld Z h w0 "demitasse/interp/Bytes" "length" "I" (.int (8 : Int32)) ∧ Exa Z h w1 "[B" ∧ Arv Z h w1 kw1 .byte (64 : Int32) [(.int p3), (.int p4), (.int p5), (.int p6), (.int p7), (.int p8), (.int p9), (.int y5)] (.int (0 : Int32)))
set_option maxRecDepth 65536 in
set_option maxHeartbeats 40000000 in
theorem rm_22 (l : Launch) (Z : State) (a0 : Array Value) (hw : ∀ d ∈ tables_1, d.before a0 Z = true) (ws : List Jvm.Cond) (w0 : Addr) (w1 : Addr) (kw1 : ClassId) (p3 : Int32) (p4 : Int32) (p5 : Int32) (p6 : Int32) (p7 : Int32) (p8 : Int32) (p9 : Int32) (p10 : Int32) (h0 : Heap) (n0 : Nat) (Z0 : n0 ≤ h0.size) (E_w0 : Exa Z h0 w0 "demitasse/interp/Bytes") (F_w0_bytes : Fld Z h0 w0 "demitasse/interp/Bytes" "bytes" "[B" (.ref w1)) (F_w0_length : Fld Z h0 w0 "demitasse/interp/Bytes" "length" "I" (.int (7 : Int32))) (g_w0 : n0 ≤ w0) (E_w1 : Exa Z h0 w1 "[B") (V_w1 : Arv Z h0 w1 kw1 .byte (64 : Int32) [(.int p3), (.int p4), (.int p5), (.int p6), (.int p7), (.int p8), (.int p9)] (.int (0 : Int32))) (g_w1 : n0 ≤ w1) (ne_w0_w1 : w0 ≠ w1) :
    MetFree l (⟨"demitasse/interp/Bytes", "u1", "(I)V"⟩ : MethodName) (head1 (Jvm.Cond.code (⟨"demitasse/interp/Bytes", "u1", "(I)V"⟩ : MethodName) prog_64_method_3_code 2 none :: ws) ({ frames := 1, cells := 0, slots := 0, locals := 13 } : Room)) (fun a U => a = #[(.ref w0), (.int p10)] ∧ Z.Warmed39 U.vm ∧ U.heap = h0) (fun _ _ _ _ _ => True) (fun _ U o U' => ∃ v L, o = .returned v ∧ (Fr n0 L ∧ Q_22 Z w0 w1 kw1 p3 p4 p5 p6 p7 p8 p9 p10 h0 n0 v U'.heap) ∧ FrameEnd U o U' L ({ frames := 1, cells := 0, slots := 0, locals := 13 } : Room).cells ({ frames := 1, cells := 0, slots := 0, locals := 13 } : Room).slots) := by
  refine own_enter (Q := Q_22 Z w0 w1 kw1 p3 p4 p5 p6 p7 p8 p9 p10 h0 n0) (F := fun m => mkF m 0 #[.val (.ref w0), .val (.int p10)] []) (plainFor_of_name pn_0) (fun m => by first | (simp [entryFrame, mkF, argsToLocals, Value.category]; done) | rfl) ?_
  intro p e s m below meth c s₁ B X0
  have K : Keep h0 h0 [w0, w1] := Keep.refl h0 _
  refine own_aloadN (pc' := 1) B X0 d5_0 rfl rfl rfl ?_
  refine own_iconst (pc' := 2) B X0 (z := (1 : Int32)) d5_1 rfl rfl ?_
  refine own_callP (pc' := 5) B X0 (own_w hw 28 rfl) (own_w hw 29 rfl) (own_w hw 30 rfl) (own_w hw 2 rfl) (own_w hw 3 rfl) (own_w hw 31 rfl) E_w0 (by decide) [(.int (1 : Int32))] [] (rm_23 l Z a0 hw [] w0 w1 kw1 (p3) (p4) (p5) (p6) (p7) (p8) (p9) h0 n0 (Nat.le_trans Z0 K.1) E_w0 F_w0_bytes F_w0_length g_w0 E_w1 V_w1 g_w1 ne_w0_w1) 0 (by decide) (by decide) rfl pd_1 rfl rfl (Nat.le_of_eq rfl) d5_2 rfl (k' := 0) (n' := 0) rfl rfl (by decide) (by decide) ?_
  intro T1 v1 h1 X1 q1
  obtain ⟨rfl, rfl⟩ := q1
  show own_Go p e below (T1.setTop (mkF m 5 #[.val (.ref w0), .val (.int p10)] [])) _
  refine own_aloadN (pc' := 6) B X1 d5_5 rfl rfl rfl ?_
  refine own_getfield (pc' := 9) B X1 (host := "") (Or.inl (own_w hw 11 rfl)) Via.refl F_w0_bytes d5_6 rfl ?_
  intro T2 X2
  refine own_aloadN (pc' := 10) B X2 d5_9 rfl rfl rfl ?_
  refine own_dup (pc' := 11) B X2 d5_10 rfl rfl ?_
  refine own_getfield (pc' := 14) B X2 (host := "") (Or.inl (own_w hw 32 rfl)) Via.refl F_w0_length d5_11 rfl ?_
  intro T3 X3
  refine own_dup_x1 (pc' := 15) B X3 d5_14 rfl rfl rfl ?_
  refine own_iconst (pc' := 16) B X3 (z := (1 : Int32)) d5_15 rfl rfl ?_
  refine own_iadd (pc' := 17) B X3 (z := (8 : Int32)) d5_16 rfl (by decide) ?_
  refine own_putfield (pc' := 20) B X3 (host := "") (Or.inl (own_w hw 32 rfl)) Via.refl F_w0_length E_w0 g_w0 (Or.inl (own_w hw 33 rfl)) (own_w hw 2 rfl) (ty := .int) (by decide) rfl rfl d5_17 rfl ?_
  intro T4 h4 X4 W4 F_w0_length
  replace E_w0 := E_w0.wr W4
  replace F_w0_bytes := F_w0_bytes.other W4 (Or.inr (slot_ne (Or.inl (own_w hw 12 rfl)) (Or.inl (own_w hw 33 rfl)) (by decide) (t := (.array .byte)) (t' := .int) (by decide) (by decide)))
  replace E_w1 := E_w1.wr W4
  replace V_w1 := V_w1.other W4 (Ne.symm ne_w0_w1)
  replace K := K.wr W4 (Or.inl (List.mem_of_getElem? (i := 0) rfl))
  refine own_iloadN (pc' := 21) B X4 d5_20 rfl rfl ?_
  obtain ⟨y5, hy5⟩ : ∃ z : Int32, p10.toInt8.toInt32 = z := ⟨_, rfl⟩
  refine own_i2b (pc' := 22) B X4 d5_21 rfl hy5 ?_
  replace V_w1 : Arv Z h4 w1 kw1 .byte (64 : Int32) [(.int p3), (.int p4), (.int p5), (.int p6), (.int p7), (.int p8), (.int p9), (.int (0 : Int32))] (.int (0 : Int32)) := V_w1.pad (pad_rep [(.int p3), (.int p4), (.int p5), (.int p6), (.int p7), (.int p8), (.int p9)] (.int (0 : Int32)) 1)
  refine own_bastore (pc' := 23) B X4 (x' := y5) V_w1 g_w1 ⟨by decide, by decide⟩ 7 (by decide) (Nat.le_of_ble_eq_true rfl) (own_idem_i2b hy5) d5_22 rfl ?_
  intro T6 h6 X6 W6 V_w1
  replace V_w1 : Arv Z h6 w1 kw1 .byte (64 : Int32) [(.int p3), (.int p4), (.int p5), (.int p6), (.int p7), (.int p8), (.int p9), (.int y5)] (.int (0 : Int32)) := V_w1
  replace E_w0 := E_w0.wr W6
  replace F_w0_bytes := F_w0_bytes.other W6 (Or.inl ne_w0_w1)
  replace F_w0_length := F_w0_length.other W6 (Or.inl ne_w0_w1)
  replace E_w1 := E_w1.wr W6
  replace K := K.wr W6 (Or.inl (List.mem_of_getElem? (i := 1) rfl))
  exact own_ret B X6 d5_23 (by decide) (by decide) (⟨y5, hy5, rfl, K, E_w0, F_w0_bytes, F_w0_length, E_w1, V_w1⟩)
def Q_19 (Z : State) (w0 : Addr) (w1 : Addr) (kw1 : ClassId) (p3 : Int32) (p4 : Int32) (p5 : Int32) (p6 : Int32) (p7 : Int32) (p8 : Int32) (p9 : Int32) (h0 : Heap) (n0 : Nat) (v : Option Value) (h : Heap) : Prop :=
  (∃ (y1 : Int32) (y3 : Int32) (y6 : Int32), (p9.toUInt32 >>> ((8 : Int32) &&& 31).toUInt32).toInt32 = y1 ∧ y1.toInt8.toInt32 = y3 ∧ p9.toInt8.toInt32 = y6 ∧ v = none ∧ Keep h0 h [w0, w1] ∧ Exa Z h w0 "demitasse/interp/Bytes" ∧ Fld Z h w0 "demitasse/interp/Bytes" "bytes" "[B" (.ref w1) ∧ Fld Z h w0 "demitasse/interp/Bytes" "length" "I" (.int (8 : Int32)) ∧ Exa Z h w1 "[B" ∧ Arv Z h w1 kw1 .byte (64 : Int32) [(.int p3), (.int p4), (.int p5), (.int p6), (.int p7), (.int p8), (.int y3), (.int y6)] (.int (0 : Int32)))
set_option maxRecDepth 65536 in
set_option maxHeartbeats 40000000 in
theorem rm_19 (l : Launch) (Z : State) (a0 : Array Value) (hw : ∀ d ∈ tables_1, d.before a0 Z = true) (ws : List Jvm.Cond) (w0 : Addr) (w1 : Addr) (kw1 : ClassId) (p3 : Int32) (p4 : Int32) (p5 : Int32) (p6 : Int32) (p7 : Int32) (p8 : Int32) (p9 : Int32) (h0 : Heap) (n0 : Nat) (Z0 : n0 ≤ h0.size) (E_w0 : Exa Z h0 w0 "demitasse/interp/Bytes") (F_w0_bytes : Fld Z h0 w0 "demitasse/interp/Bytes" "bytes" "[B" (.ref w1)) (F_w0_length : Fld Z h0 w0 "demitasse/interp/Bytes" "length" "I" (.int (6 : Int32))) (g_w0 : n0 ≤ w0) (E_w1 : Exa Z h0 w1 "[B") (V_w1 : Arv Z h0 w1 kw1 .byte (64 : Int32) [(.int p3), (.int p4), (.int p5), (.int p6), (.int p7), (.int p8)] (.int (0 : Int32))) (g_w1 : n0 ≤ w1) (ne_w0_w1 : w0 ≠ w1) :
    MetFree l (⟨"demitasse/interp/Bytes", "u2", "(I)V"⟩ : MethodName) (head1 (Jvm.Cond.code (⟨"demitasse/interp/Bytes", "u2", "(I)V"⟩ : MethodName) prog_64_method_4_code 2 none :: ws) ({ frames := 2, cells := 0, slots := 0, locals := 26 } : Room)) (fun a U => a = #[(.ref w0), (.int p9)] ∧ Z.Warmed39 U.vm ∧ U.heap = h0) (fun _ _ _ _ _ => True) (fun _ U o U' => ∃ v L, o = .returned v ∧ (Fr n0 L ∧ Q_19 Z w0 w1 kw1 p3 p4 p5 p6 p7 p8 p9 h0 n0 v U'.heap) ∧ FrameEnd U o U' L ({ frames := 2, cells := 0, slots := 0, locals := 26 } : Room).cells ({ frames := 2, cells := 0, slots := 0, locals := 26 } : Room).slots) := by
  refine own_enter (Q := Q_19 Z w0 w1 kw1 p3 p4 p5 p6 p7 p8 p9 h0 n0) (F := fun m => mkF m 0 #[.val (.ref w0), .val (.int p9)] []) (plainFor_of_name pn_0) (fun m => by first | (simp [entryFrame, mkF, argsToLocals, Value.category]; done) | rfl) ?_
  intro p e s m below meth c s₁ B X0
  have K : Keep h0 h0 [w0, w1] := Keep.refl h0 _
  refine own_aloadN (pc' := 1) B X0 d4_0 rfl rfl rfl ?_
  refine own_iloadN (pc' := 2) B X0 d4_1 rfl rfl ?_
  refine own_bipush (pc' := 4) B X0 (z := (8 : Int32)) d4_2 rfl (by decide) ?_
  obtain ⟨y1, hy1⟩ : ∃ z : Int32, (p9.toUInt32 >>> ((8 : Int32) &&& 31).toUInt32).toInt32 = z := ⟨_, rfl⟩
  refine own_iushr (pc' := 5) B X0 d4_4 rfl hy1 ?_
  refine own_callV (pc' := 8) B X0 (own_w hw 23 rfl) (own_w hw 24 rfl) (own_w hw 26 rfl) (own_w hw 25 rfl) (own_w hw 3 rfl) (own_w hw 27 rfl) E_w0 (by decide) [(.int y1)] [] (rm_20 l Z a0 hw [] w0 w1 kw1 (p3) (p4) (p5) (p6) (p7) (p8) (y1) h0 n0 (Nat.le_trans Z0 K.1) E_w0 F_w0_bytes F_w0_length g_w0 E_w1 V_w1 g_w1 ne_w0_w1) 0 (by decide) (by decide) rfl pd_1 rfl rfl (Nat.le_of_eq rfl) d4_5 rfl (k' := 0) (n' := 0) rfl rfl (by decide) (by decide) ?_
  intro T2 v2 h2 X2 q2
  obtain ⟨y3, hy4, rfl, K2, E_w0, F_w0_bytes, F_w0_length, E_w1, V_w1⟩ := q2
  replace K := K.trans K2 (allS (Or.inl (List.mem_of_getElem? (i := 0) rfl)) (allS (Or.inl (List.mem_of_getElem? (i := 1) rfl)) all0))
  show own_Go p e below (T2.setTop (mkF m 8 #[.val (.ref w0), .val (.int p9)] [])) _
  refine own_aloadN (pc' := 9) B X2 d4_8 rfl rfl rfl ?_
  refine own_iloadN (pc' := 10) B X2 d4_9 rfl rfl ?_
  refine own_callV (pc' := 13) B X2 (own_w hw 23 rfl) (own_w hw 24 rfl) (own_w hw 26 rfl) (own_w hw 25 rfl) (own_w hw 3 rfl) (own_w hw 27 rfl) E_w0 (by decide) [(.int p9)] [] (rm_22 l Z a0 hw [] w0 w1 kw1 (p3) (p4) (p5) (p6) (p7) (p8) (y3) (p9) h2 n0 (Nat.le_trans Z0 K.1) E_w0 F_w0_bytes F_w0_length g_w0 E_w1 V_w1 g_w1 ne_w0_w1) 0 (by decide) (by decide) rfl pd_1 rfl rfl (Nat.le_of_eq rfl) d4_10 rfl (k' := 0) (n' := 0) rfl rfl (by decide) (by decide) ?_
  intro T5 v5 h5 X5 q5
  obtain ⟨y6, hy7, rfl, K5, E_w0, F_w0_bytes, F_w0_length, E_w1, V_w1⟩ := q5
  replace K := K.trans K5 (allS (Or.inl (List.mem_of_getElem? (i := 0) rfl)) (allS (Or.inl (List.mem_of_getElem? (i := 1) rfl)) all0))
  show own_Go p e below (T5.setTop (mkF m 13 #[.val (.ref w0), .val (.int p9)] [])) _
  exact own_ret B X5 d4_13 (by decide) (by decide) (⟨y1, y3, y6, hy1, hy4, hy7, rfl, K, E_w0, F_w0_bytes, F_w0_length, E_w1, V_w1⟩)
def Q_13 (Z : State) (w0 : Addr) (w1 : Addr) (kw1 : ClassId) (p3 : Int32) (p4 : Int32) (p5 : Int32) (p6 : Int32) (p7 : Int32) (h0 : Heap) (n0 : Nat) (v : Option Value) (h : Heap) : Prop :=
  (∃ (y1 : Int32) (y3 : Int32) (y4 : Int32) (y5 : Int32) (y10 : Int32) (y11 : Int32) (y12 : Int32), (p7.toUInt32 >>> ((16 : Int32) &&& 31).toUInt32).toInt32 = y1 ∧ (y1.toUInt32 >>> ((8 : Int32) &&& 31).toUInt32).toInt32 = y3 ∧ y3.toInt8.toInt32 = y4 ∧ y1.toInt8.toInt32 = y5 ∧ (p7.toUInt32 >>> ((8 : Int32) &&& 31).toUInt32).toInt32 = y10 ∧ y10.toInt8.toInt32 = y11 ∧ p7.toInt8.toInt32 = y12 ∧ v = none ∧ Keep h0 h [w0, w1] ∧ Exa Z h w0 "demitasse/interp/Bytes" ∧ Fld Z h w0 "demitasse/interp/Bytes" "bytes" "[B" (.ref w1) ∧ Fld Z h w0 "demitasse/interp/Bytes" "length" "I" (.int (8 : Int32)) ∧ Exa Z h w1 "[B" ∧ Arv Z h w1 kw1 .byte (64 : Int32) [(.int p3), (.int p4), (.int p5), (.int p6), (.int y4), (.int y5), (.int y11), (.int y12)] (.int (0 : Int32)))
set_option maxRecDepth 65536 in
set_option maxHeartbeats 40000000 in
theorem rm_13 (l : Launch) (Z : State) (a0 : Array Value) (hw : ∀ d ∈ tables_1, d.before a0 Z = true) (ws : List Jvm.Cond) (w0 : Addr) (w1 : Addr) (kw1 : ClassId) (p3 : Int32) (p4 : Int32) (p5 : Int32) (p6 : Int32) (p7 : Int32) (h0 : Heap) (n0 : Nat) (Z0 : n0 ≤ h0.size) (E_w0 : Exa Z h0 w0 "demitasse/interp/Bytes") (F_w0_bytes : Fld Z h0 w0 "demitasse/interp/Bytes" "bytes" "[B" (.ref w1)) (F_w0_length : Fld Z h0 w0 "demitasse/interp/Bytes" "length" "I" (.int (4 : Int32))) (g_w0 : n0 ≤ w0) (E_w1 : Exa Z h0 w1 "[B") (V_w1 : Arv Z h0 w1 kw1 .byte (64 : Int32) [(.int p3), (.int p4), (.int p5), (.int p6)] (.int (0 : Int32))) (g_w1 : n0 ≤ w1) (ne_w0_w1 : w0 ≠ w1) :
    MetFree l (⟨"demitasse/interp/Bytes", "u4", "(I)V"⟩ : MethodName) (head1 (Jvm.Cond.code (⟨"demitasse/interp/Bytes", "u4", "(I)V"⟩ : MethodName) prog_64_method_5_code 2 none :: ws) ({ frames := 3, cells := 0, slots := 0, locals := 39 } : Room)) (fun a U => a = #[(.ref w0), (.int p7)] ∧ Z.Warmed39 U.vm ∧ U.heap = h0) (fun _ _ _ _ _ => True) (fun _ U o U' => ∃ v L, o = .returned v ∧ (Fr n0 L ∧ Q_13 Z w0 w1 kw1 p3 p4 p5 p6 p7 h0 n0 v U'.heap) ∧ FrameEnd U o U' L ({ frames := 3, cells := 0, slots := 0, locals := 39 } : Room).cells ({ frames := 3, cells := 0, slots := 0, locals := 39 } : Room).slots) := by
  refine own_enter (Q := Q_13 Z w0 w1 kw1 p3 p4 p5 p6 p7 h0 n0) (F := fun m => mkF m 0 #[.val (.ref w0), .val (.int p7)] []) (plainFor_of_name pn_0) (fun m => by first | (simp [entryFrame, mkF, argsToLocals, Value.category]; done) | rfl) ?_
  intro p e s m below meth c s₁ B X0
  have K : Keep h0 h0 [w0, w1] := Keep.refl h0 _
  refine own_aloadN (pc' := 1) B X0 d3_0 rfl rfl rfl ?_
  refine own_iloadN (pc' := 2) B X0 d3_1 rfl rfl ?_
  refine own_bipush (pc' := 4) B X0 (z := (16 : Int32)) d3_2 rfl (by decide) ?_
  obtain ⟨y1, hy1⟩ : ∃ z : Int32, (p7.toUInt32 >>> ((16 : Int32) &&& 31).toUInt32).toInt32 = z := ⟨_, rfl⟩
  refine own_iushr (pc' := 5) B X0 d3_4 rfl hy1 ?_
  refine own_callV (pc' := 8) B X0 (own_w hw 18 rfl) (own_w hw 19 rfl) (own_w hw 21 rfl) (own_w hw 20 rfl) (own_w hw 3 rfl) (own_w hw 22 rfl) E_w0 (by decide) [(.int y1)] [] (rm_14 l Z a0 hw [] w0 w1 kw1 (p3) (p4) (p5) (p6) (y1) h0 n0 (Nat.le_trans Z0 K.1) E_w0 F_w0_bytes F_w0_length g_w0 E_w1 V_w1 g_w1 ne_w0_w1) 0 (by decide) (by decide) rfl pd_1 rfl rfl (Nat.le_of_eq rfl) d3_5 rfl (k' := 0) (n' := 0) rfl rfl (by decide) (by decide) ?_
  intro T2 v2 h2 X2 q2
  obtain ⟨y3, y4, y5, hy6, hy7, hy8, rfl, K2, E_w0, F_w0_bytes, F_w0_length, E_w1, V_w1⟩ := q2
  replace K := K.trans K2 (allS (Or.inl (List.mem_of_getElem? (i := 0) rfl)) (allS (Or.inl (List.mem_of_getElem? (i := 1) rfl)) all0))
  show own_Go p e below (T2.setTop (mkF m 8 #[.val (.ref w0), .val (.int p7)] [])) _
  refine own_aloadN (pc' := 9) B X2 d3_8 rfl rfl rfl ?_
  refine own_iloadN (pc' := 10) B X2 d3_9 rfl rfl ?_
  refine own_callV (pc' := 13) B X2 (own_w hw 18 rfl) (own_w hw 19 rfl) (own_w hw 21 rfl) (own_w hw 20 rfl) (own_w hw 3 rfl) (own_w hw 22 rfl) E_w0 (by decide) [(.int p7)] [] (rm_19 l Z a0 hw [] w0 w1 kw1 (p3) (p4) (p5) (p6) (y4) (y5) (p7) h2 n0 (Nat.le_trans Z0 K.1) E_w0 F_w0_bytes F_w0_length g_w0 E_w1 V_w1 g_w1 ne_w0_w1) 0 (by decide) (by decide) rfl pd_1 rfl rfl (Nat.le_of_eq rfl) d3_10 rfl (k' := 0) (n' := 0) rfl rfl (by decide) (by decide) ?_
  intro T9 v9 h9 X9 q9
  obtain ⟨y10, y11, y12, hy13, hy14, hy15, rfl, K9, E_w0, F_w0_bytes, F_w0_length, E_w1, V_w1⟩ := q9
  replace K := K.trans K9 (allS (Or.inl (List.mem_of_getElem? (i := 0) rfl)) (allS (Or.inl (List.mem_of_getElem? (i := 1) rfl)) all0))
  show own_Go p e below (T9.setTop (mkF m 13 #[.val (.ref w0), .val (.int p7)] [])) _
  exact own_ret B X9 d3_13 (by decide) (by decide) (⟨y1, y3, y4, y5, y10, y11, y12, hy1, hy6, hy7, hy8, hy13, hy14, hy15, rfl, K, E_w0, F_w0_bytes, F_w0_length, E_w1, V_w1⟩)
def Q_25 (Z : State) (w0 : Addr) (w1 : Addr) (kw1 : ClassId) (p3 : Int32) (p4 : Int32) (p5 : Int32) (p6 : Int32) (p7 : Int32) (p8 : Int32) (p9 : Int32) (p10 : Int32) (p11 : Int32) (h0 : Heap) (n0 : Nat) (v : Option Value) (h : Heap) : Prop :=
  (∃ (y2 : Int32) (y3 : Int32) (y6 : Int32), (p11.toUInt32 >>> ((8 : Int32) &&& 31).toUInt32).toInt32 = y2 ∧ y2.toInt8.toInt32 = y3 ∧ p11.toInt8.toInt32 = y6 ∧ v = none ∧ Keep h0 h [w1] ∧ Exa Z h w1 "[B" ∧ Arv Z h w1 kw1 .byte (64 : Int32) [(.int y3), (.int y6), (.int p5), (.int p6), (.int p7), (.int p8), (.int p9), (.int p10)] (.int (0 : Int32)))
set_option maxRecDepth 65536 in
set_option maxHeartbeats 40000000 in
theorem rm_25 (l : Launch) (Z : State) (a0 : Array Value) (hw : ∀ d ∈ tables_1, d.before a0 Z = true) (ws : List Jvm.Cond) (w0 : Addr) (w1 : Addr) (kw1 : ClassId) (p3 : Int32) (p4 : Int32) (p5 : Int32) (p6 : Int32) (p7 : Int32) (p8 : Int32) (p9 : Int32) (p10 : Int32) (p11 : Int32) (h0 : Heap) (n0 : Nat) (Z0 : n0 ≤ h0.size) (E_w0 : Exa Z h0 w0 "demitasse/interp/Bytes") (F_w0_bytes : Fld Z h0 w0 "demitasse/interp/Bytes" "bytes" "[B" (.ref w1)) (F_w0_length : Fld Z h0 w0 "demitasse/interp/Bytes" "length" "I" (.int (8 : Int32))) (g_w0 : n0 ≤ w0) (E_w1 : Exa Z h0 w1 "[B") (V_w1 : Arv Z h0 w1 kw1 .byte (64 : Int32) [(.int p3), (.int p4), (.int p5), (.int p6), (.int p7), (.int p8), (.int p9), (.int p10)] (.int (0 : Int32))) (g_w1 : n0 ≤ w1) (ne_w0_w1 : w0 ≠ w1) :
    MetFree l (⟨"demitasse/interp/Bytes", "u2At", "(II)V"⟩ : MethodName) (head1 (Jvm.Cond.code (⟨"demitasse/interp/Bytes", "u2At", "(II)V"⟩ : MethodName) prog_64_method_6_code 3 none :: ws) ({ frames := 0, cells := 0, slots := 0, locals := 0 } : Room)) (fun a U => a = #[(.ref w0), (.int (0 : Int32)), (.int p11)] ∧ Z.Warmed39 U.vm ∧ U.heap = h0) (fun _ _ _ _ _ => True) (fun _ U o U' => ∃ v L, o = .returned v ∧ (Fr n0 L ∧ Q_25 Z w0 w1 kw1 p3 p4 p5 p6 p7 p8 p9 p10 p11 h0 n0 v U'.heap) ∧ FrameEnd U o U' L ({ frames := 0, cells := 0, slots := 0, locals := 0 } : Room).cells ({ frames := 0, cells := 0, slots := 0, locals := 0 } : Room).slots) := by
  refine own_enter (Q := Q_25 Z w0 w1 kw1 p3 p4 p5 p6 p7 p8 p9 p10 p11 h0 n0) (F := fun m => mkF m 0 #[.val (.ref w0), .val (.int (0 : Int32)), .val (.int p11)] []) (plainFor_of_name pn_0) (fun m => by first | (simp [entryFrame, mkF, argsToLocals, Value.category]; done) | rfl) ?_
  intro p e s m below meth c s₁ B X0
  have K : Keep h0 h0 [w1] := Keep.refl h0 _
  refine own_aloadN (pc' := 1) B X0 d8_0 rfl rfl rfl ?_
  refine own_getfield (pc' := 4) B X0 (host := "") (Or.inl (own_w hw 11 rfl)) Via.refl F_w0_bytes d8_1 rfl ?_
  intro T1 X1
  refine own_iloadN (pc' := 5) B X1 d8_4 rfl rfl ?_
  refine own_iloadN (pc' := 6) B X1 d8_5 rfl rfl ?_
  refine own_bipush (pc' := 8) B X1 (z := (8 : Int32)) d8_6 rfl (by decide) ?_
  obtain ⟨y2, hy2⟩ : ∃ z : Int32, (p11.toUInt32 >>> ((8 : Int32) &&& 31).toUInt32).toInt32 = z := ⟨_, rfl⟩
  refine own_iushr (pc' := 9) B X1 d8_8 rfl hy2 ?_
  obtain ⟨y3, hy3⟩ : ∃ z : Int32, y2.toInt8.toInt32 = z := ⟨_, rfl⟩
  refine own_i2b (pc' := 10) B X1 d8_9 rfl hy3 ?_
  refine own_bastore (pc' := 11) B X1 (x' := y3) V_w1 g_w1 ⟨by decide, by decide⟩ 0 (by decide) (Nat.le_of_ble_eq_true rfl) (own_idem_i2b hy3) d8_10 rfl ?_
  intro T4 h4 X4 W4 V_w1
  replace V_w1 : Arv Z h4 w1 kw1 .byte (64 : Int32) [(.int y3), (.int p4), (.int p5), (.int p6), (.int p7), (.int p8), (.int p9), (.int p10)] (.int (0 : Int32)) := V_w1
  replace E_w0 := E_w0.wr W4
  replace F_w0_bytes := F_w0_bytes.other W4 (Or.inl ne_w0_w1)
  replace F_w0_length := F_w0_length.other W4 (Or.inl ne_w0_w1)
  replace E_w1 := E_w1.wr W4
  replace K := K.wr W4 (Or.inl (List.mem_of_getElem? (i := 0) rfl))
  refine own_aloadN (pc' := 12) B X4 d8_11 rfl rfl rfl ?_
  refine own_getfield (pc' := 15) B X4 (host := "") (Or.inl (own_w hw 11 rfl)) Via.refl F_w0_bytes d8_12 rfl ?_
  intro T5 X5
  refine own_iloadN (pc' := 16) B X5 d8_15 rfl rfl ?_
  refine own_iconst (pc' := 17) B X5 (z := (1 : Int32)) d8_16 rfl rfl ?_
  refine own_iadd (pc' := 18) B X5 (z := (1 : Int32)) d8_17 rfl (by decide) ?_
  refine own_iloadN (pc' := 19) B X5 d8_18 rfl rfl ?_
  obtain ⟨y6, hy6⟩ : ∃ z : Int32, p11.toInt8.toInt32 = z := ⟨_, rfl⟩
  refine own_i2b (pc' := 20) B X5 d8_19 rfl hy6 ?_
  refine own_bastore (pc' := 21) B X5 (x' := y6) V_w1 g_w1 ⟨by decide, by decide⟩ 1 (by decide) (Nat.le_of_ble_eq_true rfl) (own_idem_i2b hy6) d8_20 rfl ?_
  intro T7 h7 X7 W7 V_w1
  replace V_w1 : Arv Z h7 w1 kw1 .byte (64 : Int32) [(.int y3), (.int y6), (.int p5), (.int p6), (.int p7), (.int p8), (.int p9), (.int p10)] (.int (0 : Int32)) := V_w1
  replace E_w0 := E_w0.wr W7
  replace F_w0_bytes := F_w0_bytes.other W7 (Or.inl ne_w0_w1)
  replace F_w0_length := F_w0_length.other W7 (Or.inl ne_w0_w1)
  replace E_w1 := E_w1.wr W7
  replace K := K.wr W7 (Or.inl (List.mem_of_getElem? (i := 0) rfl))
  exact own_ret B X7 d8_21 (by decide) (by decide) (⟨y2, y3, y6, hy2, hy3, hy6, rfl, K, E_w1, V_w1⟩)
def Q_26 (Z : State) (w0 : Addr) (w1 : Addr) (kw1 : ClassId) (p3 : Int32) (p4 : Int32) (p5 : Int32) (p6 : Int32) (p7 : Int32) (p8 : Int32) (p9 : Int32) (p10 : Int32) (p11 : Int32) (h0 : Heap) (n0 : Nat) (v : Option Value) (h : Heap) : Prop :=
  (∃ (y2 : Int32) (y3 : Int32) (y6 : Int32), (p11.toUInt32 >>> ((8 : Int32) &&& 31).toUInt32).toInt32 = y2 ∧ y2.toInt8.toInt32 = y3 ∧ p11.toInt8.toInt32 = y6 ∧ v = none ∧ Keep h0 h [w1] ∧ Exa Z h w1 "[B" ∧ Arv Z h w1 kw1 .byte (64 : Int32) [(.int p3), (.int p4), (.int y3), (.int y6), (.int p7), (.int p8), (.int p9), (.int p10)] (.int (0 : Int32)))
set_option maxRecDepth 65536 in
set_option maxHeartbeats 40000000 in
theorem rm_26 (l : Launch) (Z : State) (a0 : Array Value) (hw : ∀ d ∈ tables_1, d.before a0 Z = true) (ws : List Jvm.Cond) (w0 : Addr) (w1 : Addr) (kw1 : ClassId) (p3 : Int32) (p4 : Int32) (p5 : Int32) (p6 : Int32) (p7 : Int32) (p8 : Int32) (p9 : Int32) (p10 : Int32) (p11 : Int32) (h0 : Heap) (n0 : Nat) (Z0 : n0 ≤ h0.size) (E_w0 : Exa Z h0 w0 "demitasse/interp/Bytes") (F_w0_bytes : Fld Z h0 w0 "demitasse/interp/Bytes" "bytes" "[B" (.ref w1)) (F_w0_length : Fld Z h0 w0 "demitasse/interp/Bytes" "length" "I" (.int (8 : Int32))) (g_w0 : n0 ≤ w0) (E_w1 : Exa Z h0 w1 "[B") (V_w1 : Arv Z h0 w1 kw1 .byte (64 : Int32) [(.int p3), (.int p4), (.int p5), (.int p6), (.int p7), (.int p8), (.int p9), (.int p10)] (.int (0 : Int32))) (g_w1 : n0 ≤ w1) (ne_w0_w1 : w0 ≠ w1) :
    MetFree l (⟨"demitasse/interp/Bytes", "u2At", "(II)V"⟩ : MethodName) (head1 (Jvm.Cond.code (⟨"demitasse/interp/Bytes", "u2At", "(II)V"⟩ : MethodName) prog_64_method_6_code 3 none :: ws) ({ frames := 0, cells := 0, slots := 0, locals := 0 } : Room)) (fun a U => a = #[(.ref w0), (.int (2 : Int32)), (.int p11)] ∧ Z.Warmed39 U.vm ∧ U.heap = h0) (fun _ _ _ _ _ => True) (fun _ U o U' => ∃ v L, o = .returned v ∧ (Fr n0 L ∧ Q_26 Z w0 w1 kw1 p3 p4 p5 p6 p7 p8 p9 p10 p11 h0 n0 v U'.heap) ∧ FrameEnd U o U' L ({ frames := 0, cells := 0, slots := 0, locals := 0 } : Room).cells ({ frames := 0, cells := 0, slots := 0, locals := 0 } : Room).slots) := by
  refine own_enter (Q := Q_26 Z w0 w1 kw1 p3 p4 p5 p6 p7 p8 p9 p10 p11 h0 n0) (F := fun m => mkF m 0 #[.val (.ref w0), .val (.int (2 : Int32)), .val (.int p11)] []) (plainFor_of_name pn_0) (fun m => by first | (simp [entryFrame, mkF, argsToLocals, Value.category]; done) | rfl) ?_
  intro p e s m below meth c s₁ B X0
  have K : Keep h0 h0 [w1] := Keep.refl h0 _
  refine own_aloadN (pc' := 1) B X0 d8_0 rfl rfl rfl ?_
  refine own_getfield (pc' := 4) B X0 (host := "") (Or.inl (own_w hw 11 rfl)) Via.refl F_w0_bytes d8_1 rfl ?_
  intro T1 X1
  refine own_iloadN (pc' := 5) B X1 d8_4 rfl rfl ?_
  refine own_iloadN (pc' := 6) B X1 d8_5 rfl rfl ?_
  refine own_bipush (pc' := 8) B X1 (z := (8 : Int32)) d8_6 rfl (by decide) ?_
  obtain ⟨y2, hy2⟩ : ∃ z : Int32, (p11.toUInt32 >>> ((8 : Int32) &&& 31).toUInt32).toInt32 = z := ⟨_, rfl⟩
  refine own_iushr (pc' := 9) B X1 d8_8 rfl hy2 ?_
  obtain ⟨y3, hy3⟩ : ∃ z : Int32, y2.toInt8.toInt32 = z := ⟨_, rfl⟩
  refine own_i2b (pc' := 10) B X1 d8_9 rfl hy3 ?_
  refine own_bastore (pc' := 11) B X1 (x' := y3) V_w1 g_w1 ⟨by decide, by decide⟩ 2 (by decide) (Nat.le_of_ble_eq_true rfl) (own_idem_i2b hy3) d8_10 rfl ?_
  intro T4 h4 X4 W4 V_w1
  replace V_w1 : Arv Z h4 w1 kw1 .byte (64 : Int32) [(.int p3), (.int p4), (.int y3), (.int p6), (.int p7), (.int p8), (.int p9), (.int p10)] (.int (0 : Int32)) := V_w1
  replace E_w0 := E_w0.wr W4
  replace F_w0_bytes := F_w0_bytes.other W4 (Or.inl ne_w0_w1)
  replace F_w0_length := F_w0_length.other W4 (Or.inl ne_w0_w1)
  replace E_w1 := E_w1.wr W4
  replace K := K.wr W4 (Or.inl (List.mem_of_getElem? (i := 0) rfl))
  refine own_aloadN (pc' := 12) B X4 d8_11 rfl rfl rfl ?_
  refine own_getfield (pc' := 15) B X4 (host := "") (Or.inl (own_w hw 11 rfl)) Via.refl F_w0_bytes d8_12 rfl ?_
  intro T5 X5
  refine own_iloadN (pc' := 16) B X5 d8_15 rfl rfl ?_
  refine own_iconst (pc' := 17) B X5 (z := (1 : Int32)) d8_16 rfl rfl ?_
  refine own_iadd (pc' := 18) B X5 (z := (3 : Int32)) d8_17 rfl (by decide) ?_
  refine own_iloadN (pc' := 19) B X5 d8_18 rfl rfl ?_
  obtain ⟨y6, hy6⟩ : ∃ z : Int32, p11.toInt8.toInt32 = z := ⟨_, rfl⟩
  refine own_i2b (pc' := 20) B X5 d8_19 rfl hy6 ?_
  refine own_bastore (pc' := 21) B X5 (x' := y6) V_w1 g_w1 ⟨by decide, by decide⟩ 3 (by decide) (Nat.le_of_ble_eq_true rfl) (own_idem_i2b hy6) d8_20 rfl ?_
  intro T7 h7 X7 W7 V_w1
  replace V_w1 : Arv Z h7 w1 kw1 .byte (64 : Int32) [(.int p3), (.int p4), (.int y3), (.int y6), (.int p7), (.int p8), (.int p9), (.int p10)] (.int (0 : Int32)) := V_w1
  replace E_w0 := E_w0.wr W7
  replace F_w0_bytes := F_w0_bytes.other W7 (Or.inl ne_w0_w1)
  replace F_w0_length := F_w0_length.other W7 (Or.inl ne_w0_w1)
  replace E_w1 := E_w1.wr W7
  replace K := K.wr W7 (Or.inl (List.mem_of_getElem? (i := 0) rfl))
  exact own_ret B X7 d8_21 (by decide) (by decide) (⟨y2, y3, y6, hy2, hy3, hy6, rfl, K, E_w1, V_w1⟩)
def Q_24 (Z : State) (w0 : Addr) (w1 : Addr) (kw1 : ClassId) (p3 : Int32) (p4 : Int32) (p5 : Int32) (p6 : Int32) (p7 : Int32) (p8 : Int32) (p9 : Int32) (p10 : Int32) (p11 : Int32) (h0 : Heap) (n0 : Nat) (v : Option Value) (h : Heap) : Prop :=
  (∃ (y1 : Int32) (y3 : Int32) (y4 : Int32) (y5 : Int32) (y10 : Int32) (y11 : Int32) (y12 : Int32), (p11.toUInt32 >>> ((16 : Int32) &&& 31).toUInt32).toInt32 = y1 ∧ (y1.toUInt32 >>> ((8 : Int32) &&& 31).toUInt32).toInt32 = y3 ∧ y3.toInt8.toInt32 = y4 ∧ y1.toInt8.toInt32 = y5 ∧ (p11.toUInt32 >>> ((8 : Int32) &&& 31).toUInt32).toInt32 = y10 ∧ y10.toInt8.toInt32 = y11 ∧ p11.toInt8.toInt32 = y12 ∧ v = none ∧ Keep h0 h [w1] ∧ Exa Z h w1 "[B" ∧ Arv Z h w1 kw1 .byte (64 : Int32) [(.int y4), (.int y5), (.int y11), (.int y12), (.int p7), (.int p8), (.int p9), (.int p10)] (.int (0 : Int32)))
set_option maxRecDepth 65536 in
set_option maxHeartbeats 40000000 in
theorem rm_24 (l : Launch) (Z : State) (a0 : Array Value) (hw : ∀ d ∈ tables_1, d.before a0 Z = true) (ws : List Jvm.Cond) (w0 : Addr) (w1 : Addr) (kw1 : ClassId) (p3 : Int32) (p4 : Int32) (p5 : Int32) (p6 : Int32) (p7 : Int32) (p8 : Int32) (p9 : Int32) (p10 : Int32) (p11 : Int32) (h0 : Heap) (n0 : Nat) (Z0 : n0 ≤ h0.size) (E_w0 : Exa Z h0 w0 "demitasse/interp/Bytes") (F_w0_bytes : Fld Z h0 w0 "demitasse/interp/Bytes" "bytes" "[B" (.ref w1)) (F_w0_length : Fld Z h0 w0 "demitasse/interp/Bytes" "length" "I" (.int (8 : Int32))) (g_w0 : n0 ≤ w0) (E_w1 : Exa Z h0 w1 "[B") (V_w1 : Arv Z h0 w1 kw1 .byte (64 : Int32) [(.int p3), (.int p4), (.int p5), (.int p6), (.int p7), (.int p8), (.int p9), (.int p10)] (.int (0 : Int32))) (g_w1 : n0 ≤ w1) (ne_w0_w1 : w0 ≠ w1) :
    MetFree l (⟨"demitasse/interp/Bytes", "u4At", "(II)V"⟩ : MethodName) (head1 (Jvm.Cond.code (⟨"demitasse/interp/Bytes", "u4At", "(II)V"⟩ : MethodName) prog_64_method_7_code 3 none :: ws) ({ frames := 1, cells := 0, slots := 0, locals := 14 } : Room)) (fun a U => a = #[(.ref w0), (.int (0 : Int32)), (.int p11)] ∧ Z.Warmed39 U.vm ∧ U.heap = h0) (fun _ _ _ _ _ => True) (fun _ U o U' => ∃ v L, o = .returned v ∧ (Fr n0 L ∧ Q_24 Z w0 w1 kw1 p3 p4 p5 p6 p7 p8 p9 p10 p11 h0 n0 v U'.heap) ∧ FrameEnd U o U' L ({ frames := 1, cells := 0, slots := 0, locals := 14 } : Room).cells ({ frames := 1, cells := 0, slots := 0, locals := 14 } : Room).slots) := by
  refine own_enter (Q := Q_24 Z w0 w1 kw1 p3 p4 p5 p6 p7 p8 p9 p10 p11 h0 n0) (F := fun m => mkF m 0 #[.val (.ref w0), .val (.int (0 : Int32)), .val (.int p11)] []) (plainFor_of_name pn_0) (fun m => by first | (simp [entryFrame, mkF, argsToLocals, Value.category]; done) | rfl) ?_
  intro p e s m below meth c s₁ B X0
  have K : Keep h0 h0 [w1] := Keep.refl h0 _
  refine own_aloadN (pc' := 1) B X0 d7_0 rfl rfl rfl ?_
  refine own_iloadN (pc' := 2) B X0 d7_1 rfl rfl ?_
  refine own_iloadN (pc' := 3) B X0 d7_2 rfl rfl ?_
  refine own_bipush (pc' := 5) B X0 (z := (16 : Int32)) d7_3 rfl (by decide) ?_
  obtain ⟨y1, hy1⟩ : ∃ z : Int32, (p11.toUInt32 >>> ((16 : Int32) &&& 31).toUInt32).toInt32 = z := ⟨_, rfl⟩
  refine own_iushr (pc' := 6) B X0 d7_5 rfl hy1 ?_
  refine own_callV (pc' := 9) B X0 (own_w hw 39 rfl) (own_w hw 40 rfl) (own_w hw 42 rfl) (own_w hw 41 rfl) (own_w hw 3 rfl) (own_w hw 43 rfl) E_w0 (by decide) [(.int (0 : Int32)), (.int y1)] [] (rm_25 l Z a0 hw [] w0 w1 kw1 (p3) (p4) (p5) (p6) (p7) (p8) (p9) (p10) (y1) h0 n0 (Nat.le_trans Z0 K.1) E_w0 F_w0_bytes F_w0_length g_w0 E_w1 V_w1 g_w1 ne_w0_w1) 0 (by decide) (by decide) rfl pd_2 rfl rfl (Nat.le_of_eq rfl) d7_6 rfl (k' := 0) (n' := 0) rfl rfl (by decide) (by decide) ?_
  intro T2 v2 h2 X2 q2
  obtain ⟨y3, y4, y5, hy6, hy7, hy8, rfl, K2, E_w1, V_w1⟩ := q2
  replace K := K.trans K2 (allS (Or.inl (List.mem_of_getElem? (i := 0) rfl)) all0)
  replace E_w0 := E_w0.keep K2
  replace F_w0_bytes := F_w0_bytes.keep K2 (ninS ne_w0_w1 nin0)
  replace F_w0_length := F_w0_length.keep K2 (ninS ne_w0_w1 nin0)
  show own_Go p e below (T2.setTop (mkF m 9 #[.val (.ref w0), .val (.int (0 : Int32)), .val (.int p11)] [])) _
  refine own_aloadN (pc' := 10) B X2 d7_9 rfl rfl rfl ?_
  refine own_iloadN (pc' := 11) B X2 d7_10 rfl rfl ?_
  refine own_iconst (pc' := 12) B X2 (z := (2 : Int32)) d7_11 rfl rfl ?_
  refine own_iadd (pc' := 13) B X2 (z := (2 : Int32)) d7_12 rfl (by decide) ?_
  refine own_iloadN (pc' := 14) B X2 d7_13 rfl rfl ?_
  refine own_callV (pc' := 17) B X2 (own_w hw 39 rfl) (own_w hw 40 rfl) (own_w hw 42 rfl) (own_w hw 41 rfl) (own_w hw 3 rfl) (own_w hw 43 rfl) E_w0 (by decide) [(.int (2 : Int32)), (.int p11)] [] (rm_26 l Z a0 hw [] w0 w1 kw1 (y4) (y5) (p5) (p6) (p7) (p8) (p9) (p10) (p11) h2 n0 (Nat.le_trans Z0 K.1) E_w0 F_w0_bytes F_w0_length g_w0 E_w1 V_w1 g_w1 ne_w0_w1) 0 (by decide) (by decide) rfl pd_2 rfl rfl (Nat.le_of_eq rfl) d7_14 rfl (k' := 0) (n' := 0) rfl rfl (by decide) (by decide) ?_
  intro T9 v9 h9 X9 q9
  obtain ⟨y10, y11, y12, hy13, hy14, hy15, rfl, K9, E_w1, V_w1⟩ := q9
  replace K := K.trans K9 (allS (Or.inl (List.mem_of_getElem? (i := 0) rfl)) all0)
  replace E_w0 := E_w0.keep K9
  replace F_w0_bytes := F_w0_bytes.keep K9 (ninS ne_w0_w1 nin0)
  replace F_w0_length := F_w0_length.keep K9 (ninS ne_w0_w1 nin0)
  show own_Go p e below (T9.setTop (mkF m 17 #[.val (.ref w0), .val (.int (0 : Int32)), .val (.int p11)] [])) _
  exact own_ret B X9 d7_17 (by decide) (by decide) (⟨y1, y3, y4, y5, y10, y11, y12, hy1, hy6, hy7, hy8, hy13, hy14, hy15, rfl, K, E_w1, V_w1⟩)
def Q_29 (Z : State)  (h0 : Heap) (n0 : Nat) (v : Option Value) (h : Heap) : Prop :=
  (v = some (.int (8 : Int32)) ∧ h0 = h)
set_option maxRecDepth 65536 in
set_option maxHeartbeats 40000000 in
theorem rm_29 (l : Launch) (Z : State) (a0 : Array Value) (hw : ∀ d ∈ tables_1, d.before a0 Z = true) (ws : List Jvm.Cond)  (h0 : Heap) (n0 : Nat) (Z0 : n0 ≤ h0.size)  :
    MetFree l (⟨"java/lang/Math", "min", "(II)I"⟩ : MethodName) (head1 (Jvm.Cond.code (⟨"java/lang/Math", "min", "(II)I"⟩ : MethodName) jdk_29_method_69_code 2 (some .int) :: ws) ({ frames := 0, cells := 0, slots := 0, locals := 0 } : Room)) (fun a U => a = #[(.int (64 : Int32)), (.int (8 : Int32))] ∧ Z.Warmed39 U.vm ∧ U.heap = h0) (fun _ _ _ _ _ => True) (fun _ U o U' => ∃ v L, o = .returned v ∧ (Fr n0 L ∧ Q_29 Z  h0 n0 v U'.heap) ∧ FrameEnd U o U' L ({ frames := 0, cells := 0, slots := 0, locals := 0 } : Room).cells ({ frames := 0, cells := 0, slots := 0, locals := 0 } : Room).slots) := by
  refine own_enter (Q := Q_29 Z  h0 n0) (F := fun m => mkF m 0 #[.val (.int (64 : Int32)), .val (.int (8 : Int32))] []) (Jvm.Free.JP.mathPlain rfl (by decide +kernel)) (fun m => by first | (simp [entryFrame, mkF, argsToLocals, Value.category]; done) | rfl) ?_
  intro p e s m below meth c s₁ B X0
  have K : Keep h0 h0 [] := Keep.refl h0 _
  refine own_iloadN (pc' := 1) B X0 d11_0 rfl rfl ?_
  refine own_iloadN (pc' := 2) B X0 d11_1 rfl rfl ?_
  refine own_icmpYes (pc' := 9) B X0 d11_2 (tlt (by decide : (8 : Int32) < (64 : Int32))).2.2.1 (by decide) rfl ?_
  refine own_iloadN (pc' := 10) B X0 d11_9 rfl rfl ?_
  exact own_retI B X0 d11_10 (by decide) (by decide) (⟨rfl, rfl⟩)
def Q_28 (Z : State) (w0 : Addr) (kw0 : ClassId) (p2 : Int32) (p3 : Int32) (p4 : Int32) (p5 : Int32) (p6 : Int32) (p7 : Int32) (p8 : Int32) (p9 : Int32) (h0 : Heap) (n0 : Nat) (v : Option Value) (h : Heap) : Prop :=
  (∃ (b1 : Addr) (kb1 : ClassId), v = some (.ref b1) ∧ Keep h0 h [] ∧ h0.size ≤ b1 ∧ Exa Z h b1 "[B" ∧ Arv Z h b1 kb1 .byte (8 : Int32) [(.int p2), (.int p3), (.int p4), (.int p5), (.int p6), (.int p7), (.int p8), (.int p9)] (.int (0 : Int32)))
set_option maxRecDepth 65536 in
set_option maxHeartbeats 40000000 in
theorem rm_28 (l : Launch) (Z : State) (a0 : Array Value) (hw : ∀ d ∈ tables_1, d.before a0 Z = true) (ws : List Jvm.Cond) (w0 : Addr) (kw0 : ClassId) (p2 : Int32) (p3 : Int32) (p4 : Int32) (p5 : Int32) (p6 : Int32) (p7 : Int32) (p8 : Int32) (p9 : Int32) (h0 : Heap) (n0 : Nat) (Z0 : n0 ≤ h0.size) (E_w0 : Exa Z h0 w0 "[B") (V_w0 : Arv Z h0 w0 kw0 .byte (64 : Int32) [(.int p2), (.int p3), (.int p4), (.int p5), (.int p6), (.int p7), (.int p8), (.int p9)] (.int (0 : Int32))) (g_w0 : n0 ≤ w0) :
    MetFree l (⟨"java/util/Arrays", "copyOf", "([BI)[B"⟩ : MethodName) (head1 (Jvm.Cond.code (⟨"java/util/Arrays", "copyOf", "([BI)[B"⟩ : MethodName) jdk_65_method_121_code 3 (some (.array .byte)) :: ws) ({ frames := 1, cells := 1, slots := 8, locals := 40 } : Room)) (fun a U => a = #[(.ref w0), (.int (8 : Int32))] ∧ Z.Warmed39 U.vm ∧ U.heap = h0) (fun _ _ _ _ _ => True) (fun _ U o U' => ∃ v L, o = .returned v ∧ (Fr n0 L ∧ Q_28 Z w0 kw0 p2 p3 p4 p5 p6 p7 p8 p9 h0 n0 v U'.heap) ∧ FrameEnd U o U' L ({ frames := 1, cells := 1, slots := 8, locals := 40 } : Room).cells ({ frames := 1, cells := 1, slots := 8, locals := 40 } : Room).slots) := by
  refine own_enter (Q := Q_28 Z w0 kw0 p2 p3 p4 p5 p6 p7 p8 p9 h0 n0) (F := fun m => mkF m 0 #[.val (.ref w0), .val (.int (8 : Int32)), .unset] []) (plainFor_of_name pn_1) (fun m => by first | (simp [entryFrame, mkF, argsToLocals, Value.category]; done) | rfl) ?_
  intro p e s m below meth c s₁ B X0
  have K : Keep h0 h0 [] := Keep.refl h0 _
  refine own_iloadN (pc' := 1) B X0 d10_0 rfl rfl ?_
  refine own_aloadN (pc' := 2) B X0 d10_1 rfl rfl rfl ?_
  refine own_arraylength (pc' := 3) B X0 V_w0 d10_2 rfl ?_
  refine own_icmpYes (pc' := 14) B X0 d10_3 (feq (by decide : ¬ ((8 : Int32) = (64 : Int32)))).2 (by decide) rfl ?_
  refine own_iloadN (pc' := 15) B X0 d10_14 rfl rfl ?_
  refine own_newarray (pc' := 17) B X0 (own_w hw 10 rfl) d10_15 rfl rfl (by decide) 8 (by decide) (by decide) (k' := 1) (n' := 8) rfl rfl (by decide) (by decide) "[B" (by decide) (.int (0 : Int32)) rfl ?_
  intro T1 h1 b1 kb1 X1 g1 E1 V_b1 E_b1
  have ne_w0_b1 : w0 ≠ b1 := own_ne E_w0.lt g1
  have sz_b1 : h0.size ≤ b1 := own_sz K g1
  have g_b1 : n0 ≤ b1 := Nat.le_trans Z0 sz_b1
  replace K := K.ext E1
  replace E_w0 := E_w0.ext E1
  replace V_w0 := V_w0.ext E1
  replace V_b1 : Arv Z h1 b1 kb1 .byte (8 : Int32) [(.int (0 : Int32)), (.int (0 : Int32)), (.int (0 : Int32)), (.int (0 : Int32)), (.int (0 : Int32)), (.int (0 : Int32)), (.int (0 : Int32)), (.int (0 : Int32))] (.int (0 : Int32)) := V_b1.pad (pad_rep [] (.int (0 : Int32)) 8)
  refine own_astoreN (pc' := 18) B X1 (Ls' := #[.val (.ref w0), .val (.int (8 : Int32)), .val (.ref b1)]) d10_17 rfl rfl rfl ?_
  refine own_aloadN (pc' := 19) B X1 d10_18 rfl rfl rfl ?_
  refine own_iconst (pc' := 20) B X1 (z := (0 : Int32)) d10_19 rfl rfl ?_
  refine own_aloadN (pc' := 21) B X1 d10_20 rfl rfl rfl ?_
  refine own_iconst (pc' := 22) B X1 (z := (0 : Int32)) d10_21 rfl rfl ?_
  refine own_aloadN (pc' := 23) B X1 d10_22 rfl rfl rfl ?_
  refine own_arraylength (pc' := 24) B X1 V_w0 d10_23 rfl ?_
  refine own_iloadN (pc' := 25) B X1 d10_24 rfl rfl ?_
  refine own_callS (pc' := 28) B X1 (own_w hw 53 rfl) (own_w hw 54 rfl) (own_w hw 55 rfl) (own_w hw 56 rfl) (by decide) [(.int (64 : Int32)), (.int (8 : Int32))] [(.int (0 : Int32)), (.ref b1), (.int (0 : Int32)), (.ref w0)] (rm_29 l Z a0 hw []  h1 n0 (Nat.le_trans Z0 K.1) ) 4 (by decide) (by decide) rfl pd_3 rfl rfl (Nat.le_of_eq rfl) d10_25 rfl (k' := 1) (n' := 8) rfl rfl (by decide) (by decide) ?_
  intro T2 v2 h2 X2 q2
  obtain ⟨rfl, rfl⟩ := q2
  show own_Go p e below (T2.setTop (mkF m 28 #[.val (.ref w0), .val (.int (8 : Int32)), .val (.ref b1)] [(.int (8 : Int32)), (.int (0 : Int32)), (.ref b1), (.int (0 : Int32)), (.ref w0)])) _
  refine own_arraycopy (pc' := 31) B X2 (own_w hw 57 rfl) (own_w hw 60 rfl) (own_w hw 58 rfl) (own_w hw 59 rfl) V_w0 V_b1 rfl g_b1 (by decide) (by decide) (by decide) (by decide) (by decide) (us := [(.int p2), (.int p3), (.int p4), (.int p5), (.int p6), (.int p7), (.int p8), (.int p9)]) rfl (Nat.le_of_ble_eq_true rfl) (rs := [(.int p2), (.int p3), (.int p4), (.int p5), (.int p6), (.int p7), (.int p8), (.int p9)]) rfl d10_28 rfl rfl (by decide) 0 (Nat.le_of_eq rfl) (by decide) ?_
  intro T3 h3 X3 K3 V_b1
  replace K := K.trans K3 (allS (Or.inr sz_b1) all0)
  replace E_w0 := E_w0.keep K3
  replace V_w0 := V_w0.keep K3 (ninS ne_w0_b1 nin0)
  replace E_b1 := E_b1.keep K3
  refine own_aloadN (pc' := 32) B X3 d10_31 rfl rfl rfl ?_
  exact own_retA B X3 (t := (.array .byte)) rfl rfl rfl d10_32 (by decide) (by decide) (⟨b1, kb1, rfl, K, sz_b1, E_b1, V_b1⟩)
def Q_27 (Z : State) (w0 : Addr) (w1 : Addr) (kw1 : ClassId) (p3 : Int32) (p4 : Int32) (p5 : Int32) (p6 : Int32) (p7 : Int32) (p8 : Int32) (p9 : Int32) (p10 : Int32) (h0 : Heap) (n0 : Nat) (v : Option Value) (h : Heap) : Prop :=
  (∃ (b4 : Addr) (k5 : ClassId), v = some (.ref b4) ∧ Keep h0 h [] ∧ h0.size ≤ b4 ∧ Exa Z h b4 "[B" ∧ Arv Z h b4 k5 .byte (8 : Int32) [(.int p3), (.int p4), (.int p5), (.int p6), (.int p7), (.int p8), (.int p9), (.int p10)] (.int (0 : Int32)))
set_option maxRecDepth 65536 in
set_option maxHeartbeats 40000000 in
theorem rm_27 (l : Launch) (Z : State) (a0 : Array Value) (hw : ∀ d ∈ tables_1, d.before a0 Z = true) (ws : List Jvm.Cond) (w0 : Addr) (w1 : Addr) (kw1 : ClassId) (p3 : Int32) (p4 : Int32) (p5 : Int32) (p6 : Int32) (p7 : Int32) (p8 : Int32) (p9 : Int32) (p10 : Int32) (h0 : Heap) (n0 : Nat) (Z0 : n0 ≤ h0.size) (E_w0 : Exa Z h0 w0 "demitasse/interp/Bytes") (F_w0_bytes : Fld Z h0 w0 "demitasse/interp/Bytes" "bytes" "[B" (.ref w1)) (F_w0_length : Fld Z h0 w0 "demitasse/interp/Bytes" "length" "I" (.int (8 : Int32))) (g_w0 : n0 ≤ w0) (E_w1 : Exa Z h0 w1 "[B") (V_w1 : Arv Z h0 w1 kw1 .byte (64 : Int32) [(.int p3), (.int p4), (.int p5), (.int p6), (.int p7), (.int p8), (.int p9), (.int p10)] (.int (0 : Int32))) (g_w1 : n0 ≤ w1) (ne_w0_w1 : w0 ≠ w1) :
    MetFree l (⟨"demitasse/interp/Bytes", "toArray", "()[B"⟩ : MethodName) (head1 (Jvm.Cond.code (⟨"demitasse/interp/Bytes", "toArray", "()[B"⟩ : MethodName) prog_64_method_11_code 1 (some (.array .byte)) :: ws) ({ frames := 2, cells := 1, slots := 8, locals := 54 } : Room)) (fun a U => a = #[(.ref w0)] ∧ Z.Warmed39 U.vm ∧ U.heap = h0) (fun _ _ _ _ _ => True) (fun _ U o U' => ∃ v L, o = .returned v ∧ (Fr n0 L ∧ Q_27 Z w0 w1 kw1 p3 p4 p5 p6 p7 p8 p9 p10 h0 n0 v U'.heap) ∧ FrameEnd U o U' L ({ frames := 2, cells := 1, slots := 8, locals := 54 } : Room).cells ({ frames := 2, cells := 1, slots := 8, locals := 54 } : Room).slots) := by
  refine own_enter (Q := Q_27 Z w0 w1 kw1 p3 p4 p5 p6 p7 p8 p9 p10 h0 n0) (F := fun m => mkF m 0 #[.val (.ref w0)] []) (plainFor_of_name pn_0) (fun m => by first | (simp [entryFrame, mkF, argsToLocals, Value.category]; done) | rfl) ?_
  intro p e s m below meth c s₁ B X0
  have K : Keep h0 h0 [] := Keep.refl h0 _
  refine own_aloadN (pc' := 1) B X0 d9_0 rfl rfl rfl ?_
  refine own_getfield (pc' := 4) B X0 (host := "") (Or.inl (own_w hw 11 rfl)) Via.refl F_w0_bytes d9_1 rfl ?_
  intro T1 X1
  refine own_aloadN (pc' := 5) B X1 d9_4 rfl rfl rfl ?_
  refine own_getfield (pc' := 8) B X1 (host := "") (Or.inl (own_w hw 32 rfl)) Via.refl F_w0_length d9_5 rfl ?_
  intro T2 X2
  refine own_callS (pc' := 11) B X2 (own_w hw 49 rfl) (own_w hw 50 rfl) (own_w hw 51 rfl) (own_w hw 52 rfl) (by decide) [(.ref w1), (.int (8 : Int32))] [] (rm_28 l Z a0 hw [] w1 kw1 (p3) (p4) (p5) (p6) (p7) (p8) (p9) (p10) h0 n0 (Nat.le_trans Z0 K.1) E_w1 V_w1 g_w1) 0 (by decide) (by decide) rfl pd_4 rfl rfl (Nat.le_of_eq rfl) d9_8 rfl (k' := 1) (n' := 8) rfl rfl (by decide) (by decide) ?_
  intro T3 v3 h3 X3 q3
  have lt_w0 := E_w0.lt
  have lt_w1 := E_w1.lt
  obtain ⟨b4, k5, rfl, K3, z_b4, E_b4, V_b4⟩ := q3
  have ne_w0_b4 : w0 ≠ b4 := own_ne' lt_w0 z_b4
  have ne_w1_b4 : w1 ≠ b4 := own_ne' lt_w1 z_b4
  have sz_b4 : h0.size ≤ b4 := Nat.le_trans K.1 z_b4
  have g_b4 : n0 ≤ b4 := Nat.le_trans Z0 sz_b4
  replace K := K.trans K3 all0
  replace E_w0 := E_w0.keep K3
  replace F_w0_bytes := F_w0_bytes.keep K3 nin0
  replace F_w0_length := F_w0_length.keep K3 nin0
  replace E_w1 := E_w1.keep K3
  replace V_w1 := V_w1.keep K3 nin0
  show own_Go p e below (T3.setTop (mkF m 11 #[.val (.ref w0)] [(.ref b4)])) _
  exact own_retA B X3 (t := (.array .byte)) rfl rfl rfl d9_11 (by decide) (by decide) (⟨b4, k5, rfl, K, sz_b4, E_b4, V_b4⟩)
def Q_30 (Z : State) (w0 : Addr) (w1 : Addr) (kw1 : ClassId) (p3 : Int32) (p4 : Int32) (p5 : Int32) (p6 : Int32) (p7 : Int32) (p8 : Int32) (p9 : Int32) (p10 : Int32) (h0 : Heap) (n0 : Nat) (v : Option Value) (h : Heap) : Prop :=
  (v = some (.int (8 : Int32)) ∧ h0 = h)
set_option maxRecDepth 65536 in
set_option maxHeartbeats 40000000 in
theorem rm_30 (l : Launch) (Z : State) (a0 : Array Value) (hw : ∀ d ∈ tables_1, d.before a0 Z = true) (ws : List Jvm.Cond) (w0 : Addr) (w1 : Addr) (kw1 : ClassId) (p3 : Int32) (p4 : Int32) (p5 : Int32) (p6 : Int32) (p7 : Int32) (p8 : Int32) (p9 : Int32) (p10 : Int32) (h0 : Heap) (n0 : Nat) (Z0 : n0 ≤ h0.size) (E_w0 : Exa Z h0 w0 "demitasse/interp/Bytes") (F_w0_bytes : Fld Z h0 w0 "demitasse/interp/Bytes" "bytes" "[B" (.ref w1)) (F_w0_length : Fld Z h0 w0 "demitasse/interp/Bytes" "length" "I" (.int (8 : Int32))) (g_w0 : n0 ≤ w0) (E_w1 : Exa Z h0 w1 "[B") (V_w1 : Arv Z h0 w1 kw1 .byte (64 : Int32) [(.int p3), (.int p4), (.int p5), (.int p6), (.int p7), (.int p8), (.int p9), (.int p10)] (.int (0 : Int32))) (g_w1 : n0 ≤ w1) (ne_w0_w1 : w0 ≠ w1) :
    MetFree l (⟨"demitasse/interp/Bytes", "length", "()I"⟩ : MethodName) (head1 (Jvm.Cond.code (⟨"demitasse/interp/Bytes", "length", "()I"⟩ : MethodName) prog_64_method_2_code 1 (some .int) :: ws) ({ frames := 0, cells := 0, slots := 0, locals := 0 } : Room)) (fun a U => a = #[(.ref w0)] ∧ Z.Warmed39 U.vm ∧ U.heap = h0) (fun _ _ _ _ _ => True) (fun _ U o U' => ∃ v L, o = .returned v ∧ (Fr n0 L ∧ Q_30 Z w0 w1 kw1 p3 p4 p5 p6 p7 p8 p9 p10 h0 n0 v U'.heap) ∧ FrameEnd U o U' L ({ frames := 0, cells := 0, slots := 0, locals := 0 } : Room).cells ({ frames := 0, cells := 0, slots := 0, locals := 0 } : Room).slots) := by
  refine own_enter (Q := Q_30 Z w0 w1 kw1 p3 p4 p5 p6 p7 p8 p9 p10 h0 n0) (F := fun m => mkF m 0 #[.val (.ref w0)] []) (plainFor_of_name pn_0) (fun m => by first | (simp [entryFrame, mkF, argsToLocals, Value.category]; done) | rfl) ?_
  intro p e s m below meth c s₁ B X0
  have K : Keep h0 h0 [] := Keep.refl h0 _
  refine own_aloadN (pc' := 1) B X0 d12_0 rfl rfl rfl ?_
  refine own_getfield (pc' := 4) B X0 (host := "") (Or.inl (own_w hw 32 rfl)) Via.refl F_w0_length d12_1 rfl ?_
  intro T1 X1
  exact own_retI B X1 d12_4 (by decide) (by decide) (⟨rfl, rfl⟩)
def Q_31 (Z : State) (w0 : Addr) (kw0 : ClassId) (p2 : Int32) (p3 : Int32) (p4 : Int32) (p5 : Int32) (p6 : Int32) (p7 : Int32) (p8 : Int32) (p9 : Int32) (p10 : Int32) (p11 : Int32) (p12 : Int32) (p13 : Int32) (p14 : Int32) (p15 : Int32) (p16 : Int32) (p17 : Int32) (p18 : Int32) (h0 : Heap) (n0 : Nat) (v : Option Value) (h : Heap) : Prop :=
  (∃ (y1 : Int32) (y2 : Int32), (p12.toUInt32 >>> ((24 : Int32) &&& 31).toUInt32).toInt32 = y1 ∧ y1.toInt8.toInt32 = y2 ∧ p2 = y2 ∧ v = some (.int (1 : Int32)) ∧ h0 = h)
set_option maxRecDepth 65536 in
set_option maxHeartbeats 40000000 in
theorem rm_31 (l : Launch) (Z : State) (a0 : Array Value) (hw : ∀ d ∈ tables_1, d.before a0 Z = true) (ws : List Jvm.Cond) (w0 : Addr) (kw0 : ClassId) (p2 : Int32) (p3 : Int32) (p4 : Int32) (p5 : Int32) (p6 : Int32) (p7 : Int32) (p8 : Int32) (p9 : Int32) (p10 : Int32) (p11 : Int32) (p12 : Int32) (p13 : Int32) (p14 : Int32) (p15 : Int32) (p16 : Int32) (p17 : Int32) (p18 : Int32) (h0 : Heap) (n0 : Nat) (Z0 : n0 ≤ h0.size) (E_w0 : Exa Z h0 w0 "[B") (V_w0 : Arv Z h0 w0 kw0 .byte (8 : Int32) [(.int p2), (.int p3), (.int p4), (.int p5), (.int p6), (.int p7), (.int p8), (.int p9)] (.int (0 : Int32))) (g_w0 : n0 ≤ w0) (hp0 : p13.toInt8.toInt32 = p6) (hp1 : p14.toInt8.toInt32 = p7) (hp2 : p15.toInt8.toInt32 = p8) (hp3 : p11.toInt8.toInt32 = p9) (hp4 : p16.toInt8.toInt32 = p2) (hp5 : p17.toInt8.toInt32 = p3) (hp6 : p18.toInt8.toInt32 = p4) (hp7 : p12.toInt8.toInt32 = p5) (hp8 : (p11.toUInt32 >>> ((16 : Int32) &&& 31).toUInt32).toInt32 = p14) (hp9 : (p14.toUInt32 >>> ((8 : Int32) &&& 31).toUInt32).toInt32 = p13) (hp10 : (p11.toUInt32 >>> ((8 : Int32) &&& 31).toUInt32).toInt32 = p15) (hp11 : (p12.toUInt32 >>> ((16 : Int32) &&& 31).toUInt32).toInt32 = p17) (hp12 : (p17.toUInt32 >>> ((8 : Int32) &&& 31).toUInt32).toInt32 = p16) (hp13 : (p12.toUInt32 >>> ((8 : Int32) &&& 31).toUInt32).toInt32 = p18) :
    MetFree l (⟨"demitasse/interp/BytesU4AtPinLaw", "ok", "([BIIIII)Z"⟩ : MethodName) (head1 (Jvm.Cond.code (⟨"demitasse/interp/BytesU4AtPinLaw", "ok", "([BIIIII)Z"⟩ : MethodName) method_3_code 7 (some .boolean) :: ws) ({ frames := 0, cells := 0, slots := 0, locals := 0 } : Room)) (fun a U => a = #[(.ref w0), (.int (0 : Int32)), (.int p10), (.int p11), (.int (0 : Int32)), (.int p12)] ∧ Z.Warmed39 U.vm ∧ U.heap = h0) (fun _ _ _ _ _ => True) (fun _ U o U' => ∃ v L, o = .returned v ∧ (Fr n0 L ∧ Q_31 Z w0 kw0 p2 p3 p4 p5 p6 p7 p8 p9 p10 p11 p12 p13 p14 p15 p16 p17 p18 h0 n0 v U'.heap) ∧ FrameEnd U o U' L ({ frames := 0, cells := 0, slots := 0, locals := 0 } : Room).cells ({ frames := 0, cells := 0, slots := 0, locals := 0 } : Room).slots) := by
  refine own_enter (Q := Q_31 Z w0 kw0 p2 p3 p4 p5 p6 p7 p8 p9 p10 p11 p12 p13 p14 p15 p16 p17 p18 h0 n0) (F := fun m => mkF m 0 #[.val (.ref w0), .val (.int (0 : Int32)), .val (.int p10), .val (.int p11), .val (.int (0 : Int32)), .val (.int p12), .unset] []) (plainFor_of_name pn_2) (fun m => by first | (simp [entryFrame, mkF, argsToLocals, Value.category]; done) | rfl) ?_
  intro p e s m below meth c s₁ B X0
  have K : Keep h0 h0 [] := Keep.refl h0 _
  refine own_iloadN (pc' := 1) B X0 d13_0 rfl rfl ?_
  refine own_iload (pc' := 3) B X0 d13_1 rfl rfl ?_
  refine own_icmpNo (pc' := 6) B X0 d13_3 (flt (by decide : ¬ ((0 : Int32) < (0 : Int32)))).1 rfl ?_
  refine own_iloadN (pc' := 7) B X0 d13_6 rfl rfl ?_
  refine own_iload (pc' := 9) B X0 d13_7 rfl rfl ?_
  refine own_iconst (pc' := 10) B X0 (z := (4 : Int32)) d13_9 rfl rfl ?_
  refine own_iadd (pc' := 11) B X0 (z := (4 : Int32)) d13_10 rfl (by decide) ?_
  refine own_icmpNo (pc' := 14) B X0 d13_11 (tlt (by decide : (0 : Int32) < (4 : Int32))).2.1 rfl ?_
  refine own_iload (pc' := 16) B X0 d13_14 rfl rfl ?_
  refine own_bipush (pc' := 18) B X0 (z := (24 : Int32)) d13_16 rfl (by decide) ?_
  refine own_bipush (pc' := 20) B X0 (z := (8 : Int32)) d13_18 rfl (by decide) ?_
  refine own_iloadN (pc' := 21) B X0 d13_20 rfl rfl ?_
  refine own_iload (pc' := 23) B X0 d13_21 rfl rfl ?_
  refine own_isub (pc' := 24) B X0 (z := (0 : Int32)) d13_23 rfl (by decide) ?_
  refine own_imul (pc' := 25) B X0 (z := (0 : Int32)) d13_24 rfl (by decide) ?_
  refine own_isub (pc' := 26) B X0 (z := (24 : Int32)) d13_25 rfl (by decide) ?_
  obtain ⟨y1, hy1⟩ : ∃ z : Int32, (p12.toUInt32 >>> ((24 : Int32) &&& 31).toUInt32).toInt32 = z := ⟨_, rfl⟩
  refine own_iushr (pc' := 27) B X0 d13_26 rfl hy1 ?_
  refine own_istore (pc' := 29) B X0 (Ls' := #[.val (.ref w0), .val (.int (0 : Int32)), .val (.int p10), .val (.int p11), .val (.int (0 : Int32)), .val (.int p12), .val (.int y1)]) d13_27 rfl rfl ?_
  refine own_goto (pc' := 64) B X0 d13_29 (by decide) rfl ?_
  refine own_aloadN (pc' := 65) B X0 d13_64 rfl rfl rfl ?_
  refine own_iloadN (pc' := 66) B X0 d13_65 rfl rfl ?_
  refine own_baload (pc' := 67) B X0 V_w0 (v := (.int p2)) ⟨by decide, by decide⟩ rfl d13_66 rfl ?_
  refine own_iload (pc' := 69) B X0 d13_67 rfl rfl ?_
  obtain ⟨y2, hy2⟩ : ∃ z : Int32, y1.toInt8.toInt32 = z := ⟨_, rfl⟩
  refine own_i2b (pc' := 70) B X0 d13_69 rfl hy2 ?_
  have c3 : p2 = y2 := by
    have o0 := own_o_i2b hp4
    have o1 := own_o_iushr hp11 16 (by decide) (by decide)
    have o2 := own_o_iushr hp12 8 (by decide) (by decide)
    have o3 := own_o_iushr hy1 24 (by decide) (by decide)
    have o4 := own_o_i2b hy2
    have o5 := rng32 p12
    have o6 := rng32 p16
    have o7 := rng32 p17
    have o8 := rng32 p2
    have o9 := rng32 y1
    have o10 := rng32 y2
    have o11 : (16 : Int32).toInt = 16 := by decide
    have o12 : (8 : Int32).toInt = 8 := by decide
    have o13 : (24 : Int32).toInt = 24 := by decide
    refine own_eqI ?_
    omega
  refine own_icmpNo (pc' := 73) B X0 d13_70 (teq c3).2 rfl ?_
  refine own_iconst (pc' := 74) B X0 (z := (1 : Int32)) d13_73 rfl rfl ?_
  refine own_goto (pc' := 78) B X0 d13_74 (by decide) rfl ?_
  exact own_retN B X0 (t := .boolean) (z' := (1 : Int32)) (by simp) (by decide) d13_78 (by decide) (by decide) (⟨y1, y2, hy1, hy2, c3, rfl, rfl⟩)
def Q_32 (Z : State) (w0 : Addr) (kw0 : ClassId) (p2 : Int32) (p3 : Int32) (p4 : Int32) (p5 : Int32) (p6 : Int32) (p7 : Int32) (p8 : Int32) (p9 : Int32) (p10 : Int32) (p11 : Int32) (p12 : Int32) (p13 : Int32) (p14 : Int32) (p15 : Int32) (p16 : Int32) (p17 : Int32) (p18 : Int32) (h0 : Heap) (n0 : Nat) (v : Option Value) (h : Heap) : Prop :=
  (v = some (.int (1 : Int32)) ∧ h0 = h)
set_option maxRecDepth 65536 in
set_option maxHeartbeats 40000000 in
theorem rm_32 (l : Launch) (Z : State) (a0 : Array Value) (hw : ∀ d ∈ tables_1, d.before a0 Z = true) (ws : List Jvm.Cond) (w0 : Addr) (kw0 : ClassId) (p2 : Int32) (p3 : Int32) (p4 : Int32) (p5 : Int32) (p6 : Int32) (p7 : Int32) (p8 : Int32) (p9 : Int32) (p10 : Int32) (p11 : Int32) (p12 : Int32) (p13 : Int32) (p14 : Int32) (p15 : Int32) (p16 : Int32) (p17 : Int32) (p18 : Int32) (h0 : Heap) (n0 : Nat) (Z0 : n0 ≤ h0.size) (E_w0 : Exa Z h0 w0 "[B") (V_w0 : Arv Z h0 w0 kw0 .byte (8 : Int32) [(.int p2), (.int p3), (.int p4), (.int p5), (.int p6), (.int p7), (.int p8), (.int p9)] (.int (0 : Int32))) (g_w0 : n0 ≤ w0) (hp0 : p13.toInt8.toInt32 = p6) (hp1 : p14.toInt8.toInt32 = p7) (hp2 : p15.toInt8.toInt32 = p8) (hp3 : p11.toInt8.toInt32 = p9) (hp4 : p16.toInt8.toInt32 = p2) (hp5 : p17.toInt8.toInt32 = p3) (hp6 : p18.toInt8.toInt32 = p4) (hp7 : p12.toInt8.toInt32 = p5) (hp8 : (p11.toUInt32 >>> ((16 : Int32) &&& 31).toUInt32).toInt32 = p14) (hp9 : (p14.toUInt32 >>> ((8 : Int32) &&& 31).toUInt32).toInt32 = p13) (hp10 : (p11.toUInt32 >>> ((8 : Int32) &&& 31).toUInt32).toInt32 = p15) (hp11 : (p12.toUInt32 >>> ((16 : Int32) &&& 31).toUInt32).toInt32 = p17) (hp12 : (p17.toUInt32 >>> ((8 : Int32) &&& 31).toUInt32).toInt32 = p16) (hp13 : (p12.toUInt32 >>> ((8 : Int32) &&& 31).toUInt32).toInt32 = p18) :
    MetFree l (⟨"demitasse/interp/BytesU4AtPinLaw", "ok", "([BIIIII)Z"⟩ : MethodName) (head1 (Jvm.Cond.code (⟨"demitasse/interp/BytesU4AtPinLaw", "ok", "([BIIIII)Z"⟩ : MethodName) method_3_code 7 (some .boolean) :: ws) ({ frames := 0, cells := 0, slots := 0, locals := 0 } : Room)) (fun a U => a = #[(.ref w0), (.int (1 : Int32)), (.int p10), (.int p11), (.int (0 : Int32)), (.int p12)] ∧ Z.Warmed39 U.vm ∧ U.heap = h0) (fun _ _ _ _ _ => True) (fun _ U o U' => ∃ v L, o = .returned v ∧ (Fr n0 L ∧ Q_32 Z w0 kw0 p2 p3 p4 p5 p6 p7 p8 p9 p10 p11 p12 p13 p14 p15 p16 p17 p18 h0 n0 v U'.heap) ∧ FrameEnd U o U' L ({ frames := 0, cells := 0, slots := 0, locals := 0 } : Room).cells ({ frames := 0, cells := 0, slots := 0, locals := 0 } : Room).slots) := by
  refine own_enter (Q := Q_32 Z w0 kw0 p2 p3 p4 p5 p6 p7 p8 p9 p10 p11 p12 p13 p14 p15 p16 p17 p18 h0 n0) (F := fun m => mkF m 0 #[.val (.ref w0), .val (.int (1 : Int32)), .val (.int p10), .val (.int p11), .val (.int (0 : Int32)), .val (.int p12), .unset] []) (plainFor_of_name pn_2) (fun m => by first | (simp [entryFrame, mkF, argsToLocals, Value.category]; done) | rfl) ?_
  intro p e s m below meth c s₁ B X0
  have K : Keep h0 h0 [] := Keep.refl h0 _
  refine own_iloadN (pc' := 1) B X0 d13_0 rfl rfl ?_
  refine own_iload (pc' := 3) B X0 d13_1 rfl rfl ?_
  refine own_icmpNo (pc' := 6) B X0 d13_3 (flt (by decide : ¬ ((1 : Int32) < (0 : Int32)))).1 rfl ?_
  refine own_iloadN (pc' := 7) B X0 d13_6 rfl rfl ?_
  refine own_iload (pc' := 9) B X0 d13_7 rfl rfl ?_
  refine own_iconst (pc' := 10) B X0 (z := (4 : Int32)) d13_9 rfl rfl ?_
  refine own_iadd (pc' := 11) B X0 (z := (4 : Int32)) d13_10 rfl (by decide) ?_
  refine own_icmpNo (pc' := 14) B X0 d13_11 (tlt (by decide : (1 : Int32) < (4 : Int32))).2.1 rfl ?_
  refine own_iload (pc' := 16) B X0 d13_14 rfl rfl ?_
  refine own_bipush (pc' := 18) B X0 (z := (24 : Int32)) d13_16 rfl (by decide) ?_
  refine own_bipush (pc' := 20) B X0 (z := (8 : Int32)) d13_18 rfl (by decide) ?_
  refine own_iloadN (pc' := 21) B X0 d13_20 rfl rfl ?_
  refine own_iload (pc' := 23) B X0 d13_21 rfl rfl ?_
  refine own_isub (pc' := 24) B X0 (z := (1 : Int32)) d13_23 rfl (by decide) ?_
  refine own_imul (pc' := 25) B X0 (z := (8 : Int32)) d13_24 rfl (by decide) ?_
  refine own_isub (pc' := 26) B X0 (z := (16 : Int32)) d13_25 rfl (by decide) ?_
  refine own_iushr (pc' := 27) B X0 d13_26 rfl hp11 ?_
  refine own_istore (pc' := 29) B X0 (Ls' := #[.val (.ref w0), .val (.int (1 : Int32)), .val (.int p10), .val (.int p11), .val (.int (0 : Int32)), .val (.int p12), .val (.int p17)]) d13_27 rfl rfl ?_
  refine own_goto (pc' := 64) B X0 d13_29 (by decide) rfl ?_
  refine own_aloadN (pc' := 65) B X0 d13_64 rfl rfl rfl ?_
  refine own_iloadN (pc' := 66) B X0 d13_65 rfl rfl ?_
  refine own_baload (pc' := 67) B X0 V_w0 (v := (.int p3)) ⟨by decide, by decide⟩ rfl d13_66 rfl ?_
  refine own_iload (pc' := 69) B X0 d13_67 rfl rfl ?_
  refine own_i2b (pc' := 70) B X0 d13_69 rfl hp5 ?_
  refine own_icmpNo (pc' := 73) B X0 d13_70 (teq rfl).2 rfl ?_
  refine own_iconst (pc' := 74) B X0 (z := (1 : Int32)) d13_73 rfl rfl ?_
  refine own_goto (pc' := 78) B X0 d13_74 (by decide) rfl ?_
  exact own_retN B X0 (t := .boolean) (z' := (1 : Int32)) (by simp) (by decide) d13_78 (by decide) (by decide) (⟨rfl, rfl⟩)
def Q_33 (Z : State) (w0 : Addr) (kw0 : ClassId) (p2 : Int32) (p3 : Int32) (p4 : Int32) (p5 : Int32) (p6 : Int32) (p7 : Int32) (p8 : Int32) (p9 : Int32) (p10 : Int32) (p11 : Int32) (p12 : Int32) (p13 : Int32) (p14 : Int32) (p15 : Int32) (p16 : Int32) (p17 : Int32) (p18 : Int32) (h0 : Heap) (n0 : Nat) (v : Option Value) (h : Heap) : Prop :=
  (v = some (.int (1 : Int32)) ∧ h0 = h)
set_option maxRecDepth 65536 in
set_option maxHeartbeats 40000000 in
theorem rm_33 (l : Launch) (Z : State) (a0 : Array Value) (hw : ∀ d ∈ tables_1, d.before a0 Z = true) (ws : List Jvm.Cond) (w0 : Addr) (kw0 : ClassId) (p2 : Int32) (p3 : Int32) (p4 : Int32) (p5 : Int32) (p6 : Int32) (p7 : Int32) (p8 : Int32) (p9 : Int32) (p10 : Int32) (p11 : Int32) (p12 : Int32) (p13 : Int32) (p14 : Int32) (p15 : Int32) (p16 : Int32) (p17 : Int32) (p18 : Int32) (h0 : Heap) (n0 : Nat) (Z0 : n0 ≤ h0.size) (E_w0 : Exa Z h0 w0 "[B") (V_w0 : Arv Z h0 w0 kw0 .byte (8 : Int32) [(.int p2), (.int p3), (.int p4), (.int p5), (.int p6), (.int p7), (.int p8), (.int p9)] (.int (0 : Int32))) (g_w0 : n0 ≤ w0) (hp0 : p13.toInt8.toInt32 = p6) (hp1 : p14.toInt8.toInt32 = p7) (hp2 : p15.toInt8.toInt32 = p8) (hp3 : p11.toInt8.toInt32 = p9) (hp4 : p16.toInt8.toInt32 = p2) (hp5 : p17.toInt8.toInt32 = p3) (hp6 : p18.toInt8.toInt32 = p4) (hp7 : p12.toInt8.toInt32 = p5) (hp8 : (p11.toUInt32 >>> ((16 : Int32) &&& 31).toUInt32).toInt32 = p14) (hp9 : (p14.toUInt32 >>> ((8 : Int32) &&& 31).toUInt32).toInt32 = p13) (hp10 : (p11.toUInt32 >>> ((8 : Int32) &&& 31).toUInt32).toInt32 = p15) (hp11 : (p12.toUInt32 >>> ((16 : Int32) &&& 31).toUInt32).toInt32 = p17) (hp12 : (p17.toUInt32 >>> ((8 : Int32) &&& 31).toUInt32).toInt32 = p16) (hp13 : (p12.toUInt32 >>> ((8 : Int32) &&& 31).toUInt32).toInt32 = p18) :
    MetFree l (⟨"demitasse/interp/BytesU4AtPinLaw", "ok", "([BIIIII)Z"⟩ : MethodName) (head1 (Jvm.Cond.code (⟨"demitasse/interp/BytesU4AtPinLaw", "ok", "([BIIIII)Z"⟩ : MethodName) method_3_code 7 (some .boolean) :: ws) ({ frames := 0, cells := 0, slots := 0, locals := 0 } : Room)) (fun a U => a = #[(.ref w0), (.int (2 : Int32)), (.int p10), (.int p11), (.int (0 : Int32)), (.int p12)] ∧ Z.Warmed39 U.vm ∧ U.heap = h0) (fun _ _ _ _ _ => True) (fun _ U o U' => ∃ v L, o = .returned v ∧ (Fr n0 L ∧ Q_33 Z w0 kw0 p2 p3 p4 p5 p6 p7 p8 p9 p10 p11 p12 p13 p14 p15 p16 p17 p18 h0 n0 v U'.heap) ∧ FrameEnd U o U' L ({ frames := 0, cells := 0, slots := 0, locals := 0 } : Room).cells ({ frames := 0, cells := 0, slots := 0, locals := 0 } : Room).slots) := by
  refine own_enter (Q := Q_33 Z w0 kw0 p2 p3 p4 p5 p6 p7 p8 p9 p10 p11 p12 p13 p14 p15 p16 p17 p18 h0 n0) (F := fun m => mkF m 0 #[.val (.ref w0), .val (.int (2 : Int32)), .val (.int p10), .val (.int p11), .val (.int (0 : Int32)), .val (.int p12), .unset] []) (plainFor_of_name pn_2) (fun m => by first | (simp [entryFrame, mkF, argsToLocals, Value.category]; done) | rfl) ?_
  intro p e s m below meth c s₁ B X0
  have K : Keep h0 h0 [] := Keep.refl h0 _
  refine own_iloadN (pc' := 1) B X0 d13_0 rfl rfl ?_
  refine own_iload (pc' := 3) B X0 d13_1 rfl rfl ?_
  refine own_icmpNo (pc' := 6) B X0 d13_3 (flt (by decide : ¬ ((2 : Int32) < (0 : Int32)))).1 rfl ?_
  refine own_iloadN (pc' := 7) B X0 d13_6 rfl rfl ?_
  refine own_iload (pc' := 9) B X0 d13_7 rfl rfl ?_
  refine own_iconst (pc' := 10) B X0 (z := (4 : Int32)) d13_9 rfl rfl ?_
  refine own_iadd (pc' := 11) B X0 (z := (4 : Int32)) d13_10 rfl (by decide) ?_
  refine own_icmpNo (pc' := 14) B X0 d13_11 (tlt (by decide : (2 : Int32) < (4 : Int32))).2.1 rfl ?_
  refine own_iload (pc' := 16) B X0 d13_14 rfl rfl ?_
  refine own_bipush (pc' := 18) B X0 (z := (24 : Int32)) d13_16 rfl (by decide) ?_
  refine own_bipush (pc' := 20) B X0 (z := (8 : Int32)) d13_18 rfl (by decide) ?_
  refine own_iloadN (pc' := 21) B X0 d13_20 rfl rfl ?_
  refine own_iload (pc' := 23) B X0 d13_21 rfl rfl ?_
  refine own_isub (pc' := 24) B X0 (z := (2 : Int32)) d13_23 rfl (by decide) ?_
  refine own_imul (pc' := 25) B X0 (z := (16 : Int32)) d13_24 rfl (by decide) ?_
  refine own_isub (pc' := 26) B X0 (z := (8 : Int32)) d13_25 rfl (by decide) ?_
  refine own_iushr (pc' := 27) B X0 d13_26 rfl hp13 ?_
  refine own_istore (pc' := 29) B X0 (Ls' := #[.val (.ref w0), .val (.int (2 : Int32)), .val (.int p10), .val (.int p11), .val (.int (0 : Int32)), .val (.int p12), .val (.int p18)]) d13_27 rfl rfl ?_
  refine own_goto (pc' := 64) B X0 d13_29 (by decide) rfl ?_
  refine own_aloadN (pc' := 65) B X0 d13_64 rfl rfl rfl ?_
  refine own_iloadN (pc' := 66) B X0 d13_65 rfl rfl ?_
  refine own_baload (pc' := 67) B X0 V_w0 (v := (.int p4)) ⟨by decide, by decide⟩ rfl d13_66 rfl ?_
  refine own_iload (pc' := 69) B X0 d13_67 rfl rfl ?_
  refine own_i2b (pc' := 70) B X0 d13_69 rfl hp6 ?_
  refine own_icmpNo (pc' := 73) B X0 d13_70 (teq rfl).2 rfl ?_
  refine own_iconst (pc' := 74) B X0 (z := (1 : Int32)) d13_73 rfl rfl ?_
  refine own_goto (pc' := 78) B X0 d13_74 (by decide) rfl ?_
  exact own_retN B X0 (t := .boolean) (z' := (1 : Int32)) (by simp) (by decide) d13_78 (by decide) (by decide) (⟨rfl, rfl⟩)
def Q_34 (Z : State) (w0 : Addr) (kw0 : ClassId) (p2 : Int32) (p3 : Int32) (p4 : Int32) (p5 : Int32) (p6 : Int32) (p7 : Int32) (p8 : Int32) (p9 : Int32) (p10 : Int32) (p11 : Int32) (p12 : Int32) (p13 : Int32) (p14 : Int32) (p15 : Int32) (p16 : Int32) (p17 : Int32) (p18 : Int32) (h0 : Heap) (n0 : Nat) (v : Option Value) (h : Heap) : Prop :=
  (v = some (.int (1 : Int32)) ∧ h0 = h)
set_option maxRecDepth 65536 in
set_option maxHeartbeats 40000000 in
theorem rm_34 (l : Launch) (Z : State) (a0 : Array Value) (hw : ∀ d ∈ tables_1, d.before a0 Z = true) (ws : List Jvm.Cond) (w0 : Addr) (kw0 : ClassId) (p2 : Int32) (p3 : Int32) (p4 : Int32) (p5 : Int32) (p6 : Int32) (p7 : Int32) (p8 : Int32) (p9 : Int32) (p10 : Int32) (p11 : Int32) (p12 : Int32) (p13 : Int32) (p14 : Int32) (p15 : Int32) (p16 : Int32) (p17 : Int32) (p18 : Int32) (h0 : Heap) (n0 : Nat) (Z0 : n0 ≤ h0.size) (E_w0 : Exa Z h0 w0 "[B") (V_w0 : Arv Z h0 w0 kw0 .byte (8 : Int32) [(.int p2), (.int p3), (.int p4), (.int p5), (.int p6), (.int p7), (.int p8), (.int p9)] (.int (0 : Int32))) (g_w0 : n0 ≤ w0) (hp0 : p13.toInt8.toInt32 = p6) (hp1 : p14.toInt8.toInt32 = p7) (hp2 : p15.toInt8.toInt32 = p8) (hp3 : p11.toInt8.toInt32 = p9) (hp4 : p16.toInt8.toInt32 = p2) (hp5 : p17.toInt8.toInt32 = p3) (hp6 : p18.toInt8.toInt32 = p4) (hp7 : p12.toInt8.toInt32 = p5) (hp8 : (p11.toUInt32 >>> ((16 : Int32) &&& 31).toUInt32).toInt32 = p14) (hp9 : (p14.toUInt32 >>> ((8 : Int32) &&& 31).toUInt32).toInt32 = p13) (hp10 : (p11.toUInt32 >>> ((8 : Int32) &&& 31).toUInt32).toInt32 = p15) (hp11 : (p12.toUInt32 >>> ((16 : Int32) &&& 31).toUInt32).toInt32 = p17) (hp12 : (p17.toUInt32 >>> ((8 : Int32) &&& 31).toUInt32).toInt32 = p16) (hp13 : (p12.toUInt32 >>> ((8 : Int32) &&& 31).toUInt32).toInt32 = p18) :
    MetFree l (⟨"demitasse/interp/BytesU4AtPinLaw", "ok", "([BIIIII)Z"⟩ : MethodName) (head1 (Jvm.Cond.code (⟨"demitasse/interp/BytesU4AtPinLaw", "ok", "([BIIIII)Z"⟩ : MethodName) method_3_code 7 (some .boolean) :: ws) ({ frames := 0, cells := 0, slots := 0, locals := 0 } : Room)) (fun a U => a = #[(.ref w0), (.int (3 : Int32)), (.int p10), (.int p11), (.int (0 : Int32)), (.int p12)] ∧ Z.Warmed39 U.vm ∧ U.heap = h0) (fun _ _ _ _ _ => True) (fun _ U o U' => ∃ v L, o = .returned v ∧ (Fr n0 L ∧ Q_34 Z w0 kw0 p2 p3 p4 p5 p6 p7 p8 p9 p10 p11 p12 p13 p14 p15 p16 p17 p18 h0 n0 v U'.heap) ∧ FrameEnd U o U' L ({ frames := 0, cells := 0, slots := 0, locals := 0 } : Room).cells ({ frames := 0, cells := 0, slots := 0, locals := 0 } : Room).slots) := by
  refine own_enter (Q := Q_34 Z w0 kw0 p2 p3 p4 p5 p6 p7 p8 p9 p10 p11 p12 p13 p14 p15 p16 p17 p18 h0 n0) (F := fun m => mkF m 0 #[.val (.ref w0), .val (.int (3 : Int32)), .val (.int p10), .val (.int p11), .val (.int (0 : Int32)), .val (.int p12), .unset] []) (plainFor_of_name pn_2) (fun m => by first | (simp [entryFrame, mkF, argsToLocals, Value.category]; done) | rfl) ?_
  intro p e s m below meth c s₁ B X0
  have K : Keep h0 h0 [] := Keep.refl h0 _
  refine own_iloadN (pc' := 1) B X0 d13_0 rfl rfl ?_
  refine own_iload (pc' := 3) B X0 d13_1 rfl rfl ?_
  refine own_icmpNo (pc' := 6) B X0 d13_3 (flt (by decide : ¬ ((3 : Int32) < (0 : Int32)))).1 rfl ?_
  refine own_iloadN (pc' := 7) B X0 d13_6 rfl rfl ?_
  refine own_iload (pc' := 9) B X0 d13_7 rfl rfl ?_
  refine own_iconst (pc' := 10) B X0 (z := (4 : Int32)) d13_9 rfl rfl ?_
  refine own_iadd (pc' := 11) B X0 (z := (4 : Int32)) d13_10 rfl (by decide) ?_
  refine own_icmpNo (pc' := 14) B X0 d13_11 (tlt (by decide : (3 : Int32) < (4 : Int32))).2.1 rfl ?_
  refine own_iload (pc' := 16) B X0 d13_14 rfl rfl ?_
  refine own_bipush (pc' := 18) B X0 (z := (24 : Int32)) d13_16 rfl (by decide) ?_
  refine own_bipush (pc' := 20) B X0 (z := (8 : Int32)) d13_18 rfl (by decide) ?_
  refine own_iloadN (pc' := 21) B X0 d13_20 rfl rfl ?_
  refine own_iload (pc' := 23) B X0 d13_21 rfl rfl ?_
  refine own_isub (pc' := 24) B X0 (z := (3 : Int32)) d13_23 rfl (by decide) ?_
  refine own_imul (pc' := 25) B X0 (z := (24 : Int32)) d13_24 rfl (by decide) ?_
  refine own_isub (pc' := 26) B X0 (z := (0 : Int32)) d13_25 rfl (by decide) ?_
  refine own_iushr (pc' := 27) B X0 d13_26 rfl (own_ush0 _) ?_
  refine own_istore (pc' := 29) B X0 (Ls' := #[.val (.ref w0), .val (.int (3 : Int32)), .val (.int p10), .val (.int p11), .val (.int (0 : Int32)), .val (.int p12), .val (.int p12)]) d13_27 rfl rfl ?_
  refine own_goto (pc' := 64) B X0 d13_29 (by decide) rfl ?_
  refine own_aloadN (pc' := 65) B X0 d13_64 rfl rfl rfl ?_
  refine own_iloadN (pc' := 66) B X0 d13_65 rfl rfl ?_
  refine own_baload (pc' := 67) B X0 V_w0 (v := (.int p5)) ⟨by decide, by decide⟩ rfl d13_66 rfl ?_
  refine own_iload (pc' := 69) B X0 d13_67 rfl rfl ?_
  refine own_i2b (pc' := 70) B X0 d13_69 rfl hp7 ?_
  refine own_icmpNo (pc' := 73) B X0 d13_70 (teq rfl).2 rfl ?_
  refine own_iconst (pc' := 74) B X0 (z := (1 : Int32)) d13_73 rfl rfl ?_
  refine own_goto (pc' := 78) B X0 d13_74 (by decide) rfl ?_
  exact own_retN B X0 (t := .boolean) (z' := (1 : Int32)) (by simp) (by decide) d13_78 (by decide) (by decide) (⟨rfl, rfl⟩)
def Q_35 (Z : State) (w0 : Addr) (kw0 : ClassId) (p2 : Int32) (p3 : Int32) (p4 : Int32) (p5 : Int32) (p6 : Int32) (p7 : Int32) (p8 : Int32) (p9 : Int32) (p10 : Int32) (p11 : Int32) (p12 : Int32) (p13 : Int32) (p14 : Int32) (p15 : Int32) (p16 : Int32) (p17 : Int32) (p18 : Int32) (h0 : Heap) (n0 : Nat) (v : Option Value) (h : Heap) : Prop :=
  (∃ (y1 : Int32) (y2 : Int32), (p11.toUInt32 >>> ((24 : Int32) &&& 31).toUInt32).toInt32 = y1 ∧ y1.toInt8.toInt32 = y2 ∧ p6 = y2 ∧ v = some (.int (1 : Int32)) ∧ h0 = h)
set_option maxRecDepth 65536 in
set_option maxHeartbeats 40000000 in
theorem rm_35 (l : Launch) (Z : State) (a0 : Array Value) (hw : ∀ d ∈ tables_1, d.before a0 Z = true) (ws : List Jvm.Cond) (w0 : Addr) (kw0 : ClassId) (p2 : Int32) (p3 : Int32) (p4 : Int32) (p5 : Int32) (p6 : Int32) (p7 : Int32) (p8 : Int32) (p9 : Int32) (p10 : Int32) (p11 : Int32) (p12 : Int32) (p13 : Int32) (p14 : Int32) (p15 : Int32) (p16 : Int32) (p17 : Int32) (p18 : Int32) (h0 : Heap) (n0 : Nat) (Z0 : n0 ≤ h0.size) (E_w0 : Exa Z h0 w0 "[B") (V_w0 : Arv Z h0 w0 kw0 .byte (8 : Int32) [(.int p2), (.int p3), (.int p4), (.int p5), (.int p6), (.int p7), (.int p8), (.int p9)] (.int (0 : Int32))) (g_w0 : n0 ≤ w0) (hp0 : p13.toInt8.toInt32 = p6) (hp1 : p14.toInt8.toInt32 = p7) (hp2 : p15.toInt8.toInt32 = p8) (hp3 : p11.toInt8.toInt32 = p9) (hp4 : p16.toInt8.toInt32 = p2) (hp5 : p17.toInt8.toInt32 = p3) (hp6 : p18.toInt8.toInt32 = p4) (hp7 : p12.toInt8.toInt32 = p5) (hp8 : (p11.toUInt32 >>> ((16 : Int32) &&& 31).toUInt32).toInt32 = p14) (hp9 : (p14.toUInt32 >>> ((8 : Int32) &&& 31).toUInt32).toInt32 = p13) (hp10 : (p11.toUInt32 >>> ((8 : Int32) &&& 31).toUInt32).toInt32 = p15) (hp11 : (p12.toUInt32 >>> ((16 : Int32) &&& 31).toUInt32).toInt32 = p17) (hp12 : (p17.toUInt32 >>> ((8 : Int32) &&& 31).toUInt32).toInt32 = p16) (hp13 : (p12.toUInt32 >>> ((8 : Int32) &&& 31).toUInt32).toInt32 = p18) :
    MetFree l (⟨"demitasse/interp/BytesU4AtPinLaw", "ok", "([BIIIII)Z"⟩ : MethodName) (head1 (Jvm.Cond.code (⟨"demitasse/interp/BytesU4AtPinLaw", "ok", "([BIIIII)Z"⟩ : MethodName) method_3_code 7 (some .boolean) :: ws) ({ frames := 0, cells := 0, slots := 0, locals := 0 } : Room)) (fun a U => a = #[(.ref w0), (.int (4 : Int32)), (.int p10), (.int p11), (.int (0 : Int32)), (.int p12)] ∧ Z.Warmed39 U.vm ∧ U.heap = h0) (fun _ _ _ _ _ => True) (fun _ U o U' => ∃ v L, o = .returned v ∧ (Fr n0 L ∧ Q_35 Z w0 kw0 p2 p3 p4 p5 p6 p7 p8 p9 p10 p11 p12 p13 p14 p15 p16 p17 p18 h0 n0 v U'.heap) ∧ FrameEnd U o U' L ({ frames := 0, cells := 0, slots := 0, locals := 0 } : Room).cells ({ frames := 0, cells := 0, slots := 0, locals := 0 } : Room).slots) := by
  refine own_enter (Q := Q_35 Z w0 kw0 p2 p3 p4 p5 p6 p7 p8 p9 p10 p11 p12 p13 p14 p15 p16 p17 p18 h0 n0) (F := fun m => mkF m 0 #[.val (.ref w0), .val (.int (4 : Int32)), .val (.int p10), .val (.int p11), .val (.int (0 : Int32)), .val (.int p12), .unset] []) (plainFor_of_name pn_2) (fun m => by first | (simp [entryFrame, mkF, argsToLocals, Value.category]; done) | rfl) ?_
  intro p e s m below meth c s₁ B X0
  have K : Keep h0 h0 [] := Keep.refl h0 _
  refine own_iloadN (pc' := 1) B X0 d13_0 rfl rfl ?_
  refine own_iload (pc' := 3) B X0 d13_1 rfl rfl ?_
  refine own_icmpNo (pc' := 6) B X0 d13_3 (flt (by decide : ¬ ((4 : Int32) < (0 : Int32)))).1 rfl ?_
  refine own_iloadN (pc' := 7) B X0 d13_6 rfl rfl ?_
  refine own_iload (pc' := 9) B X0 d13_7 rfl rfl ?_
  refine own_iconst (pc' := 10) B X0 (z := (4 : Int32)) d13_9 rfl rfl ?_
  refine own_iadd (pc' := 11) B X0 (z := (4 : Int32)) d13_10 rfl (by decide) ?_
  refine own_icmpYes (pc' := 32) B X0 d13_11 (flt (by decide : ¬ ((4 : Int32) < (4 : Int32)))).2.1 (by decide) rfl ?_
  refine own_iloadN (pc' := 33) B X0 d13_32 rfl rfl ?_
  refine own_iconst (pc' := 34) B X0 (z := (4 : Int32)) d13_33 rfl rfl ?_
  refine own_icmpYes (pc' := 51) B X0 d13_34 (flt (by decide : ¬ ((4 : Int32) < (4 : Int32)))).2.1 (by decide) rfl ?_
  refine own_iloadN (pc' := 52) B X0 d13_51 rfl rfl ?_
  refine own_bipush (pc' := 54) B X0 (z := (24 : Int32)) d13_52 rfl (by decide) ?_
  refine own_bipush (pc' := 56) B X0 (z := (8 : Int32)) d13_54 rfl (by decide) ?_
  refine own_iloadN (pc' := 57) B X0 d13_56 rfl rfl ?_
  refine own_iconst (pc' := 58) B X0 (z := (4 : Int32)) d13_57 rfl rfl ?_
  refine own_isub (pc' := 59) B X0 (z := (0 : Int32)) d13_58 rfl (by decide) ?_
  refine own_imul (pc' := 60) B X0 (z := (0 : Int32)) d13_59 rfl (by decide) ?_
  refine own_isub (pc' := 61) B X0 (z := (24 : Int32)) d13_60 rfl (by decide) ?_
  obtain ⟨y1, hy1⟩ : ∃ z : Int32, (p11.toUInt32 >>> ((24 : Int32) &&& 31).toUInt32).toInt32 = z := ⟨_, rfl⟩
  refine own_iushr (pc' := 62) B X0 d13_61 rfl hy1 ?_
  refine own_istore (pc' := 64) B X0 (Ls' := #[.val (.ref w0), .val (.int (4 : Int32)), .val (.int p10), .val (.int p11), .val (.int (0 : Int32)), .val (.int p12), .val (.int y1)]) d13_62 rfl rfl ?_
  refine own_aloadN (pc' := 65) B X0 d13_64 rfl rfl rfl ?_
  refine own_iloadN (pc' := 66) B X0 d13_65 rfl rfl ?_
  refine own_baload (pc' := 67) B X0 V_w0 (v := (.int p6)) ⟨by decide, by decide⟩ rfl d13_66 rfl ?_
  refine own_iload (pc' := 69) B X0 d13_67 rfl rfl ?_
  obtain ⟨y2, hy2⟩ : ∃ z : Int32, y1.toInt8.toInt32 = z := ⟨_, rfl⟩
  refine own_i2b (pc' := 70) B X0 d13_69 rfl hy2 ?_
  have c3 : p6 = y2 := by
    have o0 := own_o_i2b hp0
    have o1 := own_o_iushr hp8 16 (by decide) (by decide)
    have o2 := own_o_iushr hp9 8 (by decide) (by decide)
    have o3 := own_o_iushr hy1 24 (by decide) (by decide)
    have o4 := own_o_i2b hy2
    have o5 := rng32 p11
    have o6 := rng32 p13
    have o7 := rng32 p14
    have o8 := rng32 p6
    have o9 := rng32 y1
    have o10 := rng32 y2
    have o11 : (16 : Int32).toInt = 16 := by decide
    have o12 : (8 : Int32).toInt = 8 := by decide
    have o13 : (24 : Int32).toInt = 24 := by decide
    refine own_eqI ?_
    omega
  refine own_icmpNo (pc' := 73) B X0 d13_70 (teq c3).2 rfl ?_
  refine own_iconst (pc' := 74) B X0 (z := (1 : Int32)) d13_73 rfl rfl ?_
  refine own_goto (pc' := 78) B X0 d13_74 (by decide) rfl ?_
  exact own_retN B X0 (t := .boolean) (z' := (1 : Int32)) (by simp) (by decide) d13_78 (by decide) (by decide) (⟨y1, y2, hy1, hy2, c3, rfl, rfl⟩)
def Q_36 (Z : State) (w0 : Addr) (kw0 : ClassId) (p2 : Int32) (p3 : Int32) (p4 : Int32) (p5 : Int32) (p6 : Int32) (p7 : Int32) (p8 : Int32) (p9 : Int32) (p10 : Int32) (p11 : Int32) (p12 : Int32) (p13 : Int32) (p14 : Int32) (p15 : Int32) (p16 : Int32) (p17 : Int32) (p18 : Int32) (h0 : Heap) (n0 : Nat) (v : Option Value) (h : Heap) : Prop :=
  (v = some (.int (1 : Int32)) ∧ h0 = h)
set_option maxRecDepth 65536 in
set_option maxHeartbeats 40000000 in
theorem rm_36 (l : Launch) (Z : State) (a0 : Array Value) (hw : ∀ d ∈ tables_1, d.before a0 Z = true) (ws : List Jvm.Cond) (w0 : Addr) (kw0 : ClassId) (p2 : Int32) (p3 : Int32) (p4 : Int32) (p5 : Int32) (p6 : Int32) (p7 : Int32) (p8 : Int32) (p9 : Int32) (p10 : Int32) (p11 : Int32) (p12 : Int32) (p13 : Int32) (p14 : Int32) (p15 : Int32) (p16 : Int32) (p17 : Int32) (p18 : Int32) (h0 : Heap) (n0 : Nat) (Z0 : n0 ≤ h0.size) (E_w0 : Exa Z h0 w0 "[B") (V_w0 : Arv Z h0 w0 kw0 .byte (8 : Int32) [(.int p2), (.int p3), (.int p4), (.int p5), (.int p6), (.int p7), (.int p8), (.int p9)] (.int (0 : Int32))) (g_w0 : n0 ≤ w0) (hp0 : p13.toInt8.toInt32 = p6) (hp1 : p14.toInt8.toInt32 = p7) (hp2 : p15.toInt8.toInt32 = p8) (hp3 : p11.toInt8.toInt32 = p9) (hp4 : p16.toInt8.toInt32 = p2) (hp5 : p17.toInt8.toInt32 = p3) (hp6 : p18.toInt8.toInt32 = p4) (hp7 : p12.toInt8.toInt32 = p5) (hp8 : (p11.toUInt32 >>> ((16 : Int32) &&& 31).toUInt32).toInt32 = p14) (hp9 : (p14.toUInt32 >>> ((8 : Int32) &&& 31).toUInt32).toInt32 = p13) (hp10 : (p11.toUInt32 >>> ((8 : Int32) &&& 31).toUInt32).toInt32 = p15) (hp11 : (p12.toUInt32 >>> ((16 : Int32) &&& 31).toUInt32).toInt32 = p17) (hp12 : (p17.toUInt32 >>> ((8 : Int32) &&& 31).toUInt32).toInt32 = p16) (hp13 : (p12.toUInt32 >>> ((8 : Int32) &&& 31).toUInt32).toInt32 = p18) :
    MetFree l (⟨"demitasse/interp/BytesU4AtPinLaw", "ok", "([BIIIII)Z"⟩ : MethodName) (head1 (Jvm.Cond.code (⟨"demitasse/interp/BytesU4AtPinLaw", "ok", "([BIIIII)Z"⟩ : MethodName) method_3_code 7 (some .boolean) :: ws) ({ frames := 0, cells := 0, slots := 0, locals := 0 } : Room)) (fun a U => a = #[(.ref w0), (.int (5 : Int32)), (.int p10), (.int p11), (.int (0 : Int32)), (.int p12)] ∧ Z.Warmed39 U.vm ∧ U.heap = h0) (fun _ _ _ _ _ => True) (fun _ U o U' => ∃ v L, o = .returned v ∧ (Fr n0 L ∧ Q_36 Z w0 kw0 p2 p3 p4 p5 p6 p7 p8 p9 p10 p11 p12 p13 p14 p15 p16 p17 p18 h0 n0 v U'.heap) ∧ FrameEnd U o U' L ({ frames := 0, cells := 0, slots := 0, locals := 0 } : Room).cells ({ frames := 0, cells := 0, slots := 0, locals := 0 } : Room).slots) := by
  refine own_enter (Q := Q_36 Z w0 kw0 p2 p3 p4 p5 p6 p7 p8 p9 p10 p11 p12 p13 p14 p15 p16 p17 p18 h0 n0) (F := fun m => mkF m 0 #[.val (.ref w0), .val (.int (5 : Int32)), .val (.int p10), .val (.int p11), .val (.int (0 : Int32)), .val (.int p12), .unset] []) (plainFor_of_name pn_2) (fun m => by first | (simp [entryFrame, mkF, argsToLocals, Value.category]; done) | rfl) ?_
  intro p e s m below meth c s₁ B X0
  have K : Keep h0 h0 [] := Keep.refl h0 _
  refine own_iloadN (pc' := 1) B X0 d13_0 rfl rfl ?_
  refine own_iload (pc' := 3) B X0 d13_1 rfl rfl ?_
  refine own_icmpNo (pc' := 6) B X0 d13_3 (flt (by decide : ¬ ((5 : Int32) < (0 : Int32)))).1 rfl ?_
  refine own_iloadN (pc' := 7) B X0 d13_6 rfl rfl ?_
  refine own_iload (pc' := 9) B X0 d13_7 rfl rfl ?_
  refine own_iconst (pc' := 10) B X0 (z := (4 : Int32)) d13_9 rfl rfl ?_
  refine own_iadd (pc' := 11) B X0 (z := (4 : Int32)) d13_10 rfl (by decide) ?_
  refine own_icmpYes (pc' := 32) B X0 d13_11 (flt (by decide : ¬ ((5 : Int32) < (4 : Int32)))).2.1 (by decide) rfl ?_
  refine own_iloadN (pc' := 33) B X0 d13_32 rfl rfl ?_
  refine own_iconst (pc' := 34) B X0 (z := (4 : Int32)) d13_33 rfl rfl ?_
  refine own_icmpYes (pc' := 51) B X0 d13_34 (flt (by decide : ¬ ((5 : Int32) < (4 : Int32)))).2.1 (by decide) rfl ?_
  refine own_iloadN (pc' := 52) B X0 d13_51 rfl rfl ?_
  refine own_bipush (pc' := 54) B X0 (z := (24 : Int32)) d13_52 rfl (by decide) ?_
  refine own_bipush (pc' := 56) B X0 (z := (8 : Int32)) d13_54 rfl (by decide) ?_
  refine own_iloadN (pc' := 57) B X0 d13_56 rfl rfl ?_
  refine own_iconst (pc' := 58) B X0 (z := (4 : Int32)) d13_57 rfl rfl ?_
  refine own_isub (pc' := 59) B X0 (z := (1 : Int32)) d13_58 rfl (by decide) ?_
  refine own_imul (pc' := 60) B X0 (z := (8 : Int32)) d13_59 rfl (by decide) ?_
  refine own_isub (pc' := 61) B X0 (z := (16 : Int32)) d13_60 rfl (by decide) ?_
  refine own_iushr (pc' := 62) B X0 d13_61 rfl hp8 ?_
  refine own_istore (pc' := 64) B X0 (Ls' := #[.val (.ref w0), .val (.int (5 : Int32)), .val (.int p10), .val (.int p11), .val (.int (0 : Int32)), .val (.int p12), .val (.int p14)]) d13_62 rfl rfl ?_
  refine own_aloadN (pc' := 65) B X0 d13_64 rfl rfl rfl ?_
  refine own_iloadN (pc' := 66) B X0 d13_65 rfl rfl ?_
  refine own_baload (pc' := 67) B X0 V_w0 (v := (.int p7)) ⟨by decide, by decide⟩ rfl d13_66 rfl ?_
  refine own_iload (pc' := 69) B X0 d13_67 rfl rfl ?_
  refine own_i2b (pc' := 70) B X0 d13_69 rfl hp1 ?_
  refine own_icmpNo (pc' := 73) B X0 d13_70 (teq rfl).2 rfl ?_
  refine own_iconst (pc' := 74) B X0 (z := (1 : Int32)) d13_73 rfl rfl ?_
  refine own_goto (pc' := 78) B X0 d13_74 (by decide) rfl ?_
  exact own_retN B X0 (t := .boolean) (z' := (1 : Int32)) (by simp) (by decide) d13_78 (by decide) (by decide) (⟨rfl, rfl⟩)
def Q_37 (Z : State) (w0 : Addr) (kw0 : ClassId) (p2 : Int32) (p3 : Int32) (p4 : Int32) (p5 : Int32) (p6 : Int32) (p7 : Int32) (p8 : Int32) (p9 : Int32) (p10 : Int32) (p11 : Int32) (p12 : Int32) (p13 : Int32) (p14 : Int32) (p15 : Int32) (p16 : Int32) (p17 : Int32) (p18 : Int32) (h0 : Heap) (n0 : Nat) (v : Option Value) (h : Heap) : Prop :=
  (v = some (.int (1 : Int32)) ∧ h0 = h)
set_option maxRecDepth 65536 in
set_option maxHeartbeats 40000000 in
theorem rm_37 (l : Launch) (Z : State) (a0 : Array Value) (hw : ∀ d ∈ tables_1, d.before a0 Z = true) (ws : List Jvm.Cond) (w0 : Addr) (kw0 : ClassId) (p2 : Int32) (p3 : Int32) (p4 : Int32) (p5 : Int32) (p6 : Int32) (p7 : Int32) (p8 : Int32) (p9 : Int32) (p10 : Int32) (p11 : Int32) (p12 : Int32) (p13 : Int32) (p14 : Int32) (p15 : Int32) (p16 : Int32) (p17 : Int32) (p18 : Int32) (h0 : Heap) (n0 : Nat) (Z0 : n0 ≤ h0.size) (E_w0 : Exa Z h0 w0 "[B") (V_w0 : Arv Z h0 w0 kw0 .byte (8 : Int32) [(.int p2), (.int p3), (.int p4), (.int p5), (.int p6), (.int p7), (.int p8), (.int p9)] (.int (0 : Int32))) (g_w0 : n0 ≤ w0) (hp0 : p13.toInt8.toInt32 = p6) (hp1 : p14.toInt8.toInt32 = p7) (hp2 : p15.toInt8.toInt32 = p8) (hp3 : p11.toInt8.toInt32 = p9) (hp4 : p16.toInt8.toInt32 = p2) (hp5 : p17.toInt8.toInt32 = p3) (hp6 : p18.toInt8.toInt32 = p4) (hp7 : p12.toInt8.toInt32 = p5) (hp8 : (p11.toUInt32 >>> ((16 : Int32) &&& 31).toUInt32).toInt32 = p14) (hp9 : (p14.toUInt32 >>> ((8 : Int32) &&& 31).toUInt32).toInt32 = p13) (hp10 : (p11.toUInt32 >>> ((8 : Int32) &&& 31).toUInt32).toInt32 = p15) (hp11 : (p12.toUInt32 >>> ((16 : Int32) &&& 31).toUInt32).toInt32 = p17) (hp12 : (p17.toUInt32 >>> ((8 : Int32) &&& 31).toUInt32).toInt32 = p16) (hp13 : (p12.toUInt32 >>> ((8 : Int32) &&& 31).toUInt32).toInt32 = p18) :
    MetFree l (⟨"demitasse/interp/BytesU4AtPinLaw", "ok", "([BIIIII)Z"⟩ : MethodName) (head1 (Jvm.Cond.code (⟨"demitasse/interp/BytesU4AtPinLaw", "ok", "([BIIIII)Z"⟩ : MethodName) method_3_code 7 (some .boolean) :: ws) ({ frames := 0, cells := 0, slots := 0, locals := 0 } : Room)) (fun a U => a = #[(.ref w0), (.int (6 : Int32)), (.int p10), (.int p11), (.int (0 : Int32)), (.int p12)] ∧ Z.Warmed39 U.vm ∧ U.heap = h0) (fun _ _ _ _ _ => True) (fun _ U o U' => ∃ v L, o = .returned v ∧ (Fr n0 L ∧ Q_37 Z w0 kw0 p2 p3 p4 p5 p6 p7 p8 p9 p10 p11 p12 p13 p14 p15 p16 p17 p18 h0 n0 v U'.heap) ∧ FrameEnd U o U' L ({ frames := 0, cells := 0, slots := 0, locals := 0 } : Room).cells ({ frames := 0, cells := 0, slots := 0, locals := 0 } : Room).slots) := by
  refine own_enter (Q := Q_37 Z w0 kw0 p2 p3 p4 p5 p6 p7 p8 p9 p10 p11 p12 p13 p14 p15 p16 p17 p18 h0 n0) (F := fun m => mkF m 0 #[.val (.ref w0), .val (.int (6 : Int32)), .val (.int p10), .val (.int p11), .val (.int (0 : Int32)), .val (.int p12), .unset] []) (plainFor_of_name pn_2) (fun m => by first | (simp [entryFrame, mkF, argsToLocals, Value.category]; done) | rfl) ?_
  intro p e s m below meth c s₁ B X0
  have K : Keep h0 h0 [] := Keep.refl h0 _
  refine own_iloadN (pc' := 1) B X0 d13_0 rfl rfl ?_
  refine own_iload (pc' := 3) B X0 d13_1 rfl rfl ?_
  refine own_icmpNo (pc' := 6) B X0 d13_3 (flt (by decide : ¬ ((6 : Int32) < (0 : Int32)))).1 rfl ?_
  refine own_iloadN (pc' := 7) B X0 d13_6 rfl rfl ?_
  refine own_iload (pc' := 9) B X0 d13_7 rfl rfl ?_
  refine own_iconst (pc' := 10) B X0 (z := (4 : Int32)) d13_9 rfl rfl ?_
  refine own_iadd (pc' := 11) B X0 (z := (4 : Int32)) d13_10 rfl (by decide) ?_
  refine own_icmpYes (pc' := 32) B X0 d13_11 (flt (by decide : ¬ ((6 : Int32) < (4 : Int32)))).2.1 (by decide) rfl ?_
  refine own_iloadN (pc' := 33) B X0 d13_32 rfl rfl ?_
  refine own_iconst (pc' := 34) B X0 (z := (4 : Int32)) d13_33 rfl rfl ?_
  refine own_icmpYes (pc' := 51) B X0 d13_34 (flt (by decide : ¬ ((6 : Int32) < (4 : Int32)))).2.1 (by decide) rfl ?_
  refine own_iloadN (pc' := 52) B X0 d13_51 rfl rfl ?_
  refine own_bipush (pc' := 54) B X0 (z := (24 : Int32)) d13_52 rfl (by decide) ?_
  refine own_bipush (pc' := 56) B X0 (z := (8 : Int32)) d13_54 rfl (by decide) ?_
  refine own_iloadN (pc' := 57) B X0 d13_56 rfl rfl ?_
  refine own_iconst (pc' := 58) B X0 (z := (4 : Int32)) d13_57 rfl rfl ?_
  refine own_isub (pc' := 59) B X0 (z := (2 : Int32)) d13_58 rfl (by decide) ?_
  refine own_imul (pc' := 60) B X0 (z := (16 : Int32)) d13_59 rfl (by decide) ?_
  refine own_isub (pc' := 61) B X0 (z := (8 : Int32)) d13_60 rfl (by decide) ?_
  refine own_iushr (pc' := 62) B X0 d13_61 rfl hp10 ?_
  refine own_istore (pc' := 64) B X0 (Ls' := #[.val (.ref w0), .val (.int (6 : Int32)), .val (.int p10), .val (.int p11), .val (.int (0 : Int32)), .val (.int p12), .val (.int p15)]) d13_62 rfl rfl ?_
  refine own_aloadN (pc' := 65) B X0 d13_64 rfl rfl rfl ?_
  refine own_iloadN (pc' := 66) B X0 d13_65 rfl rfl ?_
  refine own_baload (pc' := 67) B X0 V_w0 (v := (.int p8)) ⟨by decide, by decide⟩ rfl d13_66 rfl ?_
  refine own_iload (pc' := 69) B X0 d13_67 rfl rfl ?_
  refine own_i2b (pc' := 70) B X0 d13_69 rfl hp2 ?_
  refine own_icmpNo (pc' := 73) B X0 d13_70 (teq rfl).2 rfl ?_
  refine own_iconst (pc' := 74) B X0 (z := (1 : Int32)) d13_73 rfl rfl ?_
  refine own_goto (pc' := 78) B X0 d13_74 (by decide) rfl ?_
  exact own_retN B X0 (t := .boolean) (z' := (1 : Int32)) (by simp) (by decide) d13_78 (by decide) (by decide) (⟨rfl, rfl⟩)
def Q_38 (Z : State) (w0 : Addr) (kw0 : ClassId) (p2 : Int32) (p3 : Int32) (p4 : Int32) (p5 : Int32) (p6 : Int32) (p7 : Int32) (p8 : Int32) (p9 : Int32) (p10 : Int32) (p11 : Int32) (p12 : Int32) (p13 : Int32) (p14 : Int32) (p15 : Int32) (p16 : Int32) (p17 : Int32) (p18 : Int32) (h0 : Heap) (n0 : Nat) (v : Option Value) (h : Heap) : Prop :=
  (v = some (.int (1 : Int32)) ∧ h0 = h)
set_option maxRecDepth 65536 in
set_option maxHeartbeats 40000000 in
theorem rm_38 (l : Launch) (Z : State) (a0 : Array Value) (hw : ∀ d ∈ tables_1, d.before a0 Z = true) (ws : List Jvm.Cond) (w0 : Addr) (kw0 : ClassId) (p2 : Int32) (p3 : Int32) (p4 : Int32) (p5 : Int32) (p6 : Int32) (p7 : Int32) (p8 : Int32) (p9 : Int32) (p10 : Int32) (p11 : Int32) (p12 : Int32) (p13 : Int32) (p14 : Int32) (p15 : Int32) (p16 : Int32) (p17 : Int32) (p18 : Int32) (h0 : Heap) (n0 : Nat) (Z0 : n0 ≤ h0.size) (E_w0 : Exa Z h0 w0 "[B") (V_w0 : Arv Z h0 w0 kw0 .byte (8 : Int32) [(.int p2), (.int p3), (.int p4), (.int p5), (.int p6), (.int p7), (.int p8), (.int p9)] (.int (0 : Int32))) (g_w0 : n0 ≤ w0) (hp0 : p13.toInt8.toInt32 = p6) (hp1 : p14.toInt8.toInt32 = p7) (hp2 : p15.toInt8.toInt32 = p8) (hp3 : p11.toInt8.toInt32 = p9) (hp4 : p16.toInt8.toInt32 = p2) (hp5 : p17.toInt8.toInt32 = p3) (hp6 : p18.toInt8.toInt32 = p4) (hp7 : p12.toInt8.toInt32 = p5) (hp8 : (p11.toUInt32 >>> ((16 : Int32) &&& 31).toUInt32).toInt32 = p14) (hp9 : (p14.toUInt32 >>> ((8 : Int32) &&& 31).toUInt32).toInt32 = p13) (hp10 : (p11.toUInt32 >>> ((8 : Int32) &&& 31).toUInt32).toInt32 = p15) (hp11 : (p12.toUInt32 >>> ((16 : Int32) &&& 31).toUInt32).toInt32 = p17) (hp12 : (p17.toUInt32 >>> ((8 : Int32) &&& 31).toUInt32).toInt32 = p16) (hp13 : (p12.toUInt32 >>> ((8 : Int32) &&& 31).toUInt32).toInt32 = p18) :
    MetFree l (⟨"demitasse/interp/BytesU4AtPinLaw", "ok", "([BIIIII)Z"⟩ : MethodName) (head1 (Jvm.Cond.code (⟨"demitasse/interp/BytesU4AtPinLaw", "ok", "([BIIIII)Z"⟩ : MethodName) method_3_code 7 (some .boolean) :: ws) ({ frames := 0, cells := 0, slots := 0, locals := 0 } : Room)) (fun a U => a = #[(.ref w0), (.int (7 : Int32)), (.int p10), (.int p11), (.int (0 : Int32)), (.int p12)] ∧ Z.Warmed39 U.vm ∧ U.heap = h0) (fun _ _ _ _ _ => True) (fun _ U o U' => ∃ v L, o = .returned v ∧ (Fr n0 L ∧ Q_38 Z w0 kw0 p2 p3 p4 p5 p6 p7 p8 p9 p10 p11 p12 p13 p14 p15 p16 p17 p18 h0 n0 v U'.heap) ∧ FrameEnd U o U' L ({ frames := 0, cells := 0, slots := 0, locals := 0 } : Room).cells ({ frames := 0, cells := 0, slots := 0, locals := 0 } : Room).slots) := by
  refine own_enter (Q := Q_38 Z w0 kw0 p2 p3 p4 p5 p6 p7 p8 p9 p10 p11 p12 p13 p14 p15 p16 p17 p18 h0 n0) (F := fun m => mkF m 0 #[.val (.ref w0), .val (.int (7 : Int32)), .val (.int p10), .val (.int p11), .val (.int (0 : Int32)), .val (.int p12), .unset] []) (plainFor_of_name pn_2) (fun m => by first | (simp [entryFrame, mkF, argsToLocals, Value.category]; done) | rfl) ?_
  intro p e s m below meth c s₁ B X0
  have K : Keep h0 h0 [] := Keep.refl h0 _
  refine own_iloadN (pc' := 1) B X0 d13_0 rfl rfl ?_
  refine own_iload (pc' := 3) B X0 d13_1 rfl rfl ?_
  refine own_icmpNo (pc' := 6) B X0 d13_3 (flt (by decide : ¬ ((7 : Int32) < (0 : Int32)))).1 rfl ?_
  refine own_iloadN (pc' := 7) B X0 d13_6 rfl rfl ?_
  refine own_iload (pc' := 9) B X0 d13_7 rfl rfl ?_
  refine own_iconst (pc' := 10) B X0 (z := (4 : Int32)) d13_9 rfl rfl ?_
  refine own_iadd (pc' := 11) B X0 (z := (4 : Int32)) d13_10 rfl (by decide) ?_
  refine own_icmpYes (pc' := 32) B X0 d13_11 (flt (by decide : ¬ ((7 : Int32) < (4 : Int32)))).2.1 (by decide) rfl ?_
  refine own_iloadN (pc' := 33) B X0 d13_32 rfl rfl ?_
  refine own_iconst (pc' := 34) B X0 (z := (4 : Int32)) d13_33 rfl rfl ?_
  refine own_icmpYes (pc' := 51) B X0 d13_34 (flt (by decide : ¬ ((7 : Int32) < (4 : Int32)))).2.1 (by decide) rfl ?_
  refine own_iloadN (pc' := 52) B X0 d13_51 rfl rfl ?_
  refine own_bipush (pc' := 54) B X0 (z := (24 : Int32)) d13_52 rfl (by decide) ?_
  refine own_bipush (pc' := 56) B X0 (z := (8 : Int32)) d13_54 rfl (by decide) ?_
  refine own_iloadN (pc' := 57) B X0 d13_56 rfl rfl ?_
  refine own_iconst (pc' := 58) B X0 (z := (4 : Int32)) d13_57 rfl rfl ?_
  refine own_isub (pc' := 59) B X0 (z := (3 : Int32)) d13_58 rfl (by decide) ?_
  refine own_imul (pc' := 60) B X0 (z := (24 : Int32)) d13_59 rfl (by decide) ?_
  refine own_isub (pc' := 61) B X0 (z := (0 : Int32)) d13_60 rfl (by decide) ?_
  refine own_iushr (pc' := 62) B X0 d13_61 rfl (own_ush0 _) ?_
  refine own_istore (pc' := 64) B X0 (Ls' := #[.val (.ref w0), .val (.int (7 : Int32)), .val (.int p10), .val (.int p11), .val (.int (0 : Int32)), .val (.int p12), .val (.int p11)]) d13_62 rfl rfl ?_
  refine own_aloadN (pc' := 65) B X0 d13_64 rfl rfl rfl ?_
  refine own_iloadN (pc' := 66) B X0 d13_65 rfl rfl ?_
  refine own_baload (pc' := 67) B X0 V_w0 (v := (.int p9)) ⟨by decide, by decide⟩ rfl d13_66 rfl ?_
  refine own_iload (pc' := 69) B X0 d13_67 rfl rfl ?_
  refine own_i2b (pc' := 70) B X0 d13_69 rfl hp3 ?_
  refine own_icmpNo (pc' := 73) B X0 d13_70 (teq rfl).2 rfl ?_
  refine own_iconst (pc' := 74) B X0 (z := (1 : Int32)) d13_73 rfl rfl ?_
  refine own_goto (pc' := 78) B X0 d13_74 (by decide) rfl ?_
  exact own_retN B X0 (t := .boolean) (z' := (1 : Int32)) (by simp) (by decide) d13_78 (by decide) (by decide) (⟨rfl, rfl⟩)
def Q_40 (Z : State) (w0 : Addr) (w1 : Addr) (kw1 : ClassId) (p3 : Int32) (p4 : Int32) (p5 : Int32) (p6 : Int32) (p7 : Int32) (p8 : Int32) (p9 : Int32) (p10 : Int32) (p11 : Int32) (h0 : Heap) (n0 : Nat) (v : Option Value) (h : Heap) : Prop :=
  (∃ (y2 : Int32) (y3 : Int32) (y6 : Int32), (p11.toUInt32 >>> ((8 : Int32) &&& 31).toUInt32).toInt32 = y2 ∧ y2.toInt8.toInt32 = y3 ∧ p11.toInt8.toInt32 = y6 ∧ v = none ∧ Keep h0 h [w1] ∧ Exa Z h w1 "[B" ∧ Arv Z h w1 kw1 .byte (64 : Int32) [(.int p3), (.int y3), (.int y6), (.int p6), (.int p7), (.int p8), (.int p9), (.int p10)] (.int (0 : Int32)))
set_option maxRecDepth 65536 in
set_option maxHeartbeats 40000000 in
theorem rm_40 (l : Launch) (Z : State) (a0 : Array Value) (hw : ∀ d ∈ tables_1, d.before a0 Z = true) (ws : List Jvm.Cond) (w0 : Addr) (w1 : Addr) (kw1 : ClassId) (p3 : Int32) (p4 : Int32) (p5 : Int32) (p6 : Int32) (p7 : Int32) (p8 : Int32) (p9 : Int32) (p10 : Int32) (p11 : Int32) (h0 : Heap) (n0 : Nat) (Z0 : n0 ≤ h0.size) (E_w0 : Exa Z h0 w0 "demitasse/interp/Bytes") (F_w0_bytes : Fld Z h0 w0 "demitasse/interp/Bytes" "bytes" "[B" (.ref w1)) (F_w0_length : Fld Z h0 w0 "demitasse/interp/Bytes" "length" "I" (.int (8 : Int32))) (g_w0 : n0 ≤ w0) (E_w1 : Exa Z h0 w1 "[B") (V_w1 : Arv Z h0 w1 kw1 .byte (64 : Int32) [(.int p3), (.int p4), (.int p5), (.int p6), (.int p7), (.int p8), (.int p9), (.int p10)] (.int (0 : Int32))) (g_w1 : n0 ≤ w1) (ne_w0_w1 : w0 ≠ w1) :
    MetFree l (⟨"demitasse/interp/Bytes", "u2At", "(II)V"⟩ : MethodName) (head1 (Jvm.Cond.code (⟨"demitasse/interp/Bytes", "u2At", "(II)V"⟩ : MethodName) prog_64_method_6_code 3 none :: ws) ({ frames := 0, cells := 0, slots := 0, locals := 0 } : Room)) (fun a U => a = #[(.ref w0), (.int (1 : Int32)), (.int p11)] ∧ Z.Warmed39 U.vm ∧ U.heap = h0) (fun _ _ _ _ _ => True) (fun _ U o U' => ∃ v L, o = .returned v ∧ (Fr n0 L ∧ Q_40 Z w0 w1 kw1 p3 p4 p5 p6 p7 p8 p9 p10 p11 h0 n0 v U'.heap) ∧ FrameEnd U o U' L ({ frames := 0, cells := 0, slots := 0, locals := 0 } : Room).cells ({ frames := 0, cells := 0, slots := 0, locals := 0 } : Room).slots) := by
  refine own_enter (Q := Q_40 Z w0 w1 kw1 p3 p4 p5 p6 p7 p8 p9 p10 p11 h0 n0) (F := fun m => mkF m 0 #[.val (.ref w0), .val (.int (1 : Int32)), .val (.int p11)] []) (plainFor_of_name pn_0) (fun m => by first | (simp [entryFrame, mkF, argsToLocals, Value.category]; done) | rfl) ?_
  intro p e s m below meth c s₁ B X0
  have K : Keep h0 h0 [w1] := Keep.refl h0 _
  refine own_aloadN (pc' := 1) B X0 d8_0 rfl rfl rfl ?_
  refine own_getfield (pc' := 4) B X0 (host := "") (Or.inl (own_w hw 11 rfl)) Via.refl F_w0_bytes d8_1 rfl ?_
  intro T1 X1
  refine own_iloadN (pc' := 5) B X1 d8_4 rfl rfl ?_
  refine own_iloadN (pc' := 6) B X1 d8_5 rfl rfl ?_
  refine own_bipush (pc' := 8) B X1 (z := (8 : Int32)) d8_6 rfl (by decide) ?_
  obtain ⟨y2, hy2⟩ : ∃ z : Int32, (p11.toUInt32 >>> ((8 : Int32) &&& 31).toUInt32).toInt32 = z := ⟨_, rfl⟩
  refine own_iushr (pc' := 9) B X1 d8_8 rfl hy2 ?_
  obtain ⟨y3, hy3⟩ : ∃ z : Int32, y2.toInt8.toInt32 = z := ⟨_, rfl⟩
  refine own_i2b (pc' := 10) B X1 d8_9 rfl hy3 ?_
  refine own_bastore (pc' := 11) B X1 (x' := y3) V_w1 g_w1 ⟨by decide, by decide⟩ 1 (by decide) (Nat.le_of_ble_eq_true rfl) (own_idem_i2b hy3) d8_10 rfl ?_
  intro T4 h4 X4 W4 V_w1
  replace V_w1 : Arv Z h4 w1 kw1 .byte (64 : Int32) [(.int p3), (.int y3), (.int p5), (.int p6), (.int p7), (.int p8), (.int p9), (.int p10)] (.int (0 : Int32)) := V_w1
  replace E_w0 := E_w0.wr W4
  replace F_w0_bytes := F_w0_bytes.other W4 (Or.inl ne_w0_w1)
  replace F_w0_length := F_w0_length.other W4 (Or.inl ne_w0_w1)
  replace E_w1 := E_w1.wr W4
  replace K := K.wr W4 (Or.inl (List.mem_of_getElem? (i := 0) rfl))
  refine own_aloadN (pc' := 12) B X4 d8_11 rfl rfl rfl ?_
  refine own_getfield (pc' := 15) B X4 (host := "") (Or.inl (own_w hw 11 rfl)) Via.refl F_w0_bytes d8_12 rfl ?_
  intro T5 X5
  refine own_iloadN (pc' := 16) B X5 d8_15 rfl rfl ?_
  refine own_iconst (pc' := 17) B X5 (z := (1 : Int32)) d8_16 rfl rfl ?_
  refine own_iadd (pc' := 18) B X5 (z := (2 : Int32)) d8_17 rfl (by decide) ?_
  refine own_iloadN (pc' := 19) B X5 d8_18 rfl rfl ?_
  obtain ⟨y6, hy6⟩ : ∃ z : Int32, p11.toInt8.toInt32 = z := ⟨_, rfl⟩
  refine own_i2b (pc' := 20) B X5 d8_19 rfl hy6 ?_
  refine own_bastore (pc' := 21) B X5 (x' := y6) V_w1 g_w1 ⟨by decide, by decide⟩ 2 (by decide) (Nat.le_of_ble_eq_true rfl) (own_idem_i2b hy6) d8_20 rfl ?_
  intro T7 h7 X7 W7 V_w1
  replace V_w1 : Arv Z h7 w1 kw1 .byte (64 : Int32) [(.int p3), (.int y3), (.int y6), (.int p6), (.int p7), (.int p8), (.int p9), (.int p10)] (.int (0 : Int32)) := V_w1
  replace E_w0 := E_w0.wr W7
  replace F_w0_bytes := F_w0_bytes.other W7 (Or.inl ne_w0_w1)
  replace F_w0_length := F_w0_length.other W7 (Or.inl ne_w0_w1)
  replace E_w1 := E_w1.wr W7
  replace K := K.wr W7 (Or.inl (List.mem_of_getElem? (i := 0) rfl))
  exact own_ret B X7 d8_21 (by decide) (by decide) (⟨y2, y3, y6, hy2, hy3, hy6, rfl, K, E_w1, V_w1⟩)
def Q_41 (Z : State) (w0 : Addr) (w1 : Addr) (kw1 : ClassId) (p3 : Int32) (p4 : Int32) (p5 : Int32) (p6 : Int32) (p7 : Int32) (p8 : Int32) (p9 : Int32) (p10 : Int32) (p11 : Int32) (h0 : Heap) (n0 : Nat) (v : Option Value) (h : Heap) : Prop :=
  (∃ (y2 : Int32) (y3 : Int32) (y6 : Int32), (p11.toUInt32 >>> ((8 : Int32) &&& 31).toUInt32).toInt32 = y2 ∧ y2.toInt8.toInt32 = y3 ∧ p11.toInt8.toInt32 = y6 ∧ v = none ∧ Keep h0 h [w1] ∧ Exa Z h w1 "[B" ∧ Arv Z h w1 kw1 .byte (64 : Int32) [(.int p3), (.int p4), (.int p5), (.int y3), (.int y6), (.int p8), (.int p9), (.int p10)] (.int (0 : Int32)))
set_option maxRecDepth 65536 in
set_option maxHeartbeats 40000000 in
theorem rm_41 (l : Launch) (Z : State) (a0 : Array Value) (hw : ∀ d ∈ tables_1, d.before a0 Z = true) (ws : List Jvm.Cond) (w0 : Addr) (w1 : Addr) (kw1 : ClassId) (p3 : Int32) (p4 : Int32) (p5 : Int32) (p6 : Int32) (p7 : Int32) (p8 : Int32) (p9 : Int32) (p10 : Int32) (p11 : Int32) (h0 : Heap) (n0 : Nat) (Z0 : n0 ≤ h0.size) (E_w0 : Exa Z h0 w0 "demitasse/interp/Bytes") (F_w0_bytes : Fld Z h0 w0 "demitasse/interp/Bytes" "bytes" "[B" (.ref w1)) (F_w0_length : Fld Z h0 w0 "demitasse/interp/Bytes" "length" "I" (.int (8 : Int32))) (g_w0 : n0 ≤ w0) (E_w1 : Exa Z h0 w1 "[B") (V_w1 : Arv Z h0 w1 kw1 .byte (64 : Int32) [(.int p3), (.int p4), (.int p5), (.int p6), (.int p7), (.int p8), (.int p9), (.int p10)] (.int (0 : Int32))) (g_w1 : n0 ≤ w1) (ne_w0_w1 : w0 ≠ w1) :
    MetFree l (⟨"demitasse/interp/Bytes", "u2At", "(II)V"⟩ : MethodName) (head1 (Jvm.Cond.code (⟨"demitasse/interp/Bytes", "u2At", "(II)V"⟩ : MethodName) prog_64_method_6_code 3 none :: ws) ({ frames := 0, cells := 0, slots := 0, locals := 0 } : Room)) (fun a U => a = #[(.ref w0), (.int (3 : Int32)), (.int p11)] ∧ Z.Warmed39 U.vm ∧ U.heap = h0) (fun _ _ _ _ _ => True) (fun _ U o U' => ∃ v L, o = .returned v ∧ (Fr n0 L ∧ Q_41 Z w0 w1 kw1 p3 p4 p5 p6 p7 p8 p9 p10 p11 h0 n0 v U'.heap) ∧ FrameEnd U o U' L ({ frames := 0, cells := 0, slots := 0, locals := 0 } : Room).cells ({ frames := 0, cells := 0, slots := 0, locals := 0 } : Room).slots) := by
  refine own_enter (Q := Q_41 Z w0 w1 kw1 p3 p4 p5 p6 p7 p8 p9 p10 p11 h0 n0) (F := fun m => mkF m 0 #[.val (.ref w0), .val (.int (3 : Int32)), .val (.int p11)] []) (plainFor_of_name pn_0) (fun m => by first | (simp [entryFrame, mkF, argsToLocals, Value.category]; done) | rfl) ?_
  intro p e s m below meth c s₁ B X0
  have K : Keep h0 h0 [w1] := Keep.refl h0 _
  refine own_aloadN (pc' := 1) B X0 d8_0 rfl rfl rfl ?_
  refine own_getfield (pc' := 4) B X0 (host := "") (Or.inl (own_w hw 11 rfl)) Via.refl F_w0_bytes d8_1 rfl ?_
  intro T1 X1
  refine own_iloadN (pc' := 5) B X1 d8_4 rfl rfl ?_
  refine own_iloadN (pc' := 6) B X1 d8_5 rfl rfl ?_
  refine own_bipush (pc' := 8) B X1 (z := (8 : Int32)) d8_6 rfl (by decide) ?_
  obtain ⟨y2, hy2⟩ : ∃ z : Int32, (p11.toUInt32 >>> ((8 : Int32) &&& 31).toUInt32).toInt32 = z := ⟨_, rfl⟩
  refine own_iushr (pc' := 9) B X1 d8_8 rfl hy2 ?_
  obtain ⟨y3, hy3⟩ : ∃ z : Int32, y2.toInt8.toInt32 = z := ⟨_, rfl⟩
  refine own_i2b (pc' := 10) B X1 d8_9 rfl hy3 ?_
  refine own_bastore (pc' := 11) B X1 (x' := y3) V_w1 g_w1 ⟨by decide, by decide⟩ 3 (by decide) (Nat.le_of_ble_eq_true rfl) (own_idem_i2b hy3) d8_10 rfl ?_
  intro T4 h4 X4 W4 V_w1
  replace V_w1 : Arv Z h4 w1 kw1 .byte (64 : Int32) [(.int p3), (.int p4), (.int p5), (.int y3), (.int p7), (.int p8), (.int p9), (.int p10)] (.int (0 : Int32)) := V_w1
  replace E_w0 := E_w0.wr W4
  replace F_w0_bytes := F_w0_bytes.other W4 (Or.inl ne_w0_w1)
  replace F_w0_length := F_w0_length.other W4 (Or.inl ne_w0_w1)
  replace E_w1 := E_w1.wr W4
  replace K := K.wr W4 (Or.inl (List.mem_of_getElem? (i := 0) rfl))
  refine own_aloadN (pc' := 12) B X4 d8_11 rfl rfl rfl ?_
  refine own_getfield (pc' := 15) B X4 (host := "") (Or.inl (own_w hw 11 rfl)) Via.refl F_w0_bytes d8_12 rfl ?_
  intro T5 X5
  refine own_iloadN (pc' := 16) B X5 d8_15 rfl rfl ?_
  refine own_iconst (pc' := 17) B X5 (z := (1 : Int32)) d8_16 rfl rfl ?_
  refine own_iadd (pc' := 18) B X5 (z := (4 : Int32)) d8_17 rfl (by decide) ?_
  refine own_iloadN (pc' := 19) B X5 d8_18 rfl rfl ?_
  obtain ⟨y6, hy6⟩ : ∃ z : Int32, p11.toInt8.toInt32 = z := ⟨_, rfl⟩
  refine own_i2b (pc' := 20) B X5 d8_19 rfl hy6 ?_
  refine own_bastore (pc' := 21) B X5 (x' := y6) V_w1 g_w1 ⟨by decide, by decide⟩ 4 (by decide) (Nat.le_of_ble_eq_true rfl) (own_idem_i2b hy6) d8_20 rfl ?_
  intro T7 h7 X7 W7 V_w1
  replace V_w1 : Arv Z h7 w1 kw1 .byte (64 : Int32) [(.int p3), (.int p4), (.int p5), (.int y3), (.int y6), (.int p8), (.int p9), (.int p10)] (.int (0 : Int32)) := V_w1
  replace E_w0 := E_w0.wr W7
  replace F_w0_bytes := F_w0_bytes.other W7 (Or.inl ne_w0_w1)
  replace F_w0_length := F_w0_length.other W7 (Or.inl ne_w0_w1)
  replace E_w1 := E_w1.wr W7
  replace K := K.wr W7 (Or.inl (List.mem_of_getElem? (i := 0) rfl))
  exact own_ret B X7 d8_21 (by decide) (by decide) (⟨y2, y3, y6, hy2, hy3, hy6, rfl, K, E_w1, V_w1⟩)
def Q_39 (Z : State) (w0 : Addr) (w1 : Addr) (kw1 : ClassId) (p3 : Int32) (p4 : Int32) (p5 : Int32) (p6 : Int32) (p7 : Int32) (p8 : Int32) (p9 : Int32) (p10 : Int32) (p11 : Int32) (h0 : Heap) (n0 : Nat) (v : Option Value) (h : Heap) : Prop :=
  (∃ (y1 : Int32) (y3 : Int32) (y4 : Int32) (y5 : Int32) (y10 : Int32) (y11 : Int32) (y12 : Int32), (p11.toUInt32 >>> ((16 : Int32) &&& 31).toUInt32).toInt32 = y1 ∧ (y1.toUInt32 >>> ((8 : Int32) &&& 31).toUInt32).toInt32 = y3 ∧ y3.toInt8.toInt32 = y4 ∧ y1.toInt8.toInt32 = y5 ∧ (p11.toUInt32 >>> ((8 : Int32) &&& 31).toUInt32).toInt32 = y10 ∧ y10.toInt8.toInt32 = y11 ∧ p11.toInt8.toInt32 = y12 ∧ v = none ∧ Keep h0 h [w1] ∧ Exa Z h w1 "[B" ∧ Arv Z h w1 kw1 .byte (64 : Int32) [(.int p3), (.int y4), (.int y5), (.int y11), (.int y12), (.int p8), (.int p9), (.int p10)] (.int (0 : Int32)))
set_option maxRecDepth 65536 in
set_option maxHeartbeats 40000000 in
theorem rm_39 (l : Launch) (Z : State) (a0 : Array Value) (hw : ∀ d ∈ tables_1, d.before a0 Z = true) (ws : List Jvm.Cond) (w0 : Addr) (w1 : Addr) (kw1 : ClassId) (p3 : Int32) (p4 : Int32) (p5 : Int32) (p6 : Int32) (p7 : Int32) (p8 : Int32) (p9 : Int32) (p10 : Int32) (p11 : Int32) (h0 : Heap) (n0 : Nat) (Z0 : n0 ≤ h0.size) (E_w0 : Exa Z h0 w0 "demitasse/interp/Bytes") (F_w0_bytes : Fld Z h0 w0 "demitasse/interp/Bytes" "bytes" "[B" (.ref w1)) (F_w0_length : Fld Z h0 w0 "demitasse/interp/Bytes" "length" "I" (.int (8 : Int32))) (g_w0 : n0 ≤ w0) (E_w1 : Exa Z h0 w1 "[B") (V_w1 : Arv Z h0 w1 kw1 .byte (64 : Int32) [(.int p3), (.int p4), (.int p5), (.int p6), (.int p7), (.int p8), (.int p9), (.int p10)] (.int (0 : Int32))) (g_w1 : n0 ≤ w1) (ne_w0_w1 : w0 ≠ w1) :
    MetFree l (⟨"demitasse/interp/Bytes", "u4At", "(II)V"⟩ : MethodName) (head1 (Jvm.Cond.code (⟨"demitasse/interp/Bytes", "u4At", "(II)V"⟩ : MethodName) prog_64_method_7_code 3 none :: ws) ({ frames := 1, cells := 0, slots := 0, locals := 14 } : Room)) (fun a U => a = #[(.ref w0), (.int (1 : Int32)), (.int p11)] ∧ Z.Warmed39 U.vm ∧ U.heap = h0) (fun _ _ _ _ _ => True) (fun _ U o U' => ∃ v L, o = .returned v ∧ (Fr n0 L ∧ Q_39 Z w0 w1 kw1 p3 p4 p5 p6 p7 p8 p9 p10 p11 h0 n0 v U'.heap) ∧ FrameEnd U o U' L ({ frames := 1, cells := 0, slots := 0, locals := 14 } : Room).cells ({ frames := 1, cells := 0, slots := 0, locals := 14 } : Room).slots) := by
  refine own_enter (Q := Q_39 Z w0 w1 kw1 p3 p4 p5 p6 p7 p8 p9 p10 p11 h0 n0) (F := fun m => mkF m 0 #[.val (.ref w0), .val (.int (1 : Int32)), .val (.int p11)] []) (plainFor_of_name pn_0) (fun m => by first | (simp [entryFrame, mkF, argsToLocals, Value.category]; done) | rfl) ?_
  intro p e s m below meth c s₁ B X0
  have K : Keep h0 h0 [w1] := Keep.refl h0 _
  refine own_aloadN (pc' := 1) B X0 d7_0 rfl rfl rfl ?_
  refine own_iloadN (pc' := 2) B X0 d7_1 rfl rfl ?_
  refine own_iloadN (pc' := 3) B X0 d7_2 rfl rfl ?_
  refine own_bipush (pc' := 5) B X0 (z := (16 : Int32)) d7_3 rfl (by decide) ?_
  obtain ⟨y1, hy1⟩ : ∃ z : Int32, (p11.toUInt32 >>> ((16 : Int32) &&& 31).toUInt32).toInt32 = z := ⟨_, rfl⟩
  refine own_iushr (pc' := 6) B X0 d7_5 rfl hy1 ?_
  refine own_callV (pc' := 9) B X0 (own_w hw 39 rfl) (own_w hw 40 rfl) (own_w hw 42 rfl) (own_w hw 41 rfl) (own_w hw 3 rfl) (own_w hw 43 rfl) E_w0 (by decide) [(.int (1 : Int32)), (.int y1)] [] (rm_40 l Z a0 hw [] w0 w1 kw1 (p3) (p4) (p5) (p6) (p7) (p8) (p9) (p10) (y1) h0 n0 (Nat.le_trans Z0 K.1) E_w0 F_w0_bytes F_w0_length g_w0 E_w1 V_w1 g_w1 ne_w0_w1) 0 (by decide) (by decide) rfl pd_2 rfl rfl (Nat.le_of_eq rfl) d7_6 rfl (k' := 0) (n' := 0) rfl rfl (by decide) (by decide) ?_
  intro T2 v2 h2 X2 q2
  obtain ⟨y3, y4, y5, hy6, hy7, hy8, rfl, K2, E_w1, V_w1⟩ := q2
  replace K := K.trans K2 (allS (Or.inl (List.mem_of_getElem? (i := 0) rfl)) all0)
  replace E_w0 := E_w0.keep K2
  replace F_w0_bytes := F_w0_bytes.keep K2 (ninS ne_w0_w1 nin0)
  replace F_w0_length := F_w0_length.keep K2 (ninS ne_w0_w1 nin0)
  show own_Go p e below (T2.setTop (mkF m 9 #[.val (.ref w0), .val (.int (1 : Int32)), .val (.int p11)] [])) _
  refine own_aloadN (pc' := 10) B X2 d7_9 rfl rfl rfl ?_
  refine own_iloadN (pc' := 11) B X2 d7_10 rfl rfl ?_
  refine own_iconst (pc' := 12) B X2 (z := (2 : Int32)) d7_11 rfl rfl ?_
  refine own_iadd (pc' := 13) B X2 (z := (3 : Int32)) d7_12 rfl (by decide) ?_
  refine own_iloadN (pc' := 14) B X2 d7_13 rfl rfl ?_
  refine own_callV (pc' := 17) B X2 (own_w hw 39 rfl) (own_w hw 40 rfl) (own_w hw 42 rfl) (own_w hw 41 rfl) (own_w hw 3 rfl) (own_w hw 43 rfl) E_w0 (by decide) [(.int (3 : Int32)), (.int p11)] [] (rm_41 l Z a0 hw [] w0 w1 kw1 (p3) (y4) (y5) (p6) (p7) (p8) (p9) (p10) (p11) h2 n0 (Nat.le_trans Z0 K.1) E_w0 F_w0_bytes F_w0_length g_w0 E_w1 V_w1 g_w1 ne_w0_w1) 0 (by decide) (by decide) rfl pd_2 rfl rfl (Nat.le_of_eq rfl) d7_14 rfl (k' := 0) (n' := 0) rfl rfl (by decide) (by decide) ?_
  intro T9 v9 h9 X9 q9
  obtain ⟨y10, y11, y12, hy13, hy14, hy15, rfl, K9, E_w1, V_w1⟩ := q9
  replace K := K.trans K9 (allS (Or.inl (List.mem_of_getElem? (i := 0) rfl)) all0)
  replace E_w0 := E_w0.keep K9
  replace F_w0_bytes := F_w0_bytes.keep K9 (ninS ne_w0_w1 nin0)
  replace F_w0_length := F_w0_length.keep K9 (ninS ne_w0_w1 nin0)
  show own_Go p e below (T9.setTop (mkF m 17 #[.val (.ref w0), .val (.int (1 : Int32)), .val (.int p11)] [])) _
  exact own_ret B X9 d7_17 (by decide) (by decide) (⟨y1, y3, y4, y5, y10, y11, y12, hy1, hy6, hy7, hy8, hy13, hy14, hy15, rfl, K, E_w1, V_w1⟩)
def Q_42 (Z : State) (w0 : Addr) (kw0 : ClassId) (p2 : Int32) (p3 : Int32) (p4 : Int32) (p5 : Int32) (p6 : Int32) (p7 : Int32) (p8 : Int32) (p9 : Int32) (p10 : Int32) (p11 : Int32) (p12 : Int32) (p13 : Int32) (p14 : Int32) (p15 : Int32) (p16 : Int32) (p17 : Int32) (p18 : Int32) (p19 : Int32) (h0 : Heap) (n0 : Nat) (v : Option Value) (h : Heap) : Prop :=
  (∃ (y1 : Int32) (y2 : Int32), (p10.toUInt32 >>> ((24 : Int32) &&& 31).toUInt32).toInt32 = y1 ∧ y1.toInt8.toInt32 = y2 ∧ p2 = y2 ∧ v = some (.int (1 : Int32)) ∧ h0 = h)
set_option maxRecDepth 65536 in
set_option maxHeartbeats 40000000 in
theorem rm_42 (l : Launch) (Z : State) (a0 : Array Value) (hw : ∀ d ∈ tables_1, d.before a0 Z = true) (ws : List Jvm.Cond) (w0 : Addr) (kw0 : ClassId) (p2 : Int32) (p3 : Int32) (p4 : Int32) (p5 : Int32) (p6 : Int32) (p7 : Int32) (p8 : Int32) (p9 : Int32) (p10 : Int32) (p11 : Int32) (p12 : Int32) (p13 : Int32) (p14 : Int32) (p15 : Int32) (p16 : Int32) (p17 : Int32) (p18 : Int32) (p19 : Int32) (h0 : Heap) (n0 : Nat) (Z0 : n0 ≤ h0.size) (E_w0 : Exa Z h0 w0 "[B") (V_w0 : Arv Z h0 w0 kw0 .byte (8 : Int32) [(.int p2), (.int p3), (.int p4), (.int p5), (.int p6), (.int p7), (.int p8), (.int p9)] (.int (0 : Int32))) (g_w0 : n0 ≤ w0) (hp0 : p13.toInt8.toInt32 = p2) (hp1 : p14.toInt8.toInt32 = p7) (hp2 : p15.toInt8.toInt32 = p8) (hp3 : p11.toInt8.toInt32 = p9) (hp4 : p16.toInt8.toInt32 = p3) (hp5 : p17.toInt8.toInt32 = p4) (hp6 : p18.toInt8.toInt32 = p5) (hp7 : p12.toInt8.toInt32 = p6) (hp8 : (p19.toUInt32 >>> ((8 : Int32) &&& 31).toUInt32).toInt32 = p13) (hp9 : (p11.toUInt32 >>> ((16 : Int32) &&& 31).toUInt32).toInt32 = p14) (hp10 : (p11.toUInt32 >>> ((8 : Int32) &&& 31).toUInt32).toInt32 = p15) (hp11 : (p12.toUInt32 >>> ((16 : Int32) &&& 31).toUInt32).toInt32 = p17) (hp12 : (p17.toUInt32 >>> ((8 : Int32) &&& 31).toUInt32).toInt32 = p16) (hp13 : (p12.toUInt32 >>> ((8 : Int32) &&& 31).toUInt32).toInt32 = p18) (hp14 : (p10.toUInt32 >>> ((16 : Int32) &&& 31).toUInt32).toInt32 = p19) :
    MetFree l (⟨"demitasse/interp/BytesU4AtPinLaw", "ok", "([BIIIII)Z"⟩ : MethodName) (head1 (Jvm.Cond.code (⟨"demitasse/interp/BytesU4AtPinLaw", "ok", "([BIIIII)Z"⟩ : MethodName) method_3_code 7 (some .boolean) :: ws) ({ frames := 0, cells := 0, slots := 0, locals := 0 } : Room)) (fun a U => a = #[(.ref w0), (.int (0 : Int32)), (.int p10), (.int p11), (.int (1 : Int32)), (.int p12)] ∧ Z.Warmed39 U.vm ∧ U.heap = h0) (fun _ _ _ _ _ => True) (fun _ U o U' => ∃ v L, o = .returned v ∧ (Fr n0 L ∧ Q_42 Z w0 kw0 p2 p3 p4 p5 p6 p7 p8 p9 p10 p11 p12 p13 p14 p15 p16 p17 p18 p19 h0 n0 v U'.heap) ∧ FrameEnd U o U' L ({ frames := 0, cells := 0, slots := 0, locals := 0 } : Room).cells ({ frames := 0, cells := 0, slots := 0, locals := 0 } : Room).slots) := by
  refine own_enter (Q := Q_42 Z w0 kw0 p2 p3 p4 p5 p6 p7 p8 p9 p10 p11 p12 p13 p14 p15 p16 p17 p18 p19 h0 n0) (F := fun m => mkF m 0 #[.val (.ref w0), .val (.int (0 : Int32)), .val (.int p10), .val (.int p11), .val (.int (1 : Int32)), .val (.int p12), .unset] []) (plainFor_of_name pn_2) (fun m => by first | (simp [entryFrame, mkF, argsToLocals, Value.category]; done) | rfl) ?_
  intro p e s m below meth c s₁ B X0
  have K : Keep h0 h0 [] := Keep.refl h0 _
  refine own_iloadN (pc' := 1) B X0 d13_0 rfl rfl ?_
  refine own_iload (pc' := 3) B X0 d13_1 rfl rfl ?_
  refine own_icmpYes (pc' := 32) B X0 d13_3 (tlt (by decide : (0 : Int32) < (1 : Int32))).1 (by decide) rfl ?_
  refine own_iloadN (pc' := 33) B X0 d13_32 rfl rfl ?_
  refine own_iconst (pc' := 34) B X0 (z := (4 : Int32)) d13_33 rfl rfl ?_
  refine own_icmpNo (pc' := 37) B X0 d13_34 (tlt (by decide : (0 : Int32) < (4 : Int32))).2.1 rfl ?_
  refine own_iloadN (pc' := 38) B X0 d13_37 rfl rfl ?_
  refine own_bipush (pc' := 40) B X0 (z := (24 : Int32)) d13_38 rfl (by decide) ?_
  refine own_bipush (pc' := 42) B X0 (z := (8 : Int32)) d13_40 rfl (by decide) ?_
  refine own_iloadN (pc' := 43) B X0 d13_42 rfl rfl ?_
  refine own_imul (pc' := 44) B X0 (z := (0 : Int32)) d13_43 rfl (by decide) ?_
  refine own_isub (pc' := 45) B X0 (z := (24 : Int32)) d13_44 rfl (by decide) ?_
  obtain ⟨y1, hy1⟩ : ∃ z : Int32, (p10.toUInt32 >>> ((24 : Int32) &&& 31).toUInt32).toInt32 = z := ⟨_, rfl⟩
  refine own_iushr (pc' := 46) B X0 d13_45 rfl hy1 ?_
  refine own_istore (pc' := 48) B X0 (Ls' := #[.val (.ref w0), .val (.int (0 : Int32)), .val (.int p10), .val (.int p11), .val (.int (1 : Int32)), .val (.int p12), .val (.int y1)]) d13_46 rfl rfl ?_
  refine own_goto (pc' := 64) B X0 d13_48 (by decide) rfl ?_
  refine own_aloadN (pc' := 65) B X0 d13_64 rfl rfl rfl ?_
  refine own_iloadN (pc' := 66) B X0 d13_65 rfl rfl ?_
  refine own_baload (pc' := 67) B X0 V_w0 (v := (.int p2)) ⟨by decide, by decide⟩ rfl d13_66 rfl ?_
  refine own_iload (pc' := 69) B X0 d13_67 rfl rfl ?_
  obtain ⟨y2, hy2⟩ : ∃ z : Int32, y1.toInt8.toInt32 = z := ⟨_, rfl⟩
  refine own_i2b (pc' := 70) B X0 d13_69 rfl hy2 ?_
  have c3 : p2 = y2 := by
    have o0 := own_o_i2b hp0
    have o1 := own_o_iushr hp8 8 (by decide) (by decide)
    have o2 := own_o_iushr hp14 16 (by decide) (by decide)
    have o3 := own_o_iushr hy1 24 (by decide) (by decide)
    have o4 := own_o_i2b hy2
    have o5 := rng32 p10
    have o6 := rng32 p13
    have o7 := rng32 p19
    have o8 := rng32 p2
    have o9 := rng32 y1
    have o10 := rng32 y2
    have o11 : (8 : Int32).toInt = 8 := by decide
    have o12 : (16 : Int32).toInt = 16 := by decide
    have o13 : (24 : Int32).toInt = 24 := by decide
    refine own_eqI ?_
    omega
  refine own_icmpNo (pc' := 73) B X0 d13_70 (teq c3).2 rfl ?_
  refine own_iconst (pc' := 74) B X0 (z := (1 : Int32)) d13_73 rfl rfl ?_
  refine own_goto (pc' := 78) B X0 d13_74 (by decide) rfl ?_
  exact own_retN B X0 (t := .boolean) (z' := (1 : Int32)) (by simp) (by decide) d13_78 (by decide) (by decide) (⟨y1, y2, hy1, hy2, c3, rfl, rfl⟩)
def Q_43 (Z : State) (w0 : Addr) (kw0 : ClassId) (p2 : Int32) (p3 : Int32) (p4 : Int32) (p5 : Int32) (p6 : Int32) (p7 : Int32) (p8 : Int32) (p9 : Int32) (p10 : Int32) (p11 : Int32) (p12 : Int32) (p13 : Int32) (p14 : Int32) (p15 : Int32) (p16 : Int32) (p17 : Int32) (p18 : Int32) (p19 : Int32) (h0 : Heap) (n0 : Nat) (v : Option Value) (h : Heap) : Prop :=
  (∃ (y1 : Int32) (y2 : Int32), (p12.toUInt32 >>> ((24 : Int32) &&& 31).toUInt32).toInt32 = y1 ∧ y1.toInt8.toInt32 = y2 ∧ p3 = y2 ∧ v = some (.int (1 : Int32)) ∧ h0 = h)
set_option maxRecDepth 65536 in
set_option maxHeartbeats 40000000 in
theorem rm_43 (l : Launch) (Z : State) (a0 : Array Value) (hw : ∀ d ∈ tables_1, d.before a0 Z = true) (ws : List Jvm.Cond) (w0 : Addr) (kw0 : ClassId) (p2 : Int32) (p3 : Int32) (p4 : Int32) (p5 : Int32) (p6 : Int32) (p7 : Int32) (p8 : Int32) (p9 : Int32) (p10 : Int32) (p11 : Int32) (p12 : Int32) (p13 : Int32) (p14 : Int32) (p15 : Int32) (p16 : Int32) (p17 : Int32) (p18 : Int32) (p19 : Int32) (h0 : Heap) (n0 : Nat) (Z0 : n0 ≤ h0.size) (E_w0 : Exa Z h0 w0 "[B") (V_w0 : Arv Z h0 w0 kw0 .byte (8 : Int32) [(.int p2), (.int p3), (.int p4), (.int p5), (.int p6), (.int p7), (.int p8), (.int p9)] (.int (0 : Int32))) (g_w0 : n0 ≤ w0) (hp0 : p13.toInt8.toInt32 = p2) (hp1 : p14.toInt8.toInt32 = p7) (hp2 : p15.toInt8.toInt32 = p8) (hp3 : p11.toInt8.toInt32 = p9) (hp4 : p16.toInt8.toInt32 = p3) (hp5 : p17.toInt8.toInt32 = p4) (hp6 : p18.toInt8.toInt32 = p5) (hp7 : p12.toInt8.toInt32 = p6) (hp8 : (p19.toUInt32 >>> ((8 : Int32) &&& 31).toUInt32).toInt32 = p13) (hp9 : (p11.toUInt32 >>> ((16 : Int32) &&& 31).toUInt32).toInt32 = p14) (hp10 : (p11.toUInt32 >>> ((8 : Int32) &&& 31).toUInt32).toInt32 = p15) (hp11 : (p12.toUInt32 >>> ((16 : Int32) &&& 31).toUInt32).toInt32 = p17) (hp12 : (p17.toUInt32 >>> ((8 : Int32) &&& 31).toUInt32).toInt32 = p16) (hp13 : (p12.toUInt32 >>> ((8 : Int32) &&& 31).toUInt32).toInt32 = p18) (hp14 : (p10.toUInt32 >>> ((16 : Int32) &&& 31).toUInt32).toInt32 = p19) :
    MetFree l (⟨"demitasse/interp/BytesU4AtPinLaw", "ok", "([BIIIII)Z"⟩ : MethodName) (head1 (Jvm.Cond.code (⟨"demitasse/interp/BytesU4AtPinLaw", "ok", "([BIIIII)Z"⟩ : MethodName) method_3_code 7 (some .boolean) :: ws) ({ frames := 0, cells := 0, slots := 0, locals := 0 } : Room)) (fun a U => a = #[(.ref w0), (.int (1 : Int32)), (.int p10), (.int p11), (.int (1 : Int32)), (.int p12)] ∧ Z.Warmed39 U.vm ∧ U.heap = h0) (fun _ _ _ _ _ => True) (fun _ U o U' => ∃ v L, o = .returned v ∧ (Fr n0 L ∧ Q_43 Z w0 kw0 p2 p3 p4 p5 p6 p7 p8 p9 p10 p11 p12 p13 p14 p15 p16 p17 p18 p19 h0 n0 v U'.heap) ∧ FrameEnd U o U' L ({ frames := 0, cells := 0, slots := 0, locals := 0 } : Room).cells ({ frames := 0, cells := 0, slots := 0, locals := 0 } : Room).slots) := by
  refine own_enter (Q := Q_43 Z w0 kw0 p2 p3 p4 p5 p6 p7 p8 p9 p10 p11 p12 p13 p14 p15 p16 p17 p18 p19 h0 n0) (F := fun m => mkF m 0 #[.val (.ref w0), .val (.int (1 : Int32)), .val (.int p10), .val (.int p11), .val (.int (1 : Int32)), .val (.int p12), .unset] []) (plainFor_of_name pn_2) (fun m => by first | (simp [entryFrame, mkF, argsToLocals, Value.category]; done) | rfl) ?_
  intro p e s m below meth c s₁ B X0
  have K : Keep h0 h0 [] := Keep.refl h0 _
  refine own_iloadN (pc' := 1) B X0 d13_0 rfl rfl ?_
  refine own_iload (pc' := 3) B X0 d13_1 rfl rfl ?_
  refine own_icmpNo (pc' := 6) B X0 d13_3 (flt (by decide : ¬ ((1 : Int32) < (1 : Int32)))).1 rfl ?_
  refine own_iloadN (pc' := 7) B X0 d13_6 rfl rfl ?_
  refine own_iload (pc' := 9) B X0 d13_7 rfl rfl ?_
  refine own_iconst (pc' := 10) B X0 (z := (4 : Int32)) d13_9 rfl rfl ?_
  refine own_iadd (pc' := 11) B X0 (z := (5 : Int32)) d13_10 rfl (by decide) ?_
  refine own_icmpNo (pc' := 14) B X0 d13_11 (tlt (by decide : (1 : Int32) < (5 : Int32))).2.1 rfl ?_
  refine own_iload (pc' := 16) B X0 d13_14 rfl rfl ?_
  refine own_bipush (pc' := 18) B X0 (z := (24 : Int32)) d13_16 rfl (by decide) ?_
  refine own_bipush (pc' := 20) B X0 (z := (8 : Int32)) d13_18 rfl (by decide) ?_
  refine own_iloadN (pc' := 21) B X0 d13_20 rfl rfl ?_
  refine own_iload (pc' := 23) B X0 d13_21 rfl rfl ?_
  refine own_isub (pc' := 24) B X0 (z := (0 : Int32)) d13_23 rfl (by decide) ?_
  refine own_imul (pc' := 25) B X0 (z := (0 : Int32)) d13_24 rfl (by decide) ?_
  refine own_isub (pc' := 26) B X0 (z := (24 : Int32)) d13_25 rfl (by decide) ?_
  obtain ⟨y1, hy1⟩ : ∃ z : Int32, (p12.toUInt32 >>> ((24 : Int32) &&& 31).toUInt32).toInt32 = z := ⟨_, rfl⟩
  refine own_iushr (pc' := 27) B X0 d13_26 rfl hy1 ?_
  refine own_istore (pc' := 29) B X0 (Ls' := #[.val (.ref w0), .val (.int (1 : Int32)), .val (.int p10), .val (.int p11), .val (.int (1 : Int32)), .val (.int p12), .val (.int y1)]) d13_27 rfl rfl ?_
  refine own_goto (pc' := 64) B X0 d13_29 (by decide) rfl ?_
  refine own_aloadN (pc' := 65) B X0 d13_64 rfl rfl rfl ?_
  refine own_iloadN (pc' := 66) B X0 d13_65 rfl rfl ?_
  refine own_baload (pc' := 67) B X0 V_w0 (v := (.int p3)) ⟨by decide, by decide⟩ rfl d13_66 rfl ?_
  refine own_iload (pc' := 69) B X0 d13_67 rfl rfl ?_
  obtain ⟨y2, hy2⟩ : ∃ z : Int32, y1.toInt8.toInt32 = z := ⟨_, rfl⟩
  refine own_i2b (pc' := 70) B X0 d13_69 rfl hy2 ?_
  have c3 : p3 = y2 := by
    have o0 := own_o_i2b hp4
    have o1 := own_o_iushr hp11 16 (by decide) (by decide)
    have o2 := own_o_iushr hp12 8 (by decide) (by decide)
    have o3 := own_o_iushr hy1 24 (by decide) (by decide)
    have o4 := own_o_i2b hy2
    have o5 := rng32 p12
    have o6 := rng32 p16
    have o7 := rng32 p17
    have o8 := rng32 p3
    have o9 := rng32 y1
    have o10 := rng32 y2
    have o11 : (16 : Int32).toInt = 16 := by decide
    have o12 : (8 : Int32).toInt = 8 := by decide
    have o13 : (24 : Int32).toInt = 24 := by decide
    refine own_eqI ?_
    omega
  refine own_icmpNo (pc' := 73) B X0 d13_70 (teq c3).2 rfl ?_
  refine own_iconst (pc' := 74) B X0 (z := (1 : Int32)) d13_73 rfl rfl ?_
  refine own_goto (pc' := 78) B X0 d13_74 (by decide) rfl ?_
  exact own_retN B X0 (t := .boolean) (z' := (1 : Int32)) (by simp) (by decide) d13_78 (by decide) (by decide) (⟨y1, y2, hy1, hy2, c3, rfl, rfl⟩)
def Q_44 (Z : State) (w0 : Addr) (kw0 : ClassId) (p2 : Int32) (p3 : Int32) (p4 : Int32) (p5 : Int32) (p6 : Int32) (p7 : Int32) (p8 : Int32) (p9 : Int32) (p10 : Int32) (p11 : Int32) (p12 : Int32) (p13 : Int32) (p14 : Int32) (p15 : Int32) (p16 : Int32) (p17 : Int32) (p18 : Int32) (p19 : Int32) (h0 : Heap) (n0 : Nat) (v : Option Value) (h : Heap) : Prop :=
  (v = some (.int (1 : Int32)) ∧ h0 = h)
set_option maxRecDepth 65536 in
set_option maxHeartbeats 40000000 in
theorem rm_44 (l : Launch) (Z : State) (a0 : Array Value) (hw : ∀ d ∈ tables_1, d.before a0 Z = true) (ws : List Jvm.Cond) (w0 : Addr) (kw0 : ClassId) (p2 : Int32) (p3 : Int32) (p4 : Int32) (p5 : Int32) (p6 : Int32) (p7 : Int32) (p8 : Int32) (p9 : Int32) (p10 : Int32) (p11 : Int32) (p12 : Int32) (p13 : Int32) (p14 : Int32) (p15 : Int32) (p16 : Int32) (p17 : Int32) (p18 : Int32) (p19 : Int32) (h0 : Heap) (n0 : Nat) (Z0 : n0 ≤ h0.size) (E_w0 : Exa Z h0 w0 "[B") (V_w0 : Arv Z h0 w0 kw0 .byte (8 : Int32) [(.int p2), (.int p3), (.int p4), (.int p5), (.int p6), (.int p7), (.int p8), (.int p9)] (.int (0 : Int32))) (g_w0 : n0 ≤ w0) (hp0 : p13.toInt8.toInt32 = p2) (hp1 : p14.toInt8.toInt32 = p7) (hp2 : p15.toInt8.toInt32 = p8) (hp3 : p11.toInt8.toInt32 = p9) (hp4 : p16.toInt8.toInt32 = p3) (hp5 : p17.toInt8.toInt32 = p4) (hp6 : p18.toInt8.toInt32 = p5) (hp7 : p12.toInt8.toInt32 = p6) (hp8 : (p19.toUInt32 >>> ((8 : Int32) &&& 31).toUInt32).toInt32 = p13) (hp9 : (p11.toUInt32 >>> ((16 : Int32) &&& 31).toUInt32).toInt32 = p14) (hp10 : (p11.toUInt32 >>> ((8 : Int32) &&& 31).toUInt32).toInt32 = p15) (hp11 : (p12.toUInt32 >>> ((16 : Int32) &&& 31).toUInt32).toInt32 = p17) (hp12 : (p17.toUInt32 >>> ((8 : Int32) &&& 31).toUInt32).toInt32 = p16) (hp13 : (p12.toUInt32 >>> ((8 : Int32) &&& 31).toUInt32).toInt32 = p18) (hp14 : (p10.toUInt32 >>> ((16 : Int32) &&& 31).toUInt32).toInt32 = p19) :
    MetFree l (⟨"demitasse/interp/BytesU4AtPinLaw", "ok", "([BIIIII)Z"⟩ : MethodName) (head1 (Jvm.Cond.code (⟨"demitasse/interp/BytesU4AtPinLaw", "ok", "([BIIIII)Z"⟩ : MethodName) method_3_code 7 (some .boolean) :: ws) ({ frames := 0, cells := 0, slots := 0, locals := 0 } : Room)) (fun a U => a = #[(.ref w0), (.int (2 : Int32)), (.int p10), (.int p11), (.int (1 : Int32)), (.int p12)] ∧ Z.Warmed39 U.vm ∧ U.heap = h0) (fun _ _ _ _ _ => True) (fun _ U o U' => ∃ v L, o = .returned v ∧ (Fr n0 L ∧ Q_44 Z w0 kw0 p2 p3 p4 p5 p6 p7 p8 p9 p10 p11 p12 p13 p14 p15 p16 p17 p18 p19 h0 n0 v U'.heap) ∧ FrameEnd U o U' L ({ frames := 0, cells := 0, slots := 0, locals := 0 } : Room).cells ({ frames := 0, cells := 0, slots := 0, locals := 0 } : Room).slots) := by
  refine own_enter (Q := Q_44 Z w0 kw0 p2 p3 p4 p5 p6 p7 p8 p9 p10 p11 p12 p13 p14 p15 p16 p17 p18 p19 h0 n0) (F := fun m => mkF m 0 #[.val (.ref w0), .val (.int (2 : Int32)), .val (.int p10), .val (.int p11), .val (.int (1 : Int32)), .val (.int p12), .unset] []) (plainFor_of_name pn_2) (fun m => by first | (simp [entryFrame, mkF, argsToLocals, Value.category]; done) | rfl) ?_
  intro p e s m below meth c s₁ B X0
  have K : Keep h0 h0 [] := Keep.refl h0 _
  refine own_iloadN (pc' := 1) B X0 d13_0 rfl rfl ?_
  refine own_iload (pc' := 3) B X0 d13_1 rfl rfl ?_
  refine own_icmpNo (pc' := 6) B X0 d13_3 (flt (by decide : ¬ ((2 : Int32) < (1 : Int32)))).1 rfl ?_
  refine own_iloadN (pc' := 7) B X0 d13_6 rfl rfl ?_
  refine own_iload (pc' := 9) B X0 d13_7 rfl rfl ?_
  refine own_iconst (pc' := 10) B X0 (z := (4 : Int32)) d13_9 rfl rfl ?_
  refine own_iadd (pc' := 11) B X0 (z := (5 : Int32)) d13_10 rfl (by decide) ?_
  refine own_icmpNo (pc' := 14) B X0 d13_11 (tlt (by decide : (2 : Int32) < (5 : Int32))).2.1 rfl ?_
  refine own_iload (pc' := 16) B X0 d13_14 rfl rfl ?_
  refine own_bipush (pc' := 18) B X0 (z := (24 : Int32)) d13_16 rfl (by decide) ?_
  refine own_bipush (pc' := 20) B X0 (z := (8 : Int32)) d13_18 rfl (by decide) ?_
  refine own_iloadN (pc' := 21) B X0 d13_20 rfl rfl ?_
  refine own_iload (pc' := 23) B X0 d13_21 rfl rfl ?_
  refine own_isub (pc' := 24) B X0 (z := (1 : Int32)) d13_23 rfl (by decide) ?_
  refine own_imul (pc' := 25) B X0 (z := (8 : Int32)) d13_24 rfl (by decide) ?_
  refine own_isub (pc' := 26) B X0 (z := (16 : Int32)) d13_25 rfl (by decide) ?_
  refine own_iushr (pc' := 27) B X0 d13_26 rfl hp11 ?_
  refine own_istore (pc' := 29) B X0 (Ls' := #[.val (.ref w0), .val (.int (2 : Int32)), .val (.int p10), .val (.int p11), .val (.int (1 : Int32)), .val (.int p12), .val (.int p17)]) d13_27 rfl rfl ?_
  refine own_goto (pc' := 64) B X0 d13_29 (by decide) rfl ?_
  refine own_aloadN (pc' := 65) B X0 d13_64 rfl rfl rfl ?_
  refine own_iloadN (pc' := 66) B X0 d13_65 rfl rfl ?_
  refine own_baload (pc' := 67) B X0 V_w0 (v := (.int p4)) ⟨by decide, by decide⟩ rfl d13_66 rfl ?_
  refine own_iload (pc' := 69) B X0 d13_67 rfl rfl ?_
  refine own_i2b (pc' := 70) B X0 d13_69 rfl hp5 ?_
  refine own_icmpNo (pc' := 73) B X0 d13_70 (teq rfl).2 rfl ?_
  refine own_iconst (pc' := 74) B X0 (z := (1 : Int32)) d13_73 rfl rfl ?_
  refine own_goto (pc' := 78) B X0 d13_74 (by decide) rfl ?_
  exact own_retN B X0 (t := .boolean) (z' := (1 : Int32)) (by simp) (by decide) d13_78 (by decide) (by decide) (⟨rfl, rfl⟩)
def Q_45 (Z : State) (w0 : Addr) (kw0 : ClassId) (p2 : Int32) (p3 : Int32) (p4 : Int32) (p5 : Int32) (p6 : Int32) (p7 : Int32) (p8 : Int32) (p9 : Int32) (p10 : Int32) (p11 : Int32) (p12 : Int32) (p13 : Int32) (p14 : Int32) (p15 : Int32) (p16 : Int32) (p17 : Int32) (p18 : Int32) (p19 : Int32) (h0 : Heap) (n0 : Nat) (v : Option Value) (h : Heap) : Prop :=
  (v = some (.int (1 : Int32)) ∧ h0 = h)
set_option maxRecDepth 65536 in
set_option maxHeartbeats 40000000 in
theorem rm_45 (l : Launch) (Z : State) (a0 : Array Value) (hw : ∀ d ∈ tables_1, d.before a0 Z = true) (ws : List Jvm.Cond) (w0 : Addr) (kw0 : ClassId) (p2 : Int32) (p3 : Int32) (p4 : Int32) (p5 : Int32) (p6 : Int32) (p7 : Int32) (p8 : Int32) (p9 : Int32) (p10 : Int32) (p11 : Int32) (p12 : Int32) (p13 : Int32) (p14 : Int32) (p15 : Int32) (p16 : Int32) (p17 : Int32) (p18 : Int32) (p19 : Int32) (h0 : Heap) (n0 : Nat) (Z0 : n0 ≤ h0.size) (E_w0 : Exa Z h0 w0 "[B") (V_w0 : Arv Z h0 w0 kw0 .byte (8 : Int32) [(.int p2), (.int p3), (.int p4), (.int p5), (.int p6), (.int p7), (.int p8), (.int p9)] (.int (0 : Int32))) (g_w0 : n0 ≤ w0) (hp0 : p13.toInt8.toInt32 = p2) (hp1 : p14.toInt8.toInt32 = p7) (hp2 : p15.toInt8.toInt32 = p8) (hp3 : p11.toInt8.toInt32 = p9) (hp4 : p16.toInt8.toInt32 = p3) (hp5 : p17.toInt8.toInt32 = p4) (hp6 : p18.toInt8.toInt32 = p5) (hp7 : p12.toInt8.toInt32 = p6) (hp8 : (p19.toUInt32 >>> ((8 : Int32) &&& 31).toUInt32).toInt32 = p13) (hp9 : (p11.toUInt32 >>> ((16 : Int32) &&& 31).toUInt32).toInt32 = p14) (hp10 : (p11.toUInt32 >>> ((8 : Int32) &&& 31).toUInt32).toInt32 = p15) (hp11 : (p12.toUInt32 >>> ((16 : Int32) &&& 31).toUInt32).toInt32 = p17) (hp12 : (p17.toUInt32 >>> ((8 : Int32) &&& 31).toUInt32).toInt32 = p16) (hp13 : (p12.toUInt32 >>> ((8 : Int32) &&& 31).toUInt32).toInt32 = p18) (hp14 : (p10.toUInt32 >>> ((16 : Int32) &&& 31).toUInt32).toInt32 = p19) :
    MetFree l (⟨"demitasse/interp/BytesU4AtPinLaw", "ok", "([BIIIII)Z"⟩ : MethodName) (head1 (Jvm.Cond.code (⟨"demitasse/interp/BytesU4AtPinLaw", "ok", "([BIIIII)Z"⟩ : MethodName) method_3_code 7 (some .boolean) :: ws) ({ frames := 0, cells := 0, slots := 0, locals := 0 } : Room)) (fun a U => a = #[(.ref w0), (.int (3 : Int32)), (.int p10), (.int p11), (.int (1 : Int32)), (.int p12)] ∧ Z.Warmed39 U.vm ∧ U.heap = h0) (fun _ _ _ _ _ => True) (fun _ U o U' => ∃ v L, o = .returned v ∧ (Fr n0 L ∧ Q_45 Z w0 kw0 p2 p3 p4 p5 p6 p7 p8 p9 p10 p11 p12 p13 p14 p15 p16 p17 p18 p19 h0 n0 v U'.heap) ∧ FrameEnd U o U' L ({ frames := 0, cells := 0, slots := 0, locals := 0 } : Room).cells ({ frames := 0, cells := 0, slots := 0, locals := 0 } : Room).slots) := by
  refine own_enter (Q := Q_45 Z w0 kw0 p2 p3 p4 p5 p6 p7 p8 p9 p10 p11 p12 p13 p14 p15 p16 p17 p18 p19 h0 n0) (F := fun m => mkF m 0 #[.val (.ref w0), .val (.int (3 : Int32)), .val (.int p10), .val (.int p11), .val (.int (1 : Int32)), .val (.int p12), .unset] []) (plainFor_of_name pn_2) (fun m => by first | (simp [entryFrame, mkF, argsToLocals, Value.category]; done) | rfl) ?_
  intro p e s m below meth c s₁ B X0
  have K : Keep h0 h0 [] := Keep.refl h0 _
  refine own_iloadN (pc' := 1) B X0 d13_0 rfl rfl ?_
  refine own_iload (pc' := 3) B X0 d13_1 rfl rfl ?_
  refine own_icmpNo (pc' := 6) B X0 d13_3 (flt (by decide : ¬ ((3 : Int32) < (1 : Int32)))).1 rfl ?_
  refine own_iloadN (pc' := 7) B X0 d13_6 rfl rfl ?_
  refine own_iload (pc' := 9) B X0 d13_7 rfl rfl ?_
  refine own_iconst (pc' := 10) B X0 (z := (4 : Int32)) d13_9 rfl rfl ?_
  refine own_iadd (pc' := 11) B X0 (z := (5 : Int32)) d13_10 rfl (by decide) ?_
  refine own_icmpNo (pc' := 14) B X0 d13_11 (tlt (by decide : (3 : Int32) < (5 : Int32))).2.1 rfl ?_
  refine own_iload (pc' := 16) B X0 d13_14 rfl rfl ?_
  refine own_bipush (pc' := 18) B X0 (z := (24 : Int32)) d13_16 rfl (by decide) ?_
  refine own_bipush (pc' := 20) B X0 (z := (8 : Int32)) d13_18 rfl (by decide) ?_
  refine own_iloadN (pc' := 21) B X0 d13_20 rfl rfl ?_
  refine own_iload (pc' := 23) B X0 d13_21 rfl rfl ?_
  refine own_isub (pc' := 24) B X0 (z := (2 : Int32)) d13_23 rfl (by decide) ?_
  refine own_imul (pc' := 25) B X0 (z := (16 : Int32)) d13_24 rfl (by decide) ?_
  refine own_isub (pc' := 26) B X0 (z := (8 : Int32)) d13_25 rfl (by decide) ?_
  refine own_iushr (pc' := 27) B X0 d13_26 rfl hp13 ?_
  refine own_istore (pc' := 29) B X0 (Ls' := #[.val (.ref w0), .val (.int (3 : Int32)), .val (.int p10), .val (.int p11), .val (.int (1 : Int32)), .val (.int p12), .val (.int p18)]) d13_27 rfl rfl ?_
  refine own_goto (pc' := 64) B X0 d13_29 (by decide) rfl ?_
  refine own_aloadN (pc' := 65) B X0 d13_64 rfl rfl rfl ?_
  refine own_iloadN (pc' := 66) B X0 d13_65 rfl rfl ?_
  refine own_baload (pc' := 67) B X0 V_w0 (v := (.int p5)) ⟨by decide, by decide⟩ rfl d13_66 rfl ?_
  refine own_iload (pc' := 69) B X0 d13_67 rfl rfl ?_
  refine own_i2b (pc' := 70) B X0 d13_69 rfl hp6 ?_
  refine own_icmpNo (pc' := 73) B X0 d13_70 (teq rfl).2 rfl ?_
  refine own_iconst (pc' := 74) B X0 (z := (1 : Int32)) d13_73 rfl rfl ?_
  refine own_goto (pc' := 78) B X0 d13_74 (by decide) rfl ?_
  exact own_retN B X0 (t := .boolean) (z' := (1 : Int32)) (by simp) (by decide) d13_78 (by decide) (by decide) (⟨rfl, rfl⟩)
def Q_46 (Z : State) (w0 : Addr) (kw0 : ClassId) (p2 : Int32) (p3 : Int32) (p4 : Int32) (p5 : Int32) (p6 : Int32) (p7 : Int32) (p8 : Int32) (p9 : Int32) (p10 : Int32) (p11 : Int32) (p12 : Int32) (p13 : Int32) (p14 : Int32) (p15 : Int32) (p16 : Int32) (p17 : Int32) (p18 : Int32) (p19 : Int32) (h0 : Heap) (n0 : Nat) (v : Option Value) (h : Heap) : Prop :=
  (v = some (.int (1 : Int32)) ∧ h0 = h)
set_option maxRecDepth 65536 in
set_option maxHeartbeats 40000000 in
theorem rm_46 (l : Launch) (Z : State) (a0 : Array Value) (hw : ∀ d ∈ tables_1, d.before a0 Z = true) (ws : List Jvm.Cond) (w0 : Addr) (kw0 : ClassId) (p2 : Int32) (p3 : Int32) (p4 : Int32) (p5 : Int32) (p6 : Int32) (p7 : Int32) (p8 : Int32) (p9 : Int32) (p10 : Int32) (p11 : Int32) (p12 : Int32) (p13 : Int32) (p14 : Int32) (p15 : Int32) (p16 : Int32) (p17 : Int32) (p18 : Int32) (p19 : Int32) (h0 : Heap) (n0 : Nat) (Z0 : n0 ≤ h0.size) (E_w0 : Exa Z h0 w0 "[B") (V_w0 : Arv Z h0 w0 kw0 .byte (8 : Int32) [(.int p2), (.int p3), (.int p4), (.int p5), (.int p6), (.int p7), (.int p8), (.int p9)] (.int (0 : Int32))) (g_w0 : n0 ≤ w0) (hp0 : p13.toInt8.toInt32 = p2) (hp1 : p14.toInt8.toInt32 = p7) (hp2 : p15.toInt8.toInt32 = p8) (hp3 : p11.toInt8.toInt32 = p9) (hp4 : p16.toInt8.toInt32 = p3) (hp5 : p17.toInt8.toInt32 = p4) (hp6 : p18.toInt8.toInt32 = p5) (hp7 : p12.toInt8.toInt32 = p6) (hp8 : (p19.toUInt32 >>> ((8 : Int32) &&& 31).toUInt32).toInt32 = p13) (hp9 : (p11.toUInt32 >>> ((16 : Int32) &&& 31).toUInt32).toInt32 = p14) (hp10 : (p11.toUInt32 >>> ((8 : Int32) &&& 31).toUInt32).toInt32 = p15) (hp11 : (p12.toUInt32 >>> ((16 : Int32) &&& 31).toUInt32).toInt32 = p17) (hp12 : (p17.toUInt32 >>> ((8 : Int32) &&& 31).toUInt32).toInt32 = p16) (hp13 : (p12.toUInt32 >>> ((8 : Int32) &&& 31).toUInt32).toInt32 = p18) (hp14 : (p10.toUInt32 >>> ((16 : Int32) &&& 31).toUInt32).toInt32 = p19) :
    MetFree l (⟨"demitasse/interp/BytesU4AtPinLaw", "ok", "([BIIIII)Z"⟩ : MethodName) (head1 (Jvm.Cond.code (⟨"demitasse/interp/BytesU4AtPinLaw", "ok", "([BIIIII)Z"⟩ : MethodName) method_3_code 7 (some .boolean) :: ws) ({ frames := 0, cells := 0, slots := 0, locals := 0 } : Room)) (fun a U => a = #[(.ref w0), (.int (4 : Int32)), (.int p10), (.int p11), (.int (1 : Int32)), (.int p12)] ∧ Z.Warmed39 U.vm ∧ U.heap = h0) (fun _ _ _ _ _ => True) (fun _ U o U' => ∃ v L, o = .returned v ∧ (Fr n0 L ∧ Q_46 Z w0 kw0 p2 p3 p4 p5 p6 p7 p8 p9 p10 p11 p12 p13 p14 p15 p16 p17 p18 p19 h0 n0 v U'.heap) ∧ FrameEnd U o U' L ({ frames := 0, cells := 0, slots := 0, locals := 0 } : Room).cells ({ frames := 0, cells := 0, slots := 0, locals := 0 } : Room).slots) := by
  refine own_enter (Q := Q_46 Z w0 kw0 p2 p3 p4 p5 p6 p7 p8 p9 p10 p11 p12 p13 p14 p15 p16 p17 p18 p19 h0 n0) (F := fun m => mkF m 0 #[.val (.ref w0), .val (.int (4 : Int32)), .val (.int p10), .val (.int p11), .val (.int (1 : Int32)), .val (.int p12), .unset] []) (plainFor_of_name pn_2) (fun m => by first | (simp [entryFrame, mkF, argsToLocals, Value.category]; done) | rfl) ?_
  intro p e s m below meth c s₁ B X0
  have K : Keep h0 h0 [] := Keep.refl h0 _
  refine own_iloadN (pc' := 1) B X0 d13_0 rfl rfl ?_
  refine own_iload (pc' := 3) B X0 d13_1 rfl rfl ?_
  refine own_icmpNo (pc' := 6) B X0 d13_3 (flt (by decide : ¬ ((4 : Int32) < (1 : Int32)))).1 rfl ?_
  refine own_iloadN (pc' := 7) B X0 d13_6 rfl rfl ?_
  refine own_iload (pc' := 9) B X0 d13_7 rfl rfl ?_
  refine own_iconst (pc' := 10) B X0 (z := (4 : Int32)) d13_9 rfl rfl ?_
  refine own_iadd (pc' := 11) B X0 (z := (5 : Int32)) d13_10 rfl (by decide) ?_
  refine own_icmpNo (pc' := 14) B X0 d13_11 (tlt (by decide : (4 : Int32) < (5 : Int32))).2.1 rfl ?_
  refine own_iload (pc' := 16) B X0 d13_14 rfl rfl ?_
  refine own_bipush (pc' := 18) B X0 (z := (24 : Int32)) d13_16 rfl (by decide) ?_
  refine own_bipush (pc' := 20) B X0 (z := (8 : Int32)) d13_18 rfl (by decide) ?_
  refine own_iloadN (pc' := 21) B X0 d13_20 rfl rfl ?_
  refine own_iload (pc' := 23) B X0 d13_21 rfl rfl ?_
  refine own_isub (pc' := 24) B X0 (z := (3 : Int32)) d13_23 rfl (by decide) ?_
  refine own_imul (pc' := 25) B X0 (z := (24 : Int32)) d13_24 rfl (by decide) ?_
  refine own_isub (pc' := 26) B X0 (z := (0 : Int32)) d13_25 rfl (by decide) ?_
  refine own_iushr (pc' := 27) B X0 d13_26 rfl (own_ush0 _) ?_
  refine own_istore (pc' := 29) B X0 (Ls' := #[.val (.ref w0), .val (.int (4 : Int32)), .val (.int p10), .val (.int p11), .val (.int (1 : Int32)), .val (.int p12), .val (.int p12)]) d13_27 rfl rfl ?_
  refine own_goto (pc' := 64) B X0 d13_29 (by decide) rfl ?_
  refine own_aloadN (pc' := 65) B X0 d13_64 rfl rfl rfl ?_
  refine own_iloadN (pc' := 66) B X0 d13_65 rfl rfl ?_
  refine own_baload (pc' := 67) B X0 V_w0 (v := (.int p6)) ⟨by decide, by decide⟩ rfl d13_66 rfl ?_
  refine own_iload (pc' := 69) B X0 d13_67 rfl rfl ?_
  refine own_i2b (pc' := 70) B X0 d13_69 rfl hp7 ?_
  refine own_icmpNo (pc' := 73) B X0 d13_70 (teq rfl).2 rfl ?_
  refine own_iconst (pc' := 74) B X0 (z := (1 : Int32)) d13_73 rfl rfl ?_
  refine own_goto (pc' := 78) B X0 d13_74 (by decide) rfl ?_
  exact own_retN B X0 (t := .boolean) (z' := (1 : Int32)) (by simp) (by decide) d13_78 (by decide) (by decide) (⟨rfl, rfl⟩)
def Q_47 (Z : State) (w0 : Addr) (kw0 : ClassId) (p2 : Int32) (p3 : Int32) (p4 : Int32) (p5 : Int32) (p6 : Int32) (p7 : Int32) (p8 : Int32) (p9 : Int32) (p10 : Int32) (p11 : Int32) (p12 : Int32) (p13 : Int32) (p14 : Int32) (p15 : Int32) (p16 : Int32) (p17 : Int32) (p18 : Int32) (p19 : Int32) (h0 : Heap) (n0 : Nat) (v : Option Value) (h : Heap) : Prop :=
  (v = some (.int (1 : Int32)) ∧ h0 = h)
set_option maxRecDepth 65536 in
set_option maxHeartbeats 40000000 in
theorem rm_47 (l : Launch) (Z : State) (a0 : Array Value) (hw : ∀ d ∈ tables_1, d.before a0 Z = true) (ws : List Jvm.Cond) (w0 : Addr) (kw0 : ClassId) (p2 : Int32) (p3 : Int32) (p4 : Int32) (p5 : Int32) (p6 : Int32) (p7 : Int32) (p8 : Int32) (p9 : Int32) (p10 : Int32) (p11 : Int32) (p12 : Int32) (p13 : Int32) (p14 : Int32) (p15 : Int32) (p16 : Int32) (p17 : Int32) (p18 : Int32) (p19 : Int32) (h0 : Heap) (n0 : Nat) (Z0 : n0 ≤ h0.size) (E_w0 : Exa Z h0 w0 "[B") (V_w0 : Arv Z h0 w0 kw0 .byte (8 : Int32) [(.int p2), (.int p3), (.int p4), (.int p5), (.int p6), (.int p7), (.int p8), (.int p9)] (.int (0 : Int32))) (g_w0 : n0 ≤ w0) (hp0 : p13.toInt8.toInt32 = p2) (hp1 : p14.toInt8.toInt32 = p7) (hp2 : p15.toInt8.toInt32 = p8) (hp3 : p11.toInt8.toInt32 = p9) (hp4 : p16.toInt8.toInt32 = p3) (hp5 : p17.toInt8.toInt32 = p4) (hp6 : p18.toInt8.toInt32 = p5) (hp7 : p12.toInt8.toInt32 = p6) (hp8 : (p19.toUInt32 >>> ((8 : Int32) &&& 31).toUInt32).toInt32 = p13) (hp9 : (p11.toUInt32 >>> ((16 : Int32) &&& 31).toUInt32).toInt32 = p14) (hp10 : (p11.toUInt32 >>> ((8 : Int32) &&& 31).toUInt32).toInt32 = p15) (hp11 : (p12.toUInt32 >>> ((16 : Int32) &&& 31).toUInt32).toInt32 = p17) (hp12 : (p17.toUInt32 >>> ((8 : Int32) &&& 31).toUInt32).toInt32 = p16) (hp13 : (p12.toUInt32 >>> ((8 : Int32) &&& 31).toUInt32).toInt32 = p18) (hp14 : (p10.toUInt32 >>> ((16 : Int32) &&& 31).toUInt32).toInt32 = p19) :
    MetFree l (⟨"demitasse/interp/BytesU4AtPinLaw", "ok", "([BIIIII)Z"⟩ : MethodName) (head1 (Jvm.Cond.code (⟨"demitasse/interp/BytesU4AtPinLaw", "ok", "([BIIIII)Z"⟩ : MethodName) method_3_code 7 (some .boolean) :: ws) ({ frames := 0, cells := 0, slots := 0, locals := 0 } : Room)) (fun a U => a = #[(.ref w0), (.int (5 : Int32)), (.int p10), (.int p11), (.int (1 : Int32)), (.int p12)] ∧ Z.Warmed39 U.vm ∧ U.heap = h0) (fun _ _ _ _ _ => True) (fun _ U o U' => ∃ v L, o = .returned v ∧ (Fr n0 L ∧ Q_47 Z w0 kw0 p2 p3 p4 p5 p6 p7 p8 p9 p10 p11 p12 p13 p14 p15 p16 p17 p18 p19 h0 n0 v U'.heap) ∧ FrameEnd U o U' L ({ frames := 0, cells := 0, slots := 0, locals := 0 } : Room).cells ({ frames := 0, cells := 0, slots := 0, locals := 0 } : Room).slots) := by
  refine own_enter (Q := Q_47 Z w0 kw0 p2 p3 p4 p5 p6 p7 p8 p9 p10 p11 p12 p13 p14 p15 p16 p17 p18 p19 h0 n0) (F := fun m => mkF m 0 #[.val (.ref w0), .val (.int (5 : Int32)), .val (.int p10), .val (.int p11), .val (.int (1 : Int32)), .val (.int p12), .unset] []) (plainFor_of_name pn_2) (fun m => by first | (simp [entryFrame, mkF, argsToLocals, Value.category]; done) | rfl) ?_
  intro p e s m below meth c s₁ B X0
  have K : Keep h0 h0 [] := Keep.refl h0 _
  refine own_iloadN (pc' := 1) B X0 d13_0 rfl rfl ?_
  refine own_iload (pc' := 3) B X0 d13_1 rfl rfl ?_
  refine own_icmpNo (pc' := 6) B X0 d13_3 (flt (by decide : ¬ ((5 : Int32) < (1 : Int32)))).1 rfl ?_
  refine own_iloadN (pc' := 7) B X0 d13_6 rfl rfl ?_
  refine own_iload (pc' := 9) B X0 d13_7 rfl rfl ?_
  refine own_iconst (pc' := 10) B X0 (z := (4 : Int32)) d13_9 rfl rfl ?_
  refine own_iadd (pc' := 11) B X0 (z := (5 : Int32)) d13_10 rfl (by decide) ?_
  refine own_icmpYes (pc' := 32) B X0 d13_11 (flt (by decide : ¬ ((5 : Int32) < (5 : Int32)))).2.1 (by decide) rfl ?_
  refine own_iloadN (pc' := 33) B X0 d13_32 rfl rfl ?_
  refine own_iconst (pc' := 34) B X0 (z := (4 : Int32)) d13_33 rfl rfl ?_
  refine own_icmpYes (pc' := 51) B X0 d13_34 (flt (by decide : ¬ ((5 : Int32) < (4 : Int32)))).2.1 (by decide) rfl ?_
  refine own_iloadN (pc' := 52) B X0 d13_51 rfl rfl ?_
  refine own_bipush (pc' := 54) B X0 (z := (24 : Int32)) d13_52 rfl (by decide) ?_
  refine own_bipush (pc' := 56) B X0 (z := (8 : Int32)) d13_54 rfl (by decide) ?_
  refine own_iloadN (pc' := 57) B X0 d13_56 rfl rfl ?_
  refine own_iconst (pc' := 58) B X0 (z := (4 : Int32)) d13_57 rfl rfl ?_
  refine own_isub (pc' := 59) B X0 (z := (1 : Int32)) d13_58 rfl (by decide) ?_
  refine own_imul (pc' := 60) B X0 (z := (8 : Int32)) d13_59 rfl (by decide) ?_
  refine own_isub (pc' := 61) B X0 (z := (16 : Int32)) d13_60 rfl (by decide) ?_
  refine own_iushr (pc' := 62) B X0 d13_61 rfl hp9 ?_
  refine own_istore (pc' := 64) B X0 (Ls' := #[.val (.ref w0), .val (.int (5 : Int32)), .val (.int p10), .val (.int p11), .val (.int (1 : Int32)), .val (.int p12), .val (.int p14)]) d13_62 rfl rfl ?_
  refine own_aloadN (pc' := 65) B X0 d13_64 rfl rfl rfl ?_
  refine own_iloadN (pc' := 66) B X0 d13_65 rfl rfl ?_
  refine own_baload (pc' := 67) B X0 V_w0 (v := (.int p7)) ⟨by decide, by decide⟩ rfl d13_66 rfl ?_
  refine own_iload (pc' := 69) B X0 d13_67 rfl rfl ?_
  refine own_i2b (pc' := 70) B X0 d13_69 rfl hp1 ?_
  refine own_icmpNo (pc' := 73) B X0 d13_70 (teq rfl).2 rfl ?_
  refine own_iconst (pc' := 74) B X0 (z := (1 : Int32)) d13_73 rfl rfl ?_
  refine own_goto (pc' := 78) B X0 d13_74 (by decide) rfl ?_
  exact own_retN B X0 (t := .boolean) (z' := (1 : Int32)) (by simp) (by decide) d13_78 (by decide) (by decide) (⟨rfl, rfl⟩)
def Q_48 (Z : State) (w0 : Addr) (kw0 : ClassId) (p2 : Int32) (p3 : Int32) (p4 : Int32) (p5 : Int32) (p6 : Int32) (p7 : Int32) (p8 : Int32) (p9 : Int32) (p10 : Int32) (p11 : Int32) (p12 : Int32) (p13 : Int32) (p14 : Int32) (p15 : Int32) (p16 : Int32) (p17 : Int32) (p18 : Int32) (p19 : Int32) (h0 : Heap) (n0 : Nat) (v : Option Value) (h : Heap) : Prop :=
  (v = some (.int (1 : Int32)) ∧ h0 = h)
set_option maxRecDepth 65536 in
set_option maxHeartbeats 40000000 in
theorem rm_48 (l : Launch) (Z : State) (a0 : Array Value) (hw : ∀ d ∈ tables_1, d.before a0 Z = true) (ws : List Jvm.Cond) (w0 : Addr) (kw0 : ClassId) (p2 : Int32) (p3 : Int32) (p4 : Int32) (p5 : Int32) (p6 : Int32) (p7 : Int32) (p8 : Int32) (p9 : Int32) (p10 : Int32) (p11 : Int32) (p12 : Int32) (p13 : Int32) (p14 : Int32) (p15 : Int32) (p16 : Int32) (p17 : Int32) (p18 : Int32) (p19 : Int32) (h0 : Heap) (n0 : Nat) (Z0 : n0 ≤ h0.size) (E_w0 : Exa Z h0 w0 "[B") (V_w0 : Arv Z h0 w0 kw0 .byte (8 : Int32) [(.int p2), (.int p3), (.int p4), (.int p5), (.int p6), (.int p7), (.int p8), (.int p9)] (.int (0 : Int32))) (g_w0 : n0 ≤ w0) (hp0 : p13.toInt8.toInt32 = p2) (hp1 : p14.toInt8.toInt32 = p7) (hp2 : p15.toInt8.toInt32 = p8) (hp3 : p11.toInt8.toInt32 = p9) (hp4 : p16.toInt8.toInt32 = p3) (hp5 : p17.toInt8.toInt32 = p4) (hp6 : p18.toInt8.toInt32 = p5) (hp7 : p12.toInt8.toInt32 = p6) (hp8 : (p19.toUInt32 >>> ((8 : Int32) &&& 31).toUInt32).toInt32 = p13) (hp9 : (p11.toUInt32 >>> ((16 : Int32) &&& 31).toUInt32).toInt32 = p14) (hp10 : (p11.toUInt32 >>> ((8 : Int32) &&& 31).toUInt32).toInt32 = p15) (hp11 : (p12.toUInt32 >>> ((16 : Int32) &&& 31).toUInt32).toInt32 = p17) (hp12 : (p17.toUInt32 >>> ((8 : Int32) &&& 31).toUInt32).toInt32 = p16) (hp13 : (p12.toUInt32 >>> ((8 : Int32) &&& 31).toUInt32).toInt32 = p18) (hp14 : (p10.toUInt32 >>> ((16 : Int32) &&& 31).toUInt32).toInt32 = p19) :
    MetFree l (⟨"demitasse/interp/BytesU4AtPinLaw", "ok", "([BIIIII)Z"⟩ : MethodName) (head1 (Jvm.Cond.code (⟨"demitasse/interp/BytesU4AtPinLaw", "ok", "([BIIIII)Z"⟩ : MethodName) method_3_code 7 (some .boolean) :: ws) ({ frames := 0, cells := 0, slots := 0, locals := 0 } : Room)) (fun a U => a = #[(.ref w0), (.int (6 : Int32)), (.int p10), (.int p11), (.int (1 : Int32)), (.int p12)] ∧ Z.Warmed39 U.vm ∧ U.heap = h0) (fun _ _ _ _ _ => True) (fun _ U o U' => ∃ v L, o = .returned v ∧ (Fr n0 L ∧ Q_48 Z w0 kw0 p2 p3 p4 p5 p6 p7 p8 p9 p10 p11 p12 p13 p14 p15 p16 p17 p18 p19 h0 n0 v U'.heap) ∧ FrameEnd U o U' L ({ frames := 0, cells := 0, slots := 0, locals := 0 } : Room).cells ({ frames := 0, cells := 0, slots := 0, locals := 0 } : Room).slots) := by
  refine own_enter (Q := Q_48 Z w0 kw0 p2 p3 p4 p5 p6 p7 p8 p9 p10 p11 p12 p13 p14 p15 p16 p17 p18 p19 h0 n0) (F := fun m => mkF m 0 #[.val (.ref w0), .val (.int (6 : Int32)), .val (.int p10), .val (.int p11), .val (.int (1 : Int32)), .val (.int p12), .unset] []) (plainFor_of_name pn_2) (fun m => by first | (simp [entryFrame, mkF, argsToLocals, Value.category]; done) | rfl) ?_
  intro p e s m below meth c s₁ B X0
  have K : Keep h0 h0 [] := Keep.refl h0 _
  refine own_iloadN (pc' := 1) B X0 d13_0 rfl rfl ?_
  refine own_iload (pc' := 3) B X0 d13_1 rfl rfl ?_
  refine own_icmpNo (pc' := 6) B X0 d13_3 (flt (by decide : ¬ ((6 : Int32) < (1 : Int32)))).1 rfl ?_
  refine own_iloadN (pc' := 7) B X0 d13_6 rfl rfl ?_
  refine own_iload (pc' := 9) B X0 d13_7 rfl rfl ?_
  refine own_iconst (pc' := 10) B X0 (z := (4 : Int32)) d13_9 rfl rfl ?_
  refine own_iadd (pc' := 11) B X0 (z := (5 : Int32)) d13_10 rfl (by decide) ?_
  refine own_icmpYes (pc' := 32) B X0 d13_11 (flt (by decide : ¬ ((6 : Int32) < (5 : Int32)))).2.1 (by decide) rfl ?_
  refine own_iloadN (pc' := 33) B X0 d13_32 rfl rfl ?_
  refine own_iconst (pc' := 34) B X0 (z := (4 : Int32)) d13_33 rfl rfl ?_
  refine own_icmpYes (pc' := 51) B X0 d13_34 (flt (by decide : ¬ ((6 : Int32) < (4 : Int32)))).2.1 (by decide) rfl ?_
  refine own_iloadN (pc' := 52) B X0 d13_51 rfl rfl ?_
  refine own_bipush (pc' := 54) B X0 (z := (24 : Int32)) d13_52 rfl (by decide) ?_
  refine own_bipush (pc' := 56) B X0 (z := (8 : Int32)) d13_54 rfl (by decide) ?_
  refine own_iloadN (pc' := 57) B X0 d13_56 rfl rfl ?_
  refine own_iconst (pc' := 58) B X0 (z := (4 : Int32)) d13_57 rfl rfl ?_
  refine own_isub (pc' := 59) B X0 (z := (2 : Int32)) d13_58 rfl (by decide) ?_
  refine own_imul (pc' := 60) B X0 (z := (16 : Int32)) d13_59 rfl (by decide) ?_
  refine own_isub (pc' := 61) B X0 (z := (8 : Int32)) d13_60 rfl (by decide) ?_
  refine own_iushr (pc' := 62) B X0 d13_61 rfl hp10 ?_
  refine own_istore (pc' := 64) B X0 (Ls' := #[.val (.ref w0), .val (.int (6 : Int32)), .val (.int p10), .val (.int p11), .val (.int (1 : Int32)), .val (.int p12), .val (.int p15)]) d13_62 rfl rfl ?_
  refine own_aloadN (pc' := 65) B X0 d13_64 rfl rfl rfl ?_
  refine own_iloadN (pc' := 66) B X0 d13_65 rfl rfl ?_
  refine own_baload (pc' := 67) B X0 V_w0 (v := (.int p8)) ⟨by decide, by decide⟩ rfl d13_66 rfl ?_
  refine own_iload (pc' := 69) B X0 d13_67 rfl rfl ?_
  refine own_i2b (pc' := 70) B X0 d13_69 rfl hp2 ?_
  refine own_icmpNo (pc' := 73) B X0 d13_70 (teq rfl).2 rfl ?_
  refine own_iconst (pc' := 74) B X0 (z := (1 : Int32)) d13_73 rfl rfl ?_
  refine own_goto (pc' := 78) B X0 d13_74 (by decide) rfl ?_
  exact own_retN B X0 (t := .boolean) (z' := (1 : Int32)) (by simp) (by decide) d13_78 (by decide) (by decide) (⟨rfl, rfl⟩)
def Q_49 (Z : State) (w0 : Addr) (kw0 : ClassId) (p2 : Int32) (p3 : Int32) (p4 : Int32) (p5 : Int32) (p6 : Int32) (p7 : Int32) (p8 : Int32) (p9 : Int32) (p10 : Int32) (p11 : Int32) (p12 : Int32) (p13 : Int32) (p14 : Int32) (p15 : Int32) (p16 : Int32) (p17 : Int32) (p18 : Int32) (p19 : Int32) (h0 : Heap) (n0 : Nat) (v : Option Value) (h : Heap) : Prop :=
  (v = some (.int (1 : Int32)) ∧ h0 = h)
set_option maxRecDepth 65536 in
set_option maxHeartbeats 40000000 in
theorem rm_49 (l : Launch) (Z : State) (a0 : Array Value) (hw : ∀ d ∈ tables_1, d.before a0 Z = true) (ws : List Jvm.Cond) (w0 : Addr) (kw0 : ClassId) (p2 : Int32) (p3 : Int32) (p4 : Int32) (p5 : Int32) (p6 : Int32) (p7 : Int32) (p8 : Int32) (p9 : Int32) (p10 : Int32) (p11 : Int32) (p12 : Int32) (p13 : Int32) (p14 : Int32) (p15 : Int32) (p16 : Int32) (p17 : Int32) (p18 : Int32) (p19 : Int32) (h0 : Heap) (n0 : Nat) (Z0 : n0 ≤ h0.size) (E_w0 : Exa Z h0 w0 "[B") (V_w0 : Arv Z h0 w0 kw0 .byte (8 : Int32) [(.int p2), (.int p3), (.int p4), (.int p5), (.int p6), (.int p7), (.int p8), (.int p9)] (.int (0 : Int32))) (g_w0 : n0 ≤ w0) (hp0 : p13.toInt8.toInt32 = p2) (hp1 : p14.toInt8.toInt32 = p7) (hp2 : p15.toInt8.toInt32 = p8) (hp3 : p11.toInt8.toInt32 = p9) (hp4 : p16.toInt8.toInt32 = p3) (hp5 : p17.toInt8.toInt32 = p4) (hp6 : p18.toInt8.toInt32 = p5) (hp7 : p12.toInt8.toInt32 = p6) (hp8 : (p19.toUInt32 >>> ((8 : Int32) &&& 31).toUInt32).toInt32 = p13) (hp9 : (p11.toUInt32 >>> ((16 : Int32) &&& 31).toUInt32).toInt32 = p14) (hp10 : (p11.toUInt32 >>> ((8 : Int32) &&& 31).toUInt32).toInt32 = p15) (hp11 : (p12.toUInt32 >>> ((16 : Int32) &&& 31).toUInt32).toInt32 = p17) (hp12 : (p17.toUInt32 >>> ((8 : Int32) &&& 31).toUInt32).toInt32 = p16) (hp13 : (p12.toUInt32 >>> ((8 : Int32) &&& 31).toUInt32).toInt32 = p18) (hp14 : (p10.toUInt32 >>> ((16 : Int32) &&& 31).toUInt32).toInt32 = p19) :
    MetFree l (⟨"demitasse/interp/BytesU4AtPinLaw", "ok", "([BIIIII)Z"⟩ : MethodName) (head1 (Jvm.Cond.code (⟨"demitasse/interp/BytesU4AtPinLaw", "ok", "([BIIIII)Z"⟩ : MethodName) method_3_code 7 (some .boolean) :: ws) ({ frames := 0, cells := 0, slots := 0, locals := 0 } : Room)) (fun a U => a = #[(.ref w0), (.int (7 : Int32)), (.int p10), (.int p11), (.int (1 : Int32)), (.int p12)] ∧ Z.Warmed39 U.vm ∧ U.heap = h0) (fun _ _ _ _ _ => True) (fun _ U o U' => ∃ v L, o = .returned v ∧ (Fr n0 L ∧ Q_49 Z w0 kw0 p2 p3 p4 p5 p6 p7 p8 p9 p10 p11 p12 p13 p14 p15 p16 p17 p18 p19 h0 n0 v U'.heap) ∧ FrameEnd U o U' L ({ frames := 0, cells := 0, slots := 0, locals := 0 } : Room).cells ({ frames := 0, cells := 0, slots := 0, locals := 0 } : Room).slots) := by
  refine own_enter (Q := Q_49 Z w0 kw0 p2 p3 p4 p5 p6 p7 p8 p9 p10 p11 p12 p13 p14 p15 p16 p17 p18 p19 h0 n0) (F := fun m => mkF m 0 #[.val (.ref w0), .val (.int (7 : Int32)), .val (.int p10), .val (.int p11), .val (.int (1 : Int32)), .val (.int p12), .unset] []) (plainFor_of_name pn_2) (fun m => by first | (simp [entryFrame, mkF, argsToLocals, Value.category]; done) | rfl) ?_
  intro p e s m below meth c s₁ B X0
  have K : Keep h0 h0 [] := Keep.refl h0 _
  refine own_iloadN (pc' := 1) B X0 d13_0 rfl rfl ?_
  refine own_iload (pc' := 3) B X0 d13_1 rfl rfl ?_
  refine own_icmpNo (pc' := 6) B X0 d13_3 (flt (by decide : ¬ ((7 : Int32) < (1 : Int32)))).1 rfl ?_
  refine own_iloadN (pc' := 7) B X0 d13_6 rfl rfl ?_
  refine own_iload (pc' := 9) B X0 d13_7 rfl rfl ?_
  refine own_iconst (pc' := 10) B X0 (z := (4 : Int32)) d13_9 rfl rfl ?_
  refine own_iadd (pc' := 11) B X0 (z := (5 : Int32)) d13_10 rfl (by decide) ?_
  refine own_icmpYes (pc' := 32) B X0 d13_11 (flt (by decide : ¬ ((7 : Int32) < (5 : Int32)))).2.1 (by decide) rfl ?_
  refine own_iloadN (pc' := 33) B X0 d13_32 rfl rfl ?_
  refine own_iconst (pc' := 34) B X0 (z := (4 : Int32)) d13_33 rfl rfl ?_
  refine own_icmpYes (pc' := 51) B X0 d13_34 (flt (by decide : ¬ ((7 : Int32) < (4 : Int32)))).2.1 (by decide) rfl ?_
  refine own_iloadN (pc' := 52) B X0 d13_51 rfl rfl ?_
  refine own_bipush (pc' := 54) B X0 (z := (24 : Int32)) d13_52 rfl (by decide) ?_
  refine own_bipush (pc' := 56) B X0 (z := (8 : Int32)) d13_54 rfl (by decide) ?_
  refine own_iloadN (pc' := 57) B X0 d13_56 rfl rfl ?_
  refine own_iconst (pc' := 58) B X0 (z := (4 : Int32)) d13_57 rfl rfl ?_
  refine own_isub (pc' := 59) B X0 (z := (3 : Int32)) d13_58 rfl (by decide) ?_
  refine own_imul (pc' := 60) B X0 (z := (24 : Int32)) d13_59 rfl (by decide) ?_
  refine own_isub (pc' := 61) B X0 (z := (0 : Int32)) d13_60 rfl (by decide) ?_
  refine own_iushr (pc' := 62) B X0 d13_61 rfl (own_ush0 _) ?_
  refine own_istore (pc' := 64) B X0 (Ls' := #[.val (.ref w0), .val (.int (7 : Int32)), .val (.int p10), .val (.int p11), .val (.int (1 : Int32)), .val (.int p12), .val (.int p11)]) d13_62 rfl rfl ?_
  refine own_aloadN (pc' := 65) B X0 d13_64 rfl rfl rfl ?_
  refine own_iloadN (pc' := 66) B X0 d13_65 rfl rfl ?_
  refine own_baload (pc' := 67) B X0 V_w0 (v := (.int p9)) ⟨by decide, by decide⟩ rfl d13_66 rfl ?_
  refine own_iload (pc' := 69) B X0 d13_67 rfl rfl ?_
  refine own_i2b (pc' := 70) B X0 d13_69 rfl hp3 ?_
  refine own_icmpNo (pc' := 73) B X0 d13_70 (teq rfl).2 rfl ?_
  refine own_iconst (pc' := 74) B X0 (z := (1 : Int32)) d13_73 rfl rfl ?_
  refine own_goto (pc' := 78) B X0 d13_74 (by decide) rfl ?_
  exact own_retN B X0 (t := .boolean) (z' := (1 : Int32)) (by simp) (by decide) d13_78 (by decide) (by decide) (⟨rfl, rfl⟩)
def Q_51 (Z : State) (w0 : Addr) (w1 : Addr) (kw1 : ClassId) (p3 : Int32) (p4 : Int32) (p5 : Int32) (p6 : Int32) (p7 : Int32) (p8 : Int32) (p9 : Int32) (p10 : Int32) (p11 : Int32) (h0 : Heap) (n0 : Nat) (v : Option Value) (h : Heap) : Prop :=
  (∃ (y2 : Int32) (y3 : Int32) (y6 : Int32), (p11.toUInt32 >>> ((8 : Int32) &&& 31).toUInt32).toInt32 = y2 ∧ y2.toInt8.toInt32 = y3 ∧ p11.toInt8.toInt32 = y6 ∧ v = none ∧ Keep h0 h [w1] ∧ Exa Z h w1 "[B" ∧ Arv Z h w1 kw1 .byte (64 : Int32) [(.int p3), (.int p4), (.int p5), (.int p6), (.int y3), (.int y6), (.int p9), (.int p10)] (.int (0 : Int32)))
set_option maxRecDepth 65536 in
set_option maxHeartbeats 40000000 in
theorem rm_51 (l : Launch) (Z : State) (a0 : Array Value) (hw : ∀ d ∈ tables_1, d.before a0 Z = true) (ws : List Jvm.Cond) (w0 : Addr) (w1 : Addr) (kw1 : ClassId) (p3 : Int32) (p4 : Int32) (p5 : Int32) (p6 : Int32) (p7 : Int32) (p8 : Int32) (p9 : Int32) (p10 : Int32) (p11 : Int32) (h0 : Heap) (n0 : Nat) (Z0 : n0 ≤ h0.size) (E_w0 : Exa Z h0 w0 "demitasse/interp/Bytes") (F_w0_bytes : Fld Z h0 w0 "demitasse/interp/Bytes" "bytes" "[B" (.ref w1)) (F_w0_length : Fld Z h0 w0 "demitasse/interp/Bytes" "length" "I" (.int (8 : Int32))) (g_w0 : n0 ≤ w0) (E_w1 : Exa Z h0 w1 "[B") (V_w1 : Arv Z h0 w1 kw1 .byte (64 : Int32) [(.int p3), (.int p4), (.int p5), (.int p6), (.int p7), (.int p8), (.int p9), (.int p10)] (.int (0 : Int32))) (g_w1 : n0 ≤ w1) (ne_w0_w1 : w0 ≠ w1) :
    MetFree l (⟨"demitasse/interp/Bytes", "u2At", "(II)V"⟩ : MethodName) (head1 (Jvm.Cond.code (⟨"demitasse/interp/Bytes", "u2At", "(II)V"⟩ : MethodName) prog_64_method_6_code 3 none :: ws) ({ frames := 0, cells := 0, slots := 0, locals := 0 } : Room)) (fun a U => a = #[(.ref w0), (.int (4 : Int32)), (.int p11)] ∧ Z.Warmed39 U.vm ∧ U.heap = h0) (fun _ _ _ _ _ => True) (fun _ U o U' => ∃ v L, o = .returned v ∧ (Fr n0 L ∧ Q_51 Z w0 w1 kw1 p3 p4 p5 p6 p7 p8 p9 p10 p11 h0 n0 v U'.heap) ∧ FrameEnd U o U' L ({ frames := 0, cells := 0, slots := 0, locals := 0 } : Room).cells ({ frames := 0, cells := 0, slots := 0, locals := 0 } : Room).slots) := by
  refine own_enter (Q := Q_51 Z w0 w1 kw1 p3 p4 p5 p6 p7 p8 p9 p10 p11 h0 n0) (F := fun m => mkF m 0 #[.val (.ref w0), .val (.int (4 : Int32)), .val (.int p11)] []) (plainFor_of_name pn_0) (fun m => by first | (simp [entryFrame, mkF, argsToLocals, Value.category]; done) | rfl) ?_
  intro p e s m below meth c s₁ B X0
  have K : Keep h0 h0 [w1] := Keep.refl h0 _
  refine own_aloadN (pc' := 1) B X0 d8_0 rfl rfl rfl ?_
  refine own_getfield (pc' := 4) B X0 (host := "") (Or.inl (own_w hw 11 rfl)) Via.refl F_w0_bytes d8_1 rfl ?_
  intro T1 X1
  refine own_iloadN (pc' := 5) B X1 d8_4 rfl rfl ?_
  refine own_iloadN (pc' := 6) B X1 d8_5 rfl rfl ?_
  refine own_bipush (pc' := 8) B X1 (z := (8 : Int32)) d8_6 rfl (by decide) ?_
  obtain ⟨y2, hy2⟩ : ∃ z : Int32, (p11.toUInt32 >>> ((8 : Int32) &&& 31).toUInt32).toInt32 = z := ⟨_, rfl⟩
  refine own_iushr (pc' := 9) B X1 d8_8 rfl hy2 ?_
  obtain ⟨y3, hy3⟩ : ∃ z : Int32, y2.toInt8.toInt32 = z := ⟨_, rfl⟩
  refine own_i2b (pc' := 10) B X1 d8_9 rfl hy3 ?_
  refine own_bastore (pc' := 11) B X1 (x' := y3) V_w1 g_w1 ⟨by decide, by decide⟩ 4 (by decide) (Nat.le_of_ble_eq_true rfl) (own_idem_i2b hy3) d8_10 rfl ?_
  intro T4 h4 X4 W4 V_w1
  replace V_w1 : Arv Z h4 w1 kw1 .byte (64 : Int32) [(.int p3), (.int p4), (.int p5), (.int p6), (.int y3), (.int p8), (.int p9), (.int p10)] (.int (0 : Int32)) := V_w1
  replace E_w0 := E_w0.wr W4
  replace F_w0_bytes := F_w0_bytes.other W4 (Or.inl ne_w0_w1)
  replace F_w0_length := F_w0_length.other W4 (Or.inl ne_w0_w1)
  replace E_w1 := E_w1.wr W4
  replace K := K.wr W4 (Or.inl (List.mem_of_getElem? (i := 0) rfl))
  refine own_aloadN (pc' := 12) B X4 d8_11 rfl rfl rfl ?_
  refine own_getfield (pc' := 15) B X4 (host := "") (Or.inl (own_w hw 11 rfl)) Via.refl F_w0_bytes d8_12 rfl ?_
  intro T5 X5
  refine own_iloadN (pc' := 16) B X5 d8_15 rfl rfl ?_
  refine own_iconst (pc' := 17) B X5 (z := (1 : Int32)) d8_16 rfl rfl ?_
  refine own_iadd (pc' := 18) B X5 (z := (5 : Int32)) d8_17 rfl (by decide) ?_
  refine own_iloadN (pc' := 19) B X5 d8_18 rfl rfl ?_
  obtain ⟨y6, hy6⟩ : ∃ z : Int32, p11.toInt8.toInt32 = z := ⟨_, rfl⟩
  refine own_i2b (pc' := 20) B X5 d8_19 rfl hy6 ?_
  refine own_bastore (pc' := 21) B X5 (x' := y6) V_w1 g_w1 ⟨by decide, by decide⟩ 5 (by decide) (Nat.le_of_ble_eq_true rfl) (own_idem_i2b hy6) d8_20 rfl ?_
  intro T7 h7 X7 W7 V_w1
  replace V_w1 : Arv Z h7 w1 kw1 .byte (64 : Int32) [(.int p3), (.int p4), (.int p5), (.int p6), (.int y3), (.int y6), (.int p9), (.int p10)] (.int (0 : Int32)) := V_w1
  replace E_w0 := E_w0.wr W7
  replace F_w0_bytes := F_w0_bytes.other W7 (Or.inl ne_w0_w1)
  replace F_w0_length := F_w0_length.other W7 (Or.inl ne_w0_w1)
  replace E_w1 := E_w1.wr W7
  replace K := K.wr W7 (Or.inl (List.mem_of_getElem? (i := 0) rfl))
  exact own_ret B X7 d8_21 (by decide) (by decide) (⟨y2, y3, y6, hy2, hy3, hy6, rfl, K, E_w1, V_w1⟩)
def Q_50 (Z : State) (w0 : Addr) (w1 : Addr) (kw1 : ClassId) (p3 : Int32) (p4 : Int32) (p5 : Int32) (p6 : Int32) (p7 : Int32) (p8 : Int32) (p9 : Int32) (p10 : Int32) (p11 : Int32) (h0 : Heap) (n0 : Nat) (v : Option Value) (h : Heap) : Prop :=
  (∃ (y1 : Int32) (y3 : Int32) (y4 : Int32) (y5 : Int32) (y10 : Int32) (y11 : Int32) (y12 : Int32), (p11.toUInt32 >>> ((16 : Int32) &&& 31).toUInt32).toInt32 = y1 ∧ (y1.toUInt32 >>> ((8 : Int32) &&& 31).toUInt32).toInt32 = y3 ∧ y3.toInt8.toInt32 = y4 ∧ y1.toInt8.toInt32 = y5 ∧ (p11.toUInt32 >>> ((8 : Int32) &&& 31).toUInt32).toInt32 = y10 ∧ y10.toInt8.toInt32 = y11 ∧ p11.toInt8.toInt32 = y12 ∧ v = none ∧ Keep h0 h [w1] ∧ Exa Z h w1 "[B" ∧ Arv Z h w1 kw1 .byte (64 : Int32) [(.int p3), (.int p4), (.int y4), (.int y5), (.int y11), (.int y12), (.int p9), (.int p10)] (.int (0 : Int32)))
set_option maxRecDepth 65536 in
set_option maxHeartbeats 40000000 in
theorem rm_50 (l : Launch) (Z : State) (a0 : Array Value) (hw : ∀ d ∈ tables_1, d.before a0 Z = true) (ws : List Jvm.Cond) (w0 : Addr) (w1 : Addr) (kw1 : ClassId) (p3 : Int32) (p4 : Int32) (p5 : Int32) (p6 : Int32) (p7 : Int32) (p8 : Int32) (p9 : Int32) (p10 : Int32) (p11 : Int32) (h0 : Heap) (n0 : Nat) (Z0 : n0 ≤ h0.size) (E_w0 : Exa Z h0 w0 "demitasse/interp/Bytes") (F_w0_bytes : Fld Z h0 w0 "demitasse/interp/Bytes" "bytes" "[B" (.ref w1)) (F_w0_length : Fld Z h0 w0 "demitasse/interp/Bytes" "length" "I" (.int (8 : Int32))) (g_w0 : n0 ≤ w0) (E_w1 : Exa Z h0 w1 "[B") (V_w1 : Arv Z h0 w1 kw1 .byte (64 : Int32) [(.int p3), (.int p4), (.int p5), (.int p6), (.int p7), (.int p8), (.int p9), (.int p10)] (.int (0 : Int32))) (g_w1 : n0 ≤ w1) (ne_w0_w1 : w0 ≠ w1) :
    MetFree l (⟨"demitasse/interp/Bytes", "u4At", "(II)V"⟩ : MethodName) (head1 (Jvm.Cond.code (⟨"demitasse/interp/Bytes", "u4At", "(II)V"⟩ : MethodName) prog_64_method_7_code 3 none :: ws) ({ frames := 1, cells := 0, slots := 0, locals := 14 } : Room)) (fun a U => a = #[(.ref w0), (.int (2 : Int32)), (.int p11)] ∧ Z.Warmed39 U.vm ∧ U.heap = h0) (fun _ _ _ _ _ => True) (fun _ U o U' => ∃ v L, o = .returned v ∧ (Fr n0 L ∧ Q_50 Z w0 w1 kw1 p3 p4 p5 p6 p7 p8 p9 p10 p11 h0 n0 v U'.heap) ∧ FrameEnd U o U' L ({ frames := 1, cells := 0, slots := 0, locals := 14 } : Room).cells ({ frames := 1, cells := 0, slots := 0, locals := 14 } : Room).slots) := by
  refine own_enter (Q := Q_50 Z w0 w1 kw1 p3 p4 p5 p6 p7 p8 p9 p10 p11 h0 n0) (F := fun m => mkF m 0 #[.val (.ref w0), .val (.int (2 : Int32)), .val (.int p11)] []) (plainFor_of_name pn_0) (fun m => by first | (simp [entryFrame, mkF, argsToLocals, Value.category]; done) | rfl) ?_
  intro p e s m below meth c s₁ B X0
  have K : Keep h0 h0 [w1] := Keep.refl h0 _
  refine own_aloadN (pc' := 1) B X0 d7_0 rfl rfl rfl ?_
  refine own_iloadN (pc' := 2) B X0 d7_1 rfl rfl ?_
  refine own_iloadN (pc' := 3) B X0 d7_2 rfl rfl ?_
  refine own_bipush (pc' := 5) B X0 (z := (16 : Int32)) d7_3 rfl (by decide) ?_
  obtain ⟨y1, hy1⟩ : ∃ z : Int32, (p11.toUInt32 >>> ((16 : Int32) &&& 31).toUInt32).toInt32 = z := ⟨_, rfl⟩
  refine own_iushr (pc' := 6) B X0 d7_5 rfl hy1 ?_
  refine own_callV (pc' := 9) B X0 (own_w hw 39 rfl) (own_w hw 40 rfl) (own_w hw 42 rfl) (own_w hw 41 rfl) (own_w hw 3 rfl) (own_w hw 43 rfl) E_w0 (by decide) [(.int (2 : Int32)), (.int y1)] [] (rm_26 l Z a0 hw [] w0 w1 kw1 (p3) (p4) (p5) (p6) (p7) (p8) (p9) (p10) (y1) h0 n0 (Nat.le_trans Z0 K.1) E_w0 F_w0_bytes F_w0_length g_w0 E_w1 V_w1 g_w1 ne_w0_w1) 0 (by decide) (by decide) rfl pd_2 rfl rfl (Nat.le_of_eq rfl) d7_6 rfl (k' := 0) (n' := 0) rfl rfl (by decide) (by decide) ?_
  intro T2 v2 h2 X2 q2
  obtain ⟨y3, y4, y5, hy6, hy7, hy8, rfl, K2, E_w1, V_w1⟩ := q2
  replace K := K.trans K2 (allS (Or.inl (List.mem_of_getElem? (i := 0) rfl)) all0)
  replace E_w0 := E_w0.keep K2
  replace F_w0_bytes := F_w0_bytes.keep K2 (ninS ne_w0_w1 nin0)
  replace F_w0_length := F_w0_length.keep K2 (ninS ne_w0_w1 nin0)
  show own_Go p e below (T2.setTop (mkF m 9 #[.val (.ref w0), .val (.int (2 : Int32)), .val (.int p11)] [])) _
  refine own_aloadN (pc' := 10) B X2 d7_9 rfl rfl rfl ?_
  refine own_iloadN (pc' := 11) B X2 d7_10 rfl rfl ?_
  refine own_iconst (pc' := 12) B X2 (z := (2 : Int32)) d7_11 rfl rfl ?_
  refine own_iadd (pc' := 13) B X2 (z := (4 : Int32)) d7_12 rfl (by decide) ?_
  refine own_iloadN (pc' := 14) B X2 d7_13 rfl rfl ?_
  refine own_callV (pc' := 17) B X2 (own_w hw 39 rfl) (own_w hw 40 rfl) (own_w hw 42 rfl) (own_w hw 41 rfl) (own_w hw 3 rfl) (own_w hw 43 rfl) E_w0 (by decide) [(.int (4 : Int32)), (.int p11)] [] (rm_51 l Z a0 hw [] w0 w1 kw1 (p3) (p4) (y4) (y5) (p7) (p8) (p9) (p10) (p11) h2 n0 (Nat.le_trans Z0 K.1) E_w0 F_w0_bytes F_w0_length g_w0 E_w1 V_w1 g_w1 ne_w0_w1) 0 (by decide) (by decide) rfl pd_2 rfl rfl (Nat.le_of_eq rfl) d7_14 rfl (k' := 0) (n' := 0) rfl rfl (by decide) (by decide) ?_
  intro T9 v9 h9 X9 q9
  obtain ⟨y10, y11, y12, hy13, hy14, hy15, rfl, K9, E_w1, V_w1⟩ := q9
  replace K := K.trans K9 (allS (Or.inl (List.mem_of_getElem? (i := 0) rfl)) all0)
  replace E_w0 := E_w0.keep K9
  replace F_w0_bytes := F_w0_bytes.keep K9 (ninS ne_w0_w1 nin0)
  replace F_w0_length := F_w0_length.keep K9 (ninS ne_w0_w1 nin0)
  show own_Go p e below (T9.setTop (mkF m 17 #[.val (.ref w0), .val (.int (2 : Int32)), .val (.int p11)] [])) _
  exact own_ret B X9 d7_17 (by decide) (by decide) (⟨y1, y3, y4, y5, y10, y11, y12, hy1, hy6, hy7, hy8, hy13, hy14, hy15, rfl, K, E_w1, V_w1⟩)
def Q_52 (Z : State) (w0 : Addr) (kw0 : ClassId) (p2 : Int32) (p3 : Int32) (p4 : Int32) (p5 : Int32) (p6 : Int32) (p7 : Int32) (p8 : Int32) (p9 : Int32) (p10 : Int32) (p11 : Int32) (p12 : Int32) (p13 : Int32) (p14 : Int32) (p15 : Int32) (p16 : Int32) (p17 : Int32) (p18 : Int32) (h0 : Heap) (n0 : Nat) (v : Option Value) (h : Heap) : Prop :=
  (∃ (y1 : Int32) (y2 : Int32), (p10.toUInt32 >>> ((24 : Int32) &&& 31).toUInt32).toInt32 = y1 ∧ y1.toInt8.toInt32 = y2 ∧ p2 = y2 ∧ v = some (.int (1 : Int32)) ∧ h0 = h)
set_option maxRecDepth 65536 in
set_option maxHeartbeats 40000000 in
theorem rm_52 (l : Launch) (Z : State) (a0 : Array Value) (hw : ∀ d ∈ tables_1, d.before a0 Z = true) (ws : List Jvm.Cond) (w0 : Addr) (kw0 : ClassId) (p2 : Int32) (p3 : Int32) (p4 : Int32) (p5 : Int32) (p6 : Int32) (p7 : Int32) (p8 : Int32) (p9 : Int32) (p10 : Int32) (p11 : Int32) (p12 : Int32) (p13 : Int32) (p14 : Int32) (p15 : Int32) (p16 : Int32) (p17 : Int32) (p18 : Int32) (h0 : Heap) (n0 : Nat) (Z0 : n0 ≤ h0.size) (E_w0 : Exa Z h0 w0 "[B") (V_w0 : Arv Z h0 w0 kw0 .byte (8 : Int32) [(.int p2), (.int p3), (.int p4), (.int p5), (.int p6), (.int p7), (.int p8), (.int p9)] (.int (0 : Int32))) (g_w0 : n0 ≤ w0) (hp0 : p13.toInt8.toInt32 = p2) (hp1 : p14.toInt8.toInt32 = p3) (hp2 : p15.toInt8.toInt32 = p8) (hp3 : p11.toInt8.toInt32 = p9) (hp4 : p16.toInt8.toInt32 = p4) (hp5 : p17.toInt8.toInt32 = p5) (hp6 : p18.toInt8.toInt32 = p6) (hp7 : p12.toInt8.toInt32 = p7) (hp8 : (p10.toUInt32 >>> ((16 : Int32) &&& 31).toUInt32).toInt32 = p14) (hp9 : (p14.toUInt32 >>> ((8 : Int32) &&& 31).toUInt32).toInt32 = p13) (hp10 : (p11.toUInt32 >>> ((8 : Int32) &&& 31).toUInt32).toInt32 = p15) (hp11 : (p12.toUInt32 >>> ((16 : Int32) &&& 31).toUInt32).toInt32 = p17) (hp12 : (p17.toUInt32 >>> ((8 : Int32) &&& 31).toUInt32).toInt32 = p16) (hp13 : (p12.toUInt32 >>> ((8 : Int32) &&& 31).toUInt32).toInt32 = p18) :
    MetFree l (⟨"demitasse/interp/BytesU4AtPinLaw", "ok", "([BIIIII)Z"⟩ : MethodName) (head1 (Jvm.Cond.code (⟨"demitasse/interp/BytesU4AtPinLaw", "ok", "([BIIIII)Z"⟩ : MethodName) method_3_code 7 (some .boolean) :: ws) ({ frames := 0, cells := 0, slots := 0, locals := 0 } : Room)) (fun a U => a = #[(.ref w0), (.int (0 : Int32)), (.int p10), (.int p11), (.int (2 : Int32)), (.int p12)] ∧ Z.Warmed39 U.vm ∧ U.heap = h0) (fun _ _ _ _ _ => True) (fun _ U o U' => ∃ v L, o = .returned v ∧ (Fr n0 L ∧ Q_52 Z w0 kw0 p2 p3 p4 p5 p6 p7 p8 p9 p10 p11 p12 p13 p14 p15 p16 p17 p18 h0 n0 v U'.heap) ∧ FrameEnd U o U' L ({ frames := 0, cells := 0, slots := 0, locals := 0 } : Room).cells ({ frames := 0, cells := 0, slots := 0, locals := 0 } : Room).slots) := by
  refine own_enter (Q := Q_52 Z w0 kw0 p2 p3 p4 p5 p6 p7 p8 p9 p10 p11 p12 p13 p14 p15 p16 p17 p18 h0 n0) (F := fun m => mkF m 0 #[.val (.ref w0), .val (.int (0 : Int32)), .val (.int p10), .val (.int p11), .val (.int (2 : Int32)), .val (.int p12), .unset] []) (plainFor_of_name pn_2) (fun m => by first | (simp [entryFrame, mkF, argsToLocals, Value.category]; done) | rfl) ?_
  intro p e s m below meth c s₁ B X0
  have K : Keep h0 h0 [] := Keep.refl h0 _
  refine own_iloadN (pc' := 1) B X0 d13_0 rfl rfl ?_
  refine own_iload (pc' := 3) B X0 d13_1 rfl rfl ?_
  refine own_icmpYes (pc' := 32) B X0 d13_3 (tlt (by decide : (0 : Int32) < (2 : Int32))).1 (by decide) rfl ?_
  refine own_iloadN (pc' := 33) B X0 d13_32 rfl rfl ?_
  refine own_iconst (pc' := 34) B X0 (z := (4 : Int32)) d13_33 rfl rfl ?_
  refine own_icmpNo (pc' := 37) B X0 d13_34 (tlt (by decide : (0 : Int32) < (4 : Int32))).2.1 rfl ?_
  refine own_iloadN (pc' := 38) B X0 d13_37 rfl rfl ?_
  refine own_bipush (pc' := 40) B X0 (z := (24 : Int32)) d13_38 rfl (by decide) ?_
  refine own_bipush (pc' := 42) B X0 (z := (8 : Int32)) d13_40 rfl (by decide) ?_
  refine own_iloadN (pc' := 43) B X0 d13_42 rfl rfl ?_
  refine own_imul (pc' := 44) B X0 (z := (0 : Int32)) d13_43 rfl (by decide) ?_
  refine own_isub (pc' := 45) B X0 (z := (24 : Int32)) d13_44 rfl (by decide) ?_
  obtain ⟨y1, hy1⟩ : ∃ z : Int32, (p10.toUInt32 >>> ((24 : Int32) &&& 31).toUInt32).toInt32 = z := ⟨_, rfl⟩
  refine own_iushr (pc' := 46) B X0 d13_45 rfl hy1 ?_
  refine own_istore (pc' := 48) B X0 (Ls' := #[.val (.ref w0), .val (.int (0 : Int32)), .val (.int p10), .val (.int p11), .val (.int (2 : Int32)), .val (.int p12), .val (.int y1)]) d13_46 rfl rfl ?_
  refine own_goto (pc' := 64) B X0 d13_48 (by decide) rfl ?_
  refine own_aloadN (pc' := 65) B X0 d13_64 rfl rfl rfl ?_
  refine own_iloadN (pc' := 66) B X0 d13_65 rfl rfl ?_
  refine own_baload (pc' := 67) B X0 V_w0 (v := (.int p2)) ⟨by decide, by decide⟩ rfl d13_66 rfl ?_
  refine own_iload (pc' := 69) B X0 d13_67 rfl rfl ?_
  obtain ⟨y2, hy2⟩ : ∃ z : Int32, y1.toInt8.toInt32 = z := ⟨_, rfl⟩
  refine own_i2b (pc' := 70) B X0 d13_69 rfl hy2 ?_
  have c3 : p2 = y2 := by
    have o0 := own_o_i2b hp0
    have o1 := own_o_iushr hp8 16 (by decide) (by decide)
    have o2 := own_o_iushr hp9 8 (by decide) (by decide)
    have o3 := own_o_iushr hy1 24 (by decide) (by decide)
    have o4 := own_o_i2b hy2
    have o5 := rng32 p10
    have o6 := rng32 p13
    have o7 := rng32 p14
    have o8 := rng32 p2
    have o9 := rng32 y1
    have o10 := rng32 y2
    have o11 : (16 : Int32).toInt = 16 := by decide
    have o12 : (8 : Int32).toInt = 8 := by decide
    have o13 : (24 : Int32).toInt = 24 := by decide
    refine own_eqI ?_
    omega
  refine own_icmpNo (pc' := 73) B X0 d13_70 (teq c3).2 rfl ?_
  refine own_iconst (pc' := 74) B X0 (z := (1 : Int32)) d13_73 rfl rfl ?_
  refine own_goto (pc' := 78) B X0 d13_74 (by decide) rfl ?_
  exact own_retN B X0 (t := .boolean) (z' := (1 : Int32)) (by simp) (by decide) d13_78 (by decide) (by decide) (⟨y1, y2, hy1, hy2, c3, rfl, rfl⟩)
def Q_53 (Z : State) (w0 : Addr) (kw0 : ClassId) (p2 : Int32) (p3 : Int32) (p4 : Int32) (p5 : Int32) (p6 : Int32) (p7 : Int32) (p8 : Int32) (p9 : Int32) (p10 : Int32) (p11 : Int32) (p12 : Int32) (p13 : Int32) (p14 : Int32) (p15 : Int32) (p16 : Int32) (p17 : Int32) (p18 : Int32) (h0 : Heap) (n0 : Nat) (v : Option Value) (h : Heap) : Prop :=
  (v = some (.int (1 : Int32)) ∧ h0 = h)
set_option maxRecDepth 65536 in
set_option maxHeartbeats 40000000 in
theorem rm_53 (l : Launch) (Z : State) (a0 : Array Value) (hw : ∀ d ∈ tables_1, d.before a0 Z = true) (ws : List Jvm.Cond) (w0 : Addr) (kw0 : ClassId) (p2 : Int32) (p3 : Int32) (p4 : Int32) (p5 : Int32) (p6 : Int32) (p7 : Int32) (p8 : Int32) (p9 : Int32) (p10 : Int32) (p11 : Int32) (p12 : Int32) (p13 : Int32) (p14 : Int32) (p15 : Int32) (p16 : Int32) (p17 : Int32) (p18 : Int32) (h0 : Heap) (n0 : Nat) (Z0 : n0 ≤ h0.size) (E_w0 : Exa Z h0 w0 "[B") (V_w0 : Arv Z h0 w0 kw0 .byte (8 : Int32) [(.int p2), (.int p3), (.int p4), (.int p5), (.int p6), (.int p7), (.int p8), (.int p9)] (.int (0 : Int32))) (g_w0 : n0 ≤ w0) (hp0 : p13.toInt8.toInt32 = p2) (hp1 : p14.toInt8.toInt32 = p3) (hp2 : p15.toInt8.toInt32 = p8) (hp3 : p11.toInt8.toInt32 = p9) (hp4 : p16.toInt8.toInt32 = p4) (hp5 : p17.toInt8.toInt32 = p5) (hp6 : p18.toInt8.toInt32 = p6) (hp7 : p12.toInt8.toInt32 = p7) (hp8 : (p10.toUInt32 >>> ((16 : Int32) &&& 31).toUInt32).toInt32 = p14) (hp9 : (p14.toUInt32 >>> ((8 : Int32) &&& 31).toUInt32).toInt32 = p13) (hp10 : (p11.toUInt32 >>> ((8 : Int32) &&& 31).toUInt32).toInt32 = p15) (hp11 : (p12.toUInt32 >>> ((16 : Int32) &&& 31).toUInt32).toInt32 = p17) (hp12 : (p17.toUInt32 >>> ((8 : Int32) &&& 31).toUInt32).toInt32 = p16) (hp13 : (p12.toUInt32 >>> ((8 : Int32) &&& 31).toUInt32).toInt32 = p18) :
    MetFree l (⟨"demitasse/interp/BytesU4AtPinLaw", "ok", "([BIIIII)Z"⟩ : MethodName) (head1 (Jvm.Cond.code (⟨"demitasse/interp/BytesU4AtPinLaw", "ok", "([BIIIII)Z"⟩ : MethodName) method_3_code 7 (some .boolean) :: ws) ({ frames := 0, cells := 0, slots := 0, locals := 0 } : Room)) (fun a U => a = #[(.ref w0), (.int (1 : Int32)), (.int p10), (.int p11), (.int (2 : Int32)), (.int p12)] ∧ Z.Warmed39 U.vm ∧ U.heap = h0) (fun _ _ _ _ _ => True) (fun _ U o U' => ∃ v L, o = .returned v ∧ (Fr n0 L ∧ Q_53 Z w0 kw0 p2 p3 p4 p5 p6 p7 p8 p9 p10 p11 p12 p13 p14 p15 p16 p17 p18 h0 n0 v U'.heap) ∧ FrameEnd U o U' L ({ frames := 0, cells := 0, slots := 0, locals := 0 } : Room).cells ({ frames := 0, cells := 0, slots := 0, locals := 0 } : Room).slots) := by
  refine own_enter (Q := Q_53 Z w0 kw0 p2 p3 p4 p5 p6 p7 p8 p9 p10 p11 p12 p13 p14 p15 p16 p17 p18 h0 n0) (F := fun m => mkF m 0 #[.val (.ref w0), .val (.int (1 : Int32)), .val (.int p10), .val (.int p11), .val (.int (2 : Int32)), .val (.int p12), .unset] []) (plainFor_of_name pn_2) (fun m => by first | (simp [entryFrame, mkF, argsToLocals, Value.category]; done) | rfl) ?_
  intro p e s m below meth c s₁ B X0
  have K : Keep h0 h0 [] := Keep.refl h0 _
  refine own_iloadN (pc' := 1) B X0 d13_0 rfl rfl ?_
  refine own_iload (pc' := 3) B X0 d13_1 rfl rfl ?_
  refine own_icmpYes (pc' := 32) B X0 d13_3 (tlt (by decide : (1 : Int32) < (2 : Int32))).1 (by decide) rfl ?_
  refine own_iloadN (pc' := 33) B X0 d13_32 rfl rfl ?_
  refine own_iconst (pc' := 34) B X0 (z := (4 : Int32)) d13_33 rfl rfl ?_
  refine own_icmpNo (pc' := 37) B X0 d13_34 (tlt (by decide : (1 : Int32) < (4 : Int32))).2.1 rfl ?_
  refine own_iloadN (pc' := 38) B X0 d13_37 rfl rfl ?_
  refine own_bipush (pc' := 40) B X0 (z := (24 : Int32)) d13_38 rfl (by decide) ?_
  refine own_bipush (pc' := 42) B X0 (z := (8 : Int32)) d13_40 rfl (by decide) ?_
  refine own_iloadN (pc' := 43) B X0 d13_42 rfl rfl ?_
  refine own_imul (pc' := 44) B X0 (z := (8 : Int32)) d13_43 rfl (by decide) ?_
  refine own_isub (pc' := 45) B X0 (z := (16 : Int32)) d13_44 rfl (by decide) ?_
  refine own_iushr (pc' := 46) B X0 d13_45 rfl hp8 ?_
  refine own_istore (pc' := 48) B X0 (Ls' := #[.val (.ref w0), .val (.int (1 : Int32)), .val (.int p10), .val (.int p11), .val (.int (2 : Int32)), .val (.int p12), .val (.int p14)]) d13_46 rfl rfl ?_
  refine own_goto (pc' := 64) B X0 d13_48 (by decide) rfl ?_
  refine own_aloadN (pc' := 65) B X0 d13_64 rfl rfl rfl ?_
  refine own_iloadN (pc' := 66) B X0 d13_65 rfl rfl ?_
  refine own_baload (pc' := 67) B X0 V_w0 (v := (.int p3)) ⟨by decide, by decide⟩ rfl d13_66 rfl ?_
  refine own_iload (pc' := 69) B X0 d13_67 rfl rfl ?_
  refine own_i2b (pc' := 70) B X0 d13_69 rfl hp1 ?_
  refine own_icmpNo (pc' := 73) B X0 d13_70 (teq rfl).2 rfl ?_
  refine own_iconst (pc' := 74) B X0 (z := (1 : Int32)) d13_73 rfl rfl ?_
  refine own_goto (pc' := 78) B X0 d13_74 (by decide) rfl ?_
  exact own_retN B X0 (t := .boolean) (z' := (1 : Int32)) (by simp) (by decide) d13_78 (by decide) (by decide) (⟨rfl, rfl⟩)
def Q_54 (Z : State) (w0 : Addr) (kw0 : ClassId) (p2 : Int32) (p3 : Int32) (p4 : Int32) (p5 : Int32) (p6 : Int32) (p7 : Int32) (p8 : Int32) (p9 : Int32) (p10 : Int32) (p11 : Int32) (p12 : Int32) (p13 : Int32) (p14 : Int32) (p15 : Int32) (p16 : Int32) (p17 : Int32) (p18 : Int32) (h0 : Heap) (n0 : Nat) (v : Option Value) (h : Heap) : Prop :=
  (∃ (y1 : Int32) (y2 : Int32), (p12.toUInt32 >>> ((24 : Int32) &&& 31).toUInt32).toInt32 = y1 ∧ y1.toInt8.toInt32 = y2 ∧ p4 = y2 ∧ v = some (.int (1 : Int32)) ∧ h0 = h)
set_option maxRecDepth 65536 in
set_option maxHeartbeats 40000000 in
theorem rm_54 (l : Launch) (Z : State) (a0 : Array Value) (hw : ∀ d ∈ tables_1, d.before a0 Z = true) (ws : List Jvm.Cond) (w0 : Addr) (kw0 : ClassId) (p2 : Int32) (p3 : Int32) (p4 : Int32) (p5 : Int32) (p6 : Int32) (p7 : Int32) (p8 : Int32) (p9 : Int32) (p10 : Int32) (p11 : Int32) (p12 : Int32) (p13 : Int32) (p14 : Int32) (p15 : Int32) (p16 : Int32) (p17 : Int32) (p18 : Int32) (h0 : Heap) (n0 : Nat) (Z0 : n0 ≤ h0.size) (E_w0 : Exa Z h0 w0 "[B") (V_w0 : Arv Z h0 w0 kw0 .byte (8 : Int32) [(.int p2), (.int p3), (.int p4), (.int p5), (.int p6), (.int p7), (.int p8), (.int p9)] (.int (0 : Int32))) (g_w0 : n0 ≤ w0) (hp0 : p13.toInt8.toInt32 = p2) (hp1 : p14.toInt8.toInt32 = p3) (hp2 : p15.toInt8.toInt32 = p8) (hp3 : p11.toInt8.toInt32 = p9) (hp4 : p16.toInt8.toInt32 = p4) (hp5 : p17.toInt8.toInt32 = p5) (hp6 : p18.toInt8.toInt32 = p6) (hp7 : p12.toInt8.toInt32 = p7) (hp8 : (p10.toUInt32 >>> ((16 : Int32) &&& 31).toUInt32).toInt32 = p14) (hp9 : (p14.toUInt32 >>> ((8 : Int32) &&& 31).toUInt32).toInt32 = p13) (hp10 : (p11.toUInt32 >>> ((8 : Int32) &&& 31).toUInt32).toInt32 = p15) (hp11 : (p12.toUInt32 >>> ((16 : Int32) &&& 31).toUInt32).toInt32 = p17) (hp12 : (p17.toUInt32 >>> ((8 : Int32) &&& 31).toUInt32).toInt32 = p16) (hp13 : (p12.toUInt32 >>> ((8 : Int32) &&& 31).toUInt32).toInt32 = p18) :
    MetFree l (⟨"demitasse/interp/BytesU4AtPinLaw", "ok", "([BIIIII)Z"⟩ : MethodName) (head1 (Jvm.Cond.code (⟨"demitasse/interp/BytesU4AtPinLaw", "ok", "([BIIIII)Z"⟩ : MethodName) method_3_code 7 (some .boolean) :: ws) ({ frames := 0, cells := 0, slots := 0, locals := 0 } : Room)) (fun a U => a = #[(.ref w0), (.int (2 : Int32)), (.int p10), (.int p11), (.int (2 : Int32)), (.int p12)] ∧ Z.Warmed39 U.vm ∧ U.heap = h0) (fun _ _ _ _ _ => True) (fun _ U o U' => ∃ v L, o = .returned v ∧ (Fr n0 L ∧ Q_54 Z w0 kw0 p2 p3 p4 p5 p6 p7 p8 p9 p10 p11 p12 p13 p14 p15 p16 p17 p18 h0 n0 v U'.heap) ∧ FrameEnd U o U' L ({ frames := 0, cells := 0, slots := 0, locals := 0 } : Room).cells ({ frames := 0, cells := 0, slots := 0, locals := 0 } : Room).slots) := by
  refine own_enter (Q := Q_54 Z w0 kw0 p2 p3 p4 p5 p6 p7 p8 p9 p10 p11 p12 p13 p14 p15 p16 p17 p18 h0 n0) (F := fun m => mkF m 0 #[.val (.ref w0), .val (.int (2 : Int32)), .val (.int p10), .val (.int p11), .val (.int (2 : Int32)), .val (.int p12), .unset] []) (plainFor_of_name pn_2) (fun m => by first | (simp [entryFrame, mkF, argsToLocals, Value.category]; done) | rfl) ?_
  intro p e s m below meth c s₁ B X0
  have K : Keep h0 h0 [] := Keep.refl h0 _
  refine own_iloadN (pc' := 1) B X0 d13_0 rfl rfl ?_
  refine own_iload (pc' := 3) B X0 d13_1 rfl rfl ?_
  refine own_icmpNo (pc' := 6) B X0 d13_3 (flt (by decide : ¬ ((2 : Int32) < (2 : Int32)))).1 rfl ?_
  refine own_iloadN (pc' := 7) B X0 d13_6 rfl rfl ?_
  refine own_iload (pc' := 9) B X0 d13_7 rfl rfl ?_
  refine own_iconst (pc' := 10) B X0 (z := (4 : Int32)) d13_9 rfl rfl ?_
  refine own_iadd (pc' := 11) B X0 (z := (6 : Int32)) d13_10 rfl (by decide) ?_
  refine own_icmpNo (pc' := 14) B X0 d13_11 (tlt (by decide : (2 : Int32) < (6 : Int32))).2.1 rfl ?_
  refine own_iload (pc' := 16) B X0 d13_14 rfl rfl ?_
  refine own_bipush (pc' := 18) B X0 (z := (24 : Int32)) d13_16 rfl (by decide) ?_
  refine own_bipush (pc' := 20) B X0 (z := (8 : Int32)) d13_18 rfl (by decide) ?_
  refine own_iloadN (pc' := 21) B X0 d13_20 rfl rfl ?_
  refine own_iload (pc' := 23) B X0 d13_21 rfl rfl ?_
  refine own_isub (pc' := 24) B X0 (z := (0 : Int32)) d13_23 rfl (by decide) ?_
  refine own_imul (pc' := 25) B X0 (z := (0 : Int32)) d13_24 rfl (by decide) ?_
  refine own_isub (pc' := 26) B X0 (z := (24 : Int32)) d13_25 rfl (by decide) ?_
  obtain ⟨y1, hy1⟩ : ∃ z : Int32, (p12.toUInt32 >>> ((24 : Int32) &&& 31).toUInt32).toInt32 = z := ⟨_, rfl⟩
  refine own_iushr (pc' := 27) B X0 d13_26 rfl hy1 ?_
  refine own_istore (pc' := 29) B X0 (Ls' := #[.val (.ref w0), .val (.int (2 : Int32)), .val (.int p10), .val (.int p11), .val (.int (2 : Int32)), .val (.int p12), .val (.int y1)]) d13_27 rfl rfl ?_
  refine own_goto (pc' := 64) B X0 d13_29 (by decide) rfl ?_
  refine own_aloadN (pc' := 65) B X0 d13_64 rfl rfl rfl ?_
  refine own_iloadN (pc' := 66) B X0 d13_65 rfl rfl ?_
  refine own_baload (pc' := 67) B X0 V_w0 (v := (.int p4)) ⟨by decide, by decide⟩ rfl d13_66 rfl ?_
  refine own_iload (pc' := 69) B X0 d13_67 rfl rfl ?_
  obtain ⟨y2, hy2⟩ : ∃ z : Int32, y1.toInt8.toInt32 = z := ⟨_, rfl⟩
  refine own_i2b (pc' := 70) B X0 d13_69 rfl hy2 ?_
  have c3 : p4 = y2 := by
    have o0 := own_o_i2b hp4
    have o1 := own_o_iushr hp11 16 (by decide) (by decide)
    have o2 := own_o_iushr hp12 8 (by decide) (by decide)
    have o3 := own_o_iushr hy1 24 (by decide) (by decide)
    have o4 := own_o_i2b hy2
    have o5 := rng32 p12
    have o6 := rng32 p16
    have o7 := rng32 p17
    have o8 := rng32 p4
    have o9 := rng32 y1
    have o10 := rng32 y2
    have o11 : (16 : Int32).toInt = 16 := by decide
    have o12 : (8 : Int32).toInt = 8 := by decide
    have o13 : (24 : Int32).toInt = 24 := by decide
    refine own_eqI ?_
    omega
  refine own_icmpNo (pc' := 73) B X0 d13_70 (teq c3).2 rfl ?_
  refine own_iconst (pc' := 74) B X0 (z := (1 : Int32)) d13_73 rfl rfl ?_
  refine own_goto (pc' := 78) B X0 d13_74 (by decide) rfl ?_
  exact own_retN B X0 (t := .boolean) (z' := (1 : Int32)) (by simp) (by decide) d13_78 (by decide) (by decide) (⟨y1, y2, hy1, hy2, c3, rfl, rfl⟩)
def Q_55 (Z : State) (w0 : Addr) (kw0 : ClassId) (p2 : Int32) (p3 : Int32) (p4 : Int32) (p5 : Int32) (p6 : Int32) (p7 : Int32) (p8 : Int32) (p9 : Int32) (p10 : Int32) (p11 : Int32) (p12 : Int32) (p13 : Int32) (p14 : Int32) (p15 : Int32) (p16 : Int32) (p17 : Int32) (p18 : Int32) (h0 : Heap) (n0 : Nat) (v : Option Value) (h : Heap) : Prop :=
  (v = some (.int (1 : Int32)) ∧ h0 = h)
set_option maxRecDepth 65536 in
set_option maxHeartbeats 40000000 in
theorem rm_55 (l : Launch) (Z : State) (a0 : Array Value) (hw : ∀ d ∈ tables_1, d.before a0 Z = true) (ws : List Jvm.Cond) (w0 : Addr) (kw0 : ClassId) (p2 : Int32) (p3 : Int32) (p4 : Int32) (p5 : Int32) (p6 : Int32) (p7 : Int32) (p8 : Int32) (p9 : Int32) (p10 : Int32) (p11 : Int32) (p12 : Int32) (p13 : Int32) (p14 : Int32) (p15 : Int32) (p16 : Int32) (p17 : Int32) (p18 : Int32) (h0 : Heap) (n0 : Nat) (Z0 : n0 ≤ h0.size) (E_w0 : Exa Z h0 w0 "[B") (V_w0 : Arv Z h0 w0 kw0 .byte (8 : Int32) [(.int p2), (.int p3), (.int p4), (.int p5), (.int p6), (.int p7), (.int p8), (.int p9)] (.int (0 : Int32))) (g_w0 : n0 ≤ w0) (hp0 : p13.toInt8.toInt32 = p2) (hp1 : p14.toInt8.toInt32 = p3) (hp2 : p15.toInt8.toInt32 = p8) (hp3 : p11.toInt8.toInt32 = p9) (hp4 : p16.toInt8.toInt32 = p4) (hp5 : p17.toInt8.toInt32 = p5) (hp6 : p18.toInt8.toInt32 = p6) (hp7 : p12.toInt8.toInt32 = p7) (hp8 : (p10.toUInt32 >>> ((16 : Int32) &&& 31).toUInt32).toInt32 = p14) (hp9 : (p14.toUInt32 >>> ((8 : Int32) &&& 31).toUInt32).toInt32 = p13) (hp10 : (p11.toUInt32 >>> ((8 : Int32) &&& 31).toUInt32).toInt32 = p15) (hp11 : (p12.toUInt32 >>> ((16 : Int32) &&& 31).toUInt32).toInt32 = p17) (hp12 : (p17.toUInt32 >>> ((8 : Int32) &&& 31).toUInt32).toInt32 = p16) (hp13 : (p12.toUInt32 >>> ((8 : Int32) &&& 31).toUInt32).toInt32 = p18) :
    MetFree l (⟨"demitasse/interp/BytesU4AtPinLaw", "ok", "([BIIIII)Z"⟩ : MethodName) (head1 (Jvm.Cond.code (⟨"demitasse/interp/BytesU4AtPinLaw", "ok", "([BIIIII)Z"⟩ : MethodName) method_3_code 7 (some .boolean) :: ws) ({ frames := 0, cells := 0, slots := 0, locals := 0 } : Room)) (fun a U => a = #[(.ref w0), (.int (3 : Int32)), (.int p10), (.int p11), (.int (2 : Int32)), (.int p12)] ∧ Z.Warmed39 U.vm ∧ U.heap = h0) (fun _ _ _ _ _ => True) (fun _ U o U' => ∃ v L, o = .returned v ∧ (Fr n0 L ∧ Q_55 Z w0 kw0 p2 p3 p4 p5 p6 p7 p8 p9 p10 p11 p12 p13 p14 p15 p16 p17 p18 h0 n0 v U'.heap) ∧ FrameEnd U o U' L ({ frames := 0, cells := 0, slots := 0, locals := 0 } : Room).cells ({ frames := 0, cells := 0, slots := 0, locals := 0 } : Room).slots) := by
  refine own_enter (Q := Q_55 Z w0 kw0 p2 p3 p4 p5 p6 p7 p8 p9 p10 p11 p12 p13 p14 p15 p16 p17 p18 h0 n0) (F := fun m => mkF m 0 #[.val (.ref w0), .val (.int (3 : Int32)), .val (.int p10), .val (.int p11), .val (.int (2 : Int32)), .val (.int p12), .unset] []) (plainFor_of_name pn_2) (fun m => by first | (simp [entryFrame, mkF, argsToLocals, Value.category]; done) | rfl) ?_
  intro p e s m below meth c s₁ B X0
  have K : Keep h0 h0 [] := Keep.refl h0 _
  refine own_iloadN (pc' := 1) B X0 d13_0 rfl rfl ?_
  refine own_iload (pc' := 3) B X0 d13_1 rfl rfl ?_
  refine own_icmpNo (pc' := 6) B X0 d13_3 (flt (by decide : ¬ ((3 : Int32) < (2 : Int32)))).1 rfl ?_
  refine own_iloadN (pc' := 7) B X0 d13_6 rfl rfl ?_
  refine own_iload (pc' := 9) B X0 d13_7 rfl rfl ?_
  refine own_iconst (pc' := 10) B X0 (z := (4 : Int32)) d13_9 rfl rfl ?_
  refine own_iadd (pc' := 11) B X0 (z := (6 : Int32)) d13_10 rfl (by decide) ?_
  refine own_icmpNo (pc' := 14) B X0 d13_11 (tlt (by decide : (3 : Int32) < (6 : Int32))).2.1 rfl ?_
  refine own_iload (pc' := 16) B X0 d13_14 rfl rfl ?_
  refine own_bipush (pc' := 18) B X0 (z := (24 : Int32)) d13_16 rfl (by decide) ?_
  refine own_bipush (pc' := 20) B X0 (z := (8 : Int32)) d13_18 rfl (by decide) ?_
  refine own_iloadN (pc' := 21) B X0 d13_20 rfl rfl ?_
  refine own_iload (pc' := 23) B X0 d13_21 rfl rfl ?_
  refine own_isub (pc' := 24) B X0 (z := (1 : Int32)) d13_23 rfl (by decide) ?_
  refine own_imul (pc' := 25) B X0 (z := (8 : Int32)) d13_24 rfl (by decide) ?_
  refine own_isub (pc' := 26) B X0 (z := (16 : Int32)) d13_25 rfl (by decide) ?_
  refine own_iushr (pc' := 27) B X0 d13_26 rfl hp11 ?_
  refine own_istore (pc' := 29) B X0 (Ls' := #[.val (.ref w0), .val (.int (3 : Int32)), .val (.int p10), .val (.int p11), .val (.int (2 : Int32)), .val (.int p12), .val (.int p17)]) d13_27 rfl rfl ?_
  refine own_goto (pc' := 64) B X0 d13_29 (by decide) rfl ?_
  refine own_aloadN (pc' := 65) B X0 d13_64 rfl rfl rfl ?_
  refine own_iloadN (pc' := 66) B X0 d13_65 rfl rfl ?_
  refine own_baload (pc' := 67) B X0 V_w0 (v := (.int p5)) ⟨by decide, by decide⟩ rfl d13_66 rfl ?_
  refine own_iload (pc' := 69) B X0 d13_67 rfl rfl ?_
  refine own_i2b (pc' := 70) B X0 d13_69 rfl hp5 ?_
  refine own_icmpNo (pc' := 73) B X0 d13_70 (teq rfl).2 rfl ?_
  refine own_iconst (pc' := 74) B X0 (z := (1 : Int32)) d13_73 rfl rfl ?_
  refine own_goto (pc' := 78) B X0 d13_74 (by decide) rfl ?_
  exact own_retN B X0 (t := .boolean) (z' := (1 : Int32)) (by simp) (by decide) d13_78 (by decide) (by decide) (⟨rfl, rfl⟩)
def Q_56 (Z : State) (w0 : Addr) (kw0 : ClassId) (p2 : Int32) (p3 : Int32) (p4 : Int32) (p5 : Int32) (p6 : Int32) (p7 : Int32) (p8 : Int32) (p9 : Int32) (p10 : Int32) (p11 : Int32) (p12 : Int32) (p13 : Int32) (p14 : Int32) (p15 : Int32) (p16 : Int32) (p17 : Int32) (p18 : Int32) (h0 : Heap) (n0 : Nat) (v : Option Value) (h : Heap) : Prop :=
  (v = some (.int (1 : Int32)) ∧ h0 = h)
set_option maxRecDepth 65536 in
set_option maxHeartbeats 40000000 in
theorem rm_56 (l : Launch) (Z : State) (a0 : Array Value) (hw : ∀ d ∈ tables_1, d.before a0 Z = true) (ws : List Jvm.Cond) (w0 : Addr) (kw0 : ClassId) (p2 : Int32) (p3 : Int32) (p4 : Int32) (p5 : Int32) (p6 : Int32) (p7 : Int32) (p8 : Int32) (p9 : Int32) (p10 : Int32) (p11 : Int32) (p12 : Int32) (p13 : Int32) (p14 : Int32) (p15 : Int32) (p16 : Int32) (p17 : Int32) (p18 : Int32) (h0 : Heap) (n0 : Nat) (Z0 : n0 ≤ h0.size) (E_w0 : Exa Z h0 w0 "[B") (V_w0 : Arv Z h0 w0 kw0 .byte (8 : Int32) [(.int p2), (.int p3), (.int p4), (.int p5), (.int p6), (.int p7), (.int p8), (.int p9)] (.int (0 : Int32))) (g_w0 : n0 ≤ w0) (hp0 : p13.toInt8.toInt32 = p2) (hp1 : p14.toInt8.toInt32 = p3) (hp2 : p15.toInt8.toInt32 = p8) (hp3 : p11.toInt8.toInt32 = p9) (hp4 : p16.toInt8.toInt32 = p4) (hp5 : p17.toInt8.toInt32 = p5) (hp6 : p18.toInt8.toInt32 = p6) (hp7 : p12.toInt8.toInt32 = p7) (hp8 : (p10.toUInt32 >>> ((16 : Int32) &&& 31).toUInt32).toInt32 = p14) (hp9 : (p14.toUInt32 >>> ((8 : Int32) &&& 31).toUInt32).toInt32 = p13) (hp10 : (p11.toUInt32 >>> ((8 : Int32) &&& 31).toUInt32).toInt32 = p15) (hp11 : (p12.toUInt32 >>> ((16 : Int32) &&& 31).toUInt32).toInt32 = p17) (hp12 : (p17.toUInt32 >>> ((8 : Int32) &&& 31).toUInt32).toInt32 = p16) (hp13 : (p12.toUInt32 >>> ((8 : Int32) &&& 31).toUInt32).toInt32 = p18) :
    MetFree l (⟨"demitasse/interp/BytesU4AtPinLaw", "ok", "([BIIIII)Z"⟩ : MethodName) (head1 (Jvm.Cond.code (⟨"demitasse/interp/BytesU4AtPinLaw", "ok", "([BIIIII)Z"⟩ : MethodName) method_3_code 7 (some .boolean) :: ws) ({ frames := 0, cells := 0, slots := 0, locals := 0 } : Room)) (fun a U => a = #[(.ref w0), (.int (4 : Int32)), (.int p10), (.int p11), (.int (2 : Int32)), (.int p12)] ∧ Z.Warmed39 U.vm ∧ U.heap = h0) (fun _ _ _ _ _ => True) (fun _ U o U' => ∃ v L, o = .returned v ∧ (Fr n0 L ∧ Q_56 Z w0 kw0 p2 p3 p4 p5 p6 p7 p8 p9 p10 p11 p12 p13 p14 p15 p16 p17 p18 h0 n0 v U'.heap) ∧ FrameEnd U o U' L ({ frames := 0, cells := 0, slots := 0, locals := 0 } : Room).cells ({ frames := 0, cells := 0, slots := 0, locals := 0 } : Room).slots) := by
  refine own_enter (Q := Q_56 Z w0 kw0 p2 p3 p4 p5 p6 p7 p8 p9 p10 p11 p12 p13 p14 p15 p16 p17 p18 h0 n0) (F := fun m => mkF m 0 #[.val (.ref w0), .val (.int (4 : Int32)), .val (.int p10), .val (.int p11), .val (.int (2 : Int32)), .val (.int p12), .unset] []) (plainFor_of_name pn_2) (fun m => by first | (simp [entryFrame, mkF, argsToLocals, Value.category]; done) | rfl) ?_
  intro p e s m below meth c s₁ B X0
  have K : Keep h0 h0 [] := Keep.refl h0 _
  refine own_iloadN (pc' := 1) B X0 d13_0 rfl rfl ?_
  refine own_iload (pc' := 3) B X0 d13_1 rfl rfl ?_
  refine own_icmpNo (pc' := 6) B X0 d13_3 (flt (by decide : ¬ ((4 : Int32) < (2 : Int32)))).1 rfl ?_
  refine own_iloadN (pc' := 7) B X0 d13_6 rfl rfl ?_
  refine own_iload (pc' := 9) B X0 d13_7 rfl rfl ?_
  refine own_iconst (pc' := 10) B X0 (z := (4 : Int32)) d13_9 rfl rfl ?_
  refine own_iadd (pc' := 11) B X0 (z := (6 : Int32)) d13_10 rfl (by decide) ?_
  refine own_icmpNo (pc' := 14) B X0 d13_11 (tlt (by decide : (4 : Int32) < (6 : Int32))).2.1 rfl ?_
  refine own_iload (pc' := 16) B X0 d13_14 rfl rfl ?_
  refine own_bipush (pc' := 18) B X0 (z := (24 : Int32)) d13_16 rfl (by decide) ?_
  refine own_bipush (pc' := 20) B X0 (z := (8 : Int32)) d13_18 rfl (by decide) ?_
  refine own_iloadN (pc' := 21) B X0 d13_20 rfl rfl ?_
  refine own_iload (pc' := 23) B X0 d13_21 rfl rfl ?_
  refine own_isub (pc' := 24) B X0 (z := (2 : Int32)) d13_23 rfl (by decide) ?_
  refine own_imul (pc' := 25) B X0 (z := (16 : Int32)) d13_24 rfl (by decide) ?_
  refine own_isub (pc' := 26) B X0 (z := (8 : Int32)) d13_25 rfl (by decide) ?_
  refine own_iushr (pc' := 27) B X0 d13_26 rfl hp13 ?_
  refine own_istore (pc' := 29) B X0 (Ls' := #[.val (.ref w0), .val (.int (4 : Int32)), .val (.int p10), .val (.int p11), .val (.int (2 : Int32)), .val (.int p12), .val (.int p18)]) d13_27 rfl rfl ?_
  refine own_goto (pc' := 64) B X0 d13_29 (by decide) rfl ?_
  refine own_aloadN (pc' := 65) B X0 d13_64 rfl rfl rfl ?_
  refine own_iloadN (pc' := 66) B X0 d13_65 rfl rfl ?_
  refine own_baload (pc' := 67) B X0 V_w0 (v := (.int p6)) ⟨by decide, by decide⟩ rfl d13_66 rfl ?_
  refine own_iload (pc' := 69) B X0 d13_67 rfl rfl ?_
  refine own_i2b (pc' := 70) B X0 d13_69 rfl hp6 ?_
  refine own_icmpNo (pc' := 73) B X0 d13_70 (teq rfl).2 rfl ?_
  refine own_iconst (pc' := 74) B X0 (z := (1 : Int32)) d13_73 rfl rfl ?_
  refine own_goto (pc' := 78) B X0 d13_74 (by decide) rfl ?_
  exact own_retN B X0 (t := .boolean) (z' := (1 : Int32)) (by simp) (by decide) d13_78 (by decide) (by decide) (⟨rfl, rfl⟩)
def Q_57 (Z : State) (w0 : Addr) (kw0 : ClassId) (p2 : Int32) (p3 : Int32) (p4 : Int32) (p5 : Int32) (p6 : Int32) (p7 : Int32) (p8 : Int32) (p9 : Int32) (p10 : Int32) (p11 : Int32) (p12 : Int32) (p13 : Int32) (p14 : Int32) (p15 : Int32) (p16 : Int32) (p17 : Int32) (p18 : Int32) (h0 : Heap) (n0 : Nat) (v : Option Value) (h : Heap) : Prop :=
  (v = some (.int (1 : Int32)) ∧ h0 = h)
set_option maxRecDepth 65536 in
set_option maxHeartbeats 40000000 in
theorem rm_57 (l : Launch) (Z : State) (a0 : Array Value) (hw : ∀ d ∈ tables_1, d.before a0 Z = true) (ws : List Jvm.Cond) (w0 : Addr) (kw0 : ClassId) (p2 : Int32) (p3 : Int32) (p4 : Int32) (p5 : Int32) (p6 : Int32) (p7 : Int32) (p8 : Int32) (p9 : Int32) (p10 : Int32) (p11 : Int32) (p12 : Int32) (p13 : Int32) (p14 : Int32) (p15 : Int32) (p16 : Int32) (p17 : Int32) (p18 : Int32) (h0 : Heap) (n0 : Nat) (Z0 : n0 ≤ h0.size) (E_w0 : Exa Z h0 w0 "[B") (V_w0 : Arv Z h0 w0 kw0 .byte (8 : Int32) [(.int p2), (.int p3), (.int p4), (.int p5), (.int p6), (.int p7), (.int p8), (.int p9)] (.int (0 : Int32))) (g_w0 : n0 ≤ w0) (hp0 : p13.toInt8.toInt32 = p2) (hp1 : p14.toInt8.toInt32 = p3) (hp2 : p15.toInt8.toInt32 = p8) (hp3 : p11.toInt8.toInt32 = p9) (hp4 : p16.toInt8.toInt32 = p4) (hp5 : p17.toInt8.toInt32 = p5) (hp6 : p18.toInt8.toInt32 = p6) (hp7 : p12.toInt8.toInt32 = p7) (hp8 : (p10.toUInt32 >>> ((16 : Int32) &&& 31).toUInt32).toInt32 = p14) (hp9 : (p14.toUInt32 >>> ((8 : Int32) &&& 31).toUInt32).toInt32 = p13) (hp10 : (p11.toUInt32 >>> ((8 : Int32) &&& 31).toUInt32).toInt32 = p15) (hp11 : (p12.toUInt32 >>> ((16 : Int32) &&& 31).toUInt32).toInt32 = p17) (hp12 : (p17.toUInt32 >>> ((8 : Int32) &&& 31).toUInt32).toInt32 = p16) (hp13 : (p12.toUInt32 >>> ((8 : Int32) &&& 31).toUInt32).toInt32 = p18) :
    MetFree l (⟨"demitasse/interp/BytesU4AtPinLaw", "ok", "([BIIIII)Z"⟩ : MethodName) (head1 (Jvm.Cond.code (⟨"demitasse/interp/BytesU4AtPinLaw", "ok", "([BIIIII)Z"⟩ : MethodName) method_3_code 7 (some .boolean) :: ws) ({ frames := 0, cells := 0, slots := 0, locals := 0 } : Room)) (fun a U => a = #[(.ref w0), (.int (5 : Int32)), (.int p10), (.int p11), (.int (2 : Int32)), (.int p12)] ∧ Z.Warmed39 U.vm ∧ U.heap = h0) (fun _ _ _ _ _ => True) (fun _ U o U' => ∃ v L, o = .returned v ∧ (Fr n0 L ∧ Q_57 Z w0 kw0 p2 p3 p4 p5 p6 p7 p8 p9 p10 p11 p12 p13 p14 p15 p16 p17 p18 h0 n0 v U'.heap) ∧ FrameEnd U o U' L ({ frames := 0, cells := 0, slots := 0, locals := 0 } : Room).cells ({ frames := 0, cells := 0, slots := 0, locals := 0 } : Room).slots) := by
  refine own_enter (Q := Q_57 Z w0 kw0 p2 p3 p4 p5 p6 p7 p8 p9 p10 p11 p12 p13 p14 p15 p16 p17 p18 h0 n0) (F := fun m => mkF m 0 #[.val (.ref w0), .val (.int (5 : Int32)), .val (.int p10), .val (.int p11), .val (.int (2 : Int32)), .val (.int p12), .unset] []) (plainFor_of_name pn_2) (fun m => by first | (simp [entryFrame, mkF, argsToLocals, Value.category]; done) | rfl) ?_
  intro p e s m below meth c s₁ B X0
  have K : Keep h0 h0 [] := Keep.refl h0 _
  refine own_iloadN (pc' := 1) B X0 d13_0 rfl rfl ?_
  refine own_iload (pc' := 3) B X0 d13_1 rfl rfl ?_
  refine own_icmpNo (pc' := 6) B X0 d13_3 (flt (by decide : ¬ ((5 : Int32) < (2 : Int32)))).1 rfl ?_
  refine own_iloadN (pc' := 7) B X0 d13_6 rfl rfl ?_
  refine own_iload (pc' := 9) B X0 d13_7 rfl rfl ?_
  refine own_iconst (pc' := 10) B X0 (z := (4 : Int32)) d13_9 rfl rfl ?_
  refine own_iadd (pc' := 11) B X0 (z := (6 : Int32)) d13_10 rfl (by decide) ?_
  refine own_icmpNo (pc' := 14) B X0 d13_11 (tlt (by decide : (5 : Int32) < (6 : Int32))).2.1 rfl ?_
  refine own_iload (pc' := 16) B X0 d13_14 rfl rfl ?_
  refine own_bipush (pc' := 18) B X0 (z := (24 : Int32)) d13_16 rfl (by decide) ?_
  refine own_bipush (pc' := 20) B X0 (z := (8 : Int32)) d13_18 rfl (by decide) ?_
  refine own_iloadN (pc' := 21) B X0 d13_20 rfl rfl ?_
  refine own_iload (pc' := 23) B X0 d13_21 rfl rfl ?_
  refine own_isub (pc' := 24) B X0 (z := (3 : Int32)) d13_23 rfl (by decide) ?_
  refine own_imul (pc' := 25) B X0 (z := (24 : Int32)) d13_24 rfl (by decide) ?_
  refine own_isub (pc' := 26) B X0 (z := (0 : Int32)) d13_25 rfl (by decide) ?_
  refine own_iushr (pc' := 27) B X0 d13_26 rfl (own_ush0 _) ?_
  refine own_istore (pc' := 29) B X0 (Ls' := #[.val (.ref w0), .val (.int (5 : Int32)), .val (.int p10), .val (.int p11), .val (.int (2 : Int32)), .val (.int p12), .val (.int p12)]) d13_27 rfl rfl ?_
  refine own_goto (pc' := 64) B X0 d13_29 (by decide) rfl ?_
  refine own_aloadN (pc' := 65) B X0 d13_64 rfl rfl rfl ?_
  refine own_iloadN (pc' := 66) B X0 d13_65 rfl rfl ?_
  refine own_baload (pc' := 67) B X0 V_w0 (v := (.int p7)) ⟨by decide, by decide⟩ rfl d13_66 rfl ?_
  refine own_iload (pc' := 69) B X0 d13_67 rfl rfl ?_
  refine own_i2b (pc' := 70) B X0 d13_69 rfl hp7 ?_
  refine own_icmpNo (pc' := 73) B X0 d13_70 (teq rfl).2 rfl ?_
  refine own_iconst (pc' := 74) B X0 (z := (1 : Int32)) d13_73 rfl rfl ?_
  refine own_goto (pc' := 78) B X0 d13_74 (by decide) rfl ?_
  exact own_retN B X0 (t := .boolean) (z' := (1 : Int32)) (by simp) (by decide) d13_78 (by decide) (by decide) (⟨rfl, rfl⟩)
def Q_58 (Z : State) (w0 : Addr) (kw0 : ClassId) (p2 : Int32) (p3 : Int32) (p4 : Int32) (p5 : Int32) (p6 : Int32) (p7 : Int32) (p8 : Int32) (p9 : Int32) (p10 : Int32) (p11 : Int32) (p12 : Int32) (p13 : Int32) (p14 : Int32) (p15 : Int32) (p16 : Int32) (p17 : Int32) (p18 : Int32) (h0 : Heap) (n0 : Nat) (v : Option Value) (h : Heap) : Prop :=
  (v = some (.int (1 : Int32)) ∧ h0 = h)
set_option maxRecDepth 65536 in
set_option maxHeartbeats 40000000 in
theorem rm_58 (l : Launch) (Z : State) (a0 : Array Value) (hw : ∀ d ∈ tables_1, d.before a0 Z = true) (ws : List Jvm.Cond) (w0 : Addr) (kw0 : ClassId) (p2 : Int32) (p3 : Int32) (p4 : Int32) (p5 : Int32) (p6 : Int32) (p7 : Int32) (p8 : Int32) (p9 : Int32) (p10 : Int32) (p11 : Int32) (p12 : Int32) (p13 : Int32) (p14 : Int32) (p15 : Int32) (p16 : Int32) (p17 : Int32) (p18 : Int32) (h0 : Heap) (n0 : Nat) (Z0 : n0 ≤ h0.size) (E_w0 : Exa Z h0 w0 "[B") (V_w0 : Arv Z h0 w0 kw0 .byte (8 : Int32) [(.int p2), (.int p3), (.int p4), (.int p5), (.int p6), (.int p7), (.int p8), (.int p9)] (.int (0 : Int32))) (g_w0 : n0 ≤ w0) (hp0 : p13.toInt8.toInt32 = p2) (hp1 : p14.toInt8.toInt32 = p3) (hp2 : p15.toInt8.toInt32 = p8) (hp3 : p11.toInt8.toInt32 = p9) (hp4 : p16.toInt8.toInt32 = p4) (hp5 : p17.toInt8.toInt32 = p5) (hp6 : p18.toInt8.toInt32 = p6) (hp7 : p12.toInt8.toInt32 = p7) (hp8 : (p10.toUInt32 >>> ((16 : Int32) &&& 31).toUInt32).toInt32 = p14) (hp9 : (p14.toUInt32 >>> ((8 : Int32) &&& 31).toUInt32).toInt32 = p13) (hp10 : (p11.toUInt32 >>> ((8 : Int32) &&& 31).toUInt32).toInt32 = p15) (hp11 : (p12.toUInt32 >>> ((16 : Int32) &&& 31).toUInt32).toInt32 = p17) (hp12 : (p17.toUInt32 >>> ((8 : Int32) &&& 31).toUInt32).toInt32 = p16) (hp13 : (p12.toUInt32 >>> ((8 : Int32) &&& 31).toUInt32).toInt32 = p18) :
    MetFree l (⟨"demitasse/interp/BytesU4AtPinLaw", "ok", "([BIIIII)Z"⟩ : MethodName) (head1 (Jvm.Cond.code (⟨"demitasse/interp/BytesU4AtPinLaw", "ok", "([BIIIII)Z"⟩ : MethodName) method_3_code 7 (some .boolean) :: ws) ({ frames := 0, cells := 0, slots := 0, locals := 0 } : Room)) (fun a U => a = #[(.ref w0), (.int (6 : Int32)), (.int p10), (.int p11), (.int (2 : Int32)), (.int p12)] ∧ Z.Warmed39 U.vm ∧ U.heap = h0) (fun _ _ _ _ _ => True) (fun _ U o U' => ∃ v L, o = .returned v ∧ (Fr n0 L ∧ Q_58 Z w0 kw0 p2 p3 p4 p5 p6 p7 p8 p9 p10 p11 p12 p13 p14 p15 p16 p17 p18 h0 n0 v U'.heap) ∧ FrameEnd U o U' L ({ frames := 0, cells := 0, slots := 0, locals := 0 } : Room).cells ({ frames := 0, cells := 0, slots := 0, locals := 0 } : Room).slots) := by
  refine own_enter (Q := Q_58 Z w0 kw0 p2 p3 p4 p5 p6 p7 p8 p9 p10 p11 p12 p13 p14 p15 p16 p17 p18 h0 n0) (F := fun m => mkF m 0 #[.val (.ref w0), .val (.int (6 : Int32)), .val (.int p10), .val (.int p11), .val (.int (2 : Int32)), .val (.int p12), .unset] []) (plainFor_of_name pn_2) (fun m => by first | (simp [entryFrame, mkF, argsToLocals, Value.category]; done) | rfl) ?_
  intro p e s m below meth c s₁ B X0
  have K : Keep h0 h0 [] := Keep.refl h0 _
  refine own_iloadN (pc' := 1) B X0 d13_0 rfl rfl ?_
  refine own_iload (pc' := 3) B X0 d13_1 rfl rfl ?_
  refine own_icmpNo (pc' := 6) B X0 d13_3 (flt (by decide : ¬ ((6 : Int32) < (2 : Int32)))).1 rfl ?_
  refine own_iloadN (pc' := 7) B X0 d13_6 rfl rfl ?_
  refine own_iload (pc' := 9) B X0 d13_7 rfl rfl ?_
  refine own_iconst (pc' := 10) B X0 (z := (4 : Int32)) d13_9 rfl rfl ?_
  refine own_iadd (pc' := 11) B X0 (z := (6 : Int32)) d13_10 rfl (by decide) ?_
  refine own_icmpYes (pc' := 32) B X0 d13_11 (flt (by decide : ¬ ((6 : Int32) < (6 : Int32)))).2.1 (by decide) rfl ?_
  refine own_iloadN (pc' := 33) B X0 d13_32 rfl rfl ?_
  refine own_iconst (pc' := 34) B X0 (z := (4 : Int32)) d13_33 rfl rfl ?_
  refine own_icmpYes (pc' := 51) B X0 d13_34 (flt (by decide : ¬ ((6 : Int32) < (4 : Int32)))).2.1 (by decide) rfl ?_
  refine own_iloadN (pc' := 52) B X0 d13_51 rfl rfl ?_
  refine own_bipush (pc' := 54) B X0 (z := (24 : Int32)) d13_52 rfl (by decide) ?_
  refine own_bipush (pc' := 56) B X0 (z := (8 : Int32)) d13_54 rfl (by decide) ?_
  refine own_iloadN (pc' := 57) B X0 d13_56 rfl rfl ?_
  refine own_iconst (pc' := 58) B X0 (z := (4 : Int32)) d13_57 rfl rfl ?_
  refine own_isub (pc' := 59) B X0 (z := (2 : Int32)) d13_58 rfl (by decide) ?_
  refine own_imul (pc' := 60) B X0 (z := (16 : Int32)) d13_59 rfl (by decide) ?_
  refine own_isub (pc' := 61) B X0 (z := (8 : Int32)) d13_60 rfl (by decide) ?_
  refine own_iushr (pc' := 62) B X0 d13_61 rfl hp10 ?_
  refine own_istore (pc' := 64) B X0 (Ls' := #[.val (.ref w0), .val (.int (6 : Int32)), .val (.int p10), .val (.int p11), .val (.int (2 : Int32)), .val (.int p12), .val (.int p15)]) d13_62 rfl rfl ?_
  refine own_aloadN (pc' := 65) B X0 d13_64 rfl rfl rfl ?_
  refine own_iloadN (pc' := 66) B X0 d13_65 rfl rfl ?_
  refine own_baload (pc' := 67) B X0 V_w0 (v := (.int p8)) ⟨by decide, by decide⟩ rfl d13_66 rfl ?_
  refine own_iload (pc' := 69) B X0 d13_67 rfl rfl ?_
  refine own_i2b (pc' := 70) B X0 d13_69 rfl hp2 ?_
  refine own_icmpNo (pc' := 73) B X0 d13_70 (teq rfl).2 rfl ?_
  refine own_iconst (pc' := 74) B X0 (z := (1 : Int32)) d13_73 rfl rfl ?_
  refine own_goto (pc' := 78) B X0 d13_74 (by decide) rfl ?_
  exact own_retN B X0 (t := .boolean) (z' := (1 : Int32)) (by simp) (by decide) d13_78 (by decide) (by decide) (⟨rfl, rfl⟩)
def Q_59 (Z : State) (w0 : Addr) (kw0 : ClassId) (p2 : Int32) (p3 : Int32) (p4 : Int32) (p5 : Int32) (p6 : Int32) (p7 : Int32) (p8 : Int32) (p9 : Int32) (p10 : Int32) (p11 : Int32) (p12 : Int32) (p13 : Int32) (p14 : Int32) (p15 : Int32) (p16 : Int32) (p17 : Int32) (p18 : Int32) (h0 : Heap) (n0 : Nat) (v : Option Value) (h : Heap) : Prop :=
  (v = some (.int (1 : Int32)) ∧ h0 = h)
set_option maxRecDepth 65536 in
set_option maxHeartbeats 40000000 in
theorem rm_59 (l : Launch) (Z : State) (a0 : Array Value) (hw : ∀ d ∈ tables_1, d.before a0 Z = true) (ws : List Jvm.Cond) (w0 : Addr) (kw0 : ClassId) (p2 : Int32) (p3 : Int32) (p4 : Int32) (p5 : Int32) (p6 : Int32) (p7 : Int32) (p8 : Int32) (p9 : Int32) (p10 : Int32) (p11 : Int32) (p12 : Int32) (p13 : Int32) (p14 : Int32) (p15 : Int32) (p16 : Int32) (p17 : Int32) (p18 : Int32) (h0 : Heap) (n0 : Nat) (Z0 : n0 ≤ h0.size) (E_w0 : Exa Z h0 w0 "[B") (V_w0 : Arv Z h0 w0 kw0 .byte (8 : Int32) [(.int p2), (.int p3), (.int p4), (.int p5), (.int p6), (.int p7), (.int p8), (.int p9)] (.int (0 : Int32))) (g_w0 : n0 ≤ w0) (hp0 : p13.toInt8.toInt32 = p2) (hp1 : p14.toInt8.toInt32 = p3) (hp2 : p15.toInt8.toInt32 = p8) (hp3 : p11.toInt8.toInt32 = p9) (hp4 : p16.toInt8.toInt32 = p4) (hp5 : p17.toInt8.toInt32 = p5) (hp6 : p18.toInt8.toInt32 = p6) (hp7 : p12.toInt8.toInt32 = p7) (hp8 : (p10.toUInt32 >>> ((16 : Int32) &&& 31).toUInt32).toInt32 = p14) (hp9 : (p14.toUInt32 >>> ((8 : Int32) &&& 31).toUInt32).toInt32 = p13) (hp10 : (p11.toUInt32 >>> ((8 : Int32) &&& 31).toUInt32).toInt32 = p15) (hp11 : (p12.toUInt32 >>> ((16 : Int32) &&& 31).toUInt32).toInt32 = p17) (hp12 : (p17.toUInt32 >>> ((8 : Int32) &&& 31).toUInt32).toInt32 = p16) (hp13 : (p12.toUInt32 >>> ((8 : Int32) &&& 31).toUInt32).toInt32 = p18) :
    MetFree l (⟨"demitasse/interp/BytesU4AtPinLaw", "ok", "([BIIIII)Z"⟩ : MethodName) (head1 (Jvm.Cond.code (⟨"demitasse/interp/BytesU4AtPinLaw", "ok", "([BIIIII)Z"⟩ : MethodName) method_3_code 7 (some .boolean) :: ws) ({ frames := 0, cells := 0, slots := 0, locals := 0 } : Room)) (fun a U => a = #[(.ref w0), (.int (7 : Int32)), (.int p10), (.int p11), (.int (2 : Int32)), (.int p12)] ∧ Z.Warmed39 U.vm ∧ U.heap = h0) (fun _ _ _ _ _ => True) (fun _ U o U' => ∃ v L, o = .returned v ∧ (Fr n0 L ∧ Q_59 Z w0 kw0 p2 p3 p4 p5 p6 p7 p8 p9 p10 p11 p12 p13 p14 p15 p16 p17 p18 h0 n0 v U'.heap) ∧ FrameEnd U o U' L ({ frames := 0, cells := 0, slots := 0, locals := 0 } : Room).cells ({ frames := 0, cells := 0, slots := 0, locals := 0 } : Room).slots) := by
  refine own_enter (Q := Q_59 Z w0 kw0 p2 p3 p4 p5 p6 p7 p8 p9 p10 p11 p12 p13 p14 p15 p16 p17 p18 h0 n0) (F := fun m => mkF m 0 #[.val (.ref w0), .val (.int (7 : Int32)), .val (.int p10), .val (.int p11), .val (.int (2 : Int32)), .val (.int p12), .unset] []) (plainFor_of_name pn_2) (fun m => by first | (simp [entryFrame, mkF, argsToLocals, Value.category]; done) | rfl) ?_
  intro p e s m below meth c s₁ B X0
  have K : Keep h0 h0 [] := Keep.refl h0 _
  refine own_iloadN (pc' := 1) B X0 d13_0 rfl rfl ?_
  refine own_iload (pc' := 3) B X0 d13_1 rfl rfl ?_
  refine own_icmpNo (pc' := 6) B X0 d13_3 (flt (by decide : ¬ ((7 : Int32) < (2 : Int32)))).1 rfl ?_
  refine own_iloadN (pc' := 7) B X0 d13_6 rfl rfl ?_
  refine own_iload (pc' := 9) B X0 d13_7 rfl rfl ?_
  refine own_iconst (pc' := 10) B X0 (z := (4 : Int32)) d13_9 rfl rfl ?_
  refine own_iadd (pc' := 11) B X0 (z := (6 : Int32)) d13_10 rfl (by decide) ?_
  refine own_icmpYes (pc' := 32) B X0 d13_11 (flt (by decide : ¬ ((7 : Int32) < (6 : Int32)))).2.1 (by decide) rfl ?_
  refine own_iloadN (pc' := 33) B X0 d13_32 rfl rfl ?_
  refine own_iconst (pc' := 34) B X0 (z := (4 : Int32)) d13_33 rfl rfl ?_
  refine own_icmpYes (pc' := 51) B X0 d13_34 (flt (by decide : ¬ ((7 : Int32) < (4 : Int32)))).2.1 (by decide) rfl ?_
  refine own_iloadN (pc' := 52) B X0 d13_51 rfl rfl ?_
  refine own_bipush (pc' := 54) B X0 (z := (24 : Int32)) d13_52 rfl (by decide) ?_
  refine own_bipush (pc' := 56) B X0 (z := (8 : Int32)) d13_54 rfl (by decide) ?_
  refine own_iloadN (pc' := 57) B X0 d13_56 rfl rfl ?_
  refine own_iconst (pc' := 58) B X0 (z := (4 : Int32)) d13_57 rfl rfl ?_
  refine own_isub (pc' := 59) B X0 (z := (3 : Int32)) d13_58 rfl (by decide) ?_
  refine own_imul (pc' := 60) B X0 (z := (24 : Int32)) d13_59 rfl (by decide) ?_
  refine own_isub (pc' := 61) B X0 (z := (0 : Int32)) d13_60 rfl (by decide) ?_
  refine own_iushr (pc' := 62) B X0 d13_61 rfl (own_ush0 _) ?_
  refine own_istore (pc' := 64) B X0 (Ls' := #[.val (.ref w0), .val (.int (7 : Int32)), .val (.int p10), .val (.int p11), .val (.int (2 : Int32)), .val (.int p12), .val (.int p11)]) d13_62 rfl rfl ?_
  refine own_aloadN (pc' := 65) B X0 d13_64 rfl rfl rfl ?_
  refine own_iloadN (pc' := 66) B X0 d13_65 rfl rfl ?_
  refine own_baload (pc' := 67) B X0 V_w0 (v := (.int p9)) ⟨by decide, by decide⟩ rfl d13_66 rfl ?_
  refine own_iload (pc' := 69) B X0 d13_67 rfl rfl ?_
  refine own_i2b (pc' := 70) B X0 d13_69 rfl hp3 ?_
  refine own_icmpNo (pc' := 73) B X0 d13_70 (teq rfl).2 rfl ?_
  refine own_iconst (pc' := 74) B X0 (z := (1 : Int32)) d13_73 rfl rfl ?_
  refine own_goto (pc' := 78) B X0 d13_74 (by decide) rfl ?_
  exact own_retN B X0 (t := .boolean) (z' := (1 : Int32)) (by simp) (by decide) d13_78 (by decide) (by decide) (⟨rfl, rfl⟩)
def Q_61 (Z : State) (w0 : Addr) (w1 : Addr) (kw1 : ClassId) (p3 : Int32) (p4 : Int32) (p5 : Int32) (p6 : Int32) (p7 : Int32) (p8 : Int32) (p9 : Int32) (p10 : Int32) (p11 : Int32) (h0 : Heap) (n0 : Nat) (v : Option Value) (h : Heap) : Prop :=
  (∃ (y2 : Int32) (y3 : Int32) (y6 : Int32), (p11.toUInt32 >>> ((8 : Int32) &&& 31).toUInt32).toInt32 = y2 ∧ y2.toInt8.toInt32 = y3 ∧ p11.toInt8.toInt32 = y6 ∧ v = none ∧ Keep h0 h [w1] ∧ Exa Z h w1 "[B" ∧ Arv Z h w1 kw1 .byte (64 : Int32) [(.int p3), (.int p4), (.int p5), (.int p6), (.int p7), (.int y3), (.int y6), (.int p10)] (.int (0 : Int32)))
set_option maxRecDepth 65536 in
set_option maxHeartbeats 40000000 in
theorem rm_61 (l : Launch) (Z : State) (a0 : Array Value) (hw : ∀ d ∈ tables_1, d.before a0 Z = true) (ws : List Jvm.Cond) (w0 : Addr) (w1 : Addr) (kw1 : ClassId) (p3 : Int32) (p4 : Int32) (p5 : Int32) (p6 : Int32) (p7 : Int32) (p8 : Int32) (p9 : Int32) (p10 : Int32) (p11 : Int32) (h0 : Heap) (n0 : Nat) (Z0 : n0 ≤ h0.size) (E_w0 : Exa Z h0 w0 "demitasse/interp/Bytes") (F_w0_bytes : Fld Z h0 w0 "demitasse/interp/Bytes" "bytes" "[B" (.ref w1)) (F_w0_length : Fld Z h0 w0 "demitasse/interp/Bytes" "length" "I" (.int (8 : Int32))) (g_w0 : n0 ≤ w0) (E_w1 : Exa Z h0 w1 "[B") (V_w1 : Arv Z h0 w1 kw1 .byte (64 : Int32) [(.int p3), (.int p4), (.int p5), (.int p6), (.int p7), (.int p8), (.int p9), (.int p10)] (.int (0 : Int32))) (g_w1 : n0 ≤ w1) (ne_w0_w1 : w0 ≠ w1) :
    MetFree l (⟨"demitasse/interp/Bytes", "u2At", "(II)V"⟩ : MethodName) (head1 (Jvm.Cond.code (⟨"demitasse/interp/Bytes", "u2At", "(II)V"⟩ : MethodName) prog_64_method_6_code 3 none :: ws) ({ frames := 0, cells := 0, slots := 0, locals := 0 } : Room)) (fun a U => a = #[(.ref w0), (.int (5 : Int32)), (.int p11)] ∧ Z.Warmed39 U.vm ∧ U.heap = h0) (fun _ _ _ _ _ => True) (fun _ U o U' => ∃ v L, o = .returned v ∧ (Fr n0 L ∧ Q_61 Z w0 w1 kw1 p3 p4 p5 p6 p7 p8 p9 p10 p11 h0 n0 v U'.heap) ∧ FrameEnd U o U' L ({ frames := 0, cells := 0, slots := 0, locals := 0 } : Room).cells ({ frames := 0, cells := 0, slots := 0, locals := 0 } : Room).slots) := by
  refine own_enter (Q := Q_61 Z w0 w1 kw1 p3 p4 p5 p6 p7 p8 p9 p10 p11 h0 n0) (F := fun m => mkF m 0 #[.val (.ref w0), .val (.int (5 : Int32)), .val (.int p11)] []) (plainFor_of_name pn_0) (fun m => by first | (simp [entryFrame, mkF, argsToLocals, Value.category]; done) | rfl) ?_
  intro p e s m below meth c s₁ B X0
  have K : Keep h0 h0 [w1] := Keep.refl h0 _
  refine own_aloadN (pc' := 1) B X0 d8_0 rfl rfl rfl ?_
  refine own_getfield (pc' := 4) B X0 (host := "") (Or.inl (own_w hw 11 rfl)) Via.refl F_w0_bytes d8_1 rfl ?_
  intro T1 X1
  refine own_iloadN (pc' := 5) B X1 d8_4 rfl rfl ?_
  refine own_iloadN (pc' := 6) B X1 d8_5 rfl rfl ?_
  refine own_bipush (pc' := 8) B X1 (z := (8 : Int32)) d8_6 rfl (by decide) ?_
  obtain ⟨y2, hy2⟩ : ∃ z : Int32, (p11.toUInt32 >>> ((8 : Int32) &&& 31).toUInt32).toInt32 = z := ⟨_, rfl⟩
  refine own_iushr (pc' := 9) B X1 d8_8 rfl hy2 ?_
  obtain ⟨y3, hy3⟩ : ∃ z : Int32, y2.toInt8.toInt32 = z := ⟨_, rfl⟩
  refine own_i2b (pc' := 10) B X1 d8_9 rfl hy3 ?_
  refine own_bastore (pc' := 11) B X1 (x' := y3) V_w1 g_w1 ⟨by decide, by decide⟩ 5 (by decide) (Nat.le_of_ble_eq_true rfl) (own_idem_i2b hy3) d8_10 rfl ?_
  intro T4 h4 X4 W4 V_w1
  replace V_w1 : Arv Z h4 w1 kw1 .byte (64 : Int32) [(.int p3), (.int p4), (.int p5), (.int p6), (.int p7), (.int y3), (.int p9), (.int p10)] (.int (0 : Int32)) := V_w1
  replace E_w0 := E_w0.wr W4
  replace F_w0_bytes := F_w0_bytes.other W4 (Or.inl ne_w0_w1)
  replace F_w0_length := F_w0_length.other W4 (Or.inl ne_w0_w1)
  replace E_w1 := E_w1.wr W4
  replace K := K.wr W4 (Or.inl (List.mem_of_getElem? (i := 0) rfl))
  refine own_aloadN (pc' := 12) B X4 d8_11 rfl rfl rfl ?_
  refine own_getfield (pc' := 15) B X4 (host := "") (Or.inl (own_w hw 11 rfl)) Via.refl F_w0_bytes d8_12 rfl ?_
  intro T5 X5
  refine own_iloadN (pc' := 16) B X5 d8_15 rfl rfl ?_
  refine own_iconst (pc' := 17) B X5 (z := (1 : Int32)) d8_16 rfl rfl ?_
  refine own_iadd (pc' := 18) B X5 (z := (6 : Int32)) d8_17 rfl (by decide) ?_
  refine own_iloadN (pc' := 19) B X5 d8_18 rfl rfl ?_
  obtain ⟨y6, hy6⟩ : ∃ z : Int32, p11.toInt8.toInt32 = z := ⟨_, rfl⟩
  refine own_i2b (pc' := 20) B X5 d8_19 rfl hy6 ?_
  refine own_bastore (pc' := 21) B X5 (x' := y6) V_w1 g_w1 ⟨by decide, by decide⟩ 6 (by decide) (Nat.le_of_ble_eq_true rfl) (own_idem_i2b hy6) d8_20 rfl ?_
  intro T7 h7 X7 W7 V_w1
  replace V_w1 : Arv Z h7 w1 kw1 .byte (64 : Int32) [(.int p3), (.int p4), (.int p5), (.int p6), (.int p7), (.int y3), (.int y6), (.int p10)] (.int (0 : Int32)) := V_w1
  replace E_w0 := E_w0.wr W7
  replace F_w0_bytes := F_w0_bytes.other W7 (Or.inl ne_w0_w1)
  replace F_w0_length := F_w0_length.other W7 (Or.inl ne_w0_w1)
  replace E_w1 := E_w1.wr W7
  replace K := K.wr W7 (Or.inl (List.mem_of_getElem? (i := 0) rfl))
  exact own_ret B X7 d8_21 (by decide) (by decide) (⟨y2, y3, y6, hy2, hy3, hy6, rfl, K, E_w1, V_w1⟩)
def Q_60 (Z : State) (w0 : Addr) (w1 : Addr) (kw1 : ClassId) (p3 : Int32) (p4 : Int32) (p5 : Int32) (p6 : Int32) (p7 : Int32) (p8 : Int32) (p9 : Int32) (p10 : Int32) (p11 : Int32) (h0 : Heap) (n0 : Nat) (v : Option Value) (h : Heap) : Prop :=
  (∃ (y1 : Int32) (y3 : Int32) (y4 : Int32) (y5 : Int32) (y10 : Int32) (y11 : Int32) (y12 : Int32), (p11.toUInt32 >>> ((16 : Int32) &&& 31).toUInt32).toInt32 = y1 ∧ (y1.toUInt32 >>> ((8 : Int32) &&& 31).toUInt32).toInt32 = y3 ∧ y3.toInt8.toInt32 = y4 ∧ y1.toInt8.toInt32 = y5 ∧ (p11.toUInt32 >>> ((8 : Int32) &&& 31).toUInt32).toInt32 = y10 ∧ y10.toInt8.toInt32 = y11 ∧ p11.toInt8.toInt32 = y12 ∧ v = none ∧ Keep h0 h [w1] ∧ Exa Z h w1 "[B" ∧ Arv Z h w1 kw1 .byte (64 : Int32) [(.int p3), (.int p4), (.int p5), (.int y4), (.int y5), (.int y11), (.int y12), (.int p10)] (.int (0 : Int32)))
set_option maxRecDepth 65536 in
set_option maxHeartbeats 40000000 in
theorem rm_60 (l : Launch) (Z : State) (a0 : Array Value) (hw : ∀ d ∈ tables_1, d.before a0 Z = true) (ws : List Jvm.Cond) (w0 : Addr) (w1 : Addr) (kw1 : ClassId) (p3 : Int32) (p4 : Int32) (p5 : Int32) (p6 : Int32) (p7 : Int32) (p8 : Int32) (p9 : Int32) (p10 : Int32) (p11 : Int32) (h0 : Heap) (n0 : Nat) (Z0 : n0 ≤ h0.size) (E_w0 : Exa Z h0 w0 "demitasse/interp/Bytes") (F_w0_bytes : Fld Z h0 w0 "demitasse/interp/Bytes" "bytes" "[B" (.ref w1)) (F_w0_length : Fld Z h0 w0 "demitasse/interp/Bytes" "length" "I" (.int (8 : Int32))) (g_w0 : n0 ≤ w0) (E_w1 : Exa Z h0 w1 "[B") (V_w1 : Arv Z h0 w1 kw1 .byte (64 : Int32) [(.int p3), (.int p4), (.int p5), (.int p6), (.int p7), (.int p8), (.int p9), (.int p10)] (.int (0 : Int32))) (g_w1 : n0 ≤ w1) (ne_w0_w1 : w0 ≠ w1) :
    MetFree l (⟨"demitasse/interp/Bytes", "u4At", "(II)V"⟩ : MethodName) (head1 (Jvm.Cond.code (⟨"demitasse/interp/Bytes", "u4At", "(II)V"⟩ : MethodName) prog_64_method_7_code 3 none :: ws) ({ frames := 1, cells := 0, slots := 0, locals := 14 } : Room)) (fun a U => a = #[(.ref w0), (.int (3 : Int32)), (.int p11)] ∧ Z.Warmed39 U.vm ∧ U.heap = h0) (fun _ _ _ _ _ => True) (fun _ U o U' => ∃ v L, o = .returned v ∧ (Fr n0 L ∧ Q_60 Z w0 w1 kw1 p3 p4 p5 p6 p7 p8 p9 p10 p11 h0 n0 v U'.heap) ∧ FrameEnd U o U' L ({ frames := 1, cells := 0, slots := 0, locals := 14 } : Room).cells ({ frames := 1, cells := 0, slots := 0, locals := 14 } : Room).slots) := by
  refine own_enter (Q := Q_60 Z w0 w1 kw1 p3 p4 p5 p6 p7 p8 p9 p10 p11 h0 n0) (F := fun m => mkF m 0 #[.val (.ref w0), .val (.int (3 : Int32)), .val (.int p11)] []) (plainFor_of_name pn_0) (fun m => by first | (simp [entryFrame, mkF, argsToLocals, Value.category]; done) | rfl) ?_
  intro p e s m below meth c s₁ B X0
  have K : Keep h0 h0 [w1] := Keep.refl h0 _
  refine own_aloadN (pc' := 1) B X0 d7_0 rfl rfl rfl ?_
  refine own_iloadN (pc' := 2) B X0 d7_1 rfl rfl ?_
  refine own_iloadN (pc' := 3) B X0 d7_2 rfl rfl ?_
  refine own_bipush (pc' := 5) B X0 (z := (16 : Int32)) d7_3 rfl (by decide) ?_
  obtain ⟨y1, hy1⟩ : ∃ z : Int32, (p11.toUInt32 >>> ((16 : Int32) &&& 31).toUInt32).toInt32 = z := ⟨_, rfl⟩
  refine own_iushr (pc' := 6) B X0 d7_5 rfl hy1 ?_
  refine own_callV (pc' := 9) B X0 (own_w hw 39 rfl) (own_w hw 40 rfl) (own_w hw 42 rfl) (own_w hw 41 rfl) (own_w hw 3 rfl) (own_w hw 43 rfl) E_w0 (by decide) [(.int (3 : Int32)), (.int y1)] [] (rm_41 l Z a0 hw [] w0 w1 kw1 (p3) (p4) (p5) (p6) (p7) (p8) (p9) (p10) (y1) h0 n0 (Nat.le_trans Z0 K.1) E_w0 F_w0_bytes F_w0_length g_w0 E_w1 V_w1 g_w1 ne_w0_w1) 0 (by decide) (by decide) rfl pd_2 rfl rfl (Nat.le_of_eq rfl) d7_6 rfl (k' := 0) (n' := 0) rfl rfl (by decide) (by decide) ?_
  intro T2 v2 h2 X2 q2
  obtain ⟨y3, y4, y5, hy6, hy7, hy8, rfl, K2, E_w1, V_w1⟩ := q2
  replace K := K.trans K2 (allS (Or.inl (List.mem_of_getElem? (i := 0) rfl)) all0)
  replace E_w0 := E_w0.keep K2
  replace F_w0_bytes := F_w0_bytes.keep K2 (ninS ne_w0_w1 nin0)
  replace F_w0_length := F_w0_length.keep K2 (ninS ne_w0_w1 nin0)
  show own_Go p e below (T2.setTop (mkF m 9 #[.val (.ref w0), .val (.int (3 : Int32)), .val (.int p11)] [])) _
  refine own_aloadN (pc' := 10) B X2 d7_9 rfl rfl rfl ?_
  refine own_iloadN (pc' := 11) B X2 d7_10 rfl rfl ?_
  refine own_iconst (pc' := 12) B X2 (z := (2 : Int32)) d7_11 rfl rfl ?_
  refine own_iadd (pc' := 13) B X2 (z := (5 : Int32)) d7_12 rfl (by decide) ?_
  refine own_iloadN (pc' := 14) B X2 d7_13 rfl rfl ?_
  refine own_callV (pc' := 17) B X2 (own_w hw 39 rfl) (own_w hw 40 rfl) (own_w hw 42 rfl) (own_w hw 41 rfl) (own_w hw 3 rfl) (own_w hw 43 rfl) E_w0 (by decide) [(.int (5 : Int32)), (.int p11)] [] (rm_61 l Z a0 hw [] w0 w1 kw1 (p3) (p4) (p5) (y4) (y5) (p8) (p9) (p10) (p11) h2 n0 (Nat.le_trans Z0 K.1) E_w0 F_w0_bytes F_w0_length g_w0 E_w1 V_w1 g_w1 ne_w0_w1) 0 (by decide) (by decide) rfl pd_2 rfl rfl (Nat.le_of_eq rfl) d7_14 rfl (k' := 0) (n' := 0) rfl rfl (by decide) (by decide) ?_
  intro T9 v9 h9 X9 q9
  obtain ⟨y10, y11, y12, hy13, hy14, hy15, rfl, K9, E_w1, V_w1⟩ := q9
  replace K := K.trans K9 (allS (Or.inl (List.mem_of_getElem? (i := 0) rfl)) all0)
  replace E_w0 := E_w0.keep K9
  replace F_w0_bytes := F_w0_bytes.keep K9 (ninS ne_w0_w1 nin0)
  replace F_w0_length := F_w0_length.keep K9 (ninS ne_w0_w1 nin0)
  show own_Go p e below (T9.setTop (mkF m 17 #[.val (.ref w0), .val (.int (3 : Int32)), .val (.int p11)] [])) _
  exact own_ret B X9 d7_17 (by decide) (by decide) (⟨y1, y3, y4, y5, y10, y11, y12, hy1, hy6, hy7, hy8, hy13, hy14, hy15, rfl, K, E_w1, V_w1⟩)
def Q_62 (Z : State) (w0 : Addr) (kw0 : ClassId) (p2 : Int32) (p3 : Int32) (p4 : Int32) (p5 : Int32) (p6 : Int32) (p7 : Int32) (p8 : Int32) (p9 : Int32) (p10 : Int32) (p11 : Int32) (p12 : Int32) (p13 : Int32) (p14 : Int32) (p15 : Int32) (p16 : Int32) (p17 : Int32) (p18 : Int32) (h0 : Heap) (n0 : Nat) (v : Option Value) (h : Heap) : Prop :=
  (∃ (y1 : Int32) (y2 : Int32), (p10.toUInt32 >>> ((24 : Int32) &&& 31).toUInt32).toInt32 = y1 ∧ y1.toInt8.toInt32 = y2 ∧ p2 = y2 ∧ v = some (.int (1 : Int32)) ∧ h0 = h)
set_option maxRecDepth 65536 in
set_option maxHeartbeats 40000000 in
theorem rm_62 (l : Launch) (Z : State) (a0 : Array Value) (hw : ∀ d ∈ tables_1, d.before a0 Z = true) (ws : List Jvm.Cond) (w0 : Addr) (kw0 : ClassId) (p2 : Int32) (p3 : Int32) (p4 : Int32) (p5 : Int32) (p6 : Int32) (p7 : Int32) (p8 : Int32) (p9 : Int32) (p10 : Int32) (p11 : Int32) (p12 : Int32) (p13 : Int32) (p14 : Int32) (p15 : Int32) (p16 : Int32) (p17 : Int32) (p18 : Int32) (h0 : Heap) (n0 : Nat) (Z0 : n0 ≤ h0.size) (E_w0 : Exa Z h0 w0 "[B") (V_w0 : Arv Z h0 w0 kw0 .byte (8 : Int32) [(.int p2), (.int p3), (.int p4), (.int p5), (.int p6), (.int p7), (.int p8), (.int p9)] (.int (0 : Int32))) (g_w0 : n0 ≤ w0) (hp0 : p13.toInt8.toInt32 = p2) (hp1 : p14.toInt8.toInt32 = p3) (hp2 : p15.toInt8.toInt32 = p4) (hp3 : p11.toInt8.toInt32 = p9) (hp4 : p16.toInt8.toInt32 = p5) (hp5 : p17.toInt8.toInt32 = p6) (hp6 : p18.toInt8.toInt32 = p7) (hp7 : p12.toInt8.toInt32 = p8) (hp8 : (p10.toUInt32 >>> ((16 : Int32) &&& 31).toUInt32).toInt32 = p14) (hp9 : (p14.toUInt32 >>> ((8 : Int32) &&& 31).toUInt32).toInt32 = p13) (hp10 : (p10.toUInt32 >>> ((8 : Int32) &&& 31).toUInt32).toInt32 = p15) (hp11 : (p12.toUInt32 >>> ((16 : Int32) &&& 31).toUInt32).toInt32 = p17) (hp12 : (p17.toUInt32 >>> ((8 : Int32) &&& 31).toUInt32).toInt32 = p16) (hp13 : (p12.toUInt32 >>> ((8 : Int32) &&& 31).toUInt32).toInt32 = p18) :
    MetFree l (⟨"demitasse/interp/BytesU4AtPinLaw", "ok", "([BIIIII)Z"⟩ : MethodName) (head1 (Jvm.Cond.code (⟨"demitasse/interp/BytesU4AtPinLaw", "ok", "([BIIIII)Z"⟩ : MethodName) method_3_code 7 (some .boolean) :: ws) ({ frames := 0, cells := 0, slots := 0, locals := 0 } : Room)) (fun a U => a = #[(.ref w0), (.int (0 : Int32)), (.int p10), (.int p11), (.int (3 : Int32)), (.int p12)] ∧ Z.Warmed39 U.vm ∧ U.heap = h0) (fun _ _ _ _ _ => True) (fun _ U o U' => ∃ v L, o = .returned v ∧ (Fr n0 L ∧ Q_62 Z w0 kw0 p2 p3 p4 p5 p6 p7 p8 p9 p10 p11 p12 p13 p14 p15 p16 p17 p18 h0 n0 v U'.heap) ∧ FrameEnd U o U' L ({ frames := 0, cells := 0, slots := 0, locals := 0 } : Room).cells ({ frames := 0, cells := 0, slots := 0, locals := 0 } : Room).slots) := by
  refine own_enter (Q := Q_62 Z w0 kw0 p2 p3 p4 p5 p6 p7 p8 p9 p10 p11 p12 p13 p14 p15 p16 p17 p18 h0 n0) (F := fun m => mkF m 0 #[.val (.ref w0), .val (.int (0 : Int32)), .val (.int p10), .val (.int p11), .val (.int (3 : Int32)), .val (.int p12), .unset] []) (plainFor_of_name pn_2) (fun m => by first | (simp [entryFrame, mkF, argsToLocals, Value.category]; done) | rfl) ?_
  intro p e s m below meth c s₁ B X0
  have K : Keep h0 h0 [] := Keep.refl h0 _
  refine own_iloadN (pc' := 1) B X0 d13_0 rfl rfl ?_
  refine own_iload (pc' := 3) B X0 d13_1 rfl rfl ?_
  refine own_icmpYes (pc' := 32) B X0 d13_3 (tlt (by decide : (0 : Int32) < (3 : Int32))).1 (by decide) rfl ?_
  refine own_iloadN (pc' := 33) B X0 d13_32 rfl rfl ?_
  refine own_iconst (pc' := 34) B X0 (z := (4 : Int32)) d13_33 rfl rfl ?_
  refine own_icmpNo (pc' := 37) B X0 d13_34 (tlt (by decide : (0 : Int32) < (4 : Int32))).2.1 rfl ?_
  refine own_iloadN (pc' := 38) B X0 d13_37 rfl rfl ?_
  refine own_bipush (pc' := 40) B X0 (z := (24 : Int32)) d13_38 rfl (by decide) ?_
  refine own_bipush (pc' := 42) B X0 (z := (8 : Int32)) d13_40 rfl (by decide) ?_
  refine own_iloadN (pc' := 43) B X0 d13_42 rfl rfl ?_
  refine own_imul (pc' := 44) B X0 (z := (0 : Int32)) d13_43 rfl (by decide) ?_
  refine own_isub (pc' := 45) B X0 (z := (24 : Int32)) d13_44 rfl (by decide) ?_
  obtain ⟨y1, hy1⟩ : ∃ z : Int32, (p10.toUInt32 >>> ((24 : Int32) &&& 31).toUInt32).toInt32 = z := ⟨_, rfl⟩
  refine own_iushr (pc' := 46) B X0 d13_45 rfl hy1 ?_
  refine own_istore (pc' := 48) B X0 (Ls' := #[.val (.ref w0), .val (.int (0 : Int32)), .val (.int p10), .val (.int p11), .val (.int (3 : Int32)), .val (.int p12), .val (.int y1)]) d13_46 rfl rfl ?_
  refine own_goto (pc' := 64) B X0 d13_48 (by decide) rfl ?_
  refine own_aloadN (pc' := 65) B X0 d13_64 rfl rfl rfl ?_
  refine own_iloadN (pc' := 66) B X0 d13_65 rfl rfl ?_
  refine own_baload (pc' := 67) B X0 V_w0 (v := (.int p2)) ⟨by decide, by decide⟩ rfl d13_66 rfl ?_
  refine own_iload (pc' := 69) B X0 d13_67 rfl rfl ?_
  obtain ⟨y2, hy2⟩ : ∃ z : Int32, y1.toInt8.toInt32 = z := ⟨_, rfl⟩
  refine own_i2b (pc' := 70) B X0 d13_69 rfl hy2 ?_
  have c3 : p2 = y2 := by
    have o0 := own_o_i2b hp0
    have o1 := own_o_iushr hp8 16 (by decide) (by decide)
    have o2 := own_o_iushr hp9 8 (by decide) (by decide)
    have o3 := own_o_iushr hy1 24 (by decide) (by decide)
    have o4 := own_o_i2b hy2
    have o5 := rng32 p10
    have o6 := rng32 p13
    have o7 := rng32 p14
    have o8 := rng32 p2
    have o9 := rng32 y1
    have o10 := rng32 y2
    have o11 : (16 : Int32).toInt = 16 := by decide
    have o12 : (8 : Int32).toInt = 8 := by decide
    have o13 : (24 : Int32).toInt = 24 := by decide
    refine own_eqI ?_
    omega
  refine own_icmpNo (pc' := 73) B X0 d13_70 (teq c3).2 rfl ?_
  refine own_iconst (pc' := 74) B X0 (z := (1 : Int32)) d13_73 rfl rfl ?_
  refine own_goto (pc' := 78) B X0 d13_74 (by decide) rfl ?_
  exact own_retN B X0 (t := .boolean) (z' := (1 : Int32)) (by simp) (by decide) d13_78 (by decide) (by decide) (⟨y1, y2, hy1, hy2, c3, rfl, rfl⟩)
def Q_63 (Z : State) (w0 : Addr) (kw0 : ClassId) (p2 : Int32) (p3 : Int32) (p4 : Int32) (p5 : Int32) (p6 : Int32) (p7 : Int32) (p8 : Int32) (p9 : Int32) (p10 : Int32) (p11 : Int32) (p12 : Int32) (p13 : Int32) (p14 : Int32) (p15 : Int32) (p16 : Int32) (p17 : Int32) (p18 : Int32) (h0 : Heap) (n0 : Nat) (v : Option Value) (h : Heap) : Prop :=
  (v = some (.int (1 : Int32)) ∧ h0 = h)
set_option maxRecDepth 65536 in
set_option maxHeartbeats 40000000 in
theorem rm_63 (l : Launch) (Z : State) (a0 : Array Value) (hw : ∀ d ∈ tables_1, d.before a0 Z = true) (ws : List Jvm.Cond) (w0 : Addr) (kw0 : ClassId) (p2 : Int32) (p3 : Int32) (p4 : Int32) (p5 : Int32) (p6 : Int32) (p7 : Int32) (p8 : Int32) (p9 : Int32) (p10 : Int32) (p11 : Int32) (p12 : Int32) (p13 : Int32) (p14 : Int32) (p15 : Int32) (p16 : Int32) (p17 : Int32) (p18 : Int32) (h0 : Heap) (n0 : Nat) (Z0 : n0 ≤ h0.size) (E_w0 : Exa Z h0 w0 "[B") (V_w0 : Arv Z h0 w0 kw0 .byte (8 : Int32) [(.int p2), (.int p3), (.int p4), (.int p5), (.int p6), (.int p7), (.int p8), (.int p9)] (.int (0 : Int32))) (g_w0 : n0 ≤ w0) (hp0 : p13.toInt8.toInt32 = p2) (hp1 : p14.toInt8.toInt32 = p3) (hp2 : p15.toInt8.toInt32 = p4) (hp3 : p11.toInt8.toInt32 = p9) (hp4 : p16.toInt8.toInt32 = p5) (hp5 : p17.toInt8.toInt32 = p6) (hp6 : p18.toInt8.toInt32 = p7) (hp7 : p12.toInt8.toInt32 = p8) (hp8 : (p10.toUInt32 >>> ((16 : Int32) &&& 31).toUInt32).toInt32 = p14) (hp9 : (p14.toUInt32 >>> ((8 : Int32) &&& 31).toUInt32).toInt32 = p13) (hp10 : (p10.toUInt32 >>> ((8 : Int32) &&& 31).toUInt32).toInt32 = p15) (hp11 : (p12.toUInt32 >>> ((16 : Int32) &&& 31).toUInt32).toInt32 = p17) (hp12 : (p17.toUInt32 >>> ((8 : Int32) &&& 31).toUInt32).toInt32 = p16) (hp13 : (p12.toUInt32 >>> ((8 : Int32) &&& 31).toUInt32).toInt32 = p18) :
    MetFree l (⟨"demitasse/interp/BytesU4AtPinLaw", "ok", "([BIIIII)Z"⟩ : MethodName) (head1 (Jvm.Cond.code (⟨"demitasse/interp/BytesU4AtPinLaw", "ok", "([BIIIII)Z"⟩ : MethodName) method_3_code 7 (some .boolean) :: ws) ({ frames := 0, cells := 0, slots := 0, locals := 0 } : Room)) (fun a U => a = #[(.ref w0), (.int (1 : Int32)), (.int p10), (.int p11), (.int (3 : Int32)), (.int p12)] ∧ Z.Warmed39 U.vm ∧ U.heap = h0) (fun _ _ _ _ _ => True) (fun _ U o U' => ∃ v L, o = .returned v ∧ (Fr n0 L ∧ Q_63 Z w0 kw0 p2 p3 p4 p5 p6 p7 p8 p9 p10 p11 p12 p13 p14 p15 p16 p17 p18 h0 n0 v U'.heap) ∧ FrameEnd U o U' L ({ frames := 0, cells := 0, slots := 0, locals := 0 } : Room).cells ({ frames := 0, cells := 0, slots := 0, locals := 0 } : Room).slots) := by
  refine own_enter (Q := Q_63 Z w0 kw0 p2 p3 p4 p5 p6 p7 p8 p9 p10 p11 p12 p13 p14 p15 p16 p17 p18 h0 n0) (F := fun m => mkF m 0 #[.val (.ref w0), .val (.int (1 : Int32)), .val (.int p10), .val (.int p11), .val (.int (3 : Int32)), .val (.int p12), .unset] []) (plainFor_of_name pn_2) (fun m => by first | (simp [entryFrame, mkF, argsToLocals, Value.category]; done) | rfl) ?_
  intro p e s m below meth c s₁ B X0
  have K : Keep h0 h0 [] := Keep.refl h0 _
  refine own_iloadN (pc' := 1) B X0 d13_0 rfl rfl ?_
  refine own_iload (pc' := 3) B X0 d13_1 rfl rfl ?_
  refine own_icmpYes (pc' := 32) B X0 d13_3 (tlt (by decide : (1 : Int32) < (3 : Int32))).1 (by decide) rfl ?_
  refine own_iloadN (pc' := 33) B X0 d13_32 rfl rfl ?_
  refine own_iconst (pc' := 34) B X0 (z := (4 : Int32)) d13_33 rfl rfl ?_
  refine own_icmpNo (pc' := 37) B X0 d13_34 (tlt (by decide : (1 : Int32) < (4 : Int32))).2.1 rfl ?_
  refine own_iloadN (pc' := 38) B X0 d13_37 rfl rfl ?_
  refine own_bipush (pc' := 40) B X0 (z := (24 : Int32)) d13_38 rfl (by decide) ?_
  refine own_bipush (pc' := 42) B X0 (z := (8 : Int32)) d13_40 rfl (by decide) ?_
  refine own_iloadN (pc' := 43) B X0 d13_42 rfl rfl ?_
  refine own_imul (pc' := 44) B X0 (z := (8 : Int32)) d13_43 rfl (by decide) ?_
  refine own_isub (pc' := 45) B X0 (z := (16 : Int32)) d13_44 rfl (by decide) ?_
  refine own_iushr (pc' := 46) B X0 d13_45 rfl hp8 ?_
  refine own_istore (pc' := 48) B X0 (Ls' := #[.val (.ref w0), .val (.int (1 : Int32)), .val (.int p10), .val (.int p11), .val (.int (3 : Int32)), .val (.int p12), .val (.int p14)]) d13_46 rfl rfl ?_
  refine own_goto (pc' := 64) B X0 d13_48 (by decide) rfl ?_
  refine own_aloadN (pc' := 65) B X0 d13_64 rfl rfl rfl ?_
  refine own_iloadN (pc' := 66) B X0 d13_65 rfl rfl ?_
  refine own_baload (pc' := 67) B X0 V_w0 (v := (.int p3)) ⟨by decide, by decide⟩ rfl d13_66 rfl ?_
  refine own_iload (pc' := 69) B X0 d13_67 rfl rfl ?_
  refine own_i2b (pc' := 70) B X0 d13_69 rfl hp1 ?_
  refine own_icmpNo (pc' := 73) B X0 d13_70 (teq rfl).2 rfl ?_
  refine own_iconst (pc' := 74) B X0 (z := (1 : Int32)) d13_73 rfl rfl ?_
  refine own_goto (pc' := 78) B X0 d13_74 (by decide) rfl ?_
  exact own_retN B X0 (t := .boolean) (z' := (1 : Int32)) (by simp) (by decide) d13_78 (by decide) (by decide) (⟨rfl, rfl⟩)
def Q_64 (Z : State) (w0 : Addr) (kw0 : ClassId) (p2 : Int32) (p3 : Int32) (p4 : Int32) (p5 : Int32) (p6 : Int32) (p7 : Int32) (p8 : Int32) (p9 : Int32) (p10 : Int32) (p11 : Int32) (p12 : Int32) (p13 : Int32) (p14 : Int32) (p15 : Int32) (p16 : Int32) (p17 : Int32) (p18 : Int32) (h0 : Heap) (n0 : Nat) (v : Option Value) (h : Heap) : Prop :=
  (v = some (.int (1 : Int32)) ∧ h0 = h)
set_option maxRecDepth 65536 in
set_option maxHeartbeats 40000000 in
theorem rm_64 (l : Launch) (Z : State) (a0 : Array Value) (hw : ∀ d ∈ tables_1, d.before a0 Z = true) (ws : List Jvm.Cond) (w0 : Addr) (kw0 : ClassId) (p2 : Int32) (p3 : Int32) (p4 : Int32) (p5 : Int32) (p6 : Int32) (p7 : Int32) (p8 : Int32) (p9 : Int32) (p10 : Int32) (p11 : Int32) (p12 : Int32) (p13 : Int32) (p14 : Int32) (p15 : Int32) (p16 : Int32) (p17 : Int32) (p18 : Int32) (h0 : Heap) (n0 : Nat) (Z0 : n0 ≤ h0.size) (E_w0 : Exa Z h0 w0 "[B") (V_w0 : Arv Z h0 w0 kw0 .byte (8 : Int32) [(.int p2), (.int p3), (.int p4), (.int p5), (.int p6), (.int p7), (.int p8), (.int p9)] (.int (0 : Int32))) (g_w0 : n0 ≤ w0) (hp0 : p13.toInt8.toInt32 = p2) (hp1 : p14.toInt8.toInt32 = p3) (hp2 : p15.toInt8.toInt32 = p4) (hp3 : p11.toInt8.toInt32 = p9) (hp4 : p16.toInt8.toInt32 = p5) (hp5 : p17.toInt8.toInt32 = p6) (hp6 : p18.toInt8.toInt32 = p7) (hp7 : p12.toInt8.toInt32 = p8) (hp8 : (p10.toUInt32 >>> ((16 : Int32) &&& 31).toUInt32).toInt32 = p14) (hp9 : (p14.toUInt32 >>> ((8 : Int32) &&& 31).toUInt32).toInt32 = p13) (hp10 : (p10.toUInt32 >>> ((8 : Int32) &&& 31).toUInt32).toInt32 = p15) (hp11 : (p12.toUInt32 >>> ((16 : Int32) &&& 31).toUInt32).toInt32 = p17) (hp12 : (p17.toUInt32 >>> ((8 : Int32) &&& 31).toUInt32).toInt32 = p16) (hp13 : (p12.toUInt32 >>> ((8 : Int32) &&& 31).toUInt32).toInt32 = p18) :
    MetFree l (⟨"demitasse/interp/BytesU4AtPinLaw", "ok", "([BIIIII)Z"⟩ : MethodName) (head1 (Jvm.Cond.code (⟨"demitasse/interp/BytesU4AtPinLaw", "ok", "([BIIIII)Z"⟩ : MethodName) method_3_code 7 (some .boolean) :: ws) ({ frames := 0, cells := 0, slots := 0, locals := 0 } : Room)) (fun a U => a = #[(.ref w0), (.int (2 : Int32)), (.int p10), (.int p11), (.int (3 : Int32)), (.int p12)] ∧ Z.Warmed39 U.vm ∧ U.heap = h0) (fun _ _ _ _ _ => True) (fun _ U o U' => ∃ v L, o = .returned v ∧ (Fr n0 L ∧ Q_64 Z w0 kw0 p2 p3 p4 p5 p6 p7 p8 p9 p10 p11 p12 p13 p14 p15 p16 p17 p18 h0 n0 v U'.heap) ∧ FrameEnd U o U' L ({ frames := 0, cells := 0, slots := 0, locals := 0 } : Room).cells ({ frames := 0, cells := 0, slots := 0, locals := 0 } : Room).slots) := by
  refine own_enter (Q := Q_64 Z w0 kw0 p2 p3 p4 p5 p6 p7 p8 p9 p10 p11 p12 p13 p14 p15 p16 p17 p18 h0 n0) (F := fun m => mkF m 0 #[.val (.ref w0), .val (.int (2 : Int32)), .val (.int p10), .val (.int p11), .val (.int (3 : Int32)), .val (.int p12), .unset] []) (plainFor_of_name pn_2) (fun m => by first | (simp [entryFrame, mkF, argsToLocals, Value.category]; done) | rfl) ?_
  intro p e s m below meth c s₁ B X0
  have K : Keep h0 h0 [] := Keep.refl h0 _
  refine own_iloadN (pc' := 1) B X0 d13_0 rfl rfl ?_
  refine own_iload (pc' := 3) B X0 d13_1 rfl rfl ?_
  refine own_icmpYes (pc' := 32) B X0 d13_3 (tlt (by decide : (2 : Int32) < (3 : Int32))).1 (by decide) rfl ?_
  refine own_iloadN (pc' := 33) B X0 d13_32 rfl rfl ?_
  refine own_iconst (pc' := 34) B X0 (z := (4 : Int32)) d13_33 rfl rfl ?_
  refine own_icmpNo (pc' := 37) B X0 d13_34 (tlt (by decide : (2 : Int32) < (4 : Int32))).2.1 rfl ?_
  refine own_iloadN (pc' := 38) B X0 d13_37 rfl rfl ?_
  refine own_bipush (pc' := 40) B X0 (z := (24 : Int32)) d13_38 rfl (by decide) ?_
  refine own_bipush (pc' := 42) B X0 (z := (8 : Int32)) d13_40 rfl (by decide) ?_
  refine own_iloadN (pc' := 43) B X0 d13_42 rfl rfl ?_
  refine own_imul (pc' := 44) B X0 (z := (16 : Int32)) d13_43 rfl (by decide) ?_
  refine own_isub (pc' := 45) B X0 (z := (8 : Int32)) d13_44 rfl (by decide) ?_
  refine own_iushr (pc' := 46) B X0 d13_45 rfl hp10 ?_
  refine own_istore (pc' := 48) B X0 (Ls' := #[.val (.ref w0), .val (.int (2 : Int32)), .val (.int p10), .val (.int p11), .val (.int (3 : Int32)), .val (.int p12), .val (.int p15)]) d13_46 rfl rfl ?_
  refine own_goto (pc' := 64) B X0 d13_48 (by decide) rfl ?_
  refine own_aloadN (pc' := 65) B X0 d13_64 rfl rfl rfl ?_
  refine own_iloadN (pc' := 66) B X0 d13_65 rfl rfl ?_
  refine own_baload (pc' := 67) B X0 V_w0 (v := (.int p4)) ⟨by decide, by decide⟩ rfl d13_66 rfl ?_
  refine own_iload (pc' := 69) B X0 d13_67 rfl rfl ?_
  refine own_i2b (pc' := 70) B X0 d13_69 rfl hp2 ?_
  refine own_icmpNo (pc' := 73) B X0 d13_70 (teq rfl).2 rfl ?_
  refine own_iconst (pc' := 74) B X0 (z := (1 : Int32)) d13_73 rfl rfl ?_
  refine own_goto (pc' := 78) B X0 d13_74 (by decide) rfl ?_
  exact own_retN B X0 (t := .boolean) (z' := (1 : Int32)) (by simp) (by decide) d13_78 (by decide) (by decide) (⟨rfl, rfl⟩)
def Q_65 (Z : State) (w0 : Addr) (kw0 : ClassId) (p2 : Int32) (p3 : Int32) (p4 : Int32) (p5 : Int32) (p6 : Int32) (p7 : Int32) (p8 : Int32) (p9 : Int32) (p10 : Int32) (p11 : Int32) (p12 : Int32) (p13 : Int32) (p14 : Int32) (p15 : Int32) (p16 : Int32) (p17 : Int32) (p18 : Int32) (h0 : Heap) (n0 : Nat) (v : Option Value) (h : Heap) : Prop :=
  (∃ (y1 : Int32) (y2 : Int32), (p12.toUInt32 >>> ((24 : Int32) &&& 31).toUInt32).toInt32 = y1 ∧ y1.toInt8.toInt32 = y2 ∧ p5 = y2 ∧ v = some (.int (1 : Int32)) ∧ h0 = h)
set_option maxRecDepth 65536 in
set_option maxHeartbeats 40000000 in
theorem rm_65 (l : Launch) (Z : State) (a0 : Array Value) (hw : ∀ d ∈ tables_1, d.before a0 Z = true) (ws : List Jvm.Cond) (w0 : Addr) (kw0 : ClassId) (p2 : Int32) (p3 : Int32) (p4 : Int32) (p5 : Int32) (p6 : Int32) (p7 : Int32) (p8 : Int32) (p9 : Int32) (p10 : Int32) (p11 : Int32) (p12 : Int32) (p13 : Int32) (p14 : Int32) (p15 : Int32) (p16 : Int32) (p17 : Int32) (p18 : Int32) (h0 : Heap) (n0 : Nat) (Z0 : n0 ≤ h0.size) (E_w0 : Exa Z h0 w0 "[B") (V_w0 : Arv Z h0 w0 kw0 .byte (8 : Int32) [(.int p2), (.int p3), (.int p4), (.int p5), (.int p6), (.int p7), (.int p8), (.int p9)] (.int (0 : Int32))) (g_w0 : n0 ≤ w0) (hp0 : p13.toInt8.toInt32 = p2) (hp1 : p14.toInt8.toInt32 = p3) (hp2 : p15.toInt8.toInt32 = p4) (hp3 : p11.toInt8.toInt32 = p9) (hp4 : p16.toInt8.toInt32 = p5) (hp5 : p17.toInt8.toInt32 = p6) (hp6 : p18.toInt8.toInt32 = p7) (hp7 : p12.toInt8.toInt32 = p8) (hp8 : (p10.toUInt32 >>> ((16 : Int32) &&& 31).toUInt32).toInt32 = p14) (hp9 : (p14.toUInt32 >>> ((8 : Int32) &&& 31).toUInt32).toInt32 = p13) (hp10 : (p10.toUInt32 >>> ((8 : Int32) &&& 31).toUInt32).toInt32 = p15) (hp11 : (p12.toUInt32 >>> ((16 : Int32) &&& 31).toUInt32).toInt32 = p17) (hp12 : (p17.toUInt32 >>> ((8 : Int32) &&& 31).toUInt32).toInt32 = p16) (hp13 : (p12.toUInt32 >>> ((8 : Int32) &&& 31).toUInt32).toInt32 = p18) :
    MetFree l (⟨"demitasse/interp/BytesU4AtPinLaw", "ok", "([BIIIII)Z"⟩ : MethodName) (head1 (Jvm.Cond.code (⟨"demitasse/interp/BytesU4AtPinLaw", "ok", "([BIIIII)Z"⟩ : MethodName) method_3_code 7 (some .boolean) :: ws) ({ frames := 0, cells := 0, slots := 0, locals := 0 } : Room)) (fun a U => a = #[(.ref w0), (.int (3 : Int32)), (.int p10), (.int p11), (.int (3 : Int32)), (.int p12)] ∧ Z.Warmed39 U.vm ∧ U.heap = h0) (fun _ _ _ _ _ => True) (fun _ U o U' => ∃ v L, o = .returned v ∧ (Fr n0 L ∧ Q_65 Z w0 kw0 p2 p3 p4 p5 p6 p7 p8 p9 p10 p11 p12 p13 p14 p15 p16 p17 p18 h0 n0 v U'.heap) ∧ FrameEnd U o U' L ({ frames := 0, cells := 0, slots := 0, locals := 0 } : Room).cells ({ frames := 0, cells := 0, slots := 0, locals := 0 } : Room).slots) := by
  refine own_enter (Q := Q_65 Z w0 kw0 p2 p3 p4 p5 p6 p7 p8 p9 p10 p11 p12 p13 p14 p15 p16 p17 p18 h0 n0) (F := fun m => mkF m 0 #[.val (.ref w0), .val (.int (3 : Int32)), .val (.int p10), .val (.int p11), .val (.int (3 : Int32)), .val (.int p12), .unset] []) (plainFor_of_name pn_2) (fun m => by first | (simp [entryFrame, mkF, argsToLocals, Value.category]; done) | rfl) ?_
  intro p e s m below meth c s₁ B X0
  have K : Keep h0 h0 [] := Keep.refl h0 _
  refine own_iloadN (pc' := 1) B X0 d13_0 rfl rfl ?_
  refine own_iload (pc' := 3) B X0 d13_1 rfl rfl ?_
  refine own_icmpNo (pc' := 6) B X0 d13_3 (flt (by decide : ¬ ((3 : Int32) < (3 : Int32)))).1 rfl ?_
  refine own_iloadN (pc' := 7) B X0 d13_6 rfl rfl ?_
  refine own_iload (pc' := 9) B X0 d13_7 rfl rfl ?_
  refine own_iconst (pc' := 10) B X0 (z := (4 : Int32)) d13_9 rfl rfl ?_
  refine own_iadd (pc' := 11) B X0 (z := (7 : Int32)) d13_10 rfl (by decide) ?_
  refine own_icmpNo (pc' := 14) B X0 d13_11 (tlt (by decide : (3 : Int32) < (7 : Int32))).2.1 rfl ?_
  refine own_iload (pc' := 16) B X0 d13_14 rfl rfl ?_
  refine own_bipush (pc' := 18) B X0 (z := (24 : Int32)) d13_16 rfl (by decide) ?_
  refine own_bipush (pc' := 20) B X0 (z := (8 : Int32)) d13_18 rfl (by decide) ?_
  refine own_iloadN (pc' := 21) B X0 d13_20 rfl rfl ?_
  refine own_iload (pc' := 23) B X0 d13_21 rfl rfl ?_
  refine own_isub (pc' := 24) B X0 (z := (0 : Int32)) d13_23 rfl (by decide) ?_
  refine own_imul (pc' := 25) B X0 (z := (0 : Int32)) d13_24 rfl (by decide) ?_
  refine own_isub (pc' := 26) B X0 (z := (24 : Int32)) d13_25 rfl (by decide) ?_
  obtain ⟨y1, hy1⟩ : ∃ z : Int32, (p12.toUInt32 >>> ((24 : Int32) &&& 31).toUInt32).toInt32 = z := ⟨_, rfl⟩
  refine own_iushr (pc' := 27) B X0 d13_26 rfl hy1 ?_
  refine own_istore (pc' := 29) B X0 (Ls' := #[.val (.ref w0), .val (.int (3 : Int32)), .val (.int p10), .val (.int p11), .val (.int (3 : Int32)), .val (.int p12), .val (.int y1)]) d13_27 rfl rfl ?_
  refine own_goto (pc' := 64) B X0 d13_29 (by decide) rfl ?_
  refine own_aloadN (pc' := 65) B X0 d13_64 rfl rfl rfl ?_
  refine own_iloadN (pc' := 66) B X0 d13_65 rfl rfl ?_
  refine own_baload (pc' := 67) B X0 V_w0 (v := (.int p5)) ⟨by decide, by decide⟩ rfl d13_66 rfl ?_
  refine own_iload (pc' := 69) B X0 d13_67 rfl rfl ?_
  obtain ⟨y2, hy2⟩ : ∃ z : Int32, y1.toInt8.toInt32 = z := ⟨_, rfl⟩
  refine own_i2b (pc' := 70) B X0 d13_69 rfl hy2 ?_
  have c3 : p5 = y2 := by
    have o0 := own_o_i2b hp4
    have o1 := own_o_iushr hp11 16 (by decide) (by decide)
    have o2 := own_o_iushr hp12 8 (by decide) (by decide)
    have o3 := own_o_iushr hy1 24 (by decide) (by decide)
    have o4 := own_o_i2b hy2
    have o5 := rng32 p12
    have o6 := rng32 p16
    have o7 := rng32 p17
    have o8 := rng32 p5
    have o9 := rng32 y1
    have o10 := rng32 y2
    have o11 : (16 : Int32).toInt = 16 := by decide
    have o12 : (8 : Int32).toInt = 8 := by decide
    have o13 : (24 : Int32).toInt = 24 := by decide
    refine own_eqI ?_
    omega
  refine own_icmpNo (pc' := 73) B X0 d13_70 (teq c3).2 rfl ?_
  refine own_iconst (pc' := 74) B X0 (z := (1 : Int32)) d13_73 rfl rfl ?_
  refine own_goto (pc' := 78) B X0 d13_74 (by decide) rfl ?_
  exact own_retN B X0 (t := .boolean) (z' := (1 : Int32)) (by simp) (by decide) d13_78 (by decide) (by decide) (⟨y1, y2, hy1, hy2, c3, rfl, rfl⟩)
def Q_66 (Z : State) (w0 : Addr) (kw0 : ClassId) (p2 : Int32) (p3 : Int32) (p4 : Int32) (p5 : Int32) (p6 : Int32) (p7 : Int32) (p8 : Int32) (p9 : Int32) (p10 : Int32) (p11 : Int32) (p12 : Int32) (p13 : Int32) (p14 : Int32) (p15 : Int32) (p16 : Int32) (p17 : Int32) (p18 : Int32) (h0 : Heap) (n0 : Nat) (v : Option Value) (h : Heap) : Prop :=
  (v = some (.int (1 : Int32)) ∧ h0 = h)
set_option maxRecDepth 65536 in
set_option maxHeartbeats 40000000 in
theorem rm_66 (l : Launch) (Z : State) (a0 : Array Value) (hw : ∀ d ∈ tables_1, d.before a0 Z = true) (ws : List Jvm.Cond) (w0 : Addr) (kw0 : ClassId) (p2 : Int32) (p3 : Int32) (p4 : Int32) (p5 : Int32) (p6 : Int32) (p7 : Int32) (p8 : Int32) (p9 : Int32) (p10 : Int32) (p11 : Int32) (p12 : Int32) (p13 : Int32) (p14 : Int32) (p15 : Int32) (p16 : Int32) (p17 : Int32) (p18 : Int32) (h0 : Heap) (n0 : Nat) (Z0 : n0 ≤ h0.size) (E_w0 : Exa Z h0 w0 "[B") (V_w0 : Arv Z h0 w0 kw0 .byte (8 : Int32) [(.int p2), (.int p3), (.int p4), (.int p5), (.int p6), (.int p7), (.int p8), (.int p9)] (.int (0 : Int32))) (g_w0 : n0 ≤ w0) (hp0 : p13.toInt8.toInt32 = p2) (hp1 : p14.toInt8.toInt32 = p3) (hp2 : p15.toInt8.toInt32 = p4) (hp3 : p11.toInt8.toInt32 = p9) (hp4 : p16.toInt8.toInt32 = p5) (hp5 : p17.toInt8.toInt32 = p6) (hp6 : p18.toInt8.toInt32 = p7) (hp7 : p12.toInt8.toInt32 = p8) (hp8 : (p10.toUInt32 >>> ((16 : Int32) &&& 31).toUInt32).toInt32 = p14) (hp9 : (p14.toUInt32 >>> ((8 : Int32) &&& 31).toUInt32).toInt32 = p13) (hp10 : (p10.toUInt32 >>> ((8 : Int32) &&& 31).toUInt32).toInt32 = p15) (hp11 : (p12.toUInt32 >>> ((16 : Int32) &&& 31).toUInt32).toInt32 = p17) (hp12 : (p17.toUInt32 >>> ((8 : Int32) &&& 31).toUInt32).toInt32 = p16) (hp13 : (p12.toUInt32 >>> ((8 : Int32) &&& 31).toUInt32).toInt32 = p18) :
    MetFree l (⟨"demitasse/interp/BytesU4AtPinLaw", "ok", "([BIIIII)Z"⟩ : MethodName) (head1 (Jvm.Cond.code (⟨"demitasse/interp/BytesU4AtPinLaw", "ok", "([BIIIII)Z"⟩ : MethodName) method_3_code 7 (some .boolean) :: ws) ({ frames := 0, cells := 0, slots := 0, locals := 0 } : Room)) (fun a U => a = #[(.ref w0), (.int (4 : Int32)), (.int p10), (.int p11), (.int (3 : Int32)), (.int p12)] ∧ Z.Warmed39 U.vm ∧ U.heap = h0) (fun _ _ _ _ _ => True) (fun _ U o U' => ∃ v L, o = .returned v ∧ (Fr n0 L ∧ Q_66 Z w0 kw0 p2 p3 p4 p5 p6 p7 p8 p9 p10 p11 p12 p13 p14 p15 p16 p17 p18 h0 n0 v U'.heap) ∧ FrameEnd U o U' L ({ frames := 0, cells := 0, slots := 0, locals := 0 } : Room).cells ({ frames := 0, cells := 0, slots := 0, locals := 0 } : Room).slots) := by
  refine own_enter (Q := Q_66 Z w0 kw0 p2 p3 p4 p5 p6 p7 p8 p9 p10 p11 p12 p13 p14 p15 p16 p17 p18 h0 n0) (F := fun m => mkF m 0 #[.val (.ref w0), .val (.int (4 : Int32)), .val (.int p10), .val (.int p11), .val (.int (3 : Int32)), .val (.int p12), .unset] []) (plainFor_of_name pn_2) (fun m => by first | (simp [entryFrame, mkF, argsToLocals, Value.category]; done) | rfl) ?_
  intro p e s m below meth c s₁ B X0
  have K : Keep h0 h0 [] := Keep.refl h0 _
  refine own_iloadN (pc' := 1) B X0 d13_0 rfl rfl ?_
  refine own_iload (pc' := 3) B X0 d13_1 rfl rfl ?_
  refine own_icmpNo (pc' := 6) B X0 d13_3 (flt (by decide : ¬ ((4 : Int32) < (3 : Int32)))).1 rfl ?_
  refine own_iloadN (pc' := 7) B X0 d13_6 rfl rfl ?_
  refine own_iload (pc' := 9) B X0 d13_7 rfl rfl ?_
  refine own_iconst (pc' := 10) B X0 (z := (4 : Int32)) d13_9 rfl rfl ?_
  refine own_iadd (pc' := 11) B X0 (z := (7 : Int32)) d13_10 rfl (by decide) ?_
  refine own_icmpNo (pc' := 14) B X0 d13_11 (tlt (by decide : (4 : Int32) < (7 : Int32))).2.1 rfl ?_
  refine own_iload (pc' := 16) B X0 d13_14 rfl rfl ?_
  refine own_bipush (pc' := 18) B X0 (z := (24 : Int32)) d13_16 rfl (by decide) ?_
  refine own_bipush (pc' := 20) B X0 (z := (8 : Int32)) d13_18 rfl (by decide) ?_
  refine own_iloadN (pc' := 21) B X0 d13_20 rfl rfl ?_
  refine own_iload (pc' := 23) B X0 d13_21 rfl rfl ?_
  refine own_isub (pc' := 24) B X0 (z := (1 : Int32)) d13_23 rfl (by decide) ?_
  refine own_imul (pc' := 25) B X0 (z := (8 : Int32)) d13_24 rfl (by decide) ?_
  refine own_isub (pc' := 26) B X0 (z := (16 : Int32)) d13_25 rfl (by decide) ?_
  refine own_iushr (pc' := 27) B X0 d13_26 rfl hp11 ?_
  refine own_istore (pc' := 29) B X0 (Ls' := #[.val (.ref w0), .val (.int (4 : Int32)), .val (.int p10), .val (.int p11), .val (.int (3 : Int32)), .val (.int p12), .val (.int p17)]) d13_27 rfl rfl ?_
  refine own_goto (pc' := 64) B X0 d13_29 (by decide) rfl ?_
  refine own_aloadN (pc' := 65) B X0 d13_64 rfl rfl rfl ?_
  refine own_iloadN (pc' := 66) B X0 d13_65 rfl rfl ?_
  refine own_baload (pc' := 67) B X0 V_w0 (v := (.int p6)) ⟨by decide, by decide⟩ rfl d13_66 rfl ?_
  refine own_iload (pc' := 69) B X0 d13_67 rfl rfl ?_
  refine own_i2b (pc' := 70) B X0 d13_69 rfl hp5 ?_
  refine own_icmpNo (pc' := 73) B X0 d13_70 (teq rfl).2 rfl ?_
  refine own_iconst (pc' := 74) B X0 (z := (1 : Int32)) d13_73 rfl rfl ?_
  refine own_goto (pc' := 78) B X0 d13_74 (by decide) rfl ?_
  exact own_retN B X0 (t := .boolean) (z' := (1 : Int32)) (by simp) (by decide) d13_78 (by decide) (by decide) (⟨rfl, rfl⟩)
def Q_67 (Z : State) (w0 : Addr) (kw0 : ClassId) (p2 : Int32) (p3 : Int32) (p4 : Int32) (p5 : Int32) (p6 : Int32) (p7 : Int32) (p8 : Int32) (p9 : Int32) (p10 : Int32) (p11 : Int32) (p12 : Int32) (p13 : Int32) (p14 : Int32) (p15 : Int32) (p16 : Int32) (p17 : Int32) (p18 : Int32) (h0 : Heap) (n0 : Nat) (v : Option Value) (h : Heap) : Prop :=
  (v = some (.int (1 : Int32)) ∧ h0 = h)
set_option maxRecDepth 65536 in
set_option maxHeartbeats 40000000 in
theorem rm_67 (l : Launch) (Z : State) (a0 : Array Value) (hw : ∀ d ∈ tables_1, d.before a0 Z = true) (ws : List Jvm.Cond) (w0 : Addr) (kw0 : ClassId) (p2 : Int32) (p3 : Int32) (p4 : Int32) (p5 : Int32) (p6 : Int32) (p7 : Int32) (p8 : Int32) (p9 : Int32) (p10 : Int32) (p11 : Int32) (p12 : Int32) (p13 : Int32) (p14 : Int32) (p15 : Int32) (p16 : Int32) (p17 : Int32) (p18 : Int32) (h0 : Heap) (n0 : Nat) (Z0 : n0 ≤ h0.size) (E_w0 : Exa Z h0 w0 "[B") (V_w0 : Arv Z h0 w0 kw0 .byte (8 : Int32) [(.int p2), (.int p3), (.int p4), (.int p5), (.int p6), (.int p7), (.int p8), (.int p9)] (.int (0 : Int32))) (g_w0 : n0 ≤ w0) (hp0 : p13.toInt8.toInt32 = p2) (hp1 : p14.toInt8.toInt32 = p3) (hp2 : p15.toInt8.toInt32 = p4) (hp3 : p11.toInt8.toInt32 = p9) (hp4 : p16.toInt8.toInt32 = p5) (hp5 : p17.toInt8.toInt32 = p6) (hp6 : p18.toInt8.toInt32 = p7) (hp7 : p12.toInt8.toInt32 = p8) (hp8 : (p10.toUInt32 >>> ((16 : Int32) &&& 31).toUInt32).toInt32 = p14) (hp9 : (p14.toUInt32 >>> ((8 : Int32) &&& 31).toUInt32).toInt32 = p13) (hp10 : (p10.toUInt32 >>> ((8 : Int32) &&& 31).toUInt32).toInt32 = p15) (hp11 : (p12.toUInt32 >>> ((16 : Int32) &&& 31).toUInt32).toInt32 = p17) (hp12 : (p17.toUInt32 >>> ((8 : Int32) &&& 31).toUInt32).toInt32 = p16) (hp13 : (p12.toUInt32 >>> ((8 : Int32) &&& 31).toUInt32).toInt32 = p18) :
    MetFree l (⟨"demitasse/interp/BytesU4AtPinLaw", "ok", "([BIIIII)Z"⟩ : MethodName) (head1 (Jvm.Cond.code (⟨"demitasse/interp/BytesU4AtPinLaw", "ok", "([BIIIII)Z"⟩ : MethodName) method_3_code 7 (some .boolean) :: ws) ({ frames := 0, cells := 0, slots := 0, locals := 0 } : Room)) (fun a U => a = #[(.ref w0), (.int (5 : Int32)), (.int p10), (.int p11), (.int (3 : Int32)), (.int p12)] ∧ Z.Warmed39 U.vm ∧ U.heap = h0) (fun _ _ _ _ _ => True) (fun _ U o U' => ∃ v L, o = .returned v ∧ (Fr n0 L ∧ Q_67 Z w0 kw0 p2 p3 p4 p5 p6 p7 p8 p9 p10 p11 p12 p13 p14 p15 p16 p17 p18 h0 n0 v U'.heap) ∧ FrameEnd U o U' L ({ frames := 0, cells := 0, slots := 0, locals := 0 } : Room).cells ({ frames := 0, cells := 0, slots := 0, locals := 0 } : Room).slots) := by
  refine own_enter (Q := Q_67 Z w0 kw0 p2 p3 p4 p5 p6 p7 p8 p9 p10 p11 p12 p13 p14 p15 p16 p17 p18 h0 n0) (F := fun m => mkF m 0 #[.val (.ref w0), .val (.int (5 : Int32)), .val (.int p10), .val (.int p11), .val (.int (3 : Int32)), .val (.int p12), .unset] []) (plainFor_of_name pn_2) (fun m => by first | (simp [entryFrame, mkF, argsToLocals, Value.category]; done) | rfl) ?_
  intro p e s m below meth c s₁ B X0
  have K : Keep h0 h0 [] := Keep.refl h0 _
  refine own_iloadN (pc' := 1) B X0 d13_0 rfl rfl ?_
  refine own_iload (pc' := 3) B X0 d13_1 rfl rfl ?_
  refine own_icmpNo (pc' := 6) B X0 d13_3 (flt (by decide : ¬ ((5 : Int32) < (3 : Int32)))).1 rfl ?_
  refine own_iloadN (pc' := 7) B X0 d13_6 rfl rfl ?_
  refine own_iload (pc' := 9) B X0 d13_7 rfl rfl ?_
  refine own_iconst (pc' := 10) B X0 (z := (4 : Int32)) d13_9 rfl rfl ?_
  refine own_iadd (pc' := 11) B X0 (z := (7 : Int32)) d13_10 rfl (by decide) ?_
  refine own_icmpNo (pc' := 14) B X0 d13_11 (tlt (by decide : (5 : Int32) < (7 : Int32))).2.1 rfl ?_
  refine own_iload (pc' := 16) B X0 d13_14 rfl rfl ?_
  refine own_bipush (pc' := 18) B X0 (z := (24 : Int32)) d13_16 rfl (by decide) ?_
  refine own_bipush (pc' := 20) B X0 (z := (8 : Int32)) d13_18 rfl (by decide) ?_
  refine own_iloadN (pc' := 21) B X0 d13_20 rfl rfl ?_
  refine own_iload (pc' := 23) B X0 d13_21 rfl rfl ?_
  refine own_isub (pc' := 24) B X0 (z := (2 : Int32)) d13_23 rfl (by decide) ?_
  refine own_imul (pc' := 25) B X0 (z := (16 : Int32)) d13_24 rfl (by decide) ?_
  refine own_isub (pc' := 26) B X0 (z := (8 : Int32)) d13_25 rfl (by decide) ?_
  refine own_iushr (pc' := 27) B X0 d13_26 rfl hp13 ?_
  refine own_istore (pc' := 29) B X0 (Ls' := #[.val (.ref w0), .val (.int (5 : Int32)), .val (.int p10), .val (.int p11), .val (.int (3 : Int32)), .val (.int p12), .val (.int p18)]) d13_27 rfl rfl ?_
  refine own_goto (pc' := 64) B X0 d13_29 (by decide) rfl ?_
  refine own_aloadN (pc' := 65) B X0 d13_64 rfl rfl rfl ?_
  refine own_iloadN (pc' := 66) B X0 d13_65 rfl rfl ?_
  refine own_baload (pc' := 67) B X0 V_w0 (v := (.int p7)) ⟨by decide, by decide⟩ rfl d13_66 rfl ?_
  refine own_iload (pc' := 69) B X0 d13_67 rfl rfl ?_
  refine own_i2b (pc' := 70) B X0 d13_69 rfl hp6 ?_
  refine own_icmpNo (pc' := 73) B X0 d13_70 (teq rfl).2 rfl ?_
  refine own_iconst (pc' := 74) B X0 (z := (1 : Int32)) d13_73 rfl rfl ?_
  refine own_goto (pc' := 78) B X0 d13_74 (by decide) rfl ?_
  exact own_retN B X0 (t := .boolean) (z' := (1 : Int32)) (by simp) (by decide) d13_78 (by decide) (by decide) (⟨rfl, rfl⟩)
def Q_68 (Z : State) (w0 : Addr) (kw0 : ClassId) (p2 : Int32) (p3 : Int32) (p4 : Int32) (p5 : Int32) (p6 : Int32) (p7 : Int32) (p8 : Int32) (p9 : Int32) (p10 : Int32) (p11 : Int32) (p12 : Int32) (p13 : Int32) (p14 : Int32) (p15 : Int32) (p16 : Int32) (p17 : Int32) (p18 : Int32) (h0 : Heap) (n0 : Nat) (v : Option Value) (h : Heap) : Prop :=
  (v = some (.int (1 : Int32)) ∧ h0 = h)
set_option maxRecDepth 65536 in
set_option maxHeartbeats 40000000 in
theorem rm_68 (l : Launch) (Z : State) (a0 : Array Value) (hw : ∀ d ∈ tables_1, d.before a0 Z = true) (ws : List Jvm.Cond) (w0 : Addr) (kw0 : ClassId) (p2 : Int32) (p3 : Int32) (p4 : Int32) (p5 : Int32) (p6 : Int32) (p7 : Int32) (p8 : Int32) (p9 : Int32) (p10 : Int32) (p11 : Int32) (p12 : Int32) (p13 : Int32) (p14 : Int32) (p15 : Int32) (p16 : Int32) (p17 : Int32) (p18 : Int32) (h0 : Heap) (n0 : Nat) (Z0 : n0 ≤ h0.size) (E_w0 : Exa Z h0 w0 "[B") (V_w0 : Arv Z h0 w0 kw0 .byte (8 : Int32) [(.int p2), (.int p3), (.int p4), (.int p5), (.int p6), (.int p7), (.int p8), (.int p9)] (.int (0 : Int32))) (g_w0 : n0 ≤ w0) (hp0 : p13.toInt8.toInt32 = p2) (hp1 : p14.toInt8.toInt32 = p3) (hp2 : p15.toInt8.toInt32 = p4) (hp3 : p11.toInt8.toInt32 = p9) (hp4 : p16.toInt8.toInt32 = p5) (hp5 : p17.toInt8.toInt32 = p6) (hp6 : p18.toInt8.toInt32 = p7) (hp7 : p12.toInt8.toInt32 = p8) (hp8 : (p10.toUInt32 >>> ((16 : Int32) &&& 31).toUInt32).toInt32 = p14) (hp9 : (p14.toUInt32 >>> ((8 : Int32) &&& 31).toUInt32).toInt32 = p13) (hp10 : (p10.toUInt32 >>> ((8 : Int32) &&& 31).toUInt32).toInt32 = p15) (hp11 : (p12.toUInt32 >>> ((16 : Int32) &&& 31).toUInt32).toInt32 = p17) (hp12 : (p17.toUInt32 >>> ((8 : Int32) &&& 31).toUInt32).toInt32 = p16) (hp13 : (p12.toUInt32 >>> ((8 : Int32) &&& 31).toUInt32).toInt32 = p18) :
    MetFree l (⟨"demitasse/interp/BytesU4AtPinLaw", "ok", "([BIIIII)Z"⟩ : MethodName) (head1 (Jvm.Cond.code (⟨"demitasse/interp/BytesU4AtPinLaw", "ok", "([BIIIII)Z"⟩ : MethodName) method_3_code 7 (some .boolean) :: ws) ({ frames := 0, cells := 0, slots := 0, locals := 0 } : Room)) (fun a U => a = #[(.ref w0), (.int (6 : Int32)), (.int p10), (.int p11), (.int (3 : Int32)), (.int p12)] ∧ Z.Warmed39 U.vm ∧ U.heap = h0) (fun _ _ _ _ _ => True) (fun _ U o U' => ∃ v L, o = .returned v ∧ (Fr n0 L ∧ Q_68 Z w0 kw0 p2 p3 p4 p5 p6 p7 p8 p9 p10 p11 p12 p13 p14 p15 p16 p17 p18 h0 n0 v U'.heap) ∧ FrameEnd U o U' L ({ frames := 0, cells := 0, slots := 0, locals := 0 } : Room).cells ({ frames := 0, cells := 0, slots := 0, locals := 0 } : Room).slots) := by
  refine own_enter (Q := Q_68 Z w0 kw0 p2 p3 p4 p5 p6 p7 p8 p9 p10 p11 p12 p13 p14 p15 p16 p17 p18 h0 n0) (F := fun m => mkF m 0 #[.val (.ref w0), .val (.int (6 : Int32)), .val (.int p10), .val (.int p11), .val (.int (3 : Int32)), .val (.int p12), .unset] []) (plainFor_of_name pn_2) (fun m => by first | (simp [entryFrame, mkF, argsToLocals, Value.category]; done) | rfl) ?_
  intro p e s m below meth c s₁ B X0
  have K : Keep h0 h0 [] := Keep.refl h0 _
  refine own_iloadN (pc' := 1) B X0 d13_0 rfl rfl ?_
  refine own_iload (pc' := 3) B X0 d13_1 rfl rfl ?_
  refine own_icmpNo (pc' := 6) B X0 d13_3 (flt (by decide : ¬ ((6 : Int32) < (3 : Int32)))).1 rfl ?_
  refine own_iloadN (pc' := 7) B X0 d13_6 rfl rfl ?_
  refine own_iload (pc' := 9) B X0 d13_7 rfl rfl ?_
  refine own_iconst (pc' := 10) B X0 (z := (4 : Int32)) d13_9 rfl rfl ?_
  refine own_iadd (pc' := 11) B X0 (z := (7 : Int32)) d13_10 rfl (by decide) ?_
  refine own_icmpNo (pc' := 14) B X0 d13_11 (tlt (by decide : (6 : Int32) < (7 : Int32))).2.1 rfl ?_
  refine own_iload (pc' := 16) B X0 d13_14 rfl rfl ?_
  refine own_bipush (pc' := 18) B X0 (z := (24 : Int32)) d13_16 rfl (by decide) ?_
  refine own_bipush (pc' := 20) B X0 (z := (8 : Int32)) d13_18 rfl (by decide) ?_
  refine own_iloadN (pc' := 21) B X0 d13_20 rfl rfl ?_
  refine own_iload (pc' := 23) B X0 d13_21 rfl rfl ?_
  refine own_isub (pc' := 24) B X0 (z := (3 : Int32)) d13_23 rfl (by decide) ?_
  refine own_imul (pc' := 25) B X0 (z := (24 : Int32)) d13_24 rfl (by decide) ?_
  refine own_isub (pc' := 26) B X0 (z := (0 : Int32)) d13_25 rfl (by decide) ?_
  refine own_iushr (pc' := 27) B X0 d13_26 rfl (own_ush0 _) ?_
  refine own_istore (pc' := 29) B X0 (Ls' := #[.val (.ref w0), .val (.int (6 : Int32)), .val (.int p10), .val (.int p11), .val (.int (3 : Int32)), .val (.int p12), .val (.int p12)]) d13_27 rfl rfl ?_
  refine own_goto (pc' := 64) B X0 d13_29 (by decide) rfl ?_
  refine own_aloadN (pc' := 65) B X0 d13_64 rfl rfl rfl ?_
  refine own_iloadN (pc' := 66) B X0 d13_65 rfl rfl ?_
  refine own_baload (pc' := 67) B X0 V_w0 (v := (.int p8)) ⟨by decide, by decide⟩ rfl d13_66 rfl ?_
  refine own_iload (pc' := 69) B X0 d13_67 rfl rfl ?_
  refine own_i2b (pc' := 70) B X0 d13_69 rfl hp7 ?_
  refine own_icmpNo (pc' := 73) B X0 d13_70 (teq rfl).2 rfl ?_
  refine own_iconst (pc' := 74) B X0 (z := (1 : Int32)) d13_73 rfl rfl ?_
  refine own_goto (pc' := 78) B X0 d13_74 (by decide) rfl ?_
  exact own_retN B X0 (t := .boolean) (z' := (1 : Int32)) (by simp) (by decide) d13_78 (by decide) (by decide) (⟨rfl, rfl⟩)
def Q_69 (Z : State) (w0 : Addr) (kw0 : ClassId) (p2 : Int32) (p3 : Int32) (p4 : Int32) (p5 : Int32) (p6 : Int32) (p7 : Int32) (p8 : Int32) (p9 : Int32) (p10 : Int32) (p11 : Int32) (p12 : Int32) (p13 : Int32) (p14 : Int32) (p15 : Int32) (p16 : Int32) (p17 : Int32) (p18 : Int32) (h0 : Heap) (n0 : Nat) (v : Option Value) (h : Heap) : Prop :=
  (v = some (.int (1 : Int32)) ∧ h0 = h)
set_option maxRecDepth 65536 in
set_option maxHeartbeats 40000000 in
theorem rm_69 (l : Launch) (Z : State) (a0 : Array Value) (hw : ∀ d ∈ tables_1, d.before a0 Z = true) (ws : List Jvm.Cond) (w0 : Addr) (kw0 : ClassId) (p2 : Int32) (p3 : Int32) (p4 : Int32) (p5 : Int32) (p6 : Int32) (p7 : Int32) (p8 : Int32) (p9 : Int32) (p10 : Int32) (p11 : Int32) (p12 : Int32) (p13 : Int32) (p14 : Int32) (p15 : Int32) (p16 : Int32) (p17 : Int32) (p18 : Int32) (h0 : Heap) (n0 : Nat) (Z0 : n0 ≤ h0.size) (E_w0 : Exa Z h0 w0 "[B") (V_w0 : Arv Z h0 w0 kw0 .byte (8 : Int32) [(.int p2), (.int p3), (.int p4), (.int p5), (.int p6), (.int p7), (.int p8), (.int p9)] (.int (0 : Int32))) (g_w0 : n0 ≤ w0) (hp0 : p13.toInt8.toInt32 = p2) (hp1 : p14.toInt8.toInt32 = p3) (hp2 : p15.toInt8.toInt32 = p4) (hp3 : p11.toInt8.toInt32 = p9) (hp4 : p16.toInt8.toInt32 = p5) (hp5 : p17.toInt8.toInt32 = p6) (hp6 : p18.toInt8.toInt32 = p7) (hp7 : p12.toInt8.toInt32 = p8) (hp8 : (p10.toUInt32 >>> ((16 : Int32) &&& 31).toUInt32).toInt32 = p14) (hp9 : (p14.toUInt32 >>> ((8 : Int32) &&& 31).toUInt32).toInt32 = p13) (hp10 : (p10.toUInt32 >>> ((8 : Int32) &&& 31).toUInt32).toInt32 = p15) (hp11 : (p12.toUInt32 >>> ((16 : Int32) &&& 31).toUInt32).toInt32 = p17) (hp12 : (p17.toUInt32 >>> ((8 : Int32) &&& 31).toUInt32).toInt32 = p16) (hp13 : (p12.toUInt32 >>> ((8 : Int32) &&& 31).toUInt32).toInt32 = p18) :
    MetFree l (⟨"demitasse/interp/BytesU4AtPinLaw", "ok", "([BIIIII)Z"⟩ : MethodName) (head1 (Jvm.Cond.code (⟨"demitasse/interp/BytesU4AtPinLaw", "ok", "([BIIIII)Z"⟩ : MethodName) method_3_code 7 (some .boolean) :: ws) ({ frames := 0, cells := 0, slots := 0, locals := 0 } : Room)) (fun a U => a = #[(.ref w0), (.int (7 : Int32)), (.int p10), (.int p11), (.int (3 : Int32)), (.int p12)] ∧ Z.Warmed39 U.vm ∧ U.heap = h0) (fun _ _ _ _ _ => True) (fun _ U o U' => ∃ v L, o = .returned v ∧ (Fr n0 L ∧ Q_69 Z w0 kw0 p2 p3 p4 p5 p6 p7 p8 p9 p10 p11 p12 p13 p14 p15 p16 p17 p18 h0 n0 v U'.heap) ∧ FrameEnd U o U' L ({ frames := 0, cells := 0, slots := 0, locals := 0 } : Room).cells ({ frames := 0, cells := 0, slots := 0, locals := 0 } : Room).slots) := by
  refine own_enter (Q := Q_69 Z w0 kw0 p2 p3 p4 p5 p6 p7 p8 p9 p10 p11 p12 p13 p14 p15 p16 p17 p18 h0 n0) (F := fun m => mkF m 0 #[.val (.ref w0), .val (.int (7 : Int32)), .val (.int p10), .val (.int p11), .val (.int (3 : Int32)), .val (.int p12), .unset] []) (plainFor_of_name pn_2) (fun m => by first | (simp [entryFrame, mkF, argsToLocals, Value.category]; done) | rfl) ?_
  intro p e s m below meth c s₁ B X0
  have K : Keep h0 h0 [] := Keep.refl h0 _
  refine own_iloadN (pc' := 1) B X0 d13_0 rfl rfl ?_
  refine own_iload (pc' := 3) B X0 d13_1 rfl rfl ?_
  refine own_icmpNo (pc' := 6) B X0 d13_3 (flt (by decide : ¬ ((7 : Int32) < (3 : Int32)))).1 rfl ?_
  refine own_iloadN (pc' := 7) B X0 d13_6 rfl rfl ?_
  refine own_iload (pc' := 9) B X0 d13_7 rfl rfl ?_
  refine own_iconst (pc' := 10) B X0 (z := (4 : Int32)) d13_9 rfl rfl ?_
  refine own_iadd (pc' := 11) B X0 (z := (7 : Int32)) d13_10 rfl (by decide) ?_
  refine own_icmpYes (pc' := 32) B X0 d13_11 (flt (by decide : ¬ ((7 : Int32) < (7 : Int32)))).2.1 (by decide) rfl ?_
  refine own_iloadN (pc' := 33) B X0 d13_32 rfl rfl ?_
  refine own_iconst (pc' := 34) B X0 (z := (4 : Int32)) d13_33 rfl rfl ?_
  refine own_icmpYes (pc' := 51) B X0 d13_34 (flt (by decide : ¬ ((7 : Int32) < (4 : Int32)))).2.1 (by decide) rfl ?_
  refine own_iloadN (pc' := 52) B X0 d13_51 rfl rfl ?_
  refine own_bipush (pc' := 54) B X0 (z := (24 : Int32)) d13_52 rfl (by decide) ?_
  refine own_bipush (pc' := 56) B X0 (z := (8 : Int32)) d13_54 rfl (by decide) ?_
  refine own_iloadN (pc' := 57) B X0 d13_56 rfl rfl ?_
  refine own_iconst (pc' := 58) B X0 (z := (4 : Int32)) d13_57 rfl rfl ?_
  refine own_isub (pc' := 59) B X0 (z := (3 : Int32)) d13_58 rfl (by decide) ?_
  refine own_imul (pc' := 60) B X0 (z := (24 : Int32)) d13_59 rfl (by decide) ?_
  refine own_isub (pc' := 61) B X0 (z := (0 : Int32)) d13_60 rfl (by decide) ?_
  refine own_iushr (pc' := 62) B X0 d13_61 rfl (own_ush0 _) ?_
  refine own_istore (pc' := 64) B X0 (Ls' := #[.val (.ref w0), .val (.int (7 : Int32)), .val (.int p10), .val (.int p11), .val (.int (3 : Int32)), .val (.int p12), .val (.int p11)]) d13_62 rfl rfl ?_
  refine own_aloadN (pc' := 65) B X0 d13_64 rfl rfl rfl ?_
  refine own_iloadN (pc' := 66) B X0 d13_65 rfl rfl ?_
  refine own_baload (pc' := 67) B X0 V_w0 (v := (.int p9)) ⟨by decide, by decide⟩ rfl d13_66 rfl ?_
  refine own_iload (pc' := 69) B X0 d13_67 rfl rfl ?_
  refine own_i2b (pc' := 70) B X0 d13_69 rfl hp3 ?_
  refine own_icmpNo (pc' := 73) B X0 d13_70 (teq rfl).2 rfl ?_
  refine own_iconst (pc' := 74) B X0 (z := (1 : Int32)) d13_73 rfl rfl ?_
  refine own_goto (pc' := 78) B X0 d13_74 (by decide) rfl ?_
  exact own_retN B X0 (t := .boolean) (z' := (1 : Int32)) (by simp) (by decide) d13_78 (by decide) (by decide) (⟨rfl, rfl⟩)
def Q_71 (Z : State) (w0 : Addr) (w1 : Addr) (kw1 : ClassId) (p3 : Int32) (p4 : Int32) (p5 : Int32) (p6 : Int32) (p7 : Int32) (p8 : Int32) (p9 : Int32) (p10 : Int32) (p11 : Int32) (h0 : Heap) (n0 : Nat) (v : Option Value) (h : Heap) : Prop :=
  (∃ (y2 : Int32) (y3 : Int32) (y6 : Int32), (p11.toUInt32 >>> ((8 : Int32) &&& 31).toUInt32).toInt32 = y2 ∧ y2.toInt8.toInt32 = y3 ∧ p11.toInt8.toInt32 = y6 ∧ v = none ∧ Keep h0 h [w1] ∧ Exa Z h w1 "[B" ∧ Arv Z h w1 kw1 .byte (64 : Int32) [(.int p3), (.int p4), (.int p5), (.int p6), (.int p7), (.int p8), (.int y3), (.int y6)] (.int (0 : Int32)))
set_option maxRecDepth 65536 in
set_option maxHeartbeats 40000000 in
theorem rm_71 (l : Launch) (Z : State) (a0 : Array Value) (hw : ∀ d ∈ tables_1, d.before a0 Z = true) (ws : List Jvm.Cond) (w0 : Addr) (w1 : Addr) (kw1 : ClassId) (p3 : Int32) (p4 : Int32) (p5 : Int32) (p6 : Int32) (p7 : Int32) (p8 : Int32) (p9 : Int32) (p10 : Int32) (p11 : Int32) (h0 : Heap) (n0 : Nat) (Z0 : n0 ≤ h0.size) (E_w0 : Exa Z h0 w0 "demitasse/interp/Bytes") (F_w0_bytes : Fld Z h0 w0 "demitasse/interp/Bytes" "bytes" "[B" (.ref w1)) (F_w0_length : Fld Z h0 w0 "demitasse/interp/Bytes" "length" "I" (.int (8 : Int32))) (g_w0 : n0 ≤ w0) (E_w1 : Exa Z h0 w1 "[B") (V_w1 : Arv Z h0 w1 kw1 .byte (64 : Int32) [(.int p3), (.int p4), (.int p5), (.int p6), (.int p7), (.int p8), (.int p9), (.int p10)] (.int (0 : Int32))) (g_w1 : n0 ≤ w1) (ne_w0_w1 : w0 ≠ w1) :
    MetFree l (⟨"demitasse/interp/Bytes", "u2At", "(II)V"⟩ : MethodName) (head1 (Jvm.Cond.code (⟨"demitasse/interp/Bytes", "u2At", "(II)V"⟩ : MethodName) prog_64_method_6_code 3 none :: ws) ({ frames := 0, cells := 0, slots := 0, locals := 0 } : Room)) (fun a U => a = #[(.ref w0), (.int (6 : Int32)), (.int p11)] ∧ Z.Warmed39 U.vm ∧ U.heap = h0) (fun _ _ _ _ _ => True) (fun _ U o U' => ∃ v L, o = .returned v ∧ (Fr n0 L ∧ Q_71 Z w0 w1 kw1 p3 p4 p5 p6 p7 p8 p9 p10 p11 h0 n0 v U'.heap) ∧ FrameEnd U o U' L ({ frames := 0, cells := 0, slots := 0, locals := 0 } : Room).cells ({ frames := 0, cells := 0, slots := 0, locals := 0 } : Room).slots) := by
  refine own_enter (Q := Q_71 Z w0 w1 kw1 p3 p4 p5 p6 p7 p8 p9 p10 p11 h0 n0) (F := fun m => mkF m 0 #[.val (.ref w0), .val (.int (6 : Int32)), .val (.int p11)] []) (plainFor_of_name pn_0) (fun m => by first | (simp [entryFrame, mkF, argsToLocals, Value.category]; done) | rfl) ?_
  intro p e s m below meth c s₁ B X0
  have K : Keep h0 h0 [w1] := Keep.refl h0 _
  refine own_aloadN (pc' := 1) B X0 d8_0 rfl rfl rfl ?_
  refine own_getfield (pc' := 4) B X0 (host := "") (Or.inl (own_w hw 11 rfl)) Via.refl F_w0_bytes d8_1 rfl ?_
  intro T1 X1
  refine own_iloadN (pc' := 5) B X1 d8_4 rfl rfl ?_
  refine own_iloadN (pc' := 6) B X1 d8_5 rfl rfl ?_
  refine own_bipush (pc' := 8) B X1 (z := (8 : Int32)) d8_6 rfl (by decide) ?_
  obtain ⟨y2, hy2⟩ : ∃ z : Int32, (p11.toUInt32 >>> ((8 : Int32) &&& 31).toUInt32).toInt32 = z := ⟨_, rfl⟩
  refine own_iushr (pc' := 9) B X1 d8_8 rfl hy2 ?_
  obtain ⟨y3, hy3⟩ : ∃ z : Int32, y2.toInt8.toInt32 = z := ⟨_, rfl⟩
  refine own_i2b (pc' := 10) B X1 d8_9 rfl hy3 ?_
  refine own_bastore (pc' := 11) B X1 (x' := y3) V_w1 g_w1 ⟨by decide, by decide⟩ 6 (by decide) (Nat.le_of_ble_eq_true rfl) (own_idem_i2b hy3) d8_10 rfl ?_
  intro T4 h4 X4 W4 V_w1
  replace V_w1 : Arv Z h4 w1 kw1 .byte (64 : Int32) [(.int p3), (.int p4), (.int p5), (.int p6), (.int p7), (.int p8), (.int y3), (.int p10)] (.int (0 : Int32)) := V_w1
  replace E_w0 := E_w0.wr W4
  replace F_w0_bytes := F_w0_bytes.other W4 (Or.inl ne_w0_w1)
  replace F_w0_length := F_w0_length.other W4 (Or.inl ne_w0_w1)
  replace E_w1 := E_w1.wr W4
  replace K := K.wr W4 (Or.inl (List.mem_of_getElem? (i := 0) rfl))
  refine own_aloadN (pc' := 12) B X4 d8_11 rfl rfl rfl ?_
  refine own_getfield (pc' := 15) B X4 (host := "") (Or.inl (own_w hw 11 rfl)) Via.refl F_w0_bytes d8_12 rfl ?_
  intro T5 X5
  refine own_iloadN (pc' := 16) B X5 d8_15 rfl rfl ?_
  refine own_iconst (pc' := 17) B X5 (z := (1 : Int32)) d8_16 rfl rfl ?_
  refine own_iadd (pc' := 18) B X5 (z := (7 : Int32)) d8_17 rfl (by decide) ?_
  refine own_iloadN (pc' := 19) B X5 d8_18 rfl rfl ?_
  obtain ⟨y6, hy6⟩ : ∃ z : Int32, p11.toInt8.toInt32 = z := ⟨_, rfl⟩
  refine own_i2b (pc' := 20) B X5 d8_19 rfl hy6 ?_
  refine own_bastore (pc' := 21) B X5 (x' := y6) V_w1 g_w1 ⟨by decide, by decide⟩ 7 (by decide) (Nat.le_of_ble_eq_true rfl) (own_idem_i2b hy6) d8_20 rfl ?_
  intro T7 h7 X7 W7 V_w1
  replace V_w1 : Arv Z h7 w1 kw1 .byte (64 : Int32) [(.int p3), (.int p4), (.int p5), (.int p6), (.int p7), (.int p8), (.int y3), (.int y6)] (.int (0 : Int32)) := V_w1
  replace E_w0 := E_w0.wr W7
  replace F_w0_bytes := F_w0_bytes.other W7 (Or.inl ne_w0_w1)
  replace F_w0_length := F_w0_length.other W7 (Or.inl ne_w0_w1)
  replace E_w1 := E_w1.wr W7
  replace K := K.wr W7 (Or.inl (List.mem_of_getElem? (i := 0) rfl))
  exact own_ret B X7 d8_21 (by decide) (by decide) (⟨y2, y3, y6, hy2, hy3, hy6, rfl, K, E_w1, V_w1⟩)
def Q_70 (Z : State) (w0 : Addr) (w1 : Addr) (kw1 : ClassId) (p3 : Int32) (p4 : Int32) (p5 : Int32) (p6 : Int32) (p7 : Int32) (p8 : Int32) (p9 : Int32) (p10 : Int32) (p11 : Int32) (h0 : Heap) (n0 : Nat) (v : Option Value) (h : Heap) : Prop :=
  (∃ (y1 : Int32) (y3 : Int32) (y4 : Int32) (y5 : Int32) (y10 : Int32) (y11 : Int32) (y12 : Int32), (p11.toUInt32 >>> ((16 : Int32) &&& 31).toUInt32).toInt32 = y1 ∧ (y1.toUInt32 >>> ((8 : Int32) &&& 31).toUInt32).toInt32 = y3 ∧ y3.toInt8.toInt32 = y4 ∧ y1.toInt8.toInt32 = y5 ∧ (p11.toUInt32 >>> ((8 : Int32) &&& 31).toUInt32).toInt32 = y10 ∧ y10.toInt8.toInt32 = y11 ∧ p11.toInt8.toInt32 = y12 ∧ v = none ∧ Keep h0 h [w1] ∧ Exa Z h w1 "[B" ∧ Arv Z h w1 kw1 .byte (64 : Int32) [(.int p3), (.int p4), (.int p5), (.int p6), (.int y4), (.int y5), (.int y11), (.int y12)] (.int (0 : Int32)))
set_option maxRecDepth 65536 in
set_option maxHeartbeats 40000000 in
theorem rm_70 (l : Launch) (Z : State) (a0 : Array Value) (hw : ∀ d ∈ tables_1, d.before a0 Z = true) (ws : List Jvm.Cond) (w0 : Addr) (w1 : Addr) (kw1 : ClassId) (p3 : Int32) (p4 : Int32) (p5 : Int32) (p6 : Int32) (p7 : Int32) (p8 : Int32) (p9 : Int32) (p10 : Int32) (p11 : Int32) (h0 : Heap) (n0 : Nat) (Z0 : n0 ≤ h0.size) (E_w0 : Exa Z h0 w0 "demitasse/interp/Bytes") (F_w0_bytes : Fld Z h0 w0 "demitasse/interp/Bytes" "bytes" "[B" (.ref w1)) (F_w0_length : Fld Z h0 w0 "demitasse/interp/Bytes" "length" "I" (.int (8 : Int32))) (g_w0 : n0 ≤ w0) (E_w1 : Exa Z h0 w1 "[B") (V_w1 : Arv Z h0 w1 kw1 .byte (64 : Int32) [(.int p3), (.int p4), (.int p5), (.int p6), (.int p7), (.int p8), (.int p9), (.int p10)] (.int (0 : Int32))) (g_w1 : n0 ≤ w1) (ne_w0_w1 : w0 ≠ w1) :
    MetFree l (⟨"demitasse/interp/Bytes", "u4At", "(II)V"⟩ : MethodName) (head1 (Jvm.Cond.code (⟨"demitasse/interp/Bytes", "u4At", "(II)V"⟩ : MethodName) prog_64_method_7_code 3 none :: ws) ({ frames := 1, cells := 0, slots := 0, locals := 14 } : Room)) (fun a U => a = #[(.ref w0), (.int (4 : Int32)), (.int p11)] ∧ Z.Warmed39 U.vm ∧ U.heap = h0) (fun _ _ _ _ _ => True) (fun _ U o U' => ∃ v L, o = .returned v ∧ (Fr n0 L ∧ Q_70 Z w0 w1 kw1 p3 p4 p5 p6 p7 p8 p9 p10 p11 h0 n0 v U'.heap) ∧ FrameEnd U o U' L ({ frames := 1, cells := 0, slots := 0, locals := 14 } : Room).cells ({ frames := 1, cells := 0, slots := 0, locals := 14 } : Room).slots) := by
  refine own_enter (Q := Q_70 Z w0 w1 kw1 p3 p4 p5 p6 p7 p8 p9 p10 p11 h0 n0) (F := fun m => mkF m 0 #[.val (.ref w0), .val (.int (4 : Int32)), .val (.int p11)] []) (plainFor_of_name pn_0) (fun m => by first | (simp [entryFrame, mkF, argsToLocals, Value.category]; done) | rfl) ?_
  intro p e s m below meth c s₁ B X0
  have K : Keep h0 h0 [w1] := Keep.refl h0 _
  refine own_aloadN (pc' := 1) B X0 d7_0 rfl rfl rfl ?_
  refine own_iloadN (pc' := 2) B X0 d7_1 rfl rfl ?_
  refine own_iloadN (pc' := 3) B X0 d7_2 rfl rfl ?_
  refine own_bipush (pc' := 5) B X0 (z := (16 : Int32)) d7_3 rfl (by decide) ?_
  obtain ⟨y1, hy1⟩ : ∃ z : Int32, (p11.toUInt32 >>> ((16 : Int32) &&& 31).toUInt32).toInt32 = z := ⟨_, rfl⟩
  refine own_iushr (pc' := 6) B X0 d7_5 rfl hy1 ?_
  refine own_callV (pc' := 9) B X0 (own_w hw 39 rfl) (own_w hw 40 rfl) (own_w hw 42 rfl) (own_w hw 41 rfl) (own_w hw 3 rfl) (own_w hw 43 rfl) E_w0 (by decide) [(.int (4 : Int32)), (.int y1)] [] (rm_51 l Z a0 hw [] w0 w1 kw1 (p3) (p4) (p5) (p6) (p7) (p8) (p9) (p10) (y1) h0 n0 (Nat.le_trans Z0 K.1) E_w0 F_w0_bytes F_w0_length g_w0 E_w1 V_w1 g_w1 ne_w0_w1) 0 (by decide) (by decide) rfl pd_2 rfl rfl (Nat.le_of_eq rfl) d7_6 rfl (k' := 0) (n' := 0) rfl rfl (by decide) (by decide) ?_
  intro T2 v2 h2 X2 q2
  obtain ⟨y3, y4, y5, hy6, hy7, hy8, rfl, K2, E_w1, V_w1⟩ := q2
  replace K := K.trans K2 (allS (Or.inl (List.mem_of_getElem? (i := 0) rfl)) all0)
  replace E_w0 := E_w0.keep K2
  replace F_w0_bytes := F_w0_bytes.keep K2 (ninS ne_w0_w1 nin0)
  replace F_w0_length := F_w0_length.keep K2 (ninS ne_w0_w1 nin0)
  show own_Go p e below (T2.setTop (mkF m 9 #[.val (.ref w0), .val (.int (4 : Int32)), .val (.int p11)] [])) _
  refine own_aloadN (pc' := 10) B X2 d7_9 rfl rfl rfl ?_
  refine own_iloadN (pc' := 11) B X2 d7_10 rfl rfl ?_
  refine own_iconst (pc' := 12) B X2 (z := (2 : Int32)) d7_11 rfl rfl ?_
  refine own_iadd (pc' := 13) B X2 (z := (6 : Int32)) d7_12 rfl (by decide) ?_
  refine own_iloadN (pc' := 14) B X2 d7_13 rfl rfl ?_
  refine own_callV (pc' := 17) B X2 (own_w hw 39 rfl) (own_w hw 40 rfl) (own_w hw 42 rfl) (own_w hw 41 rfl) (own_w hw 3 rfl) (own_w hw 43 rfl) E_w0 (by decide) [(.int (6 : Int32)), (.int p11)] [] (rm_71 l Z a0 hw [] w0 w1 kw1 (p3) (p4) (p5) (p6) (y4) (y5) (p9) (p10) (p11) h2 n0 (Nat.le_trans Z0 K.1) E_w0 F_w0_bytes F_w0_length g_w0 E_w1 V_w1 g_w1 ne_w0_w1) 0 (by decide) (by decide) rfl pd_2 rfl rfl (Nat.le_of_eq rfl) d7_14 rfl (k' := 0) (n' := 0) rfl rfl (by decide) (by decide) ?_
  intro T9 v9 h9 X9 q9
  obtain ⟨y10, y11, y12, hy13, hy14, hy15, rfl, K9, E_w1, V_w1⟩ := q9
  replace K := K.trans K9 (allS (Or.inl (List.mem_of_getElem? (i := 0) rfl)) all0)
  replace E_w0 := E_w0.keep K9
  replace F_w0_bytes := F_w0_bytes.keep K9 (ninS ne_w0_w1 nin0)
  replace F_w0_length := F_w0_length.keep K9 (ninS ne_w0_w1 nin0)
  show own_Go p e below (T9.setTop (mkF m 17 #[.val (.ref w0), .val (.int (4 : Int32)), .val (.int p11)] [])) _
  exact own_ret B X9 d7_17 (by decide) (by decide) (⟨y1, y3, y4, y5, y10, y11, y12, hy1, hy6, hy7, hy8, hy13, hy14, hy15, rfl, K, E_w1, V_w1⟩)
def Q_72 (Z : State) (w0 : Addr) (kw0 : ClassId) (p2 : Int32) (p3 : Int32) (p4 : Int32) (p5 : Int32) (p6 : Int32) (p7 : Int32) (p8 : Int32) (p9 : Int32) (p10 : Int32) (p11 : Int32) (p12 : Int32) (p13 : Int32) (p14 : Int32) (p15 : Int32) (p16 : Int32) (p17 : Int32) (p18 : Int32) (h0 : Heap) (n0 : Nat) (v : Option Value) (h : Heap) : Prop :=
  (∃ (y1 : Int32) (y2 : Int32), (p10.toUInt32 >>> ((24 : Int32) &&& 31).toUInt32).toInt32 = y1 ∧ y1.toInt8.toInt32 = y2 ∧ p2 = y2 ∧ v = some (.int (1 : Int32)) ∧ h0 = h)
set_option maxRecDepth 65536 in
set_option maxHeartbeats 40000000 in
theorem rm_72 (l : Launch) (Z : State) (a0 : Array Value) (hw : ∀ d ∈ tables_1, d.before a0 Z = true) (ws : List Jvm.Cond) (w0 : Addr) (kw0 : ClassId) (p2 : Int32) (p3 : Int32) (p4 : Int32) (p5 : Int32) (p6 : Int32) (p7 : Int32) (p8 : Int32) (p9 : Int32) (p10 : Int32) (p11 : Int32) (p12 : Int32) (p13 : Int32) (p14 : Int32) (p15 : Int32) (p16 : Int32) (p17 : Int32) (p18 : Int32) (h0 : Heap) (n0 : Nat) (Z0 : n0 ≤ h0.size) (E_w0 : Exa Z h0 w0 "[B") (V_w0 : Arv Z h0 w0 kw0 .byte (8 : Int32) [(.int p2), (.int p3), (.int p4), (.int p5), (.int p6), (.int p7), (.int p8), (.int p9)] (.int (0 : Int32))) (g_w0 : n0 ≤ w0) (hp0 : p13.toInt8.toInt32 = p2) (hp1 : p14.toInt8.toInt32 = p3) (hp2 : p15.toInt8.toInt32 = p4) (hp3 : p10.toInt8.toInt32 = p5) (hp4 : p16.toInt8.toInt32 = p6) (hp5 : p17.toInt8.toInt32 = p7) (hp6 : p18.toInt8.toInt32 = p8) (hp7 : p12.toInt8.toInt32 = p9) (hp8 : (p10.toUInt32 >>> ((16 : Int32) &&& 31).toUInt32).toInt32 = p14) (hp9 : (p14.toUInt32 >>> ((8 : Int32) &&& 31).toUInt32).toInt32 = p13) (hp10 : (p10.toUInt32 >>> ((8 : Int32) &&& 31).toUInt32).toInt32 = p15) (hp11 : (p12.toUInt32 >>> ((16 : Int32) &&& 31).toUInt32).toInt32 = p17) (hp12 : (p17.toUInt32 >>> ((8 : Int32) &&& 31).toUInt32).toInt32 = p16) (hp13 : (p12.toUInt32 >>> ((8 : Int32) &&& 31).toUInt32).toInt32 = p18) :
    MetFree l (⟨"demitasse/interp/BytesU4AtPinLaw", "ok", "([BIIIII)Z"⟩ : MethodName) (head1 (Jvm.Cond.code (⟨"demitasse/interp/BytesU4AtPinLaw", "ok", "([BIIIII)Z"⟩ : MethodName) method_3_code 7 (some .boolean) :: ws) ({ frames := 0, cells := 0, slots := 0, locals := 0 } : Room)) (fun a U => a = #[(.ref w0), (.int (0 : Int32)), (.int p10), (.int p11), (.int (4 : Int32)), (.int p12)] ∧ Z.Warmed39 U.vm ∧ U.heap = h0) (fun _ _ _ _ _ => True) (fun _ U o U' => ∃ v L, o = .returned v ∧ (Fr n0 L ∧ Q_72 Z w0 kw0 p2 p3 p4 p5 p6 p7 p8 p9 p10 p11 p12 p13 p14 p15 p16 p17 p18 h0 n0 v U'.heap) ∧ FrameEnd U o U' L ({ frames := 0, cells := 0, slots := 0, locals := 0 } : Room).cells ({ frames := 0, cells := 0, slots := 0, locals := 0 } : Room).slots) := by
  refine own_enter (Q := Q_72 Z w0 kw0 p2 p3 p4 p5 p6 p7 p8 p9 p10 p11 p12 p13 p14 p15 p16 p17 p18 h0 n0) (F := fun m => mkF m 0 #[.val (.ref w0), .val (.int (0 : Int32)), .val (.int p10), .val (.int p11), .val (.int (4 : Int32)), .val (.int p12), .unset] []) (plainFor_of_name pn_2) (fun m => by first | (simp [entryFrame, mkF, argsToLocals, Value.category]; done) | rfl) ?_
  intro p e s m below meth c s₁ B X0
  have K : Keep h0 h0 [] := Keep.refl h0 _
  refine own_iloadN (pc' := 1) B X0 d13_0 rfl rfl ?_
  refine own_iload (pc' := 3) B X0 d13_1 rfl rfl ?_
  refine own_icmpYes (pc' := 32) B X0 d13_3 (tlt (by decide : (0 : Int32) < (4 : Int32))).1 (by decide) rfl ?_
  refine own_iloadN (pc' := 33) B X0 d13_32 rfl rfl ?_
  refine own_iconst (pc' := 34) B X0 (z := (4 : Int32)) d13_33 rfl rfl ?_
  refine own_icmpNo (pc' := 37) B X0 d13_34 (tlt (by decide : (0 : Int32) < (4 : Int32))).2.1 rfl ?_
  refine own_iloadN (pc' := 38) B X0 d13_37 rfl rfl ?_
  refine own_bipush (pc' := 40) B X0 (z := (24 : Int32)) d13_38 rfl (by decide) ?_
  refine own_bipush (pc' := 42) B X0 (z := (8 : Int32)) d13_40 rfl (by decide) ?_
  refine own_iloadN (pc' := 43) B X0 d13_42 rfl rfl ?_
  refine own_imul (pc' := 44) B X0 (z := (0 : Int32)) d13_43 rfl (by decide) ?_
  refine own_isub (pc' := 45) B X0 (z := (24 : Int32)) d13_44 rfl (by decide) ?_
  obtain ⟨y1, hy1⟩ : ∃ z : Int32, (p10.toUInt32 >>> ((24 : Int32) &&& 31).toUInt32).toInt32 = z := ⟨_, rfl⟩
  refine own_iushr (pc' := 46) B X0 d13_45 rfl hy1 ?_
  refine own_istore (pc' := 48) B X0 (Ls' := #[.val (.ref w0), .val (.int (0 : Int32)), .val (.int p10), .val (.int p11), .val (.int (4 : Int32)), .val (.int p12), .val (.int y1)]) d13_46 rfl rfl ?_
  refine own_goto (pc' := 64) B X0 d13_48 (by decide) rfl ?_
  refine own_aloadN (pc' := 65) B X0 d13_64 rfl rfl rfl ?_
  refine own_iloadN (pc' := 66) B X0 d13_65 rfl rfl ?_
  refine own_baload (pc' := 67) B X0 V_w0 (v := (.int p2)) ⟨by decide, by decide⟩ rfl d13_66 rfl ?_
  refine own_iload (pc' := 69) B X0 d13_67 rfl rfl ?_
  obtain ⟨y2, hy2⟩ : ∃ z : Int32, y1.toInt8.toInt32 = z := ⟨_, rfl⟩
  refine own_i2b (pc' := 70) B X0 d13_69 rfl hy2 ?_
  have c3 : p2 = y2 := by
    have o0 := own_o_i2b hp0
    have o1 := own_o_iushr hp8 16 (by decide) (by decide)
    have o2 := own_o_iushr hp9 8 (by decide) (by decide)
    have o3 := own_o_iushr hy1 24 (by decide) (by decide)
    have o4 := own_o_i2b hy2
    have o5 := rng32 p10
    have o6 := rng32 p13
    have o7 := rng32 p14
    have o8 := rng32 p2
    have o9 := rng32 y1
    have o10 := rng32 y2
    have o11 : (16 : Int32).toInt = 16 := by decide
    have o12 : (8 : Int32).toInt = 8 := by decide
    have o13 : (24 : Int32).toInt = 24 := by decide
    refine own_eqI ?_
    omega
  refine own_icmpNo (pc' := 73) B X0 d13_70 (teq c3).2 rfl ?_
  refine own_iconst (pc' := 74) B X0 (z := (1 : Int32)) d13_73 rfl rfl ?_
  refine own_goto (pc' := 78) B X0 d13_74 (by decide) rfl ?_
  exact own_retN B X0 (t := .boolean) (z' := (1 : Int32)) (by simp) (by decide) d13_78 (by decide) (by decide) (⟨y1, y2, hy1, hy2, c3, rfl, rfl⟩)
def Q_73 (Z : State) (w0 : Addr) (kw0 : ClassId) (p2 : Int32) (p3 : Int32) (p4 : Int32) (p5 : Int32) (p6 : Int32) (p7 : Int32) (p8 : Int32) (p9 : Int32) (p10 : Int32) (p11 : Int32) (p12 : Int32) (p13 : Int32) (p14 : Int32) (p15 : Int32) (p16 : Int32) (p17 : Int32) (p18 : Int32) (h0 : Heap) (n0 : Nat) (v : Option Value) (h : Heap) : Prop :=
  (v = some (.int (1 : Int32)) ∧ h0 = h)
set_option maxRecDepth 65536 in
set_option maxHeartbeats 40000000 in
theorem rm_73 (l : Launch) (Z : State) (a0 : Array Value) (hw : ∀ d ∈ tables_1, d.before a0 Z = true) (ws : List Jvm.Cond) (w0 : Addr) (kw0 : ClassId) (p2 : Int32) (p3 : Int32) (p4 : Int32) (p5 : Int32) (p6 : Int32) (p7 : Int32) (p8 : Int32) (p9 : Int32) (p10 : Int32) (p11 : Int32) (p12 : Int32) (p13 : Int32) (p14 : Int32) (p15 : Int32) (p16 : Int32) (p17 : Int32) (p18 : Int32) (h0 : Heap) (n0 : Nat) (Z0 : n0 ≤ h0.size) (E_w0 : Exa Z h0 w0 "[B") (V_w0 : Arv Z h0 w0 kw0 .byte (8 : Int32) [(.int p2), (.int p3), (.int p4), (.int p5), (.int p6), (.int p7), (.int p8), (.int p9)] (.int (0 : Int32))) (g_w0 : n0 ≤ w0) (hp0 : p13.toInt8.toInt32 = p2) (hp1 : p14.toInt8.toInt32 = p3) (hp2 : p15.toInt8.toInt32 = p4) (hp3 : p10.toInt8.toInt32 = p5) (hp4 : p16.toInt8.toInt32 = p6) (hp5 : p17.toInt8.toInt32 = p7) (hp6 : p18.toInt8.toInt32 = p8) (hp7 : p12.toInt8.toInt32 = p9) (hp8 : (p10.toUInt32 >>> ((16 : Int32) &&& 31).toUInt32).toInt32 = p14) (hp9 : (p14.toUInt32 >>> ((8 : Int32) &&& 31).toUInt32).toInt32 = p13) (hp10 : (p10.toUInt32 >>> ((8 : Int32) &&& 31).toUInt32).toInt32 = p15) (hp11 : (p12.toUInt32 >>> ((16 : Int32) &&& 31).toUInt32).toInt32 = p17) (hp12 : (p17.toUInt32 >>> ((8 : Int32) &&& 31).toUInt32).toInt32 = p16) (hp13 : (p12.toUInt32 >>> ((8 : Int32) &&& 31).toUInt32).toInt32 = p18) :
    MetFree l (⟨"demitasse/interp/BytesU4AtPinLaw", "ok", "([BIIIII)Z"⟩ : MethodName) (head1 (Jvm.Cond.code (⟨"demitasse/interp/BytesU4AtPinLaw", "ok", "([BIIIII)Z"⟩ : MethodName) method_3_code 7 (some .boolean) :: ws) ({ frames := 0, cells := 0, slots := 0, locals := 0 } : Room)) (fun a U => a = #[(.ref w0), (.int (1 : Int32)), (.int p10), (.int p11), (.int (4 : Int32)), (.int p12)] ∧ Z.Warmed39 U.vm ∧ U.heap = h0) (fun _ _ _ _ _ => True) (fun _ U o U' => ∃ v L, o = .returned v ∧ (Fr n0 L ∧ Q_73 Z w0 kw0 p2 p3 p4 p5 p6 p7 p8 p9 p10 p11 p12 p13 p14 p15 p16 p17 p18 h0 n0 v U'.heap) ∧ FrameEnd U o U' L ({ frames := 0, cells := 0, slots := 0, locals := 0 } : Room).cells ({ frames := 0, cells := 0, slots := 0, locals := 0 } : Room).slots) := by
  refine own_enter (Q := Q_73 Z w0 kw0 p2 p3 p4 p5 p6 p7 p8 p9 p10 p11 p12 p13 p14 p15 p16 p17 p18 h0 n0) (F := fun m => mkF m 0 #[.val (.ref w0), .val (.int (1 : Int32)), .val (.int p10), .val (.int p11), .val (.int (4 : Int32)), .val (.int p12), .unset] []) (plainFor_of_name pn_2) (fun m => by first | (simp [entryFrame, mkF, argsToLocals, Value.category]; done) | rfl) ?_
  intro p e s m below meth c s₁ B X0
  have K : Keep h0 h0 [] := Keep.refl h0 _
  refine own_iloadN (pc' := 1) B X0 d13_0 rfl rfl ?_
  refine own_iload (pc' := 3) B X0 d13_1 rfl rfl ?_
  refine own_icmpYes (pc' := 32) B X0 d13_3 (tlt (by decide : (1 : Int32) < (4 : Int32))).1 (by decide) rfl ?_
  refine own_iloadN (pc' := 33) B X0 d13_32 rfl rfl ?_
  refine own_iconst (pc' := 34) B X0 (z := (4 : Int32)) d13_33 rfl rfl ?_
  refine own_icmpNo (pc' := 37) B X0 d13_34 (tlt (by decide : (1 : Int32) < (4 : Int32))).2.1 rfl ?_
  refine own_iloadN (pc' := 38) B X0 d13_37 rfl rfl ?_
  refine own_bipush (pc' := 40) B X0 (z := (24 : Int32)) d13_38 rfl (by decide) ?_
  refine own_bipush (pc' := 42) B X0 (z := (8 : Int32)) d13_40 rfl (by decide) ?_
  refine own_iloadN (pc' := 43) B X0 d13_42 rfl rfl ?_
  refine own_imul (pc' := 44) B X0 (z := (8 : Int32)) d13_43 rfl (by decide) ?_
  refine own_isub (pc' := 45) B X0 (z := (16 : Int32)) d13_44 rfl (by decide) ?_
  refine own_iushr (pc' := 46) B X0 d13_45 rfl hp8 ?_
  refine own_istore (pc' := 48) B X0 (Ls' := #[.val (.ref w0), .val (.int (1 : Int32)), .val (.int p10), .val (.int p11), .val (.int (4 : Int32)), .val (.int p12), .val (.int p14)]) d13_46 rfl rfl ?_
  refine own_goto (pc' := 64) B X0 d13_48 (by decide) rfl ?_
  refine own_aloadN (pc' := 65) B X0 d13_64 rfl rfl rfl ?_
  refine own_iloadN (pc' := 66) B X0 d13_65 rfl rfl ?_
  refine own_baload (pc' := 67) B X0 V_w0 (v := (.int p3)) ⟨by decide, by decide⟩ rfl d13_66 rfl ?_
  refine own_iload (pc' := 69) B X0 d13_67 rfl rfl ?_
  refine own_i2b (pc' := 70) B X0 d13_69 rfl hp1 ?_
  refine own_icmpNo (pc' := 73) B X0 d13_70 (teq rfl).2 rfl ?_
  refine own_iconst (pc' := 74) B X0 (z := (1 : Int32)) d13_73 rfl rfl ?_
  refine own_goto (pc' := 78) B X0 d13_74 (by decide) rfl ?_
  exact own_retN B X0 (t := .boolean) (z' := (1 : Int32)) (by simp) (by decide) d13_78 (by decide) (by decide) (⟨rfl, rfl⟩)
def Q_74 (Z : State) (w0 : Addr) (kw0 : ClassId) (p2 : Int32) (p3 : Int32) (p4 : Int32) (p5 : Int32) (p6 : Int32) (p7 : Int32) (p8 : Int32) (p9 : Int32) (p10 : Int32) (p11 : Int32) (p12 : Int32) (p13 : Int32) (p14 : Int32) (p15 : Int32) (p16 : Int32) (p17 : Int32) (p18 : Int32) (h0 : Heap) (n0 : Nat) (v : Option Value) (h : Heap) : Prop :=
  (v = some (.int (1 : Int32)) ∧ h0 = h)
set_option maxRecDepth 65536 in
set_option maxHeartbeats 40000000 in
theorem rm_74 (l : Launch) (Z : State) (a0 : Array Value) (hw : ∀ d ∈ tables_1, d.before a0 Z = true) (ws : List Jvm.Cond) (w0 : Addr) (kw0 : ClassId) (p2 : Int32) (p3 : Int32) (p4 : Int32) (p5 : Int32) (p6 : Int32) (p7 : Int32) (p8 : Int32) (p9 : Int32) (p10 : Int32) (p11 : Int32) (p12 : Int32) (p13 : Int32) (p14 : Int32) (p15 : Int32) (p16 : Int32) (p17 : Int32) (p18 : Int32) (h0 : Heap) (n0 : Nat) (Z0 : n0 ≤ h0.size) (E_w0 : Exa Z h0 w0 "[B") (V_w0 : Arv Z h0 w0 kw0 .byte (8 : Int32) [(.int p2), (.int p3), (.int p4), (.int p5), (.int p6), (.int p7), (.int p8), (.int p9)] (.int (0 : Int32))) (g_w0 : n0 ≤ w0) (hp0 : p13.toInt8.toInt32 = p2) (hp1 : p14.toInt8.toInt32 = p3) (hp2 : p15.toInt8.toInt32 = p4) (hp3 : p10.toInt8.toInt32 = p5) (hp4 : p16.toInt8.toInt32 = p6) (hp5 : p17.toInt8.toInt32 = p7) (hp6 : p18.toInt8.toInt32 = p8) (hp7 : p12.toInt8.toInt32 = p9) (hp8 : (p10.toUInt32 >>> ((16 : Int32) &&& 31).toUInt32).toInt32 = p14) (hp9 : (p14.toUInt32 >>> ((8 : Int32) &&& 31).toUInt32).toInt32 = p13) (hp10 : (p10.toUInt32 >>> ((8 : Int32) &&& 31).toUInt32).toInt32 = p15) (hp11 : (p12.toUInt32 >>> ((16 : Int32) &&& 31).toUInt32).toInt32 = p17) (hp12 : (p17.toUInt32 >>> ((8 : Int32) &&& 31).toUInt32).toInt32 = p16) (hp13 : (p12.toUInt32 >>> ((8 : Int32) &&& 31).toUInt32).toInt32 = p18) :
    MetFree l (⟨"demitasse/interp/BytesU4AtPinLaw", "ok", "([BIIIII)Z"⟩ : MethodName) (head1 (Jvm.Cond.code (⟨"demitasse/interp/BytesU4AtPinLaw", "ok", "([BIIIII)Z"⟩ : MethodName) method_3_code 7 (some .boolean) :: ws) ({ frames := 0, cells := 0, slots := 0, locals := 0 } : Room)) (fun a U => a = #[(.ref w0), (.int (2 : Int32)), (.int p10), (.int p11), (.int (4 : Int32)), (.int p12)] ∧ Z.Warmed39 U.vm ∧ U.heap = h0) (fun _ _ _ _ _ => True) (fun _ U o U' => ∃ v L, o = .returned v ∧ (Fr n0 L ∧ Q_74 Z w0 kw0 p2 p3 p4 p5 p6 p7 p8 p9 p10 p11 p12 p13 p14 p15 p16 p17 p18 h0 n0 v U'.heap) ∧ FrameEnd U o U' L ({ frames := 0, cells := 0, slots := 0, locals := 0 } : Room).cells ({ frames := 0, cells := 0, slots := 0, locals := 0 } : Room).slots) := by
  refine own_enter (Q := Q_74 Z w0 kw0 p2 p3 p4 p5 p6 p7 p8 p9 p10 p11 p12 p13 p14 p15 p16 p17 p18 h0 n0) (F := fun m => mkF m 0 #[.val (.ref w0), .val (.int (2 : Int32)), .val (.int p10), .val (.int p11), .val (.int (4 : Int32)), .val (.int p12), .unset] []) (plainFor_of_name pn_2) (fun m => by first | (simp [entryFrame, mkF, argsToLocals, Value.category]; done) | rfl) ?_
  intro p e s m below meth c s₁ B X0
  have K : Keep h0 h0 [] := Keep.refl h0 _
  refine own_iloadN (pc' := 1) B X0 d13_0 rfl rfl ?_
  refine own_iload (pc' := 3) B X0 d13_1 rfl rfl ?_
  refine own_icmpYes (pc' := 32) B X0 d13_3 (tlt (by decide : (2 : Int32) < (4 : Int32))).1 (by decide) rfl ?_
  refine own_iloadN (pc' := 33) B X0 d13_32 rfl rfl ?_
  refine own_iconst (pc' := 34) B X0 (z := (4 : Int32)) d13_33 rfl rfl ?_
  refine own_icmpNo (pc' := 37) B X0 d13_34 (tlt (by decide : (2 : Int32) < (4 : Int32))).2.1 rfl ?_
  refine own_iloadN (pc' := 38) B X0 d13_37 rfl rfl ?_
  refine own_bipush (pc' := 40) B X0 (z := (24 : Int32)) d13_38 rfl (by decide) ?_
  refine own_bipush (pc' := 42) B X0 (z := (8 : Int32)) d13_40 rfl (by decide) ?_
  refine own_iloadN (pc' := 43) B X0 d13_42 rfl rfl ?_
  refine own_imul (pc' := 44) B X0 (z := (16 : Int32)) d13_43 rfl (by decide) ?_
  refine own_isub (pc' := 45) B X0 (z := (8 : Int32)) d13_44 rfl (by decide) ?_
  refine own_iushr (pc' := 46) B X0 d13_45 rfl hp10 ?_
  refine own_istore (pc' := 48) B X0 (Ls' := #[.val (.ref w0), .val (.int (2 : Int32)), .val (.int p10), .val (.int p11), .val (.int (4 : Int32)), .val (.int p12), .val (.int p15)]) d13_46 rfl rfl ?_
  refine own_goto (pc' := 64) B X0 d13_48 (by decide) rfl ?_
  refine own_aloadN (pc' := 65) B X0 d13_64 rfl rfl rfl ?_
  refine own_iloadN (pc' := 66) B X0 d13_65 rfl rfl ?_
  refine own_baload (pc' := 67) B X0 V_w0 (v := (.int p4)) ⟨by decide, by decide⟩ rfl d13_66 rfl ?_
  refine own_iload (pc' := 69) B X0 d13_67 rfl rfl ?_
  refine own_i2b (pc' := 70) B X0 d13_69 rfl hp2 ?_
  refine own_icmpNo (pc' := 73) B X0 d13_70 (teq rfl).2 rfl ?_
  refine own_iconst (pc' := 74) B X0 (z := (1 : Int32)) d13_73 rfl rfl ?_
  refine own_goto (pc' := 78) B X0 d13_74 (by decide) rfl ?_
  exact own_retN B X0 (t := .boolean) (z' := (1 : Int32)) (by simp) (by decide) d13_78 (by decide) (by decide) (⟨rfl, rfl⟩)
def Q_75 (Z : State) (w0 : Addr) (kw0 : ClassId) (p2 : Int32) (p3 : Int32) (p4 : Int32) (p5 : Int32) (p6 : Int32) (p7 : Int32) (p8 : Int32) (p9 : Int32) (p10 : Int32) (p11 : Int32) (p12 : Int32) (p13 : Int32) (p14 : Int32) (p15 : Int32) (p16 : Int32) (p17 : Int32) (p18 : Int32) (h0 : Heap) (n0 : Nat) (v : Option Value) (h : Heap) : Prop :=
  (v = some (.int (1 : Int32)) ∧ h0 = h)
set_option maxRecDepth 65536 in
set_option maxHeartbeats 40000000 in
theorem rm_75 (l : Launch) (Z : State) (a0 : Array Value) (hw : ∀ d ∈ tables_1, d.before a0 Z = true) (ws : List Jvm.Cond) (w0 : Addr) (kw0 : ClassId) (p2 : Int32) (p3 : Int32) (p4 : Int32) (p5 : Int32) (p6 : Int32) (p7 : Int32) (p8 : Int32) (p9 : Int32) (p10 : Int32) (p11 : Int32) (p12 : Int32) (p13 : Int32) (p14 : Int32) (p15 : Int32) (p16 : Int32) (p17 : Int32) (p18 : Int32) (h0 : Heap) (n0 : Nat) (Z0 : n0 ≤ h0.size) (E_w0 : Exa Z h0 w0 "[B") (V_w0 : Arv Z h0 w0 kw0 .byte (8 : Int32) [(.int p2), (.int p3), (.int p4), (.int p5), (.int p6), (.int p7), (.int p8), (.int p9)] (.int (0 : Int32))) (g_w0 : n0 ≤ w0) (hp0 : p13.toInt8.toInt32 = p2) (hp1 : p14.toInt8.toInt32 = p3) (hp2 : p15.toInt8.toInt32 = p4) (hp3 : p10.toInt8.toInt32 = p5) (hp4 : p16.toInt8.toInt32 = p6) (hp5 : p17.toInt8.toInt32 = p7) (hp6 : p18.toInt8.toInt32 = p8) (hp7 : p12.toInt8.toInt32 = p9) (hp8 : (p10.toUInt32 >>> ((16 : Int32) &&& 31).toUInt32).toInt32 = p14) (hp9 : (p14.toUInt32 >>> ((8 : Int32) &&& 31).toUInt32).toInt32 = p13) (hp10 : (p10.toUInt32 >>> ((8 : Int32) &&& 31).toUInt32).toInt32 = p15) (hp11 : (p12.toUInt32 >>> ((16 : Int32) &&& 31).toUInt32).toInt32 = p17) (hp12 : (p17.toUInt32 >>> ((8 : Int32) &&& 31).toUInt32).toInt32 = p16) (hp13 : (p12.toUInt32 >>> ((8 : Int32) &&& 31).toUInt32).toInt32 = p18) :
    MetFree l (⟨"demitasse/interp/BytesU4AtPinLaw", "ok", "([BIIIII)Z"⟩ : MethodName) (head1 (Jvm.Cond.code (⟨"demitasse/interp/BytesU4AtPinLaw", "ok", "([BIIIII)Z"⟩ : MethodName) method_3_code 7 (some .boolean) :: ws) ({ frames := 0, cells := 0, slots := 0, locals := 0 } : Room)) (fun a U => a = #[(.ref w0), (.int (3 : Int32)), (.int p10), (.int p11), (.int (4 : Int32)), (.int p12)] ∧ Z.Warmed39 U.vm ∧ U.heap = h0) (fun _ _ _ _ _ => True) (fun _ U o U' => ∃ v L, o = .returned v ∧ (Fr n0 L ∧ Q_75 Z w0 kw0 p2 p3 p4 p5 p6 p7 p8 p9 p10 p11 p12 p13 p14 p15 p16 p17 p18 h0 n0 v U'.heap) ∧ FrameEnd U o U' L ({ frames := 0, cells := 0, slots := 0, locals := 0 } : Room).cells ({ frames := 0, cells := 0, slots := 0, locals := 0 } : Room).slots) := by
  refine own_enter (Q := Q_75 Z w0 kw0 p2 p3 p4 p5 p6 p7 p8 p9 p10 p11 p12 p13 p14 p15 p16 p17 p18 h0 n0) (F := fun m => mkF m 0 #[.val (.ref w0), .val (.int (3 : Int32)), .val (.int p10), .val (.int p11), .val (.int (4 : Int32)), .val (.int p12), .unset] []) (plainFor_of_name pn_2) (fun m => by first | (simp [entryFrame, mkF, argsToLocals, Value.category]; done) | rfl) ?_
  intro p e s m below meth c s₁ B X0
  have K : Keep h0 h0 [] := Keep.refl h0 _
  refine own_iloadN (pc' := 1) B X0 d13_0 rfl rfl ?_
  refine own_iload (pc' := 3) B X0 d13_1 rfl rfl ?_
  refine own_icmpYes (pc' := 32) B X0 d13_3 (tlt (by decide : (3 : Int32) < (4 : Int32))).1 (by decide) rfl ?_
  refine own_iloadN (pc' := 33) B X0 d13_32 rfl rfl ?_
  refine own_iconst (pc' := 34) B X0 (z := (4 : Int32)) d13_33 rfl rfl ?_
  refine own_icmpNo (pc' := 37) B X0 d13_34 (tlt (by decide : (3 : Int32) < (4 : Int32))).2.1 rfl ?_
  refine own_iloadN (pc' := 38) B X0 d13_37 rfl rfl ?_
  refine own_bipush (pc' := 40) B X0 (z := (24 : Int32)) d13_38 rfl (by decide) ?_
  refine own_bipush (pc' := 42) B X0 (z := (8 : Int32)) d13_40 rfl (by decide) ?_
  refine own_iloadN (pc' := 43) B X0 d13_42 rfl rfl ?_
  refine own_imul (pc' := 44) B X0 (z := (24 : Int32)) d13_43 rfl (by decide) ?_
  refine own_isub (pc' := 45) B X0 (z := (0 : Int32)) d13_44 rfl (by decide) ?_
  refine own_iushr (pc' := 46) B X0 d13_45 rfl (own_ush0 _) ?_
  refine own_istore (pc' := 48) B X0 (Ls' := #[.val (.ref w0), .val (.int (3 : Int32)), .val (.int p10), .val (.int p11), .val (.int (4 : Int32)), .val (.int p12), .val (.int p10)]) d13_46 rfl rfl ?_
  refine own_goto (pc' := 64) B X0 d13_48 (by decide) rfl ?_
  refine own_aloadN (pc' := 65) B X0 d13_64 rfl rfl rfl ?_
  refine own_iloadN (pc' := 66) B X0 d13_65 rfl rfl ?_
  refine own_baload (pc' := 67) B X0 V_w0 (v := (.int p5)) ⟨by decide, by decide⟩ rfl d13_66 rfl ?_
  refine own_iload (pc' := 69) B X0 d13_67 rfl rfl ?_
  refine own_i2b (pc' := 70) B X0 d13_69 rfl hp3 ?_
  refine own_icmpNo (pc' := 73) B X0 d13_70 (teq rfl).2 rfl ?_
  refine own_iconst (pc' := 74) B X0 (z := (1 : Int32)) d13_73 rfl rfl ?_
  refine own_goto (pc' := 78) B X0 d13_74 (by decide) rfl ?_
  exact own_retN B X0 (t := .boolean) (z' := (1 : Int32)) (by simp) (by decide) d13_78 (by decide) (by decide) (⟨rfl, rfl⟩)
def Q_76 (Z : State) (w0 : Addr) (kw0 : ClassId) (p2 : Int32) (p3 : Int32) (p4 : Int32) (p5 : Int32) (p6 : Int32) (p7 : Int32) (p8 : Int32) (p9 : Int32) (p10 : Int32) (p11 : Int32) (p12 : Int32) (p13 : Int32) (p14 : Int32) (p15 : Int32) (p16 : Int32) (p17 : Int32) (p18 : Int32) (h0 : Heap) (n0 : Nat) (v : Option Value) (h : Heap) : Prop :=
  (∃ (y1 : Int32) (y2 : Int32), (p12.toUInt32 >>> ((24 : Int32) &&& 31).toUInt32).toInt32 = y1 ∧ y1.toInt8.toInt32 = y2 ∧ p6 = y2 ∧ v = some (.int (1 : Int32)) ∧ h0 = h)
set_option maxRecDepth 65536 in
set_option maxHeartbeats 40000000 in
theorem rm_76 (l : Launch) (Z : State) (a0 : Array Value) (hw : ∀ d ∈ tables_1, d.before a0 Z = true) (ws : List Jvm.Cond) (w0 : Addr) (kw0 : ClassId) (p2 : Int32) (p3 : Int32) (p4 : Int32) (p5 : Int32) (p6 : Int32) (p7 : Int32) (p8 : Int32) (p9 : Int32) (p10 : Int32) (p11 : Int32) (p12 : Int32) (p13 : Int32) (p14 : Int32) (p15 : Int32) (p16 : Int32) (p17 : Int32) (p18 : Int32) (h0 : Heap) (n0 : Nat) (Z0 : n0 ≤ h0.size) (E_w0 : Exa Z h0 w0 "[B") (V_w0 : Arv Z h0 w0 kw0 .byte (8 : Int32) [(.int p2), (.int p3), (.int p4), (.int p5), (.int p6), (.int p7), (.int p8), (.int p9)] (.int (0 : Int32))) (g_w0 : n0 ≤ w0) (hp0 : p13.toInt8.toInt32 = p2) (hp1 : p14.toInt8.toInt32 = p3) (hp2 : p15.toInt8.toInt32 = p4) (hp3 : p10.toInt8.toInt32 = p5) (hp4 : p16.toInt8.toInt32 = p6) (hp5 : p17.toInt8.toInt32 = p7) (hp6 : p18.toInt8.toInt32 = p8) (hp7 : p12.toInt8.toInt32 = p9) (hp8 : (p10.toUInt32 >>> ((16 : Int32) &&& 31).toUInt32).toInt32 = p14) (hp9 : (p14.toUInt32 >>> ((8 : Int32) &&& 31).toUInt32).toInt32 = p13) (hp10 : (p10.toUInt32 >>> ((8 : Int32) &&& 31).toUInt32).toInt32 = p15) (hp11 : (p12.toUInt32 >>> ((16 : Int32) &&& 31).toUInt32).toInt32 = p17) (hp12 : (p17.toUInt32 >>> ((8 : Int32) &&& 31).toUInt32).toInt32 = p16) (hp13 : (p12.toUInt32 >>> ((8 : Int32) &&& 31).toUInt32).toInt32 = p18) :
    MetFree l (⟨"demitasse/interp/BytesU4AtPinLaw", "ok", "([BIIIII)Z"⟩ : MethodName) (head1 (Jvm.Cond.code (⟨"demitasse/interp/BytesU4AtPinLaw", "ok", "([BIIIII)Z"⟩ : MethodName) method_3_code 7 (some .boolean) :: ws) ({ frames := 0, cells := 0, slots := 0, locals := 0 } : Room)) (fun a U => a = #[(.ref w0), (.int (4 : Int32)), (.int p10), (.int p11), (.int (4 : Int32)), (.int p12)] ∧ Z.Warmed39 U.vm ∧ U.heap = h0) (fun _ _ _ _ _ => True) (fun _ U o U' => ∃ v L, o = .returned v ∧ (Fr n0 L ∧ Q_76 Z w0 kw0 p2 p3 p4 p5 p6 p7 p8 p9 p10 p11 p12 p13 p14 p15 p16 p17 p18 h0 n0 v U'.heap) ∧ FrameEnd U o U' L ({ frames := 0, cells := 0, slots := 0, locals := 0 } : Room).cells ({ frames := 0, cells := 0, slots := 0, locals := 0 } : Room).slots) := by
  refine own_enter (Q := Q_76 Z w0 kw0 p2 p3 p4 p5 p6 p7 p8 p9 p10 p11 p12 p13 p14 p15 p16 p17 p18 h0 n0) (F := fun m => mkF m 0 #[.val (.ref w0), .val (.int (4 : Int32)), .val (.int p10), .val (.int p11), .val (.int (4 : Int32)), .val (.int p12), .unset] []) (plainFor_of_name pn_2) (fun m => by first | (simp [entryFrame, mkF, argsToLocals, Value.category]; done) | rfl) ?_
  intro p e s m below meth c s₁ B X0
  have K : Keep h0 h0 [] := Keep.refl h0 _
  refine own_iloadN (pc' := 1) B X0 d13_0 rfl rfl ?_
  refine own_iload (pc' := 3) B X0 d13_1 rfl rfl ?_
  refine own_icmpNo (pc' := 6) B X0 d13_3 (flt (by decide : ¬ ((4 : Int32) < (4 : Int32)))).1 rfl ?_
  refine own_iloadN (pc' := 7) B X0 d13_6 rfl rfl ?_
  refine own_iload (pc' := 9) B X0 d13_7 rfl rfl ?_
  refine own_iconst (pc' := 10) B X0 (z := (4 : Int32)) d13_9 rfl rfl ?_
  refine own_iadd (pc' := 11) B X0 (z := (8 : Int32)) d13_10 rfl (by decide) ?_
  refine own_icmpNo (pc' := 14) B X0 d13_11 (tlt (by decide : (4 : Int32) < (8 : Int32))).2.1 rfl ?_
  refine own_iload (pc' := 16) B X0 d13_14 rfl rfl ?_
  refine own_bipush (pc' := 18) B X0 (z := (24 : Int32)) d13_16 rfl (by decide) ?_
  refine own_bipush (pc' := 20) B X0 (z := (8 : Int32)) d13_18 rfl (by decide) ?_
  refine own_iloadN (pc' := 21) B X0 d13_20 rfl rfl ?_
  refine own_iload (pc' := 23) B X0 d13_21 rfl rfl ?_
  refine own_isub (pc' := 24) B X0 (z := (0 : Int32)) d13_23 rfl (by decide) ?_
  refine own_imul (pc' := 25) B X0 (z := (0 : Int32)) d13_24 rfl (by decide) ?_
  refine own_isub (pc' := 26) B X0 (z := (24 : Int32)) d13_25 rfl (by decide) ?_
  obtain ⟨y1, hy1⟩ : ∃ z : Int32, (p12.toUInt32 >>> ((24 : Int32) &&& 31).toUInt32).toInt32 = z := ⟨_, rfl⟩
  refine own_iushr (pc' := 27) B X0 d13_26 rfl hy1 ?_
  refine own_istore (pc' := 29) B X0 (Ls' := #[.val (.ref w0), .val (.int (4 : Int32)), .val (.int p10), .val (.int p11), .val (.int (4 : Int32)), .val (.int p12), .val (.int y1)]) d13_27 rfl rfl ?_
  refine own_goto (pc' := 64) B X0 d13_29 (by decide) rfl ?_
  refine own_aloadN (pc' := 65) B X0 d13_64 rfl rfl rfl ?_
  refine own_iloadN (pc' := 66) B X0 d13_65 rfl rfl ?_
  refine own_baload (pc' := 67) B X0 V_w0 (v := (.int p6)) ⟨by decide, by decide⟩ rfl d13_66 rfl ?_
  refine own_iload (pc' := 69) B X0 d13_67 rfl rfl ?_
  obtain ⟨y2, hy2⟩ : ∃ z : Int32, y1.toInt8.toInt32 = z := ⟨_, rfl⟩
  refine own_i2b (pc' := 70) B X0 d13_69 rfl hy2 ?_
  have c3 : p6 = y2 := by
    have o0 := own_o_i2b hp4
    have o1 := own_o_iushr hp11 16 (by decide) (by decide)
    have o2 := own_o_iushr hp12 8 (by decide) (by decide)
    have o3 := own_o_iushr hy1 24 (by decide) (by decide)
    have o4 := own_o_i2b hy2
    have o5 := rng32 p12
    have o6 := rng32 p16
    have o7 := rng32 p17
    have o8 := rng32 p6
    have o9 := rng32 y1
    have o10 := rng32 y2
    have o11 : (16 : Int32).toInt = 16 := by decide
    have o12 : (8 : Int32).toInt = 8 := by decide
    have o13 : (24 : Int32).toInt = 24 := by decide
    refine own_eqI ?_
    omega
  refine own_icmpNo (pc' := 73) B X0 d13_70 (teq c3).2 rfl ?_
  refine own_iconst (pc' := 74) B X0 (z := (1 : Int32)) d13_73 rfl rfl ?_
  refine own_goto (pc' := 78) B X0 d13_74 (by decide) rfl ?_
  exact own_retN B X0 (t := .boolean) (z' := (1 : Int32)) (by simp) (by decide) d13_78 (by decide) (by decide) (⟨y1, y2, hy1, hy2, c3, rfl, rfl⟩)
def Q_77 (Z : State) (w0 : Addr) (kw0 : ClassId) (p2 : Int32) (p3 : Int32) (p4 : Int32) (p5 : Int32) (p6 : Int32) (p7 : Int32) (p8 : Int32) (p9 : Int32) (p10 : Int32) (p11 : Int32) (p12 : Int32) (p13 : Int32) (p14 : Int32) (p15 : Int32) (p16 : Int32) (p17 : Int32) (p18 : Int32) (h0 : Heap) (n0 : Nat) (v : Option Value) (h : Heap) : Prop :=
  (v = some (.int (1 : Int32)) ∧ h0 = h)
set_option maxRecDepth 65536 in
set_option maxHeartbeats 40000000 in
theorem rm_77 (l : Launch) (Z : State) (a0 : Array Value) (hw : ∀ d ∈ tables_1, d.before a0 Z = true) (ws : List Jvm.Cond) (w0 : Addr) (kw0 : ClassId) (p2 : Int32) (p3 : Int32) (p4 : Int32) (p5 : Int32) (p6 : Int32) (p7 : Int32) (p8 : Int32) (p9 : Int32) (p10 : Int32) (p11 : Int32) (p12 : Int32) (p13 : Int32) (p14 : Int32) (p15 : Int32) (p16 : Int32) (p17 : Int32) (p18 : Int32) (h0 : Heap) (n0 : Nat) (Z0 : n0 ≤ h0.size) (E_w0 : Exa Z h0 w0 "[B") (V_w0 : Arv Z h0 w0 kw0 .byte (8 : Int32) [(.int p2), (.int p3), (.int p4), (.int p5), (.int p6), (.int p7), (.int p8), (.int p9)] (.int (0 : Int32))) (g_w0 : n0 ≤ w0) (hp0 : p13.toInt8.toInt32 = p2) (hp1 : p14.toInt8.toInt32 = p3) (hp2 : p15.toInt8.toInt32 = p4) (hp3 : p10.toInt8.toInt32 = p5) (hp4 : p16.toInt8.toInt32 = p6) (hp5 : p17.toInt8.toInt32 = p7) (hp6 : p18.toInt8.toInt32 = p8) (hp7 : p12.toInt8.toInt32 = p9) (hp8 : (p10.toUInt32 >>> ((16 : Int32) &&& 31).toUInt32).toInt32 = p14) (hp9 : (p14.toUInt32 >>> ((8 : Int32) &&& 31).toUInt32).toInt32 = p13) (hp10 : (p10.toUInt32 >>> ((8 : Int32) &&& 31).toUInt32).toInt32 = p15) (hp11 : (p12.toUInt32 >>> ((16 : Int32) &&& 31).toUInt32).toInt32 = p17) (hp12 : (p17.toUInt32 >>> ((8 : Int32) &&& 31).toUInt32).toInt32 = p16) (hp13 : (p12.toUInt32 >>> ((8 : Int32) &&& 31).toUInt32).toInt32 = p18) :
    MetFree l (⟨"demitasse/interp/BytesU4AtPinLaw", "ok", "([BIIIII)Z"⟩ : MethodName) (head1 (Jvm.Cond.code (⟨"demitasse/interp/BytesU4AtPinLaw", "ok", "([BIIIII)Z"⟩ : MethodName) method_3_code 7 (some .boolean) :: ws) ({ frames := 0, cells := 0, slots := 0, locals := 0 } : Room)) (fun a U => a = #[(.ref w0), (.int (5 : Int32)), (.int p10), (.int p11), (.int (4 : Int32)), (.int p12)] ∧ Z.Warmed39 U.vm ∧ U.heap = h0) (fun _ _ _ _ _ => True) (fun _ U o U' => ∃ v L, o = .returned v ∧ (Fr n0 L ∧ Q_77 Z w0 kw0 p2 p3 p4 p5 p6 p7 p8 p9 p10 p11 p12 p13 p14 p15 p16 p17 p18 h0 n0 v U'.heap) ∧ FrameEnd U o U' L ({ frames := 0, cells := 0, slots := 0, locals := 0 } : Room).cells ({ frames := 0, cells := 0, slots := 0, locals := 0 } : Room).slots) := by
  refine own_enter (Q := Q_77 Z w0 kw0 p2 p3 p4 p5 p6 p7 p8 p9 p10 p11 p12 p13 p14 p15 p16 p17 p18 h0 n0) (F := fun m => mkF m 0 #[.val (.ref w0), .val (.int (5 : Int32)), .val (.int p10), .val (.int p11), .val (.int (4 : Int32)), .val (.int p12), .unset] []) (plainFor_of_name pn_2) (fun m => by first | (simp [entryFrame, mkF, argsToLocals, Value.category]; done) | rfl) ?_
  intro p e s m below meth c s₁ B X0
  have K : Keep h0 h0 [] := Keep.refl h0 _
  refine own_iloadN (pc' := 1) B X0 d13_0 rfl rfl ?_
  refine own_iload (pc' := 3) B X0 d13_1 rfl rfl ?_
  refine own_icmpNo (pc' := 6) B X0 d13_3 (flt (by decide : ¬ ((5 : Int32) < (4 : Int32)))).1 rfl ?_
  refine own_iloadN (pc' := 7) B X0 d13_6 rfl rfl ?_
  refine own_iload (pc' := 9) B X0 d13_7 rfl rfl ?_
  refine own_iconst (pc' := 10) B X0 (z := (4 : Int32)) d13_9 rfl rfl ?_
  refine own_iadd (pc' := 11) B X0 (z := (8 : Int32)) d13_10 rfl (by decide) ?_
  refine own_icmpNo (pc' := 14) B X0 d13_11 (tlt (by decide : (5 : Int32) < (8 : Int32))).2.1 rfl ?_
  refine own_iload (pc' := 16) B X0 d13_14 rfl rfl ?_
  refine own_bipush (pc' := 18) B X0 (z := (24 : Int32)) d13_16 rfl (by decide) ?_
  refine own_bipush (pc' := 20) B X0 (z := (8 : Int32)) d13_18 rfl (by decide) ?_
  refine own_iloadN (pc' := 21) B X0 d13_20 rfl rfl ?_
  refine own_iload (pc' := 23) B X0 d13_21 rfl rfl ?_
  refine own_isub (pc' := 24) B X0 (z := (1 : Int32)) d13_23 rfl (by decide) ?_
  refine own_imul (pc' := 25) B X0 (z := (8 : Int32)) d13_24 rfl (by decide) ?_
  refine own_isub (pc' := 26) B X0 (z := (16 : Int32)) d13_25 rfl (by decide) ?_
  refine own_iushr (pc' := 27) B X0 d13_26 rfl hp11 ?_
  refine own_istore (pc' := 29) B X0 (Ls' := #[.val (.ref w0), .val (.int (5 : Int32)), .val (.int p10), .val (.int p11), .val (.int (4 : Int32)), .val (.int p12), .val (.int p17)]) d13_27 rfl rfl ?_
  refine own_goto (pc' := 64) B X0 d13_29 (by decide) rfl ?_
  refine own_aloadN (pc' := 65) B X0 d13_64 rfl rfl rfl ?_
  refine own_iloadN (pc' := 66) B X0 d13_65 rfl rfl ?_
  refine own_baload (pc' := 67) B X0 V_w0 (v := (.int p7)) ⟨by decide, by decide⟩ rfl d13_66 rfl ?_
  refine own_iload (pc' := 69) B X0 d13_67 rfl rfl ?_
  refine own_i2b (pc' := 70) B X0 d13_69 rfl hp5 ?_
  refine own_icmpNo (pc' := 73) B X0 d13_70 (teq rfl).2 rfl ?_
  refine own_iconst (pc' := 74) B X0 (z := (1 : Int32)) d13_73 rfl rfl ?_
  refine own_goto (pc' := 78) B X0 d13_74 (by decide) rfl ?_
  exact own_retN B X0 (t := .boolean) (z' := (1 : Int32)) (by simp) (by decide) d13_78 (by decide) (by decide) (⟨rfl, rfl⟩)
def Q_78 (Z : State) (w0 : Addr) (kw0 : ClassId) (p2 : Int32) (p3 : Int32) (p4 : Int32) (p5 : Int32) (p6 : Int32) (p7 : Int32) (p8 : Int32) (p9 : Int32) (p10 : Int32) (p11 : Int32) (p12 : Int32) (p13 : Int32) (p14 : Int32) (p15 : Int32) (p16 : Int32) (p17 : Int32) (p18 : Int32) (h0 : Heap) (n0 : Nat) (v : Option Value) (h : Heap) : Prop :=
  (v = some (.int (1 : Int32)) ∧ h0 = h)
set_option maxRecDepth 65536 in
set_option maxHeartbeats 40000000 in
theorem rm_78 (l : Launch) (Z : State) (a0 : Array Value) (hw : ∀ d ∈ tables_1, d.before a0 Z = true) (ws : List Jvm.Cond) (w0 : Addr) (kw0 : ClassId) (p2 : Int32) (p3 : Int32) (p4 : Int32) (p5 : Int32) (p6 : Int32) (p7 : Int32) (p8 : Int32) (p9 : Int32) (p10 : Int32) (p11 : Int32) (p12 : Int32) (p13 : Int32) (p14 : Int32) (p15 : Int32) (p16 : Int32) (p17 : Int32) (p18 : Int32) (h0 : Heap) (n0 : Nat) (Z0 : n0 ≤ h0.size) (E_w0 : Exa Z h0 w0 "[B") (V_w0 : Arv Z h0 w0 kw0 .byte (8 : Int32) [(.int p2), (.int p3), (.int p4), (.int p5), (.int p6), (.int p7), (.int p8), (.int p9)] (.int (0 : Int32))) (g_w0 : n0 ≤ w0) (hp0 : p13.toInt8.toInt32 = p2) (hp1 : p14.toInt8.toInt32 = p3) (hp2 : p15.toInt8.toInt32 = p4) (hp3 : p10.toInt8.toInt32 = p5) (hp4 : p16.toInt8.toInt32 = p6) (hp5 : p17.toInt8.toInt32 = p7) (hp6 : p18.toInt8.toInt32 = p8) (hp7 : p12.toInt8.toInt32 = p9) (hp8 : (p10.toUInt32 >>> ((16 : Int32) &&& 31).toUInt32).toInt32 = p14) (hp9 : (p14.toUInt32 >>> ((8 : Int32) &&& 31).toUInt32).toInt32 = p13) (hp10 : (p10.toUInt32 >>> ((8 : Int32) &&& 31).toUInt32).toInt32 = p15) (hp11 : (p12.toUInt32 >>> ((16 : Int32) &&& 31).toUInt32).toInt32 = p17) (hp12 : (p17.toUInt32 >>> ((8 : Int32) &&& 31).toUInt32).toInt32 = p16) (hp13 : (p12.toUInt32 >>> ((8 : Int32) &&& 31).toUInt32).toInt32 = p18) :
    MetFree l (⟨"demitasse/interp/BytesU4AtPinLaw", "ok", "([BIIIII)Z"⟩ : MethodName) (head1 (Jvm.Cond.code (⟨"demitasse/interp/BytesU4AtPinLaw", "ok", "([BIIIII)Z"⟩ : MethodName) method_3_code 7 (some .boolean) :: ws) ({ frames := 0, cells := 0, slots := 0, locals := 0 } : Room)) (fun a U => a = #[(.ref w0), (.int (6 : Int32)), (.int p10), (.int p11), (.int (4 : Int32)), (.int p12)] ∧ Z.Warmed39 U.vm ∧ U.heap = h0) (fun _ _ _ _ _ => True) (fun _ U o U' => ∃ v L, o = .returned v ∧ (Fr n0 L ∧ Q_78 Z w0 kw0 p2 p3 p4 p5 p6 p7 p8 p9 p10 p11 p12 p13 p14 p15 p16 p17 p18 h0 n0 v U'.heap) ∧ FrameEnd U o U' L ({ frames := 0, cells := 0, slots := 0, locals := 0 } : Room).cells ({ frames := 0, cells := 0, slots := 0, locals := 0 } : Room).slots) := by
  refine own_enter (Q := Q_78 Z w0 kw0 p2 p3 p4 p5 p6 p7 p8 p9 p10 p11 p12 p13 p14 p15 p16 p17 p18 h0 n0) (F := fun m => mkF m 0 #[.val (.ref w0), .val (.int (6 : Int32)), .val (.int p10), .val (.int p11), .val (.int (4 : Int32)), .val (.int p12), .unset] []) (plainFor_of_name pn_2) (fun m => by first | (simp [entryFrame, mkF, argsToLocals, Value.category]; done) | rfl) ?_
  intro p e s m below meth c s₁ B X0
  have K : Keep h0 h0 [] := Keep.refl h0 _
  refine own_iloadN (pc' := 1) B X0 d13_0 rfl rfl ?_
  refine own_iload (pc' := 3) B X0 d13_1 rfl rfl ?_
  refine own_icmpNo (pc' := 6) B X0 d13_3 (flt (by decide : ¬ ((6 : Int32) < (4 : Int32)))).1 rfl ?_
  refine own_iloadN (pc' := 7) B X0 d13_6 rfl rfl ?_
  refine own_iload (pc' := 9) B X0 d13_7 rfl rfl ?_
  refine own_iconst (pc' := 10) B X0 (z := (4 : Int32)) d13_9 rfl rfl ?_
  refine own_iadd (pc' := 11) B X0 (z := (8 : Int32)) d13_10 rfl (by decide) ?_
  refine own_icmpNo (pc' := 14) B X0 d13_11 (tlt (by decide : (6 : Int32) < (8 : Int32))).2.1 rfl ?_
  refine own_iload (pc' := 16) B X0 d13_14 rfl rfl ?_
  refine own_bipush (pc' := 18) B X0 (z := (24 : Int32)) d13_16 rfl (by decide) ?_
  refine own_bipush (pc' := 20) B X0 (z := (8 : Int32)) d13_18 rfl (by decide) ?_
  refine own_iloadN (pc' := 21) B X0 d13_20 rfl rfl ?_
  refine own_iload (pc' := 23) B X0 d13_21 rfl rfl ?_
  refine own_isub (pc' := 24) B X0 (z := (2 : Int32)) d13_23 rfl (by decide) ?_
  refine own_imul (pc' := 25) B X0 (z := (16 : Int32)) d13_24 rfl (by decide) ?_
  refine own_isub (pc' := 26) B X0 (z := (8 : Int32)) d13_25 rfl (by decide) ?_
  refine own_iushr (pc' := 27) B X0 d13_26 rfl hp13 ?_
  refine own_istore (pc' := 29) B X0 (Ls' := #[.val (.ref w0), .val (.int (6 : Int32)), .val (.int p10), .val (.int p11), .val (.int (4 : Int32)), .val (.int p12), .val (.int p18)]) d13_27 rfl rfl ?_
  refine own_goto (pc' := 64) B X0 d13_29 (by decide) rfl ?_
  refine own_aloadN (pc' := 65) B X0 d13_64 rfl rfl rfl ?_
  refine own_iloadN (pc' := 66) B X0 d13_65 rfl rfl ?_
  refine own_baload (pc' := 67) B X0 V_w0 (v := (.int p8)) ⟨by decide, by decide⟩ rfl d13_66 rfl ?_
  refine own_iload (pc' := 69) B X0 d13_67 rfl rfl ?_
  refine own_i2b (pc' := 70) B X0 d13_69 rfl hp6 ?_
  refine own_icmpNo (pc' := 73) B X0 d13_70 (teq rfl).2 rfl ?_
  refine own_iconst (pc' := 74) B X0 (z := (1 : Int32)) d13_73 rfl rfl ?_
  refine own_goto (pc' := 78) B X0 d13_74 (by decide) rfl ?_
  exact own_retN B X0 (t := .boolean) (z' := (1 : Int32)) (by simp) (by decide) d13_78 (by decide) (by decide) (⟨rfl, rfl⟩)
def Q_79 (Z : State) (w0 : Addr) (kw0 : ClassId) (p2 : Int32) (p3 : Int32) (p4 : Int32) (p5 : Int32) (p6 : Int32) (p7 : Int32) (p8 : Int32) (p9 : Int32) (p10 : Int32) (p11 : Int32) (p12 : Int32) (p13 : Int32) (p14 : Int32) (p15 : Int32) (p16 : Int32) (p17 : Int32) (p18 : Int32) (h0 : Heap) (n0 : Nat) (v : Option Value) (h : Heap) : Prop :=
  (v = some (.int (1 : Int32)) ∧ h0 = h)
set_option maxRecDepth 65536 in
set_option maxHeartbeats 40000000 in
theorem rm_79 (l : Launch) (Z : State) (a0 : Array Value) (hw : ∀ d ∈ tables_1, d.before a0 Z = true) (ws : List Jvm.Cond) (w0 : Addr) (kw0 : ClassId) (p2 : Int32) (p3 : Int32) (p4 : Int32) (p5 : Int32) (p6 : Int32) (p7 : Int32) (p8 : Int32) (p9 : Int32) (p10 : Int32) (p11 : Int32) (p12 : Int32) (p13 : Int32) (p14 : Int32) (p15 : Int32) (p16 : Int32) (p17 : Int32) (p18 : Int32) (h0 : Heap) (n0 : Nat) (Z0 : n0 ≤ h0.size) (E_w0 : Exa Z h0 w0 "[B") (V_w0 : Arv Z h0 w0 kw0 .byte (8 : Int32) [(.int p2), (.int p3), (.int p4), (.int p5), (.int p6), (.int p7), (.int p8), (.int p9)] (.int (0 : Int32))) (g_w0 : n0 ≤ w0) (hp0 : p13.toInt8.toInt32 = p2) (hp1 : p14.toInt8.toInt32 = p3) (hp2 : p15.toInt8.toInt32 = p4) (hp3 : p10.toInt8.toInt32 = p5) (hp4 : p16.toInt8.toInt32 = p6) (hp5 : p17.toInt8.toInt32 = p7) (hp6 : p18.toInt8.toInt32 = p8) (hp7 : p12.toInt8.toInt32 = p9) (hp8 : (p10.toUInt32 >>> ((16 : Int32) &&& 31).toUInt32).toInt32 = p14) (hp9 : (p14.toUInt32 >>> ((8 : Int32) &&& 31).toUInt32).toInt32 = p13) (hp10 : (p10.toUInt32 >>> ((8 : Int32) &&& 31).toUInt32).toInt32 = p15) (hp11 : (p12.toUInt32 >>> ((16 : Int32) &&& 31).toUInt32).toInt32 = p17) (hp12 : (p17.toUInt32 >>> ((8 : Int32) &&& 31).toUInt32).toInt32 = p16) (hp13 : (p12.toUInt32 >>> ((8 : Int32) &&& 31).toUInt32).toInt32 = p18) :
    MetFree l (⟨"demitasse/interp/BytesU4AtPinLaw", "ok", "([BIIIII)Z"⟩ : MethodName) (head1 (Jvm.Cond.code (⟨"demitasse/interp/BytesU4AtPinLaw", "ok", "([BIIIII)Z"⟩ : MethodName) method_3_code 7 (some .boolean) :: ws) ({ frames := 0, cells := 0, slots := 0, locals := 0 } : Room)) (fun a U => a = #[(.ref w0), (.int (7 : Int32)), (.int p10), (.int p11), (.int (4 : Int32)), (.int p12)] ∧ Z.Warmed39 U.vm ∧ U.heap = h0) (fun _ _ _ _ _ => True) (fun _ U o U' => ∃ v L, o = .returned v ∧ (Fr n0 L ∧ Q_79 Z w0 kw0 p2 p3 p4 p5 p6 p7 p8 p9 p10 p11 p12 p13 p14 p15 p16 p17 p18 h0 n0 v U'.heap) ∧ FrameEnd U o U' L ({ frames := 0, cells := 0, slots := 0, locals := 0 } : Room).cells ({ frames := 0, cells := 0, slots := 0, locals := 0 } : Room).slots) := by
  refine own_enter (Q := Q_79 Z w0 kw0 p2 p3 p4 p5 p6 p7 p8 p9 p10 p11 p12 p13 p14 p15 p16 p17 p18 h0 n0) (F := fun m => mkF m 0 #[.val (.ref w0), .val (.int (7 : Int32)), .val (.int p10), .val (.int p11), .val (.int (4 : Int32)), .val (.int p12), .unset] []) (plainFor_of_name pn_2) (fun m => by first | (simp [entryFrame, mkF, argsToLocals, Value.category]; done) | rfl) ?_
  intro p e s m below meth c s₁ B X0
  have K : Keep h0 h0 [] := Keep.refl h0 _
  refine own_iloadN (pc' := 1) B X0 d13_0 rfl rfl ?_
  refine own_iload (pc' := 3) B X0 d13_1 rfl rfl ?_
  refine own_icmpNo (pc' := 6) B X0 d13_3 (flt (by decide : ¬ ((7 : Int32) < (4 : Int32)))).1 rfl ?_
  refine own_iloadN (pc' := 7) B X0 d13_6 rfl rfl ?_
  refine own_iload (pc' := 9) B X0 d13_7 rfl rfl ?_
  refine own_iconst (pc' := 10) B X0 (z := (4 : Int32)) d13_9 rfl rfl ?_
  refine own_iadd (pc' := 11) B X0 (z := (8 : Int32)) d13_10 rfl (by decide) ?_
  refine own_icmpNo (pc' := 14) B X0 d13_11 (tlt (by decide : (7 : Int32) < (8 : Int32))).2.1 rfl ?_
  refine own_iload (pc' := 16) B X0 d13_14 rfl rfl ?_
  refine own_bipush (pc' := 18) B X0 (z := (24 : Int32)) d13_16 rfl (by decide) ?_
  refine own_bipush (pc' := 20) B X0 (z := (8 : Int32)) d13_18 rfl (by decide) ?_
  refine own_iloadN (pc' := 21) B X0 d13_20 rfl rfl ?_
  refine own_iload (pc' := 23) B X0 d13_21 rfl rfl ?_
  refine own_isub (pc' := 24) B X0 (z := (3 : Int32)) d13_23 rfl (by decide) ?_
  refine own_imul (pc' := 25) B X0 (z := (24 : Int32)) d13_24 rfl (by decide) ?_
  refine own_isub (pc' := 26) B X0 (z := (0 : Int32)) d13_25 rfl (by decide) ?_
  refine own_iushr (pc' := 27) B X0 d13_26 rfl (own_ush0 _) ?_
  refine own_istore (pc' := 29) B X0 (Ls' := #[.val (.ref w0), .val (.int (7 : Int32)), .val (.int p10), .val (.int p11), .val (.int (4 : Int32)), .val (.int p12), .val (.int p12)]) d13_27 rfl rfl ?_
  refine own_goto (pc' := 64) B X0 d13_29 (by decide) rfl ?_
  refine own_aloadN (pc' := 65) B X0 d13_64 rfl rfl rfl ?_
  refine own_iloadN (pc' := 66) B X0 d13_65 rfl rfl ?_
  refine own_baload (pc' := 67) B X0 V_w0 (v := (.int p9)) ⟨by decide, by decide⟩ rfl d13_66 rfl ?_
  refine own_iload (pc' := 69) B X0 d13_67 rfl rfl ?_
  refine own_i2b (pc' := 70) B X0 d13_69 rfl hp7 ?_
  refine own_icmpNo (pc' := 73) B X0 d13_70 (teq rfl).2 rfl ?_
  refine own_iconst (pc' := 74) B X0 (z := (1 : Int32)) d13_73 rfl rfl ?_
  refine own_goto (pc' := 78) B X0 d13_74 (by decide) rfl ?_
  exact own_retN B X0 (t := .boolean) (z' := (1 : Int32)) (by simp) (by decide) d13_78 (by decide) (by decide) (⟨rfl, rfl⟩)
def Q_0 (Z : State) (i0 : Int32) (i1 : Int32) (i2 : Int32) (i3 : Int32) (h0 : Heap) (n0 : Nat) (v : Option Value) (h : Heap) : Prop :=
  (v = some (.int (1 : Int32)))
set_option maxRecDepth 65536 in
set_option maxHeartbeats 40000000 in
theorem rm_0 (l : Launch) (Z : State) (a0 : Array Value) (hw : ∀ d ∈ tables_1, d.before a0 Z = true) (ws : List Jvm.Cond) (i0 : Int32) (i1 : Int32) (i2 : Int32) (i3 : Int32) (h0 : Heap) (n0 : Nat) (Z0 : n0 ≤ h0.size)  :
    MetFree l x (head1 (Jvm.Cond.code x code maxLocals ret :: ws) room_1) (fun a U => a = #[(.int i0), (.int i1), (.int i2), (.int i3)] ∧ Z.Warmed39 U.vm ∧ U.heap = h0) (fun _ _ _ _ _ => True) (fun _ U o U' => ∃ v L, o = .returned v ∧ (Fr n0 L ∧ Q_0 Z i0 i1 i2 i3 h0 n0 v U'.heap) ∧ FrameEnd U o U' L room_1.cells room_1.slots) := by
  refine own_enter (Q := Q_0 Z i0 i1 i2 i3 h0 n0) (F := fun m => mkF m 0 #[.val (.int i0), .val (.int i1), .val (.int i2), .val (.int i3), .unset, .unset, .unset] []) (plainFor_of_name pn_2) (fun m => by first | (simp [entryFrame, mkF, argsToLocals, Value.category, maxLocals]; done) | rfl) ?_
  intro p e s m below meth c s₁ B X0
  have K : Keep h0 h0 [] := Keep.refl h0 _
  refine own_iloadN (pc' := 1) B X0 at_0 rfl rfl ?_
  refine own_ldcI (pc' := 3) B X0 (own_w hw 0 rfl) at_1 rfl ?_
  obtain ⟨y1, hy1⟩ : ∃ z : Int32, i2 &&& (2147483647 : Int32) = z := ⟨_, rfl⟩
  refine own_iand (pc' := 4) B X0 at_3 rfl hy1 ?_
  refine own_iconst (pc' := 5) B X0 (z := (5 : Int32)) at_4 rfl rfl ?_
  obtain ⟨y2, hy2⟩ : ∃ z : Int32, y1 % (5 : Int32) = z := ⟨_, rfl⟩
  refine own_irem (pc' := 6) B X0 at_5 rfl (by decide) hy2 ?_
  have z3 : y2.toInt = 0 ∨ y2.toInt = 1 ∨ y2.toInt = 2 ∨ y2.toInt = 3 ∨ y2.toInt = 4 := by
    have o0 := own_o_mask hy1 31 (by decide) (by decide)
    have o1 := own_o_irem hy2 5 (by decide)
    have o2 := rng32 i2
    have o3 := rng32 y1
    have o4 := rng32 y2
    have o5 : (2147483647 : Int32).toInt = 2147483647 := by decide
    have o6 : (5 : Int32).toInt = 5 := by decide
    omega
  rcases z3 with z3 | z3 | z3 | z3 | z3
  · obtain rfl : y2 = (0 : Int32) := Int32.toInt_inj.mp (z3.trans (by decide))
    refine own_istore (pc' := 8) B X0 (Ls' := #[.val (.int i0), .val (.int i1), .val (.int i2), .val (.int i3), .val (.int (0 : Int32)), .unset, .unset]) at_6 rfl rfl ?_
    refine own_new (pc' := 11) B X0 (own_w hw 1 rfl) (own_w hw 2 rfl) (own_w hw 3 rfl) at_8 rfl (k' := 1) (n' := 2) rfl rfl (by decide) (by decide) ?_
    intro T4 h4 b4 X4 g4 E4 E_b4 D4
    have sz_b4 : h0.size ≤ b4 := own_sz K g4
    have g_b4 : n0 ≤ b4 := Nat.le_trans Z0 sz_b4
    replace K := K.ext E4
    have F_b4_bytes : Fld Z h4 b4 "demitasse/interp/Bytes" "bytes" "[B" .null := D4 (Or.inl (own_w hw 12 rfl)) (ty := (.array .byte)) (by decide)
    have F_b4_length : Fld Z h4 b4 "demitasse/interp/Bytes" "length" "I" (.int (0 : Int32)) := D4 (Or.inl (own_w hw 33 rfl)) (ty := .int) (by decide)
    clear D4
    refine own_dup (pc' := 12) B X4 at_11 rfl rfl ?_
    refine own_callI (pc' := 15) B X4 rfl rfl (own_w hw 4 rfl) (own_w hw 5 rfl) (own_w hw 3 rfl) (own_w hw 6 rfl) (by decide) [] [(.ref b4)] (rm_1 l Z a0 hw [] b4 h4 n0 (Nat.le_trans Z0 K.1) E_b4 F_b4_bytes F_b4_length g_b4) 1 (by decide) (by decide) rfl pd_0 rfl rfl (Nat.le_of_eq rfl) at_12 rfl (k' := 2) (n' := 66) rfl rfl (by decide) (by decide) ?_
    intro T5 v5 h5 X5 q5
    have lt_b4 := E_b4.lt
    obtain ⟨b6, k7, rfl, K5, z_b6, E_b4, F_b4_bytes, F_b4_length, E_b6, V_b6⟩ := q5
    have ne_b4_b6 : b4 ≠ b6 := own_ne' lt_b4 z_b6
    have sz_b6 : h0.size ≤ b6 := Nat.le_trans K.1 z_b6
    have g_b6 : n0 ≤ b6 := Nat.le_trans Z0 sz_b6
    replace K := K.trans K5 (allS (Or.inr sz_b4) all0)
    show own_Go p e below (T5.setTop (mkF m 15 #[.val (.int i0), .val (.int i1), .val (.int i2), .val (.int i3), .val (.int (0 : Int32)), .unset, .unset] [(.ref b4)])) _
    refine own_astore (pc' := 17) B X5 (Ls' := #[.val (.int i0), .val (.int i1), .val (.int i2), .val (.int i3), .val (.int (0 : Int32)), .val (.ref b4), .unset]) at_15 rfl rfl rfl ?_
    refine own_aload (pc' := 19) B X5 at_17 rfl rfl rfl ?_
    refine own_iloadN (pc' := 20) B X5 at_19 rfl rfl ?_
    refine own_callV (pc' := 23) B X5 (own_w hw 13 rfl) (own_w hw 14 rfl) (own_w hw 16 rfl) (own_w hw 15 rfl) (own_w hw 3 rfl) (own_w hw 17 rfl) E_b4 (by decide) [(.int i0)] [] (rm_2 l Z a0 hw [] b4 b6 k7 (i0) h5 n0 (Nat.le_trans Z0 K.1) E_b4 F_b4_bytes F_b4_length g_b4 E_b6 V_b6 g_b6 ne_b4_b6) 0 (by decide) (by decide) rfl pd_1 rfl rfl (Nat.le_of_eq rfl) at_20 rfl (k' := 2) (n' := 66) rfl rfl (by decide) (by decide) ?_
    intro T8 v8 h8 X8 q8
    obtain ⟨y9, y10, y11, y12, y13, y14, y15, hy16, hy17, hy18, hy19, hy20, hy21, hy22, rfl, K8, E_b4, F_b4_bytes, F_b4_length, E_b6, V_b6⟩ := q8
    replace K := K.trans K8 (allS (Or.inr sz_b4) (allS (Or.inr sz_b6) all0))
    show own_Go p e below (T8.setTop (mkF m 23 #[.val (.int i0), .val (.int i1), .val (.int i2), .val (.int i3), .val (.int (0 : Int32)), .val (.ref b4), .unset] [])) _
    refine own_aload (pc' := 25) B X8 at_23 rfl rfl rfl ?_
    refine own_iloadN (pc' := 26) B X8 at_25 rfl rfl ?_
    refine own_callV (pc' := 29) B X8 (own_w hw 13 rfl) (own_w hw 14 rfl) (own_w hw 16 rfl) (own_w hw 15 rfl) (own_w hw 3 rfl) (own_w hw 17 rfl) E_b4 (by decide) [(.int i1)] [] (rm_13 l Z a0 hw [] b4 b6 k7 (y11) (y12) (y14) (y15) (i1) h8 n0 (Nat.le_trans Z0 K.1) E_b4 F_b4_bytes F_b4_length g_b4 E_b6 V_b6 g_b6 ne_b4_b6) 0 (by decide) (by decide) rfl pd_1 rfl rfl (Nat.le_of_eq rfl) at_26 rfl (k' := 2) (n' := 66) rfl rfl (by decide) (by decide) ?_
    intro T23 v23 h23 X23 q23
    obtain ⟨y24, y25, y26, y27, y28, y29, y30, hy31, hy32, hy33, hy34, hy35, hy36, hy37, rfl, K23, E_b4, F_b4_bytes, F_b4_length, E_b6, V_b6⟩ := q23
    replace K := K.trans K23 (allS (Or.inr sz_b4) (allS (Or.inr sz_b6) all0))
    show own_Go p e below (T23.setTop (mkF m 29 #[.val (.int i0), .val (.int i1), .val (.int i2), .val (.int i3), .val (.int (0 : Int32)), .val (.ref b4), .unset] [])) _
    refine own_aload (pc' := 31) B X23 at_29 rfl rfl rfl ?_
    refine own_iload (pc' := 33) B X23 at_31 rfl rfl ?_
    refine own_iloadN (pc' := 34) B X23 at_33 rfl rfl ?_
    refine own_callV (pc' := 37) B X23 (own_w hw 34 rfl) (own_w hw 35 rfl) (own_w hw 37 rfl) (own_w hw 36 rfl) (own_w hw 3 rfl) (own_w hw 38 rfl) E_b4 (by decide) [(.int (0 : Int32)), (.int i3)] [] (rm_24 l Z a0 hw [] b4 b6 k7 (y11) (y12) (y14) (y15) (y26) (y27) (y29) (y30) (i3) h23 n0 (Nat.le_trans Z0 K.1) E_b4 F_b4_bytes F_b4_length g_b4 E_b6 V_b6 g_b6 ne_b4_b6) 0 (by decide) (by decide) rfl pd_2 rfl rfl (Nat.le_of_eq rfl) at_34 rfl (k' := 2) (n' := 66) rfl rfl (by decide) (by decide) ?_
    intro T38 v38 h38 X38 q38
    obtain ⟨y39, y40, y41, y42, y43, y44, y45, hy46, hy47, hy48, hy49, hy50, hy51, hy52, rfl, K38, E_b6, V_b6⟩ := q38
    replace K := K.trans K38 (allS (Or.inr sz_b6) all0)
    replace E_b4 := E_b4.keep K38
    replace F_b4_bytes := F_b4_bytes.keep K38 (ninS ne_b4_b6 nin0)
    replace F_b4_length := F_b4_length.keep K38 (ninS ne_b4_b6 nin0)
    show own_Go p e below (T38.setTop (mkF m 37 #[.val (.int i0), .val (.int i1), .val (.int i2), .val (.int i3), .val (.int (0 : Int32)), .val (.ref b4), .unset] [])) _
    refine own_aload (pc' := 39) B X38 at_37 rfl rfl rfl ?_
    refine own_callV (pc' := 42) B X38 (own_w hw 44 rfl) (own_w hw 45 rfl) (own_w hw 47 rfl) (own_w hw 46 rfl) (own_w hw 3 rfl) (own_w hw 48 rfl) E_b4 (by decide) [] [] (rm_27 l Z a0 hw [] b4 b6 k7 (y41) (y42) (y44) (y45) (y26) (y27) (y29) (y30) h38 n0 (Nat.le_trans Z0 K.1) E_b4 F_b4_bytes F_b4_length g_b4 E_b6 V_b6 g_b6 ne_b4_b6) 0 (by decide) (by decide) rfl pd_5 rfl rfl (Nat.le_of_eq rfl) at_39 rfl (k' := 3) (n' := 74) rfl rfl (by decide) (by decide) ?_
    intro T53 v53 h53 X53 q53
    have lt_b4 := E_b4.lt
    have lt_b6 := E_b6.lt
    obtain ⟨b54, k55, rfl, K53, z_b54, E_b54, V_b54⟩ := q53
    have ne_b4_b54 : b4 ≠ b54 := own_ne' lt_b4 z_b54
    have ne_b6_b54 : b6 ≠ b54 := own_ne' lt_b6 z_b54
    have sz_b54 : h0.size ≤ b54 := Nat.le_trans K.1 z_b54
    have g_b54 : n0 ≤ b54 := Nat.le_trans Z0 sz_b54
    replace K := K.trans K53 all0
    replace E_b4 := E_b4.keep K53
    replace F_b4_bytes := F_b4_bytes.keep K53 nin0
    replace F_b4_length := F_b4_length.keep K53 nin0
    replace E_b6 := E_b6.keep K53
    replace V_b6 := V_b6.keep K53 nin0
    show own_Go p e below (T53.setTop (mkF m 42 #[.val (.int i0), .val (.int i1), .val (.int i2), .val (.int i3), .val (.int (0 : Int32)), .val (.ref b4), .unset] [(.ref b54)])) _
    refine own_astore (pc' := 44) B X53 (Ls' := #[.val (.int i0), .val (.int i1), .val (.int i2), .val (.int i3), .val (.int (0 : Int32)), .val (.ref b4), .val (.ref b54)]) at_42 rfl rfl rfl ?_
    refine own_aload (pc' := 46) B X53 at_44 rfl rfl rfl ?_
    refine own_callV (pc' := 49) B X53 (own_w hw 61 rfl) (own_w hw 62 rfl) (own_w hw 64 rfl) (own_w hw 63 rfl) (own_w hw 3 rfl) (own_w hw 65 rfl) E_b4 (by decide) [] [] (rm_30 l Z a0 hw [] b4 b6 k7 (y41) (y42) (y44) (y45) (y26) (y27) (y29) (y30) h53 n0 (Nat.le_trans Z0 K.1) E_b4 F_b4_bytes F_b4_length g_b4 E_b6 V_b6 g_b6 ne_b4_b6) 0 (by decide) (by decide) rfl pd_6 rfl rfl (Nat.le_of_eq rfl) at_46 rfl (k' := 3) (n' := 74) rfl rfl (by decide) (by decide) ?_
    intro T56 v56 h56 X56 q56
    obtain ⟨rfl, rfl⟩ := q56
    show own_Go p e below (T56.setTop (mkF m 49 #[.val (.int i0), .val (.int i1), .val (.int i2), .val (.int i3), .val (.int (0 : Int32)), .val (.ref b4), .val (.ref b54)] [(.int (8 : Int32))])) _
    refine own_bipush (pc' := 51) B X56 (z := (8 : Int32)) at_49 rfl (by decide) ?_
    refine own_icmpNo (pc' := 54) B X56 at_51 (teq (by decide : (8 : Int32) = (8 : Int32))).2 rfl ?_
    refine own_aload (pc' := 56) B X56 at_54 rfl rfl rfl ?_
    refine own_arraylength (pc' := 57) B X56 V_b54 at_56 rfl ?_
    refine own_bipush (pc' := 59) B X56 (z := (8 : Int32)) at_57 rfl (by decide) ?_
    refine own_icmpYes (pc' := 64) B X56 at_59 (teq (by decide : (8 : Int32) = (8 : Int32))).1 (by decide) rfl ?_
    refine own_aload (pc' := 66) B X56 at_64 rfl rfl rfl ?_
    refine own_iconst (pc' := 67) B X56 (z := (0 : Int32)) at_66 rfl rfl ?_
    refine own_iloadN (pc' := 68) B X56 at_67 rfl rfl ?_
    refine own_iloadN (pc' := 69) B X56 at_68 rfl rfl ?_
    refine own_iload (pc' := 71) B X56 at_69 rfl rfl ?_
    refine own_iloadN (pc' := 72) B X56 at_71 rfl rfl ?_
    refine own_callS (pc' := 75) B X56 (own_w hw 66 rfl) (own_w hw 67 rfl) (own_w hw 68 rfl) (own_w hw 69 rfl) (by decide) [(.ref b54), (.int (0 : Int32)), (.int i0), (.int i1), (.int (0 : Int32)), (.int i3)] [] (rm_31 l Z a0 hw [] b54 k55 (y41) (y42) (y44) (y45) (y26) (y27) (y29) (y30) (i0) (i1) (i3) (y25) (y24) (y28) (y40) (y39) (y43) h53 n0 (Nat.le_trans Z0 K.1) E_b54 V_b54 g_b54 hy33 hy34 hy36 hy37 hy48 hy49 hy51 hy52 hy31 hy32 hy35 hy46 hy47 hy50) 0 (by decide) (by decide) rfl pd_7 rfl rfl (Nat.le_of_eq rfl) at_72 rfl (k' := 3) (n' := 74) rfl rfl (by decide) (by decide) ?_
    intro T57 v57 h57 X57 q57
    obtain ⟨y58, y59, hy60, hy61, c62, rfl, rfl⟩ := q57
    show own_Go p e below (T57.setTop (mkF m 75 #[.val (.int i0), .val (.int i1), .val (.int i2), .val (.int i3), .val (.int (0 : Int32)), .val (.ref b4), .val (.ref b54)] [(.int (1 : Int32))])) _
    refine own_ifNo (pc' := 78) B X57 at_75 ((if0 _ _).trans (feq (by decide : ¬ ((1 : Int32) = (0 : Int32)))).1) rfl ?_
    refine own_aload (pc' := 80) B X57 at_78 rfl rfl rfl ?_
    refine own_iconst (pc' := 81) B X57 (z := (1 : Int32)) at_80 rfl rfl ?_
    refine own_iloadN (pc' := 82) B X57 at_81 rfl rfl ?_
    refine own_iloadN (pc' := 83) B X57 at_82 rfl rfl ?_
    refine own_iload (pc' := 85) B X57 at_83 rfl rfl ?_
    refine own_iloadN (pc' := 86) B X57 at_85 rfl rfl ?_
    refine own_callS (pc' := 89) B X57 (own_w hw 66 rfl) (own_w hw 67 rfl) (own_w hw 68 rfl) (own_w hw 69 rfl) (by decide) [(.ref b54), (.int (1 : Int32)), (.int i0), (.int i1), (.int (0 : Int32)), (.int i3)] [] (rm_32 l Z a0 hw [] b54 k55 (y41) (y42) (y44) (y45) (y26) (y27) (y29) (y30) (i0) (i1) (i3) (y25) (y24) (y28) (y40) (y39) (y43) h53 n0 (Nat.le_trans Z0 K.1) E_b54 V_b54 g_b54 hy33 hy34 hy36 hy37 hy48 hy49 hy51 hy52 hy31 hy32 hy35 hy46 hy47 hy50) 0 (by decide) (by decide) rfl pd_7 rfl rfl (Nat.le_of_eq rfl) at_86 rfl (k' := 3) (n' := 74) rfl rfl (by decide) (by decide) ?_
    intro T63 v63 h63 X63 q63
    obtain ⟨rfl, rfl⟩ := q63
    show own_Go p e below (T63.setTop (mkF m 89 #[.val (.int i0), .val (.int i1), .val (.int i2), .val (.int i3), .val (.int (0 : Int32)), .val (.ref b4), .val (.ref b54)] [(.int (1 : Int32))])) _
    refine own_ifNo (pc' := 92) B X63 at_89 ((if0 _ _).trans (feq (by decide : ¬ ((1 : Int32) = (0 : Int32)))).1) rfl ?_
    refine own_aload (pc' := 94) B X63 at_92 rfl rfl rfl ?_
    refine own_iconst (pc' := 95) B X63 (z := (2 : Int32)) at_94 rfl rfl ?_
    refine own_iloadN (pc' := 96) B X63 at_95 rfl rfl ?_
    refine own_iloadN (pc' := 97) B X63 at_96 rfl rfl ?_
    refine own_iload (pc' := 99) B X63 at_97 rfl rfl ?_
    refine own_iloadN (pc' := 100) B X63 at_99 rfl rfl ?_
    refine own_callS (pc' := 103) B X63 (own_w hw 66 rfl) (own_w hw 67 rfl) (own_w hw 68 rfl) (own_w hw 69 rfl) (by decide) [(.ref b54), (.int (2 : Int32)), (.int i0), (.int i1), (.int (0 : Int32)), (.int i3)] [] (rm_33 l Z a0 hw [] b54 k55 (y41) (y42) (y44) (y45) (y26) (y27) (y29) (y30) (i0) (i1) (i3) (y25) (y24) (y28) (y40) (y39) (y43) h53 n0 (Nat.le_trans Z0 K.1) E_b54 V_b54 g_b54 hy33 hy34 hy36 hy37 hy48 hy49 hy51 hy52 hy31 hy32 hy35 hy46 hy47 hy50) 0 (by decide) (by decide) rfl pd_7 rfl rfl (Nat.le_of_eq rfl) at_100 rfl (k' := 3) (n' := 74) rfl rfl (by decide) (by decide) ?_
    intro T64 v64 h64 X64 q64
    obtain ⟨rfl, rfl⟩ := q64
    show own_Go p e below (T64.setTop (mkF m 103 #[.val (.int i0), .val (.int i1), .val (.int i2), .val (.int i3), .val (.int (0 : Int32)), .val (.ref b4), .val (.ref b54)] [(.int (1 : Int32))])) _
    refine own_ifNo (pc' := 106) B X64 at_103 ((if0 _ _).trans (feq (by decide : ¬ ((1 : Int32) = (0 : Int32)))).1) rfl ?_
    refine own_aload (pc' := 108) B X64 at_106 rfl rfl rfl ?_
    refine own_iconst (pc' := 109) B X64 (z := (3 : Int32)) at_108 rfl rfl ?_
    refine own_iloadN (pc' := 110) B X64 at_109 rfl rfl ?_
    refine own_iloadN (pc' := 111) B X64 at_110 rfl rfl ?_
    refine own_iload (pc' := 113) B X64 at_111 rfl rfl ?_
    refine own_iloadN (pc' := 114) B X64 at_113 rfl rfl ?_
    refine own_callS (pc' := 117) B X64 (own_w hw 66 rfl) (own_w hw 67 rfl) (own_w hw 68 rfl) (own_w hw 69 rfl) (by decide) [(.ref b54), (.int (3 : Int32)), (.int i0), (.int i1), (.int (0 : Int32)), (.int i3)] [] (rm_34 l Z a0 hw [] b54 k55 (y41) (y42) (y44) (y45) (y26) (y27) (y29) (y30) (i0) (i1) (i3) (y25) (y24) (y28) (y40) (y39) (y43) h53 n0 (Nat.le_trans Z0 K.1) E_b54 V_b54 g_b54 hy33 hy34 hy36 hy37 hy48 hy49 hy51 hy52 hy31 hy32 hy35 hy46 hy47 hy50) 0 (by decide) (by decide) rfl pd_7 rfl rfl (Nat.le_of_eq rfl) at_114 rfl (k' := 3) (n' := 74) rfl rfl (by decide) (by decide) ?_
    intro T65 v65 h65 X65 q65
    obtain ⟨rfl, rfl⟩ := q65
    show own_Go p e below (T65.setTop (mkF m 117 #[.val (.int i0), .val (.int i1), .val (.int i2), .val (.int i3), .val (.int (0 : Int32)), .val (.ref b4), .val (.ref b54)] [(.int (1 : Int32))])) _
    refine own_ifNo (pc' := 120) B X65 at_117 ((if0 _ _).trans (feq (by decide : ¬ ((1 : Int32) = (0 : Int32)))).1) rfl ?_
    refine own_aload (pc' := 122) B X65 at_120 rfl rfl rfl ?_
    refine own_iconst (pc' := 123) B X65 (z := (4 : Int32)) at_122 rfl rfl ?_
    refine own_iloadN (pc' := 124) B X65 at_123 rfl rfl ?_
    refine own_iloadN (pc' := 125) B X65 at_124 rfl rfl ?_
    refine own_iload (pc' := 127) B X65 at_125 rfl rfl ?_
    refine own_iloadN (pc' := 128) B X65 at_127 rfl rfl ?_
    refine own_callS (pc' := 131) B X65 (own_w hw 66 rfl) (own_w hw 67 rfl) (own_w hw 68 rfl) (own_w hw 69 rfl) (by decide) [(.ref b54), (.int (4 : Int32)), (.int i0), (.int i1), (.int (0 : Int32)), (.int i3)] [] (rm_35 l Z a0 hw [] b54 k55 (y41) (y42) (y44) (y45) (y26) (y27) (y29) (y30) (i0) (i1) (i3) (y25) (y24) (y28) (y40) (y39) (y43) h53 n0 (Nat.le_trans Z0 K.1) E_b54 V_b54 g_b54 hy33 hy34 hy36 hy37 hy48 hy49 hy51 hy52 hy31 hy32 hy35 hy46 hy47 hy50) 0 (by decide) (by decide) rfl pd_7 rfl rfl (Nat.le_of_eq rfl) at_128 rfl (k' := 3) (n' := 74) rfl rfl (by decide) (by decide) ?_
    intro T66 v66 h66 X66 q66
    obtain ⟨y67, y68, hy69, hy70, c71, rfl, rfl⟩ := q66
    show own_Go p e below (T66.setTop (mkF m 131 #[.val (.int i0), .val (.int i1), .val (.int i2), .val (.int i3), .val (.int (0 : Int32)), .val (.ref b4), .val (.ref b54)] [(.int (1 : Int32))])) _
    refine own_ifNo (pc' := 134) B X66 at_131 ((if0 _ _).trans (feq (by decide : ¬ ((1 : Int32) = (0 : Int32)))).1) rfl ?_
    refine own_aload (pc' := 136) B X66 at_134 rfl rfl rfl ?_
    refine own_iconst (pc' := 137) B X66 (z := (5 : Int32)) at_136 rfl rfl ?_
    refine own_iloadN (pc' := 138) B X66 at_137 rfl rfl ?_
    refine own_iloadN (pc' := 139) B X66 at_138 rfl rfl ?_
    refine own_iload (pc' := 141) B X66 at_139 rfl rfl ?_
    refine own_iloadN (pc' := 142) B X66 at_141 rfl rfl ?_
    refine own_callS (pc' := 145) B X66 (own_w hw 66 rfl) (own_w hw 67 rfl) (own_w hw 68 rfl) (own_w hw 69 rfl) (by decide) [(.ref b54), (.int (5 : Int32)), (.int i0), (.int i1), (.int (0 : Int32)), (.int i3)] [] (rm_36 l Z a0 hw [] b54 k55 (y41) (y42) (y44) (y45) (y26) (y27) (y29) (y30) (i0) (i1) (i3) (y25) (y24) (y28) (y40) (y39) (y43) h53 n0 (Nat.le_trans Z0 K.1) E_b54 V_b54 g_b54 hy33 hy34 hy36 hy37 hy48 hy49 hy51 hy52 hy31 hy32 hy35 hy46 hy47 hy50) 0 (by decide) (by decide) rfl pd_7 rfl rfl (Nat.le_of_eq rfl) at_142 rfl (k' := 3) (n' := 74) rfl rfl (by decide) (by decide) ?_
    intro T72 v72 h72 X72 q72
    obtain ⟨rfl, rfl⟩ := q72
    show own_Go p e below (T72.setTop (mkF m 145 #[.val (.int i0), .val (.int i1), .val (.int i2), .val (.int i3), .val (.int (0 : Int32)), .val (.ref b4), .val (.ref b54)] [(.int (1 : Int32))])) _
    refine own_ifNo (pc' := 148) B X72 at_145 ((if0 _ _).trans (feq (by decide : ¬ ((1 : Int32) = (0 : Int32)))).1) rfl ?_
    refine own_aload (pc' := 150) B X72 at_148 rfl rfl rfl ?_
    refine own_bipush (pc' := 152) B X72 (z := (6 : Int32)) at_150 rfl (by decide) ?_
    refine own_iloadN (pc' := 153) B X72 at_152 rfl rfl ?_
    refine own_iloadN (pc' := 154) B X72 at_153 rfl rfl ?_
    refine own_iload (pc' := 156) B X72 at_154 rfl rfl ?_
    refine own_iloadN (pc' := 157) B X72 at_156 rfl rfl ?_
    refine own_callS (pc' := 160) B X72 (own_w hw 66 rfl) (own_w hw 67 rfl) (own_w hw 68 rfl) (own_w hw 69 rfl) (by decide) [(.ref b54), (.int (6 : Int32)), (.int i0), (.int i1), (.int (0 : Int32)), (.int i3)] [] (rm_37 l Z a0 hw [] b54 k55 (y41) (y42) (y44) (y45) (y26) (y27) (y29) (y30) (i0) (i1) (i3) (y25) (y24) (y28) (y40) (y39) (y43) h53 n0 (Nat.le_trans Z0 K.1) E_b54 V_b54 g_b54 hy33 hy34 hy36 hy37 hy48 hy49 hy51 hy52 hy31 hy32 hy35 hy46 hy47 hy50) 0 (by decide) (by decide) rfl pd_7 rfl rfl (Nat.le_of_eq rfl) at_157 rfl (k' := 3) (n' := 74) rfl rfl (by decide) (by decide) ?_
    intro T73 v73 h73 X73 q73
    obtain ⟨rfl, rfl⟩ := q73
    show own_Go p e below (T73.setTop (mkF m 160 #[.val (.int i0), .val (.int i1), .val (.int i2), .val (.int i3), .val (.int (0 : Int32)), .val (.ref b4), .val (.ref b54)] [(.int (1 : Int32))])) _
    refine own_ifNo (pc' := 163) B X73 at_160 ((if0 _ _).trans (feq (by decide : ¬ ((1 : Int32) = (0 : Int32)))).1) rfl ?_
    refine own_aload (pc' := 165) B X73 at_163 rfl rfl rfl ?_
    refine own_bipush (pc' := 167) B X73 (z := (7 : Int32)) at_165 rfl (by decide) ?_
    refine own_iloadN (pc' := 168) B X73 at_167 rfl rfl ?_
    refine own_iloadN (pc' := 169) B X73 at_168 rfl rfl ?_
    refine own_iload (pc' := 171) B X73 at_169 rfl rfl ?_
    refine own_iloadN (pc' := 172) B X73 at_171 rfl rfl ?_
    refine own_callS (pc' := 175) B X73 (own_w hw 66 rfl) (own_w hw 67 rfl) (own_w hw 68 rfl) (own_w hw 69 rfl) (by decide) [(.ref b54), (.int (7 : Int32)), (.int i0), (.int i1), (.int (0 : Int32)), (.int i3)] [] (rm_38 l Z a0 hw [] b54 k55 (y41) (y42) (y44) (y45) (y26) (y27) (y29) (y30) (i0) (i1) (i3) (y25) (y24) (y28) (y40) (y39) (y43) h53 n0 (Nat.le_trans Z0 K.1) E_b54 V_b54 g_b54 hy33 hy34 hy36 hy37 hy48 hy49 hy51 hy52 hy31 hy32 hy35 hy46 hy47 hy50) 0 (by decide) (by decide) rfl pd_7 rfl rfl (Nat.le_of_eq rfl) at_172 rfl (k' := 3) (n' := 74) rfl rfl (by decide) (by decide) ?_
    intro T74 v74 h74 X74 q74
    obtain ⟨rfl, rfl⟩ := q74
    show own_Go p e below (T74.setTop (mkF m 175 #[.val (.int i0), .val (.int i1), .val (.int i2), .val (.int i3), .val (.int (0 : Int32)), .val (.ref b4), .val (.ref b54)] [(.int (1 : Int32))])) _
    refine own_ifNo (pc' := 178) B X74 at_175 ((if0 _ _).trans (feq (by decide : ¬ ((1 : Int32) = (0 : Int32)))).1) rfl ?_
    refine own_iconst (pc' := 179) B X74 (z := (1 : Int32)) at_178 rfl rfl ?_
    refine own_goto (pc' := 183) B X74 at_179 (by decide) rfl ?_
    exact own_retN B X74 (t := .boolean) (z' := (1 : Int32)) (by simp) (by decide) at_183 (by decide) (by decide) rfl
  · obtain rfl : y2 = (1 : Int32) := Int32.toInt_inj.mp (z3.trans (by decide))
    refine own_istore (pc' := 8) B X0 (Ls' := #[.val (.int i0), .val (.int i1), .val (.int i2), .val (.int i3), .val (.int (1 : Int32)), .unset, .unset]) at_6 rfl rfl ?_
    refine own_new (pc' := 11) B X0 (own_w hw 1 rfl) (own_w hw 2 rfl) (own_w hw 3 rfl) at_8 rfl (k' := 1) (n' := 2) rfl rfl (by decide) (by decide) ?_
    intro T75 h75 b75 X75 g75 E75 E_b75 D75
    have sz_b75 : h0.size ≤ b75 := own_sz K g75
    have g_b75 : n0 ≤ b75 := Nat.le_trans Z0 sz_b75
    replace K := K.ext E75
    have F_b75_bytes : Fld Z h75 b75 "demitasse/interp/Bytes" "bytes" "[B" .null := D75 (Or.inl (own_w hw 12 rfl)) (ty := (.array .byte)) (by decide)
    have F_b75_length : Fld Z h75 b75 "demitasse/interp/Bytes" "length" "I" (.int (0 : Int32)) := D75 (Or.inl (own_w hw 33 rfl)) (ty := .int) (by decide)
    clear D75
    refine own_dup (pc' := 12) B X75 at_11 rfl rfl ?_
    refine own_callI (pc' := 15) B X75 rfl rfl (own_w hw 4 rfl) (own_w hw 5 rfl) (own_w hw 3 rfl) (own_w hw 6 rfl) (by decide) [] [(.ref b75)] (rm_1 l Z a0 hw [] b75 h75 n0 (Nat.le_trans Z0 K.1) E_b75 F_b75_bytes F_b75_length g_b75) 1 (by decide) (by decide) rfl pd_0 rfl rfl (Nat.le_of_eq rfl) at_12 rfl (k' := 2) (n' := 66) rfl rfl (by decide) (by decide) ?_
    intro T76 v76 h76 X76 q76
    have lt_b75 := E_b75.lt
    obtain ⟨b77, k78, rfl, K76, z_b77, E_b75, F_b75_bytes, F_b75_length, E_b77, V_b77⟩ := q76
    have ne_b75_b77 : b75 ≠ b77 := own_ne' lt_b75 z_b77
    have sz_b77 : h0.size ≤ b77 := Nat.le_trans K.1 z_b77
    have g_b77 : n0 ≤ b77 := Nat.le_trans Z0 sz_b77
    replace K := K.trans K76 (allS (Or.inr sz_b75) all0)
    show own_Go p e below (T76.setTop (mkF m 15 #[.val (.int i0), .val (.int i1), .val (.int i2), .val (.int i3), .val (.int (1 : Int32)), .unset, .unset] [(.ref b75)])) _
    refine own_astore (pc' := 17) B X76 (Ls' := #[.val (.int i0), .val (.int i1), .val (.int i2), .val (.int i3), .val (.int (1 : Int32)), .val (.ref b75), .unset]) at_15 rfl rfl rfl ?_
    refine own_aload (pc' := 19) B X76 at_17 rfl rfl rfl ?_
    refine own_iloadN (pc' := 20) B X76 at_19 rfl rfl ?_
    refine own_callV (pc' := 23) B X76 (own_w hw 13 rfl) (own_w hw 14 rfl) (own_w hw 16 rfl) (own_w hw 15 rfl) (own_w hw 3 rfl) (own_w hw 17 rfl) E_b75 (by decide) [(.int i0)] [] (rm_2 l Z a0 hw [] b75 b77 k78 (i0) h76 n0 (Nat.le_trans Z0 K.1) E_b75 F_b75_bytes F_b75_length g_b75 E_b77 V_b77 g_b77 ne_b75_b77) 0 (by decide) (by decide) rfl pd_1 rfl rfl (Nat.le_of_eq rfl) at_20 rfl (k' := 2) (n' := 66) rfl rfl (by decide) (by decide) ?_
    intro T79 v79 h79 X79 q79
    obtain ⟨y80, y81, y82, y83, y84, y85, y86, hy87, hy88, hy89, hy90, hy91, hy92, hy93, rfl, K79, E_b75, F_b75_bytes, F_b75_length, E_b77, V_b77⟩ := q79
    replace K := K.trans K79 (allS (Or.inr sz_b75) (allS (Or.inr sz_b77) all0))
    show own_Go p e below (T79.setTop (mkF m 23 #[.val (.int i0), .val (.int i1), .val (.int i2), .val (.int i3), .val (.int (1 : Int32)), .val (.ref b75), .unset] [])) _
    refine own_aload (pc' := 25) B X79 at_23 rfl rfl rfl ?_
    refine own_iloadN (pc' := 26) B X79 at_25 rfl rfl ?_
    refine own_callV (pc' := 29) B X79 (own_w hw 13 rfl) (own_w hw 14 rfl) (own_w hw 16 rfl) (own_w hw 15 rfl) (own_w hw 3 rfl) (own_w hw 17 rfl) E_b75 (by decide) [(.int i1)] [] (rm_13 l Z a0 hw [] b75 b77 k78 (y82) (y83) (y85) (y86) (i1) h79 n0 (Nat.le_trans Z0 K.1) E_b75 F_b75_bytes F_b75_length g_b75 E_b77 V_b77 g_b77 ne_b75_b77) 0 (by decide) (by decide) rfl pd_1 rfl rfl (Nat.le_of_eq rfl) at_26 rfl (k' := 2) (n' := 66) rfl rfl (by decide) (by decide) ?_
    intro T94 v94 h94 X94 q94
    obtain ⟨y95, y96, y97, y98, y99, y100, y101, hy102, hy103, hy104, hy105, hy106, hy107, hy108, rfl, K94, E_b75, F_b75_bytes, F_b75_length, E_b77, V_b77⟩ := q94
    replace K := K.trans K94 (allS (Or.inr sz_b75) (allS (Or.inr sz_b77) all0))
    show own_Go p e below (T94.setTop (mkF m 29 #[.val (.int i0), .val (.int i1), .val (.int i2), .val (.int i3), .val (.int (1 : Int32)), .val (.ref b75), .unset] [])) _
    refine own_aload (pc' := 31) B X94 at_29 rfl rfl rfl ?_
    refine own_iload (pc' := 33) B X94 at_31 rfl rfl ?_
    refine own_iloadN (pc' := 34) B X94 at_33 rfl rfl ?_
    refine own_callV (pc' := 37) B X94 (own_w hw 34 rfl) (own_w hw 35 rfl) (own_w hw 37 rfl) (own_w hw 36 rfl) (own_w hw 3 rfl) (own_w hw 38 rfl) E_b75 (by decide) [(.int (1 : Int32)), (.int i3)] [] (rm_39 l Z a0 hw [] b75 b77 k78 (y82) (y83) (y85) (y86) (y97) (y98) (y100) (y101) (i3) h94 n0 (Nat.le_trans Z0 K.1) E_b75 F_b75_bytes F_b75_length g_b75 E_b77 V_b77 g_b77 ne_b75_b77) 0 (by decide) (by decide) rfl pd_2 rfl rfl (Nat.le_of_eq rfl) at_34 rfl (k' := 2) (n' := 66) rfl rfl (by decide) (by decide) ?_
    intro T109 v109 h109 X109 q109
    obtain ⟨y110, y111, y112, y113, y114, y115, y116, hy117, hy118, hy119, hy120, hy121, hy122, hy123, rfl, K109, E_b77, V_b77⟩ := q109
    replace K := K.trans K109 (allS (Or.inr sz_b77) all0)
    replace E_b75 := E_b75.keep K109
    replace F_b75_bytes := F_b75_bytes.keep K109 (ninS ne_b75_b77 nin0)
    replace F_b75_length := F_b75_length.keep K109 (ninS ne_b75_b77 nin0)
    show own_Go p e below (T109.setTop (mkF m 37 #[.val (.int i0), .val (.int i1), .val (.int i2), .val (.int i3), .val (.int (1 : Int32)), .val (.ref b75), .unset] [])) _
    refine own_aload (pc' := 39) B X109 at_37 rfl rfl rfl ?_
    refine own_callV (pc' := 42) B X109 (own_w hw 44 rfl) (own_w hw 45 rfl) (own_w hw 47 rfl) (own_w hw 46 rfl) (own_w hw 3 rfl) (own_w hw 48 rfl) E_b75 (by decide) [] [] (rm_27 l Z a0 hw [] b75 b77 k78 (y82) (y112) (y113) (y115) (y116) (y98) (y100) (y101) h109 n0 (Nat.le_trans Z0 K.1) E_b75 F_b75_bytes F_b75_length g_b75 E_b77 V_b77 g_b77 ne_b75_b77) 0 (by decide) (by decide) rfl pd_5 rfl rfl (Nat.le_of_eq rfl) at_39 rfl (k' := 3) (n' := 74) rfl rfl (by decide) (by decide) ?_
    intro T124 v124 h124 X124 q124
    have lt_b75 := E_b75.lt
    have lt_b77 := E_b77.lt
    obtain ⟨b125, k126, rfl, K124, z_b125, E_b125, V_b125⟩ := q124
    have ne_b75_b125 : b75 ≠ b125 := own_ne' lt_b75 z_b125
    have ne_b77_b125 : b77 ≠ b125 := own_ne' lt_b77 z_b125
    have sz_b125 : h0.size ≤ b125 := Nat.le_trans K.1 z_b125
    have g_b125 : n0 ≤ b125 := Nat.le_trans Z0 sz_b125
    replace K := K.trans K124 all0
    replace E_b75 := E_b75.keep K124
    replace F_b75_bytes := F_b75_bytes.keep K124 nin0
    replace F_b75_length := F_b75_length.keep K124 nin0
    replace E_b77 := E_b77.keep K124
    replace V_b77 := V_b77.keep K124 nin0
    show own_Go p e below (T124.setTop (mkF m 42 #[.val (.int i0), .val (.int i1), .val (.int i2), .val (.int i3), .val (.int (1 : Int32)), .val (.ref b75), .unset] [(.ref b125)])) _
    refine own_astore (pc' := 44) B X124 (Ls' := #[.val (.int i0), .val (.int i1), .val (.int i2), .val (.int i3), .val (.int (1 : Int32)), .val (.ref b75), .val (.ref b125)]) at_42 rfl rfl rfl ?_
    refine own_aload (pc' := 46) B X124 at_44 rfl rfl rfl ?_
    refine own_callV (pc' := 49) B X124 (own_w hw 61 rfl) (own_w hw 62 rfl) (own_w hw 64 rfl) (own_w hw 63 rfl) (own_w hw 3 rfl) (own_w hw 65 rfl) E_b75 (by decide) [] [] (rm_30 l Z a0 hw [] b75 b77 k78 (y82) (y112) (y113) (y115) (y116) (y98) (y100) (y101) h124 n0 (Nat.le_trans Z0 K.1) E_b75 F_b75_bytes F_b75_length g_b75 E_b77 V_b77 g_b77 ne_b75_b77) 0 (by decide) (by decide) rfl pd_6 rfl rfl (Nat.le_of_eq rfl) at_46 rfl (k' := 3) (n' := 74) rfl rfl (by decide) (by decide) ?_
    intro T127 v127 h127 X127 q127
    obtain ⟨rfl, rfl⟩ := q127
    show own_Go p e below (T127.setTop (mkF m 49 #[.val (.int i0), .val (.int i1), .val (.int i2), .val (.int i3), .val (.int (1 : Int32)), .val (.ref b75), .val (.ref b125)] [(.int (8 : Int32))])) _
    refine own_bipush (pc' := 51) B X127 (z := (8 : Int32)) at_49 rfl (by decide) ?_
    refine own_icmpNo (pc' := 54) B X127 at_51 (teq (by decide : (8 : Int32) = (8 : Int32))).2 rfl ?_
    refine own_aload (pc' := 56) B X127 at_54 rfl rfl rfl ?_
    refine own_arraylength (pc' := 57) B X127 V_b125 at_56 rfl ?_
    refine own_bipush (pc' := 59) B X127 (z := (8 : Int32)) at_57 rfl (by decide) ?_
    refine own_icmpYes (pc' := 64) B X127 at_59 (teq (by decide : (8 : Int32) = (8 : Int32))).1 (by decide) rfl ?_
    refine own_aload (pc' := 66) B X127 at_64 rfl rfl rfl ?_
    refine own_iconst (pc' := 67) B X127 (z := (0 : Int32)) at_66 rfl rfl ?_
    refine own_iloadN (pc' := 68) B X127 at_67 rfl rfl ?_
    refine own_iloadN (pc' := 69) B X127 at_68 rfl rfl ?_
    refine own_iload (pc' := 71) B X127 at_69 rfl rfl ?_
    refine own_iloadN (pc' := 72) B X127 at_71 rfl rfl ?_
    refine own_callS (pc' := 75) B X127 (own_w hw 66 rfl) (own_w hw 67 rfl) (own_w hw 68 rfl) (own_w hw 69 rfl) (by decide) [(.ref b125), (.int (0 : Int32)), (.int i0), (.int i1), (.int (1 : Int32)), (.int i3)] [] (rm_42 l Z a0 hw [] b125 k126 (y82) (y112) (y113) (y115) (y116) (y98) (y100) (y101) (i0) (i1) (i3) (y81) (y95) (y99) (y111) (y110) (y114) (y80) h124 n0 (Nat.le_trans Z0 K.1) E_b125 V_b125 g_b125 hy89 hy105 hy107 hy108 hy119 hy120 hy122 hy123 hy88 hy102 hy106 hy117 hy118 hy121 hy87) 0 (by decide) (by decide) rfl pd_7 rfl rfl (Nat.le_of_eq rfl) at_72 rfl (k' := 3) (n' := 74) rfl rfl (by decide) (by decide) ?_
    intro T128 v128 h128 X128 q128
    obtain ⟨y129, y130, hy131, hy132, c133, rfl, rfl⟩ := q128
    show own_Go p e below (T128.setTop (mkF m 75 #[.val (.int i0), .val (.int i1), .val (.int i2), .val (.int i3), .val (.int (1 : Int32)), .val (.ref b75), .val (.ref b125)] [(.int (1 : Int32))])) _
    refine own_ifNo (pc' := 78) B X128 at_75 ((if0 _ _).trans (feq (by decide : ¬ ((1 : Int32) = (0 : Int32)))).1) rfl ?_
    refine own_aload (pc' := 80) B X128 at_78 rfl rfl rfl ?_
    refine own_iconst (pc' := 81) B X128 (z := (1 : Int32)) at_80 rfl rfl ?_
    refine own_iloadN (pc' := 82) B X128 at_81 rfl rfl ?_
    refine own_iloadN (pc' := 83) B X128 at_82 rfl rfl ?_
    refine own_iload (pc' := 85) B X128 at_83 rfl rfl ?_
    refine own_iloadN (pc' := 86) B X128 at_85 rfl rfl ?_
    refine own_callS (pc' := 89) B X128 (own_w hw 66 rfl) (own_w hw 67 rfl) (own_w hw 68 rfl) (own_w hw 69 rfl) (by decide) [(.ref b125), (.int (1 : Int32)), (.int i0), (.int i1), (.int (1 : Int32)), (.int i3)] [] (rm_43 l Z a0 hw [] b125 k126 (y82) (y112) (y113) (y115) (y116) (y98) (y100) (y101) (i0) (i1) (i3) (y81) (y95) (y99) (y111) (y110) (y114) (y80) h124 n0 (Nat.le_trans Z0 K.1) E_b125 V_b125 g_b125 hy89 hy105 hy107 hy108 hy119 hy120 hy122 hy123 hy88 hy102 hy106 hy117 hy118 hy121 hy87) 0 (by decide) (by decide) rfl pd_7 rfl rfl (Nat.le_of_eq rfl) at_86 rfl (k' := 3) (n' := 74) rfl rfl (by decide) (by decide) ?_
    intro T134 v134 h134 X134 q134
    obtain ⟨y135, y136, hy137, hy138, c139, rfl, rfl⟩ := q134
    show own_Go p e below (T134.setTop (mkF m 89 #[.val (.int i0), .val (.int i1), .val (.int i2), .val (.int i3), .val (.int (1 : Int32)), .val (.ref b75), .val (.ref b125)] [(.int (1 : Int32))])) _
    refine own_ifNo (pc' := 92) B X134 at_89 ((if0 _ _).trans (feq (by decide : ¬ ((1 : Int32) = (0 : Int32)))).1) rfl ?_
    refine own_aload (pc' := 94) B X134 at_92 rfl rfl rfl ?_
    refine own_iconst (pc' := 95) B X134 (z := (2 : Int32)) at_94 rfl rfl ?_
    refine own_iloadN (pc' := 96) B X134 at_95 rfl rfl ?_
    refine own_iloadN (pc' := 97) B X134 at_96 rfl rfl ?_
    refine own_iload (pc' := 99) B X134 at_97 rfl rfl ?_
    refine own_iloadN (pc' := 100) B X134 at_99 rfl rfl ?_
    refine own_callS (pc' := 103) B X134 (own_w hw 66 rfl) (own_w hw 67 rfl) (own_w hw 68 rfl) (own_w hw 69 rfl) (by decide) [(.ref b125), (.int (2 : Int32)), (.int i0), (.int i1), (.int (1 : Int32)), (.int i3)] [] (rm_44 l Z a0 hw [] b125 k126 (y82) (y112) (y113) (y115) (y116) (y98) (y100) (y101) (i0) (i1) (i3) (y81) (y95) (y99) (y111) (y110) (y114) (y80) h124 n0 (Nat.le_trans Z0 K.1) E_b125 V_b125 g_b125 hy89 hy105 hy107 hy108 hy119 hy120 hy122 hy123 hy88 hy102 hy106 hy117 hy118 hy121 hy87) 0 (by decide) (by decide) rfl pd_7 rfl rfl (Nat.le_of_eq rfl) at_100 rfl (k' := 3) (n' := 74) rfl rfl (by decide) (by decide) ?_
    intro T140 v140 h140 X140 q140
    obtain ⟨rfl, rfl⟩ := q140
    show own_Go p e below (T140.setTop (mkF m 103 #[.val (.int i0), .val (.int i1), .val (.int i2), .val (.int i3), .val (.int (1 : Int32)), .val (.ref b75), .val (.ref b125)] [(.int (1 : Int32))])) _
    refine own_ifNo (pc' := 106) B X140 at_103 ((if0 _ _).trans (feq (by decide : ¬ ((1 : Int32) = (0 : Int32)))).1) rfl ?_
    refine own_aload (pc' := 108) B X140 at_106 rfl rfl rfl ?_
    refine own_iconst (pc' := 109) B X140 (z := (3 : Int32)) at_108 rfl rfl ?_
    refine own_iloadN (pc' := 110) B X140 at_109 rfl rfl ?_
    refine own_iloadN (pc' := 111) B X140 at_110 rfl rfl ?_
    refine own_iload (pc' := 113) B X140 at_111 rfl rfl ?_
    refine own_iloadN (pc' := 114) B X140 at_113 rfl rfl ?_
    refine own_callS (pc' := 117) B X140 (own_w hw 66 rfl) (own_w hw 67 rfl) (own_w hw 68 rfl) (own_w hw 69 rfl) (by decide) [(.ref b125), (.int (3 : Int32)), (.int i0), (.int i1), (.int (1 : Int32)), (.int i3)] [] (rm_45 l Z a0 hw [] b125 k126 (y82) (y112) (y113) (y115) (y116) (y98) (y100) (y101) (i0) (i1) (i3) (y81) (y95) (y99) (y111) (y110) (y114) (y80) h124 n0 (Nat.le_trans Z0 K.1) E_b125 V_b125 g_b125 hy89 hy105 hy107 hy108 hy119 hy120 hy122 hy123 hy88 hy102 hy106 hy117 hy118 hy121 hy87) 0 (by decide) (by decide) rfl pd_7 rfl rfl (Nat.le_of_eq rfl) at_114 rfl (k' := 3) (n' := 74) rfl rfl (by decide) (by decide) ?_
    intro T141 v141 h141 X141 q141
    obtain ⟨rfl, rfl⟩ := q141
    show own_Go p e below (T141.setTop (mkF m 117 #[.val (.int i0), .val (.int i1), .val (.int i2), .val (.int i3), .val (.int (1 : Int32)), .val (.ref b75), .val (.ref b125)] [(.int (1 : Int32))])) _
    refine own_ifNo (pc' := 120) B X141 at_117 ((if0 _ _).trans (feq (by decide : ¬ ((1 : Int32) = (0 : Int32)))).1) rfl ?_
    refine own_aload (pc' := 122) B X141 at_120 rfl rfl rfl ?_
    refine own_iconst (pc' := 123) B X141 (z := (4 : Int32)) at_122 rfl rfl ?_
    refine own_iloadN (pc' := 124) B X141 at_123 rfl rfl ?_
    refine own_iloadN (pc' := 125) B X141 at_124 rfl rfl ?_
    refine own_iload (pc' := 127) B X141 at_125 rfl rfl ?_
    refine own_iloadN (pc' := 128) B X141 at_127 rfl rfl ?_
    refine own_callS (pc' := 131) B X141 (own_w hw 66 rfl) (own_w hw 67 rfl) (own_w hw 68 rfl) (own_w hw 69 rfl) (by decide) [(.ref b125), (.int (4 : Int32)), (.int i0), (.int i1), (.int (1 : Int32)), (.int i3)] [] (rm_46 l Z a0 hw [] b125 k126 (y82) (y112) (y113) (y115) (y116) (y98) (y100) (y101) (i0) (i1) (i3) (y81) (y95) (y99) (y111) (y110) (y114) (y80) h124 n0 (Nat.le_trans Z0 K.1) E_b125 V_b125 g_b125 hy89 hy105 hy107 hy108 hy119 hy120 hy122 hy123 hy88 hy102 hy106 hy117 hy118 hy121 hy87) 0 (by decide) (by decide) rfl pd_7 rfl rfl (Nat.le_of_eq rfl) at_128 rfl (k' := 3) (n' := 74) rfl rfl (by decide) (by decide) ?_
    intro T142 v142 h142 X142 q142
    obtain ⟨rfl, rfl⟩ := q142
    show own_Go p e below (T142.setTop (mkF m 131 #[.val (.int i0), .val (.int i1), .val (.int i2), .val (.int i3), .val (.int (1 : Int32)), .val (.ref b75), .val (.ref b125)] [(.int (1 : Int32))])) _
    refine own_ifNo (pc' := 134) B X142 at_131 ((if0 _ _).trans (feq (by decide : ¬ ((1 : Int32) = (0 : Int32)))).1) rfl ?_
    refine own_aload (pc' := 136) B X142 at_134 rfl rfl rfl ?_
    refine own_iconst (pc' := 137) B X142 (z := (5 : Int32)) at_136 rfl rfl ?_
    refine own_iloadN (pc' := 138) B X142 at_137 rfl rfl ?_
    refine own_iloadN (pc' := 139) B X142 at_138 rfl rfl ?_
    refine own_iload (pc' := 141) B X142 at_139 rfl rfl ?_
    refine own_iloadN (pc' := 142) B X142 at_141 rfl rfl ?_
    refine own_callS (pc' := 145) B X142 (own_w hw 66 rfl) (own_w hw 67 rfl) (own_w hw 68 rfl) (own_w hw 69 rfl) (by decide) [(.ref b125), (.int (5 : Int32)), (.int i0), (.int i1), (.int (1 : Int32)), (.int i3)] [] (rm_47 l Z a0 hw [] b125 k126 (y82) (y112) (y113) (y115) (y116) (y98) (y100) (y101) (i0) (i1) (i3) (y81) (y95) (y99) (y111) (y110) (y114) (y80) h124 n0 (Nat.le_trans Z0 K.1) E_b125 V_b125 g_b125 hy89 hy105 hy107 hy108 hy119 hy120 hy122 hy123 hy88 hy102 hy106 hy117 hy118 hy121 hy87) 0 (by decide) (by decide) rfl pd_7 rfl rfl (Nat.le_of_eq rfl) at_142 rfl (k' := 3) (n' := 74) rfl rfl (by decide) (by decide) ?_
    intro T143 v143 h143 X143 q143
    obtain ⟨rfl, rfl⟩ := q143
    show own_Go p e below (T143.setTop (mkF m 145 #[.val (.int i0), .val (.int i1), .val (.int i2), .val (.int i3), .val (.int (1 : Int32)), .val (.ref b75), .val (.ref b125)] [(.int (1 : Int32))])) _
    refine own_ifNo (pc' := 148) B X143 at_145 ((if0 _ _).trans (feq (by decide : ¬ ((1 : Int32) = (0 : Int32)))).1) rfl ?_
    refine own_aload (pc' := 150) B X143 at_148 rfl rfl rfl ?_
    refine own_bipush (pc' := 152) B X143 (z := (6 : Int32)) at_150 rfl (by decide) ?_
    refine own_iloadN (pc' := 153) B X143 at_152 rfl rfl ?_
    refine own_iloadN (pc' := 154) B X143 at_153 rfl rfl ?_
    refine own_iload (pc' := 156) B X143 at_154 rfl rfl ?_
    refine own_iloadN (pc' := 157) B X143 at_156 rfl rfl ?_
    refine own_callS (pc' := 160) B X143 (own_w hw 66 rfl) (own_w hw 67 rfl) (own_w hw 68 rfl) (own_w hw 69 rfl) (by decide) [(.ref b125), (.int (6 : Int32)), (.int i0), (.int i1), (.int (1 : Int32)), (.int i3)] [] (rm_48 l Z a0 hw [] b125 k126 (y82) (y112) (y113) (y115) (y116) (y98) (y100) (y101) (i0) (i1) (i3) (y81) (y95) (y99) (y111) (y110) (y114) (y80) h124 n0 (Nat.le_trans Z0 K.1) E_b125 V_b125 g_b125 hy89 hy105 hy107 hy108 hy119 hy120 hy122 hy123 hy88 hy102 hy106 hy117 hy118 hy121 hy87) 0 (by decide) (by decide) rfl pd_7 rfl rfl (Nat.le_of_eq rfl) at_157 rfl (k' := 3) (n' := 74) rfl rfl (by decide) (by decide) ?_
    intro T144 v144 h144 X144 q144
    obtain ⟨rfl, rfl⟩ := q144
    show own_Go p e below (T144.setTop (mkF m 160 #[.val (.int i0), .val (.int i1), .val (.int i2), .val (.int i3), .val (.int (1 : Int32)), .val (.ref b75), .val (.ref b125)] [(.int (1 : Int32))])) _
    refine own_ifNo (pc' := 163) B X144 at_160 ((if0 _ _).trans (feq (by decide : ¬ ((1 : Int32) = (0 : Int32)))).1) rfl ?_
    refine own_aload (pc' := 165) B X144 at_163 rfl rfl rfl ?_
    refine own_bipush (pc' := 167) B X144 (z := (7 : Int32)) at_165 rfl (by decide) ?_
    refine own_iloadN (pc' := 168) B X144 at_167 rfl rfl ?_
    refine own_iloadN (pc' := 169) B X144 at_168 rfl rfl ?_
    refine own_iload (pc' := 171) B X144 at_169 rfl rfl ?_
    refine own_iloadN (pc' := 172) B X144 at_171 rfl rfl ?_
    refine own_callS (pc' := 175) B X144 (own_w hw 66 rfl) (own_w hw 67 rfl) (own_w hw 68 rfl) (own_w hw 69 rfl) (by decide) [(.ref b125), (.int (7 : Int32)), (.int i0), (.int i1), (.int (1 : Int32)), (.int i3)] [] (rm_49 l Z a0 hw [] b125 k126 (y82) (y112) (y113) (y115) (y116) (y98) (y100) (y101) (i0) (i1) (i3) (y81) (y95) (y99) (y111) (y110) (y114) (y80) h124 n0 (Nat.le_trans Z0 K.1) E_b125 V_b125 g_b125 hy89 hy105 hy107 hy108 hy119 hy120 hy122 hy123 hy88 hy102 hy106 hy117 hy118 hy121 hy87) 0 (by decide) (by decide) rfl pd_7 rfl rfl (Nat.le_of_eq rfl) at_172 rfl (k' := 3) (n' := 74) rfl rfl (by decide) (by decide) ?_
    intro T145 v145 h145 X145 q145
    obtain ⟨rfl, rfl⟩ := q145
    show own_Go p e below (T145.setTop (mkF m 175 #[.val (.int i0), .val (.int i1), .val (.int i2), .val (.int i3), .val (.int (1 : Int32)), .val (.ref b75), .val (.ref b125)] [(.int (1 : Int32))])) _
    refine own_ifNo (pc' := 178) B X145 at_175 ((if0 _ _).trans (feq (by decide : ¬ ((1 : Int32) = (0 : Int32)))).1) rfl ?_
    refine own_iconst (pc' := 179) B X145 (z := (1 : Int32)) at_178 rfl rfl ?_
    refine own_goto (pc' := 183) B X145 at_179 (by decide) rfl ?_
    exact own_retN B X145 (t := .boolean) (z' := (1 : Int32)) (by simp) (by decide) at_183 (by decide) (by decide) rfl
  · obtain rfl : y2 = (2 : Int32) := Int32.toInt_inj.mp (z3.trans (by decide))
    refine own_istore (pc' := 8) B X0 (Ls' := #[.val (.int i0), .val (.int i1), .val (.int i2), .val (.int i3), .val (.int (2 : Int32)), .unset, .unset]) at_6 rfl rfl ?_
    refine own_new (pc' := 11) B X0 (own_w hw 1 rfl) (own_w hw 2 rfl) (own_w hw 3 rfl) at_8 rfl (k' := 1) (n' := 2) rfl rfl (by decide) (by decide) ?_
    intro T146 h146 b146 X146 g146 E146 E_b146 D146
    have sz_b146 : h0.size ≤ b146 := own_sz K g146
    have g_b146 : n0 ≤ b146 := Nat.le_trans Z0 sz_b146
    replace K := K.ext E146
    have F_b146_bytes : Fld Z h146 b146 "demitasse/interp/Bytes" "bytes" "[B" .null := D146 (Or.inl (own_w hw 12 rfl)) (ty := (.array .byte)) (by decide)
    have F_b146_length : Fld Z h146 b146 "demitasse/interp/Bytes" "length" "I" (.int (0 : Int32)) := D146 (Or.inl (own_w hw 33 rfl)) (ty := .int) (by decide)
    clear D146
    refine own_dup (pc' := 12) B X146 at_11 rfl rfl ?_
    refine own_callI (pc' := 15) B X146 rfl rfl (own_w hw 4 rfl) (own_w hw 5 rfl) (own_w hw 3 rfl) (own_w hw 6 rfl) (by decide) [] [(.ref b146)] (rm_1 l Z a0 hw [] b146 h146 n0 (Nat.le_trans Z0 K.1) E_b146 F_b146_bytes F_b146_length g_b146) 1 (by decide) (by decide) rfl pd_0 rfl rfl (Nat.le_of_eq rfl) at_12 rfl (k' := 2) (n' := 66) rfl rfl (by decide) (by decide) ?_
    intro T147 v147 h147 X147 q147
    have lt_b146 := E_b146.lt
    obtain ⟨b148, k149, rfl, K147, z_b148, E_b146, F_b146_bytes, F_b146_length, E_b148, V_b148⟩ := q147
    have ne_b146_b148 : b146 ≠ b148 := own_ne' lt_b146 z_b148
    have sz_b148 : h0.size ≤ b148 := Nat.le_trans K.1 z_b148
    have g_b148 : n0 ≤ b148 := Nat.le_trans Z0 sz_b148
    replace K := K.trans K147 (allS (Or.inr sz_b146) all0)
    show own_Go p e below (T147.setTop (mkF m 15 #[.val (.int i0), .val (.int i1), .val (.int i2), .val (.int i3), .val (.int (2 : Int32)), .unset, .unset] [(.ref b146)])) _
    refine own_astore (pc' := 17) B X147 (Ls' := #[.val (.int i0), .val (.int i1), .val (.int i2), .val (.int i3), .val (.int (2 : Int32)), .val (.ref b146), .unset]) at_15 rfl rfl rfl ?_
    refine own_aload (pc' := 19) B X147 at_17 rfl rfl rfl ?_
    refine own_iloadN (pc' := 20) B X147 at_19 rfl rfl ?_
    refine own_callV (pc' := 23) B X147 (own_w hw 13 rfl) (own_w hw 14 rfl) (own_w hw 16 rfl) (own_w hw 15 rfl) (own_w hw 3 rfl) (own_w hw 17 rfl) E_b146 (by decide) [(.int i0)] [] (rm_2 l Z a0 hw [] b146 b148 k149 (i0) h147 n0 (Nat.le_trans Z0 K.1) E_b146 F_b146_bytes F_b146_length g_b146 E_b148 V_b148 g_b148 ne_b146_b148) 0 (by decide) (by decide) rfl pd_1 rfl rfl (Nat.le_of_eq rfl) at_20 rfl (k' := 2) (n' := 66) rfl rfl (by decide) (by decide) ?_
    intro T150 v150 h150 X150 q150
    obtain ⟨y151, y152, y153, y154, y155, y156, y157, hy158, hy159, hy160, hy161, hy162, hy163, hy164, rfl, K150, E_b146, F_b146_bytes, F_b146_length, E_b148, V_b148⟩ := q150
    replace K := K.trans K150 (allS (Or.inr sz_b146) (allS (Or.inr sz_b148) all0))
    show own_Go p e below (T150.setTop (mkF m 23 #[.val (.int i0), .val (.int i1), .val (.int i2), .val (.int i3), .val (.int (2 : Int32)), .val (.ref b146), .unset] [])) _
    refine own_aload (pc' := 25) B X150 at_23 rfl rfl rfl ?_
    refine own_iloadN (pc' := 26) B X150 at_25 rfl rfl ?_
    refine own_callV (pc' := 29) B X150 (own_w hw 13 rfl) (own_w hw 14 rfl) (own_w hw 16 rfl) (own_w hw 15 rfl) (own_w hw 3 rfl) (own_w hw 17 rfl) E_b146 (by decide) [(.int i1)] [] (rm_13 l Z a0 hw [] b146 b148 k149 (y153) (y154) (y156) (y157) (i1) h150 n0 (Nat.le_trans Z0 K.1) E_b146 F_b146_bytes F_b146_length g_b146 E_b148 V_b148 g_b148 ne_b146_b148) 0 (by decide) (by decide) rfl pd_1 rfl rfl (Nat.le_of_eq rfl) at_26 rfl (k' := 2) (n' := 66) rfl rfl (by decide) (by decide) ?_
    intro T165 v165 h165 X165 q165
    obtain ⟨y166, y167, y168, y169, y170, y171, y172, hy173, hy174, hy175, hy176, hy177, hy178, hy179, rfl, K165, E_b146, F_b146_bytes, F_b146_length, E_b148, V_b148⟩ := q165
    replace K := K.trans K165 (allS (Or.inr sz_b146) (allS (Or.inr sz_b148) all0))
    show own_Go p e below (T165.setTop (mkF m 29 #[.val (.int i0), .val (.int i1), .val (.int i2), .val (.int i3), .val (.int (2 : Int32)), .val (.ref b146), .unset] [])) _
    refine own_aload (pc' := 31) B X165 at_29 rfl rfl rfl ?_
    refine own_iload (pc' := 33) B X165 at_31 rfl rfl ?_
    refine own_iloadN (pc' := 34) B X165 at_33 rfl rfl ?_
    refine own_callV (pc' := 37) B X165 (own_w hw 34 rfl) (own_w hw 35 rfl) (own_w hw 37 rfl) (own_w hw 36 rfl) (own_w hw 3 rfl) (own_w hw 38 rfl) E_b146 (by decide) [(.int (2 : Int32)), (.int i3)] [] (rm_50 l Z a0 hw [] b146 b148 k149 (y153) (y154) (y156) (y157) (y168) (y169) (y171) (y172) (i3) h165 n0 (Nat.le_trans Z0 K.1) E_b146 F_b146_bytes F_b146_length g_b146 E_b148 V_b148 g_b148 ne_b146_b148) 0 (by decide) (by decide) rfl pd_2 rfl rfl (Nat.le_of_eq rfl) at_34 rfl (k' := 2) (n' := 66) rfl rfl (by decide) (by decide) ?_
    intro T180 v180 h180 X180 q180
    obtain ⟨y181, y182, y183, y184, y185, y186, y187, hy188, hy189, hy190, hy191, hy192, hy193, hy194, rfl, K180, E_b148, V_b148⟩ := q180
    replace K := K.trans K180 (allS (Or.inr sz_b148) all0)
    replace E_b146 := E_b146.keep K180
    replace F_b146_bytes := F_b146_bytes.keep K180 (ninS ne_b146_b148 nin0)
    replace F_b146_length := F_b146_length.keep K180 (ninS ne_b146_b148 nin0)
    show own_Go p e below (T180.setTop (mkF m 37 #[.val (.int i0), .val (.int i1), .val (.int i2), .val (.int i3), .val (.int (2 : Int32)), .val (.ref b146), .unset] [])) _
    refine own_aload (pc' := 39) B X180 at_37 rfl rfl rfl ?_
    refine own_callV (pc' := 42) B X180 (own_w hw 44 rfl) (own_w hw 45 rfl) (own_w hw 47 rfl) (own_w hw 46 rfl) (own_w hw 3 rfl) (own_w hw 48 rfl) E_b146 (by decide) [] [] (rm_27 l Z a0 hw [] b146 b148 k149 (y153) (y154) (y183) (y184) (y186) (y187) (y171) (y172) h180 n0 (Nat.le_trans Z0 K.1) E_b146 F_b146_bytes F_b146_length g_b146 E_b148 V_b148 g_b148 ne_b146_b148) 0 (by decide) (by decide) rfl pd_5 rfl rfl (Nat.le_of_eq rfl) at_39 rfl (k' := 3) (n' := 74) rfl rfl (by decide) (by decide) ?_
    intro T195 v195 h195 X195 q195
    have lt_b146 := E_b146.lt
    have lt_b148 := E_b148.lt
    obtain ⟨b196, k197, rfl, K195, z_b196, E_b196, V_b196⟩ := q195
    have ne_b146_b196 : b146 ≠ b196 := own_ne' lt_b146 z_b196
    have ne_b148_b196 : b148 ≠ b196 := own_ne' lt_b148 z_b196
    have sz_b196 : h0.size ≤ b196 := Nat.le_trans K.1 z_b196
    have g_b196 : n0 ≤ b196 := Nat.le_trans Z0 sz_b196
    replace K := K.trans K195 all0
    replace E_b146 := E_b146.keep K195
    replace F_b146_bytes := F_b146_bytes.keep K195 nin0
    replace F_b146_length := F_b146_length.keep K195 nin0
    replace E_b148 := E_b148.keep K195
    replace V_b148 := V_b148.keep K195 nin0
    show own_Go p e below (T195.setTop (mkF m 42 #[.val (.int i0), .val (.int i1), .val (.int i2), .val (.int i3), .val (.int (2 : Int32)), .val (.ref b146), .unset] [(.ref b196)])) _
    refine own_astore (pc' := 44) B X195 (Ls' := #[.val (.int i0), .val (.int i1), .val (.int i2), .val (.int i3), .val (.int (2 : Int32)), .val (.ref b146), .val (.ref b196)]) at_42 rfl rfl rfl ?_
    refine own_aload (pc' := 46) B X195 at_44 rfl rfl rfl ?_
    refine own_callV (pc' := 49) B X195 (own_w hw 61 rfl) (own_w hw 62 rfl) (own_w hw 64 rfl) (own_w hw 63 rfl) (own_w hw 3 rfl) (own_w hw 65 rfl) E_b146 (by decide) [] [] (rm_30 l Z a0 hw [] b146 b148 k149 (y153) (y154) (y183) (y184) (y186) (y187) (y171) (y172) h195 n0 (Nat.le_trans Z0 K.1) E_b146 F_b146_bytes F_b146_length g_b146 E_b148 V_b148 g_b148 ne_b146_b148) 0 (by decide) (by decide) rfl pd_6 rfl rfl (Nat.le_of_eq rfl) at_46 rfl (k' := 3) (n' := 74) rfl rfl (by decide) (by decide) ?_
    intro T198 v198 h198 X198 q198
    obtain ⟨rfl, rfl⟩ := q198
    show own_Go p e below (T198.setTop (mkF m 49 #[.val (.int i0), .val (.int i1), .val (.int i2), .val (.int i3), .val (.int (2 : Int32)), .val (.ref b146), .val (.ref b196)] [(.int (8 : Int32))])) _
    refine own_bipush (pc' := 51) B X198 (z := (8 : Int32)) at_49 rfl (by decide) ?_
    refine own_icmpNo (pc' := 54) B X198 at_51 (teq (by decide : (8 : Int32) = (8 : Int32))).2 rfl ?_
    refine own_aload (pc' := 56) B X198 at_54 rfl rfl rfl ?_
    refine own_arraylength (pc' := 57) B X198 V_b196 at_56 rfl ?_
    refine own_bipush (pc' := 59) B X198 (z := (8 : Int32)) at_57 rfl (by decide) ?_
    refine own_icmpYes (pc' := 64) B X198 at_59 (teq (by decide : (8 : Int32) = (8 : Int32))).1 (by decide) rfl ?_
    refine own_aload (pc' := 66) B X198 at_64 rfl rfl rfl ?_
    refine own_iconst (pc' := 67) B X198 (z := (0 : Int32)) at_66 rfl rfl ?_
    refine own_iloadN (pc' := 68) B X198 at_67 rfl rfl ?_
    refine own_iloadN (pc' := 69) B X198 at_68 rfl rfl ?_
    refine own_iload (pc' := 71) B X198 at_69 rfl rfl ?_
    refine own_iloadN (pc' := 72) B X198 at_71 rfl rfl ?_
    refine own_callS (pc' := 75) B X198 (own_w hw 66 rfl) (own_w hw 67 rfl) (own_w hw 68 rfl) (own_w hw 69 rfl) (by decide) [(.ref b196), (.int (0 : Int32)), (.int i0), (.int i1), (.int (2 : Int32)), (.int i3)] [] (rm_52 l Z a0 hw [] b196 k197 (y153) (y154) (y183) (y184) (y186) (y187) (y171) (y172) (i0) (i1) (i3) (y152) (y151) (y170) (y182) (y181) (y185) h195 n0 (Nat.le_trans Z0 K.1) E_b196 V_b196 g_b196 hy160 hy161 hy178 hy179 hy190 hy191 hy193 hy194 hy158 hy159 hy177 hy188 hy189 hy192) 0 (by decide) (by decide) rfl pd_7 rfl rfl (Nat.le_of_eq rfl) at_72 rfl (k' := 3) (n' := 74) rfl rfl (by decide) (by decide) ?_
    intro T199 v199 h199 X199 q199
    obtain ⟨y200, y201, hy202, hy203, c204, rfl, rfl⟩ := q199
    show own_Go p e below (T199.setTop (mkF m 75 #[.val (.int i0), .val (.int i1), .val (.int i2), .val (.int i3), .val (.int (2 : Int32)), .val (.ref b146), .val (.ref b196)] [(.int (1 : Int32))])) _
    refine own_ifNo (pc' := 78) B X199 at_75 ((if0 _ _).trans (feq (by decide : ¬ ((1 : Int32) = (0 : Int32)))).1) rfl ?_
    refine own_aload (pc' := 80) B X199 at_78 rfl rfl rfl ?_
    refine own_iconst (pc' := 81) B X199 (z := (1 : Int32)) at_80 rfl rfl ?_
    refine own_iloadN (pc' := 82) B X199 at_81 rfl rfl ?_
    refine own_iloadN (pc' := 83) B X199 at_82 rfl rfl ?_
    refine own_iload (pc' := 85) B X199 at_83 rfl rfl ?_
    refine own_iloadN (pc' := 86) B X199 at_85 rfl rfl ?_
    refine own_callS (pc' := 89) B X199 (own_w hw 66 rfl) (own_w hw 67 rfl) (own_w hw 68 rfl) (own_w hw 69 rfl) (by decide) [(.ref b196), (.int (1 : Int32)), (.int i0), (.int i1), (.int (2 : Int32)), (.int i3)] [] (rm_53 l Z a0 hw [] b196 k197 (y153) (y154) (y183) (y184) (y186) (y187) (y171) (y172) (i0) (i1) (i3) (y152) (y151) (y170) (y182) (y181) (y185) h195 n0 (Nat.le_trans Z0 K.1) E_b196 V_b196 g_b196 hy160 hy161 hy178 hy179 hy190 hy191 hy193 hy194 hy158 hy159 hy177 hy188 hy189 hy192) 0 (by decide) (by decide) rfl pd_7 rfl rfl (Nat.le_of_eq rfl) at_86 rfl (k' := 3) (n' := 74) rfl rfl (by decide) (by decide) ?_
    intro T205 v205 h205 X205 q205
    obtain ⟨rfl, rfl⟩ := q205
    show own_Go p e below (T205.setTop (mkF m 89 #[.val (.int i0), .val (.int i1), .val (.int i2), .val (.int i3), .val (.int (2 : Int32)), .val (.ref b146), .val (.ref b196)] [(.int (1 : Int32))])) _
    refine own_ifNo (pc' := 92) B X205 at_89 ((if0 _ _).trans (feq (by decide : ¬ ((1 : Int32) = (0 : Int32)))).1) rfl ?_
    refine own_aload (pc' := 94) B X205 at_92 rfl rfl rfl ?_
    refine own_iconst (pc' := 95) B X205 (z := (2 : Int32)) at_94 rfl rfl ?_
    refine own_iloadN (pc' := 96) B X205 at_95 rfl rfl ?_
    refine own_iloadN (pc' := 97) B X205 at_96 rfl rfl ?_
    refine own_iload (pc' := 99) B X205 at_97 rfl rfl ?_
    refine own_iloadN (pc' := 100) B X205 at_99 rfl rfl ?_
    refine own_callS (pc' := 103) B X205 (own_w hw 66 rfl) (own_w hw 67 rfl) (own_w hw 68 rfl) (own_w hw 69 rfl) (by decide) [(.ref b196), (.int (2 : Int32)), (.int i0), (.int i1), (.int (2 : Int32)), (.int i3)] [] (rm_54 l Z a0 hw [] b196 k197 (y153) (y154) (y183) (y184) (y186) (y187) (y171) (y172) (i0) (i1) (i3) (y152) (y151) (y170) (y182) (y181) (y185) h195 n0 (Nat.le_trans Z0 K.1) E_b196 V_b196 g_b196 hy160 hy161 hy178 hy179 hy190 hy191 hy193 hy194 hy158 hy159 hy177 hy188 hy189 hy192) 0 (by decide) (by decide) rfl pd_7 rfl rfl (Nat.le_of_eq rfl) at_100 rfl (k' := 3) (n' := 74) rfl rfl (by decide) (by decide) ?_
    intro T206 v206 h206 X206 q206
    obtain ⟨y207, y208, hy209, hy210, c211, rfl, rfl⟩ := q206
    show own_Go p e below (T206.setTop (mkF m 103 #[.val (.int i0), .val (.int i1), .val (.int i2), .val (.int i3), .val (.int (2 : Int32)), .val (.ref b146), .val (.ref b196)] [(.int (1 : Int32))])) _
    refine own_ifNo (pc' := 106) B X206 at_103 ((if0 _ _).trans (feq (by decide : ¬ ((1 : Int32) = (0 : Int32)))).1) rfl ?_
    refine own_aload (pc' := 108) B X206 at_106 rfl rfl rfl ?_
    refine own_iconst (pc' := 109) B X206 (z := (3 : Int32)) at_108 rfl rfl ?_
    refine own_iloadN (pc' := 110) B X206 at_109 rfl rfl ?_
    refine own_iloadN (pc' := 111) B X206 at_110 rfl rfl ?_
    refine own_iload (pc' := 113) B X206 at_111 rfl rfl ?_
    refine own_iloadN (pc' := 114) B X206 at_113 rfl rfl ?_
    refine own_callS (pc' := 117) B X206 (own_w hw 66 rfl) (own_w hw 67 rfl) (own_w hw 68 rfl) (own_w hw 69 rfl) (by decide) [(.ref b196), (.int (3 : Int32)), (.int i0), (.int i1), (.int (2 : Int32)), (.int i3)] [] (rm_55 l Z a0 hw [] b196 k197 (y153) (y154) (y183) (y184) (y186) (y187) (y171) (y172) (i0) (i1) (i3) (y152) (y151) (y170) (y182) (y181) (y185) h195 n0 (Nat.le_trans Z0 K.1) E_b196 V_b196 g_b196 hy160 hy161 hy178 hy179 hy190 hy191 hy193 hy194 hy158 hy159 hy177 hy188 hy189 hy192) 0 (by decide) (by decide) rfl pd_7 rfl rfl (Nat.le_of_eq rfl) at_114 rfl (k' := 3) (n' := 74) rfl rfl (by decide) (by decide) ?_
    intro T212 v212 h212 X212 q212
    obtain ⟨rfl, rfl⟩ := q212
    show own_Go p e below (T212.setTop (mkF m 117 #[.val (.int i0), .val (.int i1), .val (.int i2), .val (.int i3), .val (.int (2 : Int32)), .val (.ref b146), .val (.ref b196)] [(.int (1 : Int32))])) _
    refine own_ifNo (pc' := 120) B X212 at_117 ((if0 _ _).trans (feq (by decide : ¬ ((1 : Int32) = (0 : Int32)))).1) rfl ?_
    refine own_aload (pc' := 122) B X212 at_120 rfl rfl rfl ?_
    refine own_iconst (pc' := 123) B X212 (z := (4 : Int32)) at_122 rfl rfl ?_
    refine own_iloadN (pc' := 124) B X212 at_123 rfl rfl ?_
    refine own_iloadN (pc' := 125) B X212 at_124 rfl rfl ?_
    refine own_iload (pc' := 127) B X212 at_125 rfl rfl ?_
    refine own_iloadN (pc' := 128) B X212 at_127 rfl rfl ?_
    refine own_callS (pc' := 131) B X212 (own_w hw 66 rfl) (own_w hw 67 rfl) (own_w hw 68 rfl) (own_w hw 69 rfl) (by decide) [(.ref b196), (.int (4 : Int32)), (.int i0), (.int i1), (.int (2 : Int32)), (.int i3)] [] (rm_56 l Z a0 hw [] b196 k197 (y153) (y154) (y183) (y184) (y186) (y187) (y171) (y172) (i0) (i1) (i3) (y152) (y151) (y170) (y182) (y181) (y185) h195 n0 (Nat.le_trans Z0 K.1) E_b196 V_b196 g_b196 hy160 hy161 hy178 hy179 hy190 hy191 hy193 hy194 hy158 hy159 hy177 hy188 hy189 hy192) 0 (by decide) (by decide) rfl pd_7 rfl rfl (Nat.le_of_eq rfl) at_128 rfl (k' := 3) (n' := 74) rfl rfl (by decide) (by decide) ?_
    intro T213 v213 h213 X213 q213
    obtain ⟨rfl, rfl⟩ := q213
    show own_Go p e below (T213.setTop (mkF m 131 #[.val (.int i0), .val (.int i1), .val (.int i2), .val (.int i3), .val (.int (2 : Int32)), .val (.ref b146), .val (.ref b196)] [(.int (1 : Int32))])) _
    refine own_ifNo (pc' := 134) B X213 at_131 ((if0 _ _).trans (feq (by decide : ¬ ((1 : Int32) = (0 : Int32)))).1) rfl ?_
    refine own_aload (pc' := 136) B X213 at_134 rfl rfl rfl ?_
    refine own_iconst (pc' := 137) B X213 (z := (5 : Int32)) at_136 rfl rfl ?_
    refine own_iloadN (pc' := 138) B X213 at_137 rfl rfl ?_
    refine own_iloadN (pc' := 139) B X213 at_138 rfl rfl ?_
    refine own_iload (pc' := 141) B X213 at_139 rfl rfl ?_
    refine own_iloadN (pc' := 142) B X213 at_141 rfl rfl ?_
    refine own_callS (pc' := 145) B X213 (own_w hw 66 rfl) (own_w hw 67 rfl) (own_w hw 68 rfl) (own_w hw 69 rfl) (by decide) [(.ref b196), (.int (5 : Int32)), (.int i0), (.int i1), (.int (2 : Int32)), (.int i3)] [] (rm_57 l Z a0 hw [] b196 k197 (y153) (y154) (y183) (y184) (y186) (y187) (y171) (y172) (i0) (i1) (i3) (y152) (y151) (y170) (y182) (y181) (y185) h195 n0 (Nat.le_trans Z0 K.1) E_b196 V_b196 g_b196 hy160 hy161 hy178 hy179 hy190 hy191 hy193 hy194 hy158 hy159 hy177 hy188 hy189 hy192) 0 (by decide) (by decide) rfl pd_7 rfl rfl (Nat.le_of_eq rfl) at_142 rfl (k' := 3) (n' := 74) rfl rfl (by decide) (by decide) ?_
    intro T214 v214 h214 X214 q214
    obtain ⟨rfl, rfl⟩ := q214
    show own_Go p e below (T214.setTop (mkF m 145 #[.val (.int i0), .val (.int i1), .val (.int i2), .val (.int i3), .val (.int (2 : Int32)), .val (.ref b146), .val (.ref b196)] [(.int (1 : Int32))])) _
    refine own_ifNo (pc' := 148) B X214 at_145 ((if0 _ _).trans (feq (by decide : ¬ ((1 : Int32) = (0 : Int32)))).1) rfl ?_
    refine own_aload (pc' := 150) B X214 at_148 rfl rfl rfl ?_
    refine own_bipush (pc' := 152) B X214 (z := (6 : Int32)) at_150 rfl (by decide) ?_
    refine own_iloadN (pc' := 153) B X214 at_152 rfl rfl ?_
    refine own_iloadN (pc' := 154) B X214 at_153 rfl rfl ?_
    refine own_iload (pc' := 156) B X214 at_154 rfl rfl ?_
    refine own_iloadN (pc' := 157) B X214 at_156 rfl rfl ?_
    refine own_callS (pc' := 160) B X214 (own_w hw 66 rfl) (own_w hw 67 rfl) (own_w hw 68 rfl) (own_w hw 69 rfl) (by decide) [(.ref b196), (.int (6 : Int32)), (.int i0), (.int i1), (.int (2 : Int32)), (.int i3)] [] (rm_58 l Z a0 hw [] b196 k197 (y153) (y154) (y183) (y184) (y186) (y187) (y171) (y172) (i0) (i1) (i3) (y152) (y151) (y170) (y182) (y181) (y185) h195 n0 (Nat.le_trans Z0 K.1) E_b196 V_b196 g_b196 hy160 hy161 hy178 hy179 hy190 hy191 hy193 hy194 hy158 hy159 hy177 hy188 hy189 hy192) 0 (by decide) (by decide) rfl pd_7 rfl rfl (Nat.le_of_eq rfl) at_157 rfl (k' := 3) (n' := 74) rfl rfl (by decide) (by decide) ?_
    intro T215 v215 h215 X215 q215
    obtain ⟨rfl, rfl⟩ := q215
    show own_Go p e below (T215.setTop (mkF m 160 #[.val (.int i0), .val (.int i1), .val (.int i2), .val (.int i3), .val (.int (2 : Int32)), .val (.ref b146), .val (.ref b196)] [(.int (1 : Int32))])) _
    refine own_ifNo (pc' := 163) B X215 at_160 ((if0 _ _).trans (feq (by decide : ¬ ((1 : Int32) = (0 : Int32)))).1) rfl ?_
    refine own_aload (pc' := 165) B X215 at_163 rfl rfl rfl ?_
    refine own_bipush (pc' := 167) B X215 (z := (7 : Int32)) at_165 rfl (by decide) ?_
    refine own_iloadN (pc' := 168) B X215 at_167 rfl rfl ?_
    refine own_iloadN (pc' := 169) B X215 at_168 rfl rfl ?_
    refine own_iload (pc' := 171) B X215 at_169 rfl rfl ?_
    refine own_iloadN (pc' := 172) B X215 at_171 rfl rfl ?_
    refine own_callS (pc' := 175) B X215 (own_w hw 66 rfl) (own_w hw 67 rfl) (own_w hw 68 rfl) (own_w hw 69 rfl) (by decide) [(.ref b196), (.int (7 : Int32)), (.int i0), (.int i1), (.int (2 : Int32)), (.int i3)] [] (rm_59 l Z a0 hw [] b196 k197 (y153) (y154) (y183) (y184) (y186) (y187) (y171) (y172) (i0) (i1) (i3) (y152) (y151) (y170) (y182) (y181) (y185) h195 n0 (Nat.le_trans Z0 K.1) E_b196 V_b196 g_b196 hy160 hy161 hy178 hy179 hy190 hy191 hy193 hy194 hy158 hy159 hy177 hy188 hy189 hy192) 0 (by decide) (by decide) rfl pd_7 rfl rfl (Nat.le_of_eq rfl) at_172 rfl (k' := 3) (n' := 74) rfl rfl (by decide) (by decide) ?_
    intro T216 v216 h216 X216 q216
    obtain ⟨rfl, rfl⟩ := q216
    show own_Go p e below (T216.setTop (mkF m 175 #[.val (.int i0), .val (.int i1), .val (.int i2), .val (.int i3), .val (.int (2 : Int32)), .val (.ref b146), .val (.ref b196)] [(.int (1 : Int32))])) _
    refine own_ifNo (pc' := 178) B X216 at_175 ((if0 _ _).trans (feq (by decide : ¬ ((1 : Int32) = (0 : Int32)))).1) rfl ?_
    refine own_iconst (pc' := 179) B X216 (z := (1 : Int32)) at_178 rfl rfl ?_
    refine own_goto (pc' := 183) B X216 at_179 (by decide) rfl ?_
    exact own_retN B X216 (t := .boolean) (z' := (1 : Int32)) (by simp) (by decide) at_183 (by decide) (by decide) rfl
  · obtain rfl : y2 = (3 : Int32) := Int32.toInt_inj.mp (z3.trans (by decide))
    refine own_istore (pc' := 8) B X0 (Ls' := #[.val (.int i0), .val (.int i1), .val (.int i2), .val (.int i3), .val (.int (3 : Int32)), .unset, .unset]) at_6 rfl rfl ?_
    refine own_new (pc' := 11) B X0 (own_w hw 1 rfl) (own_w hw 2 rfl) (own_w hw 3 rfl) at_8 rfl (k' := 1) (n' := 2) rfl rfl (by decide) (by decide) ?_
    intro T217 h217 b217 X217 g217 E217 E_b217 D217
    have sz_b217 : h0.size ≤ b217 := own_sz K g217
    have g_b217 : n0 ≤ b217 := Nat.le_trans Z0 sz_b217
    replace K := K.ext E217
    have F_b217_bytes : Fld Z h217 b217 "demitasse/interp/Bytes" "bytes" "[B" .null := D217 (Or.inl (own_w hw 12 rfl)) (ty := (.array .byte)) (by decide)
    have F_b217_length : Fld Z h217 b217 "demitasse/interp/Bytes" "length" "I" (.int (0 : Int32)) := D217 (Or.inl (own_w hw 33 rfl)) (ty := .int) (by decide)
    clear D217
    refine own_dup (pc' := 12) B X217 at_11 rfl rfl ?_
    refine own_callI (pc' := 15) B X217 rfl rfl (own_w hw 4 rfl) (own_w hw 5 rfl) (own_w hw 3 rfl) (own_w hw 6 rfl) (by decide) [] [(.ref b217)] (rm_1 l Z a0 hw [] b217 h217 n0 (Nat.le_trans Z0 K.1) E_b217 F_b217_bytes F_b217_length g_b217) 1 (by decide) (by decide) rfl pd_0 rfl rfl (Nat.le_of_eq rfl) at_12 rfl (k' := 2) (n' := 66) rfl rfl (by decide) (by decide) ?_
    intro T218 v218 h218 X218 q218
    have lt_b217 := E_b217.lt
    obtain ⟨b219, k220, rfl, K218, z_b219, E_b217, F_b217_bytes, F_b217_length, E_b219, V_b219⟩ := q218
    have ne_b217_b219 : b217 ≠ b219 := own_ne' lt_b217 z_b219
    have sz_b219 : h0.size ≤ b219 := Nat.le_trans K.1 z_b219
    have g_b219 : n0 ≤ b219 := Nat.le_trans Z0 sz_b219
    replace K := K.trans K218 (allS (Or.inr sz_b217) all0)
    show own_Go p e below (T218.setTop (mkF m 15 #[.val (.int i0), .val (.int i1), .val (.int i2), .val (.int i3), .val (.int (3 : Int32)), .unset, .unset] [(.ref b217)])) _
    refine own_astore (pc' := 17) B X218 (Ls' := #[.val (.int i0), .val (.int i1), .val (.int i2), .val (.int i3), .val (.int (3 : Int32)), .val (.ref b217), .unset]) at_15 rfl rfl rfl ?_
    refine own_aload (pc' := 19) B X218 at_17 rfl rfl rfl ?_
    refine own_iloadN (pc' := 20) B X218 at_19 rfl rfl ?_
    refine own_callV (pc' := 23) B X218 (own_w hw 13 rfl) (own_w hw 14 rfl) (own_w hw 16 rfl) (own_w hw 15 rfl) (own_w hw 3 rfl) (own_w hw 17 rfl) E_b217 (by decide) [(.int i0)] [] (rm_2 l Z a0 hw [] b217 b219 k220 (i0) h218 n0 (Nat.le_trans Z0 K.1) E_b217 F_b217_bytes F_b217_length g_b217 E_b219 V_b219 g_b219 ne_b217_b219) 0 (by decide) (by decide) rfl pd_1 rfl rfl (Nat.le_of_eq rfl) at_20 rfl (k' := 2) (n' := 66) rfl rfl (by decide) (by decide) ?_
    intro T221 v221 h221 X221 q221
    obtain ⟨y222, y223, y224, y225, y226, y227, y228, hy229, hy230, hy231, hy232, hy233, hy234, hy235, rfl, K221, E_b217, F_b217_bytes, F_b217_length, E_b219, V_b219⟩ := q221
    replace K := K.trans K221 (allS (Or.inr sz_b217) (allS (Or.inr sz_b219) all0))
    show own_Go p e below (T221.setTop (mkF m 23 #[.val (.int i0), .val (.int i1), .val (.int i2), .val (.int i3), .val (.int (3 : Int32)), .val (.ref b217), .unset] [])) _
    refine own_aload (pc' := 25) B X221 at_23 rfl rfl rfl ?_
    refine own_iloadN (pc' := 26) B X221 at_25 rfl rfl ?_
    refine own_callV (pc' := 29) B X221 (own_w hw 13 rfl) (own_w hw 14 rfl) (own_w hw 16 rfl) (own_w hw 15 rfl) (own_w hw 3 rfl) (own_w hw 17 rfl) E_b217 (by decide) [(.int i1)] [] (rm_13 l Z a0 hw [] b217 b219 k220 (y224) (y225) (y227) (y228) (i1) h221 n0 (Nat.le_trans Z0 K.1) E_b217 F_b217_bytes F_b217_length g_b217 E_b219 V_b219 g_b219 ne_b217_b219) 0 (by decide) (by decide) rfl pd_1 rfl rfl (Nat.le_of_eq rfl) at_26 rfl (k' := 2) (n' := 66) rfl rfl (by decide) (by decide) ?_
    intro T236 v236 h236 X236 q236
    obtain ⟨y237, y238, y239, y240, y241, y242, y243, hy244, hy245, hy246, hy247, hy248, hy249, hy250, rfl, K236, E_b217, F_b217_bytes, F_b217_length, E_b219, V_b219⟩ := q236
    replace K := K.trans K236 (allS (Or.inr sz_b217) (allS (Or.inr sz_b219) all0))
    show own_Go p e below (T236.setTop (mkF m 29 #[.val (.int i0), .val (.int i1), .val (.int i2), .val (.int i3), .val (.int (3 : Int32)), .val (.ref b217), .unset] [])) _
    refine own_aload (pc' := 31) B X236 at_29 rfl rfl rfl ?_
    refine own_iload (pc' := 33) B X236 at_31 rfl rfl ?_
    refine own_iloadN (pc' := 34) B X236 at_33 rfl rfl ?_
    refine own_callV (pc' := 37) B X236 (own_w hw 34 rfl) (own_w hw 35 rfl) (own_w hw 37 rfl) (own_w hw 36 rfl) (own_w hw 3 rfl) (own_w hw 38 rfl) E_b217 (by decide) [(.int (3 : Int32)), (.int i3)] [] (rm_60 l Z a0 hw [] b217 b219 k220 (y224) (y225) (y227) (y228) (y239) (y240) (y242) (y243) (i3) h236 n0 (Nat.le_trans Z0 K.1) E_b217 F_b217_bytes F_b217_length g_b217 E_b219 V_b219 g_b219 ne_b217_b219) 0 (by decide) (by decide) rfl pd_2 rfl rfl (Nat.le_of_eq rfl) at_34 rfl (k' := 2) (n' := 66) rfl rfl (by decide) (by decide) ?_
    intro T251 v251 h251 X251 q251
    obtain ⟨y252, y253, y254, y255, y256, y257, y258, hy259, hy260, hy261, hy262, hy263, hy264, hy265, rfl, K251, E_b219, V_b219⟩ := q251
    replace K := K.trans K251 (allS (Or.inr sz_b219) all0)
    replace E_b217 := E_b217.keep K251
    replace F_b217_bytes := F_b217_bytes.keep K251 (ninS ne_b217_b219 nin0)
    replace F_b217_length := F_b217_length.keep K251 (ninS ne_b217_b219 nin0)
    show own_Go p e below (T251.setTop (mkF m 37 #[.val (.int i0), .val (.int i1), .val (.int i2), .val (.int i3), .val (.int (3 : Int32)), .val (.ref b217), .unset] [])) _
    refine own_aload (pc' := 39) B X251 at_37 rfl rfl rfl ?_
    refine own_callV (pc' := 42) B X251 (own_w hw 44 rfl) (own_w hw 45 rfl) (own_w hw 47 rfl) (own_w hw 46 rfl) (own_w hw 3 rfl) (own_w hw 48 rfl) E_b217 (by decide) [] [] (rm_27 l Z a0 hw [] b217 b219 k220 (y224) (y225) (y227) (y254) (y255) (y257) (y258) (y243) h251 n0 (Nat.le_trans Z0 K.1) E_b217 F_b217_bytes F_b217_length g_b217 E_b219 V_b219 g_b219 ne_b217_b219) 0 (by decide) (by decide) rfl pd_5 rfl rfl (Nat.le_of_eq rfl) at_39 rfl (k' := 3) (n' := 74) rfl rfl (by decide) (by decide) ?_
    intro T266 v266 h266 X266 q266
    have lt_b217 := E_b217.lt
    have lt_b219 := E_b219.lt
    obtain ⟨b267, k268, rfl, K266, z_b267, E_b267, V_b267⟩ := q266
    have ne_b217_b267 : b217 ≠ b267 := own_ne' lt_b217 z_b267
    have ne_b219_b267 : b219 ≠ b267 := own_ne' lt_b219 z_b267
    have sz_b267 : h0.size ≤ b267 := Nat.le_trans K.1 z_b267
    have g_b267 : n0 ≤ b267 := Nat.le_trans Z0 sz_b267
    replace K := K.trans K266 all0
    replace E_b217 := E_b217.keep K266
    replace F_b217_bytes := F_b217_bytes.keep K266 nin0
    replace F_b217_length := F_b217_length.keep K266 nin0
    replace E_b219 := E_b219.keep K266
    replace V_b219 := V_b219.keep K266 nin0
    show own_Go p e below (T266.setTop (mkF m 42 #[.val (.int i0), .val (.int i1), .val (.int i2), .val (.int i3), .val (.int (3 : Int32)), .val (.ref b217), .unset] [(.ref b267)])) _
    refine own_astore (pc' := 44) B X266 (Ls' := #[.val (.int i0), .val (.int i1), .val (.int i2), .val (.int i3), .val (.int (3 : Int32)), .val (.ref b217), .val (.ref b267)]) at_42 rfl rfl rfl ?_
    refine own_aload (pc' := 46) B X266 at_44 rfl rfl rfl ?_
    refine own_callV (pc' := 49) B X266 (own_w hw 61 rfl) (own_w hw 62 rfl) (own_w hw 64 rfl) (own_w hw 63 rfl) (own_w hw 3 rfl) (own_w hw 65 rfl) E_b217 (by decide) [] [] (rm_30 l Z a0 hw [] b217 b219 k220 (y224) (y225) (y227) (y254) (y255) (y257) (y258) (y243) h266 n0 (Nat.le_trans Z0 K.1) E_b217 F_b217_bytes F_b217_length g_b217 E_b219 V_b219 g_b219 ne_b217_b219) 0 (by decide) (by decide) rfl pd_6 rfl rfl (Nat.le_of_eq rfl) at_46 rfl (k' := 3) (n' := 74) rfl rfl (by decide) (by decide) ?_
    intro T269 v269 h269 X269 q269
    obtain ⟨rfl, rfl⟩ := q269
    show own_Go p e below (T269.setTop (mkF m 49 #[.val (.int i0), .val (.int i1), .val (.int i2), .val (.int i3), .val (.int (3 : Int32)), .val (.ref b217), .val (.ref b267)] [(.int (8 : Int32))])) _
    refine own_bipush (pc' := 51) B X269 (z := (8 : Int32)) at_49 rfl (by decide) ?_
    refine own_icmpNo (pc' := 54) B X269 at_51 (teq (by decide : (8 : Int32) = (8 : Int32))).2 rfl ?_
    refine own_aload (pc' := 56) B X269 at_54 rfl rfl rfl ?_
    refine own_arraylength (pc' := 57) B X269 V_b267 at_56 rfl ?_
    refine own_bipush (pc' := 59) B X269 (z := (8 : Int32)) at_57 rfl (by decide) ?_
    refine own_icmpYes (pc' := 64) B X269 at_59 (teq (by decide : (8 : Int32) = (8 : Int32))).1 (by decide) rfl ?_
    refine own_aload (pc' := 66) B X269 at_64 rfl rfl rfl ?_
    refine own_iconst (pc' := 67) B X269 (z := (0 : Int32)) at_66 rfl rfl ?_
    refine own_iloadN (pc' := 68) B X269 at_67 rfl rfl ?_
    refine own_iloadN (pc' := 69) B X269 at_68 rfl rfl ?_
    refine own_iload (pc' := 71) B X269 at_69 rfl rfl ?_
    refine own_iloadN (pc' := 72) B X269 at_71 rfl rfl ?_
    refine own_callS (pc' := 75) B X269 (own_w hw 66 rfl) (own_w hw 67 rfl) (own_w hw 68 rfl) (own_w hw 69 rfl) (by decide) [(.ref b267), (.int (0 : Int32)), (.int i0), (.int i1), (.int (3 : Int32)), (.int i3)] [] (rm_62 l Z a0 hw [] b267 k268 (y224) (y225) (y227) (y254) (y255) (y257) (y258) (y243) (i0) (i1) (i3) (y223) (y222) (y226) (y253) (y252) (y256) h266 n0 (Nat.le_trans Z0 K.1) E_b267 V_b267 g_b267 hy231 hy232 hy234 hy250 hy261 hy262 hy264 hy265 hy229 hy230 hy233 hy259 hy260 hy263) 0 (by decide) (by decide) rfl pd_7 rfl rfl (Nat.le_of_eq rfl) at_72 rfl (k' := 3) (n' := 74) rfl rfl (by decide) (by decide) ?_
    intro T270 v270 h270 X270 q270
    obtain ⟨y271, y272, hy273, hy274, c275, rfl, rfl⟩ := q270
    show own_Go p e below (T270.setTop (mkF m 75 #[.val (.int i0), .val (.int i1), .val (.int i2), .val (.int i3), .val (.int (3 : Int32)), .val (.ref b217), .val (.ref b267)] [(.int (1 : Int32))])) _
    refine own_ifNo (pc' := 78) B X270 at_75 ((if0 _ _).trans (feq (by decide : ¬ ((1 : Int32) = (0 : Int32)))).1) rfl ?_
    refine own_aload (pc' := 80) B X270 at_78 rfl rfl rfl ?_
    refine own_iconst (pc' := 81) B X270 (z := (1 : Int32)) at_80 rfl rfl ?_
    refine own_iloadN (pc' := 82) B X270 at_81 rfl rfl ?_
    refine own_iloadN (pc' := 83) B X270 at_82 rfl rfl ?_
    refine own_iload (pc' := 85) B X270 at_83 rfl rfl ?_
    refine own_iloadN (pc' := 86) B X270 at_85 rfl rfl ?_
    refine own_callS (pc' := 89) B X270 (own_w hw 66 rfl) (own_w hw 67 rfl) (own_w hw 68 rfl) (own_w hw 69 rfl) (by decide) [(.ref b267), (.int (1 : Int32)), (.int i0), (.int i1), (.int (3 : Int32)), (.int i3)] [] (rm_63 l Z a0 hw [] b267 k268 (y224) (y225) (y227) (y254) (y255) (y257) (y258) (y243) (i0) (i1) (i3) (y223) (y222) (y226) (y253) (y252) (y256) h266 n0 (Nat.le_trans Z0 K.1) E_b267 V_b267 g_b267 hy231 hy232 hy234 hy250 hy261 hy262 hy264 hy265 hy229 hy230 hy233 hy259 hy260 hy263) 0 (by decide) (by decide) rfl pd_7 rfl rfl (Nat.le_of_eq rfl) at_86 rfl (k' := 3) (n' := 74) rfl rfl (by decide) (by decide) ?_
    intro T276 v276 h276 X276 q276
    obtain ⟨rfl, rfl⟩ := q276
    show own_Go p e below (T276.setTop (mkF m 89 #[.val (.int i0), .val (.int i1), .val (.int i2), .val (.int i3), .val (.int (3 : Int32)), .val (.ref b217), .val (.ref b267)] [(.int (1 : Int32))])) _
    refine own_ifNo (pc' := 92) B X276 at_89 ((if0 _ _).trans (feq (by decide : ¬ ((1 : Int32) = (0 : Int32)))).1) rfl ?_
    refine own_aload (pc' := 94) B X276 at_92 rfl rfl rfl ?_
    refine own_iconst (pc' := 95) B X276 (z := (2 : Int32)) at_94 rfl rfl ?_
    refine own_iloadN (pc' := 96) B X276 at_95 rfl rfl ?_
    refine own_iloadN (pc' := 97) B X276 at_96 rfl rfl ?_
    refine own_iload (pc' := 99) B X276 at_97 rfl rfl ?_
    refine own_iloadN (pc' := 100) B X276 at_99 rfl rfl ?_
    refine own_callS (pc' := 103) B X276 (own_w hw 66 rfl) (own_w hw 67 rfl) (own_w hw 68 rfl) (own_w hw 69 rfl) (by decide) [(.ref b267), (.int (2 : Int32)), (.int i0), (.int i1), (.int (3 : Int32)), (.int i3)] [] (rm_64 l Z a0 hw [] b267 k268 (y224) (y225) (y227) (y254) (y255) (y257) (y258) (y243) (i0) (i1) (i3) (y223) (y222) (y226) (y253) (y252) (y256) h266 n0 (Nat.le_trans Z0 K.1) E_b267 V_b267 g_b267 hy231 hy232 hy234 hy250 hy261 hy262 hy264 hy265 hy229 hy230 hy233 hy259 hy260 hy263) 0 (by decide) (by decide) rfl pd_7 rfl rfl (Nat.le_of_eq rfl) at_100 rfl (k' := 3) (n' := 74) rfl rfl (by decide) (by decide) ?_
    intro T277 v277 h277 X277 q277
    obtain ⟨rfl, rfl⟩ := q277
    show own_Go p e below (T277.setTop (mkF m 103 #[.val (.int i0), .val (.int i1), .val (.int i2), .val (.int i3), .val (.int (3 : Int32)), .val (.ref b217), .val (.ref b267)] [(.int (1 : Int32))])) _
    refine own_ifNo (pc' := 106) B X277 at_103 ((if0 _ _).trans (feq (by decide : ¬ ((1 : Int32) = (0 : Int32)))).1) rfl ?_
    refine own_aload (pc' := 108) B X277 at_106 rfl rfl rfl ?_
    refine own_iconst (pc' := 109) B X277 (z := (3 : Int32)) at_108 rfl rfl ?_
    refine own_iloadN (pc' := 110) B X277 at_109 rfl rfl ?_
    refine own_iloadN (pc' := 111) B X277 at_110 rfl rfl ?_
    refine own_iload (pc' := 113) B X277 at_111 rfl rfl ?_
    refine own_iloadN (pc' := 114) B X277 at_113 rfl rfl ?_
    refine own_callS (pc' := 117) B X277 (own_w hw 66 rfl) (own_w hw 67 rfl) (own_w hw 68 rfl) (own_w hw 69 rfl) (by decide) [(.ref b267), (.int (3 : Int32)), (.int i0), (.int i1), (.int (3 : Int32)), (.int i3)] [] (rm_65 l Z a0 hw [] b267 k268 (y224) (y225) (y227) (y254) (y255) (y257) (y258) (y243) (i0) (i1) (i3) (y223) (y222) (y226) (y253) (y252) (y256) h266 n0 (Nat.le_trans Z0 K.1) E_b267 V_b267 g_b267 hy231 hy232 hy234 hy250 hy261 hy262 hy264 hy265 hy229 hy230 hy233 hy259 hy260 hy263) 0 (by decide) (by decide) rfl pd_7 rfl rfl (Nat.le_of_eq rfl) at_114 rfl (k' := 3) (n' := 74) rfl rfl (by decide) (by decide) ?_
    intro T278 v278 h278 X278 q278
    obtain ⟨y279, y280, hy281, hy282, c283, rfl, rfl⟩ := q278
    show own_Go p e below (T278.setTop (mkF m 117 #[.val (.int i0), .val (.int i1), .val (.int i2), .val (.int i3), .val (.int (3 : Int32)), .val (.ref b217), .val (.ref b267)] [(.int (1 : Int32))])) _
    refine own_ifNo (pc' := 120) B X278 at_117 ((if0 _ _).trans (feq (by decide : ¬ ((1 : Int32) = (0 : Int32)))).1) rfl ?_
    refine own_aload (pc' := 122) B X278 at_120 rfl rfl rfl ?_
    refine own_iconst (pc' := 123) B X278 (z := (4 : Int32)) at_122 rfl rfl ?_
    refine own_iloadN (pc' := 124) B X278 at_123 rfl rfl ?_
    refine own_iloadN (pc' := 125) B X278 at_124 rfl rfl ?_
    refine own_iload (pc' := 127) B X278 at_125 rfl rfl ?_
    refine own_iloadN (pc' := 128) B X278 at_127 rfl rfl ?_
    refine own_callS (pc' := 131) B X278 (own_w hw 66 rfl) (own_w hw 67 rfl) (own_w hw 68 rfl) (own_w hw 69 rfl) (by decide) [(.ref b267), (.int (4 : Int32)), (.int i0), (.int i1), (.int (3 : Int32)), (.int i3)] [] (rm_66 l Z a0 hw [] b267 k268 (y224) (y225) (y227) (y254) (y255) (y257) (y258) (y243) (i0) (i1) (i3) (y223) (y222) (y226) (y253) (y252) (y256) h266 n0 (Nat.le_trans Z0 K.1) E_b267 V_b267 g_b267 hy231 hy232 hy234 hy250 hy261 hy262 hy264 hy265 hy229 hy230 hy233 hy259 hy260 hy263) 0 (by decide) (by decide) rfl pd_7 rfl rfl (Nat.le_of_eq rfl) at_128 rfl (k' := 3) (n' := 74) rfl rfl (by decide) (by decide) ?_
    intro T284 v284 h284 X284 q284
    obtain ⟨rfl, rfl⟩ := q284
    show own_Go p e below (T284.setTop (mkF m 131 #[.val (.int i0), .val (.int i1), .val (.int i2), .val (.int i3), .val (.int (3 : Int32)), .val (.ref b217), .val (.ref b267)] [(.int (1 : Int32))])) _
    refine own_ifNo (pc' := 134) B X284 at_131 ((if0 _ _).trans (feq (by decide : ¬ ((1 : Int32) = (0 : Int32)))).1) rfl ?_
    refine own_aload (pc' := 136) B X284 at_134 rfl rfl rfl ?_
    refine own_iconst (pc' := 137) B X284 (z := (5 : Int32)) at_136 rfl rfl ?_
    refine own_iloadN (pc' := 138) B X284 at_137 rfl rfl ?_
    refine own_iloadN (pc' := 139) B X284 at_138 rfl rfl ?_
    refine own_iload (pc' := 141) B X284 at_139 rfl rfl ?_
    refine own_iloadN (pc' := 142) B X284 at_141 rfl rfl ?_
    refine own_callS (pc' := 145) B X284 (own_w hw 66 rfl) (own_w hw 67 rfl) (own_w hw 68 rfl) (own_w hw 69 rfl) (by decide) [(.ref b267), (.int (5 : Int32)), (.int i0), (.int i1), (.int (3 : Int32)), (.int i3)] [] (rm_67 l Z a0 hw [] b267 k268 (y224) (y225) (y227) (y254) (y255) (y257) (y258) (y243) (i0) (i1) (i3) (y223) (y222) (y226) (y253) (y252) (y256) h266 n0 (Nat.le_trans Z0 K.1) E_b267 V_b267 g_b267 hy231 hy232 hy234 hy250 hy261 hy262 hy264 hy265 hy229 hy230 hy233 hy259 hy260 hy263) 0 (by decide) (by decide) rfl pd_7 rfl rfl (Nat.le_of_eq rfl) at_142 rfl (k' := 3) (n' := 74) rfl rfl (by decide) (by decide) ?_
    intro T285 v285 h285 X285 q285
    obtain ⟨rfl, rfl⟩ := q285
    show own_Go p e below (T285.setTop (mkF m 145 #[.val (.int i0), .val (.int i1), .val (.int i2), .val (.int i3), .val (.int (3 : Int32)), .val (.ref b217), .val (.ref b267)] [(.int (1 : Int32))])) _
    refine own_ifNo (pc' := 148) B X285 at_145 ((if0 _ _).trans (feq (by decide : ¬ ((1 : Int32) = (0 : Int32)))).1) rfl ?_
    refine own_aload (pc' := 150) B X285 at_148 rfl rfl rfl ?_
    refine own_bipush (pc' := 152) B X285 (z := (6 : Int32)) at_150 rfl (by decide) ?_
    refine own_iloadN (pc' := 153) B X285 at_152 rfl rfl ?_
    refine own_iloadN (pc' := 154) B X285 at_153 rfl rfl ?_
    refine own_iload (pc' := 156) B X285 at_154 rfl rfl ?_
    refine own_iloadN (pc' := 157) B X285 at_156 rfl rfl ?_
    refine own_callS (pc' := 160) B X285 (own_w hw 66 rfl) (own_w hw 67 rfl) (own_w hw 68 rfl) (own_w hw 69 rfl) (by decide) [(.ref b267), (.int (6 : Int32)), (.int i0), (.int i1), (.int (3 : Int32)), (.int i3)] [] (rm_68 l Z a0 hw [] b267 k268 (y224) (y225) (y227) (y254) (y255) (y257) (y258) (y243) (i0) (i1) (i3) (y223) (y222) (y226) (y253) (y252) (y256) h266 n0 (Nat.le_trans Z0 K.1) E_b267 V_b267 g_b267 hy231 hy232 hy234 hy250 hy261 hy262 hy264 hy265 hy229 hy230 hy233 hy259 hy260 hy263) 0 (by decide) (by decide) rfl pd_7 rfl rfl (Nat.le_of_eq rfl) at_157 rfl (k' := 3) (n' := 74) rfl rfl (by decide) (by decide) ?_
    intro T286 v286 h286 X286 q286
    obtain ⟨rfl, rfl⟩ := q286
    show own_Go p e below (T286.setTop (mkF m 160 #[.val (.int i0), .val (.int i1), .val (.int i2), .val (.int i3), .val (.int (3 : Int32)), .val (.ref b217), .val (.ref b267)] [(.int (1 : Int32))])) _
    refine own_ifNo (pc' := 163) B X286 at_160 ((if0 _ _).trans (feq (by decide : ¬ ((1 : Int32) = (0 : Int32)))).1) rfl ?_
    refine own_aload (pc' := 165) B X286 at_163 rfl rfl rfl ?_
    refine own_bipush (pc' := 167) B X286 (z := (7 : Int32)) at_165 rfl (by decide) ?_
    refine own_iloadN (pc' := 168) B X286 at_167 rfl rfl ?_
    refine own_iloadN (pc' := 169) B X286 at_168 rfl rfl ?_
    refine own_iload (pc' := 171) B X286 at_169 rfl rfl ?_
    refine own_iloadN (pc' := 172) B X286 at_171 rfl rfl ?_
    refine own_callS (pc' := 175) B X286 (own_w hw 66 rfl) (own_w hw 67 rfl) (own_w hw 68 rfl) (own_w hw 69 rfl) (by decide) [(.ref b267), (.int (7 : Int32)), (.int i0), (.int i1), (.int (3 : Int32)), (.int i3)] [] (rm_69 l Z a0 hw [] b267 k268 (y224) (y225) (y227) (y254) (y255) (y257) (y258) (y243) (i0) (i1) (i3) (y223) (y222) (y226) (y253) (y252) (y256) h266 n0 (Nat.le_trans Z0 K.1) E_b267 V_b267 g_b267 hy231 hy232 hy234 hy250 hy261 hy262 hy264 hy265 hy229 hy230 hy233 hy259 hy260 hy263) 0 (by decide) (by decide) rfl pd_7 rfl rfl (Nat.le_of_eq rfl) at_172 rfl (k' := 3) (n' := 74) rfl rfl (by decide) (by decide) ?_
    intro T287 v287 h287 X287 q287
    obtain ⟨rfl, rfl⟩ := q287
    show own_Go p e below (T287.setTop (mkF m 175 #[.val (.int i0), .val (.int i1), .val (.int i2), .val (.int i3), .val (.int (3 : Int32)), .val (.ref b217), .val (.ref b267)] [(.int (1 : Int32))])) _
    refine own_ifNo (pc' := 178) B X287 at_175 ((if0 _ _).trans (feq (by decide : ¬ ((1 : Int32) = (0 : Int32)))).1) rfl ?_
    refine own_iconst (pc' := 179) B X287 (z := (1 : Int32)) at_178 rfl rfl ?_
    refine own_goto (pc' := 183) B X287 at_179 (by decide) rfl ?_
    exact own_retN B X287 (t := .boolean) (z' := (1 : Int32)) (by simp) (by decide) at_183 (by decide) (by decide) rfl
  · obtain rfl : y2 = (4 : Int32) := Int32.toInt_inj.mp (z3.trans (by decide))
    refine own_istore (pc' := 8) B X0 (Ls' := #[.val (.int i0), .val (.int i1), .val (.int i2), .val (.int i3), .val (.int (4 : Int32)), .unset, .unset]) at_6 rfl rfl ?_
    refine own_new (pc' := 11) B X0 (own_w hw 1 rfl) (own_w hw 2 rfl) (own_w hw 3 rfl) at_8 rfl (k' := 1) (n' := 2) rfl rfl (by decide) (by decide) ?_
    intro T288 h288 b288 X288 g288 E288 E_b288 D288
    have sz_b288 : h0.size ≤ b288 := own_sz K g288
    have g_b288 : n0 ≤ b288 := Nat.le_trans Z0 sz_b288
    replace K := K.ext E288
    have F_b288_bytes : Fld Z h288 b288 "demitasse/interp/Bytes" "bytes" "[B" .null := D288 (Or.inl (own_w hw 12 rfl)) (ty := (.array .byte)) (by decide)
    have F_b288_length : Fld Z h288 b288 "demitasse/interp/Bytes" "length" "I" (.int (0 : Int32)) := D288 (Or.inl (own_w hw 33 rfl)) (ty := .int) (by decide)
    clear D288
    refine own_dup (pc' := 12) B X288 at_11 rfl rfl ?_
    refine own_callI (pc' := 15) B X288 rfl rfl (own_w hw 4 rfl) (own_w hw 5 rfl) (own_w hw 3 rfl) (own_w hw 6 rfl) (by decide) [] [(.ref b288)] (rm_1 l Z a0 hw [] b288 h288 n0 (Nat.le_trans Z0 K.1) E_b288 F_b288_bytes F_b288_length g_b288) 1 (by decide) (by decide) rfl pd_0 rfl rfl (Nat.le_of_eq rfl) at_12 rfl (k' := 2) (n' := 66) rfl rfl (by decide) (by decide) ?_
    intro T289 v289 h289 X289 q289
    have lt_b288 := E_b288.lt
    obtain ⟨b290, k291, rfl, K289, z_b290, E_b288, F_b288_bytes, F_b288_length, E_b290, V_b290⟩ := q289
    have ne_b288_b290 : b288 ≠ b290 := own_ne' lt_b288 z_b290
    have sz_b290 : h0.size ≤ b290 := Nat.le_trans K.1 z_b290
    have g_b290 : n0 ≤ b290 := Nat.le_trans Z0 sz_b290
    replace K := K.trans K289 (allS (Or.inr sz_b288) all0)
    show own_Go p e below (T289.setTop (mkF m 15 #[.val (.int i0), .val (.int i1), .val (.int i2), .val (.int i3), .val (.int (4 : Int32)), .unset, .unset] [(.ref b288)])) _
    refine own_astore (pc' := 17) B X289 (Ls' := #[.val (.int i0), .val (.int i1), .val (.int i2), .val (.int i3), .val (.int (4 : Int32)), .val (.ref b288), .unset]) at_15 rfl rfl rfl ?_
    refine own_aload (pc' := 19) B X289 at_17 rfl rfl rfl ?_
    refine own_iloadN (pc' := 20) B X289 at_19 rfl rfl ?_
    refine own_callV (pc' := 23) B X289 (own_w hw 13 rfl) (own_w hw 14 rfl) (own_w hw 16 rfl) (own_w hw 15 rfl) (own_w hw 3 rfl) (own_w hw 17 rfl) E_b288 (by decide) [(.int i0)] [] (rm_2 l Z a0 hw [] b288 b290 k291 (i0) h289 n0 (Nat.le_trans Z0 K.1) E_b288 F_b288_bytes F_b288_length g_b288 E_b290 V_b290 g_b290 ne_b288_b290) 0 (by decide) (by decide) rfl pd_1 rfl rfl (Nat.le_of_eq rfl) at_20 rfl (k' := 2) (n' := 66) rfl rfl (by decide) (by decide) ?_
    intro T292 v292 h292 X292 q292
    obtain ⟨y293, y294, y295, y296, y297, y298, y299, hy300, hy301, hy302, hy303, hy304, hy305, hy306, rfl, K292, E_b288, F_b288_bytes, F_b288_length, E_b290, V_b290⟩ := q292
    replace K := K.trans K292 (allS (Or.inr sz_b288) (allS (Or.inr sz_b290) all0))
    show own_Go p e below (T292.setTop (mkF m 23 #[.val (.int i0), .val (.int i1), .val (.int i2), .val (.int i3), .val (.int (4 : Int32)), .val (.ref b288), .unset] [])) _
    refine own_aload (pc' := 25) B X292 at_23 rfl rfl rfl ?_
    refine own_iloadN (pc' := 26) B X292 at_25 rfl rfl ?_
    refine own_callV (pc' := 29) B X292 (own_w hw 13 rfl) (own_w hw 14 rfl) (own_w hw 16 rfl) (own_w hw 15 rfl) (own_w hw 3 rfl) (own_w hw 17 rfl) E_b288 (by decide) [(.int i1)] [] (rm_13 l Z a0 hw [] b288 b290 k291 (y295) (y296) (y298) (y299) (i1) h292 n0 (Nat.le_trans Z0 K.1) E_b288 F_b288_bytes F_b288_length g_b288 E_b290 V_b290 g_b290 ne_b288_b290) 0 (by decide) (by decide) rfl pd_1 rfl rfl (Nat.le_of_eq rfl) at_26 rfl (k' := 2) (n' := 66) rfl rfl (by decide) (by decide) ?_
    intro T307 v307 h307 X307 q307
    obtain ⟨y308, y309, y310, y311, y312, y313, y314, hy315, hy316, hy317, hy318, hy319, hy320, hy321, rfl, K307, E_b288, F_b288_bytes, F_b288_length, E_b290, V_b290⟩ := q307
    replace K := K.trans K307 (allS (Or.inr sz_b288) (allS (Or.inr sz_b290) all0))
    show own_Go p e below (T307.setTop (mkF m 29 #[.val (.int i0), .val (.int i1), .val (.int i2), .val (.int i3), .val (.int (4 : Int32)), .val (.ref b288), .unset] [])) _
    refine own_aload (pc' := 31) B X307 at_29 rfl rfl rfl ?_
    refine own_iload (pc' := 33) B X307 at_31 rfl rfl ?_
    refine own_iloadN (pc' := 34) B X307 at_33 rfl rfl ?_
    refine own_callV (pc' := 37) B X307 (own_w hw 34 rfl) (own_w hw 35 rfl) (own_w hw 37 rfl) (own_w hw 36 rfl) (own_w hw 3 rfl) (own_w hw 38 rfl) E_b288 (by decide) [(.int (4 : Int32)), (.int i3)] [] (rm_70 l Z a0 hw [] b288 b290 k291 (y295) (y296) (y298) (y299) (y310) (y311) (y313) (y314) (i3) h307 n0 (Nat.le_trans Z0 K.1) E_b288 F_b288_bytes F_b288_length g_b288 E_b290 V_b290 g_b290 ne_b288_b290) 0 (by decide) (by decide) rfl pd_2 rfl rfl (Nat.le_of_eq rfl) at_34 rfl (k' := 2) (n' := 66) rfl rfl (by decide) (by decide) ?_
    intro T322 v322 h322 X322 q322
    obtain ⟨y323, y324, y325, y326, y327, y328, y329, hy330, hy331, hy332, hy333, hy334, hy335, hy336, rfl, K322, E_b290, V_b290⟩ := q322
    replace K := K.trans K322 (allS (Or.inr sz_b290) all0)
    replace E_b288 := E_b288.keep K322
    replace F_b288_bytes := F_b288_bytes.keep K322 (ninS ne_b288_b290 nin0)
    replace F_b288_length := F_b288_length.keep K322 (ninS ne_b288_b290 nin0)
    show own_Go p e below (T322.setTop (mkF m 37 #[.val (.int i0), .val (.int i1), .val (.int i2), .val (.int i3), .val (.int (4 : Int32)), .val (.ref b288), .unset] [])) _
    refine own_aload (pc' := 39) B X322 at_37 rfl rfl rfl ?_
    refine own_callV (pc' := 42) B X322 (own_w hw 44 rfl) (own_w hw 45 rfl) (own_w hw 47 rfl) (own_w hw 46 rfl) (own_w hw 3 rfl) (own_w hw 48 rfl) E_b288 (by decide) [] [] (rm_27 l Z a0 hw [] b288 b290 k291 (y295) (y296) (y298) (y299) (y325) (y326) (y328) (y329) h322 n0 (Nat.le_trans Z0 K.1) E_b288 F_b288_bytes F_b288_length g_b288 E_b290 V_b290 g_b290 ne_b288_b290) 0 (by decide) (by decide) rfl pd_5 rfl rfl (Nat.le_of_eq rfl) at_39 rfl (k' := 3) (n' := 74) rfl rfl (by decide) (by decide) ?_
    intro T337 v337 h337 X337 q337
    have lt_b288 := E_b288.lt
    have lt_b290 := E_b290.lt
    obtain ⟨b338, k339, rfl, K337, z_b338, E_b338, V_b338⟩ := q337
    have ne_b288_b338 : b288 ≠ b338 := own_ne' lt_b288 z_b338
    have ne_b290_b338 : b290 ≠ b338 := own_ne' lt_b290 z_b338
    have sz_b338 : h0.size ≤ b338 := Nat.le_trans K.1 z_b338
    have g_b338 : n0 ≤ b338 := Nat.le_trans Z0 sz_b338
    replace K := K.trans K337 all0
    replace E_b288 := E_b288.keep K337
    replace F_b288_bytes := F_b288_bytes.keep K337 nin0
    replace F_b288_length := F_b288_length.keep K337 nin0
    replace E_b290 := E_b290.keep K337
    replace V_b290 := V_b290.keep K337 nin0
    show own_Go p e below (T337.setTop (mkF m 42 #[.val (.int i0), .val (.int i1), .val (.int i2), .val (.int i3), .val (.int (4 : Int32)), .val (.ref b288), .unset] [(.ref b338)])) _
    refine own_astore (pc' := 44) B X337 (Ls' := #[.val (.int i0), .val (.int i1), .val (.int i2), .val (.int i3), .val (.int (4 : Int32)), .val (.ref b288), .val (.ref b338)]) at_42 rfl rfl rfl ?_
    refine own_aload (pc' := 46) B X337 at_44 rfl rfl rfl ?_
    refine own_callV (pc' := 49) B X337 (own_w hw 61 rfl) (own_w hw 62 rfl) (own_w hw 64 rfl) (own_w hw 63 rfl) (own_w hw 3 rfl) (own_w hw 65 rfl) E_b288 (by decide) [] [] (rm_30 l Z a0 hw [] b288 b290 k291 (y295) (y296) (y298) (y299) (y325) (y326) (y328) (y329) h337 n0 (Nat.le_trans Z0 K.1) E_b288 F_b288_bytes F_b288_length g_b288 E_b290 V_b290 g_b290 ne_b288_b290) 0 (by decide) (by decide) rfl pd_6 rfl rfl (Nat.le_of_eq rfl) at_46 rfl (k' := 3) (n' := 74) rfl rfl (by decide) (by decide) ?_
    intro T340 v340 h340 X340 q340
    obtain ⟨rfl, rfl⟩ := q340
    show own_Go p e below (T340.setTop (mkF m 49 #[.val (.int i0), .val (.int i1), .val (.int i2), .val (.int i3), .val (.int (4 : Int32)), .val (.ref b288), .val (.ref b338)] [(.int (8 : Int32))])) _
    refine own_bipush (pc' := 51) B X340 (z := (8 : Int32)) at_49 rfl (by decide) ?_
    refine own_icmpNo (pc' := 54) B X340 at_51 (teq (by decide : (8 : Int32) = (8 : Int32))).2 rfl ?_
    refine own_aload (pc' := 56) B X340 at_54 rfl rfl rfl ?_
    refine own_arraylength (pc' := 57) B X340 V_b338 at_56 rfl ?_
    refine own_bipush (pc' := 59) B X340 (z := (8 : Int32)) at_57 rfl (by decide) ?_
    refine own_icmpYes (pc' := 64) B X340 at_59 (teq (by decide : (8 : Int32) = (8 : Int32))).1 (by decide) rfl ?_
    refine own_aload (pc' := 66) B X340 at_64 rfl rfl rfl ?_
    refine own_iconst (pc' := 67) B X340 (z := (0 : Int32)) at_66 rfl rfl ?_
    refine own_iloadN (pc' := 68) B X340 at_67 rfl rfl ?_
    refine own_iloadN (pc' := 69) B X340 at_68 rfl rfl ?_
    refine own_iload (pc' := 71) B X340 at_69 rfl rfl ?_
    refine own_iloadN (pc' := 72) B X340 at_71 rfl rfl ?_
    refine own_callS (pc' := 75) B X340 (own_w hw 66 rfl) (own_w hw 67 rfl) (own_w hw 68 rfl) (own_w hw 69 rfl) (by decide) [(.ref b338), (.int (0 : Int32)), (.int i0), (.int i1), (.int (4 : Int32)), (.int i3)] [] (rm_72 l Z a0 hw [] b338 k339 (y295) (y296) (y298) (y299) (y325) (y326) (y328) (y329) (i0) (i1) (i3) (y294) (y293) (y297) (y324) (y323) (y327) h337 n0 (Nat.le_trans Z0 K.1) E_b338 V_b338 g_b338 hy302 hy303 hy305 hy306 hy332 hy333 hy335 hy336 hy300 hy301 hy304 hy330 hy331 hy334) 0 (by decide) (by decide) rfl pd_7 rfl rfl (Nat.le_of_eq rfl) at_72 rfl (k' := 3) (n' := 74) rfl rfl (by decide) (by decide) ?_
    intro T341 v341 h341 X341 q341
    obtain ⟨y342, y343, hy344, hy345, c346, rfl, rfl⟩ := q341
    show own_Go p e below (T341.setTop (mkF m 75 #[.val (.int i0), .val (.int i1), .val (.int i2), .val (.int i3), .val (.int (4 : Int32)), .val (.ref b288), .val (.ref b338)] [(.int (1 : Int32))])) _
    refine own_ifNo (pc' := 78) B X341 at_75 ((if0 _ _).trans (feq (by decide : ¬ ((1 : Int32) = (0 : Int32)))).1) rfl ?_
    refine own_aload (pc' := 80) B X341 at_78 rfl rfl rfl ?_
    refine own_iconst (pc' := 81) B X341 (z := (1 : Int32)) at_80 rfl rfl ?_
    refine own_iloadN (pc' := 82) B X341 at_81 rfl rfl ?_
    refine own_iloadN (pc' := 83) B X341 at_82 rfl rfl ?_
    refine own_iload (pc' := 85) B X341 at_83 rfl rfl ?_
    refine own_iloadN (pc' := 86) B X341 at_85 rfl rfl ?_
    refine own_callS (pc' := 89) B X341 (own_w hw 66 rfl) (own_w hw 67 rfl) (own_w hw 68 rfl) (own_w hw 69 rfl) (by decide) [(.ref b338), (.int (1 : Int32)), (.int i0), (.int i1), (.int (4 : Int32)), (.int i3)] [] (rm_73 l Z a0 hw [] b338 k339 (y295) (y296) (y298) (y299) (y325) (y326) (y328) (y329) (i0) (i1) (i3) (y294) (y293) (y297) (y324) (y323) (y327) h337 n0 (Nat.le_trans Z0 K.1) E_b338 V_b338 g_b338 hy302 hy303 hy305 hy306 hy332 hy333 hy335 hy336 hy300 hy301 hy304 hy330 hy331 hy334) 0 (by decide) (by decide) rfl pd_7 rfl rfl (Nat.le_of_eq rfl) at_86 rfl (k' := 3) (n' := 74) rfl rfl (by decide) (by decide) ?_
    intro T347 v347 h347 X347 q347
    obtain ⟨rfl, rfl⟩ := q347
    show own_Go p e below (T347.setTop (mkF m 89 #[.val (.int i0), .val (.int i1), .val (.int i2), .val (.int i3), .val (.int (4 : Int32)), .val (.ref b288), .val (.ref b338)] [(.int (1 : Int32))])) _
    refine own_ifNo (pc' := 92) B X347 at_89 ((if0 _ _).trans (feq (by decide : ¬ ((1 : Int32) = (0 : Int32)))).1) rfl ?_
    refine own_aload (pc' := 94) B X347 at_92 rfl rfl rfl ?_
    refine own_iconst (pc' := 95) B X347 (z := (2 : Int32)) at_94 rfl rfl ?_
    refine own_iloadN (pc' := 96) B X347 at_95 rfl rfl ?_
    refine own_iloadN (pc' := 97) B X347 at_96 rfl rfl ?_
    refine own_iload (pc' := 99) B X347 at_97 rfl rfl ?_
    refine own_iloadN (pc' := 100) B X347 at_99 rfl rfl ?_
    refine own_callS (pc' := 103) B X347 (own_w hw 66 rfl) (own_w hw 67 rfl) (own_w hw 68 rfl) (own_w hw 69 rfl) (by decide) [(.ref b338), (.int (2 : Int32)), (.int i0), (.int i1), (.int (4 : Int32)), (.int i3)] [] (rm_74 l Z a0 hw [] b338 k339 (y295) (y296) (y298) (y299) (y325) (y326) (y328) (y329) (i0) (i1) (i3) (y294) (y293) (y297) (y324) (y323) (y327) h337 n0 (Nat.le_trans Z0 K.1) E_b338 V_b338 g_b338 hy302 hy303 hy305 hy306 hy332 hy333 hy335 hy336 hy300 hy301 hy304 hy330 hy331 hy334) 0 (by decide) (by decide) rfl pd_7 rfl rfl (Nat.le_of_eq rfl) at_100 rfl (k' := 3) (n' := 74) rfl rfl (by decide) (by decide) ?_
    intro T348 v348 h348 X348 q348
    obtain ⟨rfl, rfl⟩ := q348
    show own_Go p e below (T348.setTop (mkF m 103 #[.val (.int i0), .val (.int i1), .val (.int i2), .val (.int i3), .val (.int (4 : Int32)), .val (.ref b288), .val (.ref b338)] [(.int (1 : Int32))])) _
    refine own_ifNo (pc' := 106) B X348 at_103 ((if0 _ _).trans (feq (by decide : ¬ ((1 : Int32) = (0 : Int32)))).1) rfl ?_
    refine own_aload (pc' := 108) B X348 at_106 rfl rfl rfl ?_
    refine own_iconst (pc' := 109) B X348 (z := (3 : Int32)) at_108 rfl rfl ?_
    refine own_iloadN (pc' := 110) B X348 at_109 rfl rfl ?_
    refine own_iloadN (pc' := 111) B X348 at_110 rfl rfl ?_
    refine own_iload (pc' := 113) B X348 at_111 rfl rfl ?_
    refine own_iloadN (pc' := 114) B X348 at_113 rfl rfl ?_
    refine own_callS (pc' := 117) B X348 (own_w hw 66 rfl) (own_w hw 67 rfl) (own_w hw 68 rfl) (own_w hw 69 rfl) (by decide) [(.ref b338), (.int (3 : Int32)), (.int i0), (.int i1), (.int (4 : Int32)), (.int i3)] [] (rm_75 l Z a0 hw [] b338 k339 (y295) (y296) (y298) (y299) (y325) (y326) (y328) (y329) (i0) (i1) (i3) (y294) (y293) (y297) (y324) (y323) (y327) h337 n0 (Nat.le_trans Z0 K.1) E_b338 V_b338 g_b338 hy302 hy303 hy305 hy306 hy332 hy333 hy335 hy336 hy300 hy301 hy304 hy330 hy331 hy334) 0 (by decide) (by decide) rfl pd_7 rfl rfl (Nat.le_of_eq rfl) at_114 rfl (k' := 3) (n' := 74) rfl rfl (by decide) (by decide) ?_
    intro T349 v349 h349 X349 q349
    obtain ⟨rfl, rfl⟩ := q349
    show own_Go p e below (T349.setTop (mkF m 117 #[.val (.int i0), .val (.int i1), .val (.int i2), .val (.int i3), .val (.int (4 : Int32)), .val (.ref b288), .val (.ref b338)] [(.int (1 : Int32))])) _
    refine own_ifNo (pc' := 120) B X349 at_117 ((if0 _ _).trans (feq (by decide : ¬ ((1 : Int32) = (0 : Int32)))).1) rfl ?_
    refine own_aload (pc' := 122) B X349 at_120 rfl rfl rfl ?_
    refine own_iconst (pc' := 123) B X349 (z := (4 : Int32)) at_122 rfl rfl ?_
    refine own_iloadN (pc' := 124) B X349 at_123 rfl rfl ?_
    refine own_iloadN (pc' := 125) B X349 at_124 rfl rfl ?_
    refine own_iload (pc' := 127) B X349 at_125 rfl rfl ?_
    refine own_iloadN (pc' := 128) B X349 at_127 rfl rfl ?_
    refine own_callS (pc' := 131) B X349 (own_w hw 66 rfl) (own_w hw 67 rfl) (own_w hw 68 rfl) (own_w hw 69 rfl) (by decide) [(.ref b338), (.int (4 : Int32)), (.int i0), (.int i1), (.int (4 : Int32)), (.int i3)] [] (rm_76 l Z a0 hw [] b338 k339 (y295) (y296) (y298) (y299) (y325) (y326) (y328) (y329) (i0) (i1) (i3) (y294) (y293) (y297) (y324) (y323) (y327) h337 n0 (Nat.le_trans Z0 K.1) E_b338 V_b338 g_b338 hy302 hy303 hy305 hy306 hy332 hy333 hy335 hy336 hy300 hy301 hy304 hy330 hy331 hy334) 0 (by decide) (by decide) rfl pd_7 rfl rfl (Nat.le_of_eq rfl) at_128 rfl (k' := 3) (n' := 74) rfl rfl (by decide) (by decide) ?_
    intro T350 v350 h350 X350 q350
    obtain ⟨y351, y352, hy353, hy354, c355, rfl, rfl⟩ := q350
    show own_Go p e below (T350.setTop (mkF m 131 #[.val (.int i0), .val (.int i1), .val (.int i2), .val (.int i3), .val (.int (4 : Int32)), .val (.ref b288), .val (.ref b338)] [(.int (1 : Int32))])) _
    refine own_ifNo (pc' := 134) B X350 at_131 ((if0 _ _).trans (feq (by decide : ¬ ((1 : Int32) = (0 : Int32)))).1) rfl ?_
    refine own_aload (pc' := 136) B X350 at_134 rfl rfl rfl ?_
    refine own_iconst (pc' := 137) B X350 (z := (5 : Int32)) at_136 rfl rfl ?_
    refine own_iloadN (pc' := 138) B X350 at_137 rfl rfl ?_
    refine own_iloadN (pc' := 139) B X350 at_138 rfl rfl ?_
    refine own_iload (pc' := 141) B X350 at_139 rfl rfl ?_
    refine own_iloadN (pc' := 142) B X350 at_141 rfl rfl ?_
    refine own_callS (pc' := 145) B X350 (own_w hw 66 rfl) (own_w hw 67 rfl) (own_w hw 68 rfl) (own_w hw 69 rfl) (by decide) [(.ref b338), (.int (5 : Int32)), (.int i0), (.int i1), (.int (4 : Int32)), (.int i3)] [] (rm_77 l Z a0 hw [] b338 k339 (y295) (y296) (y298) (y299) (y325) (y326) (y328) (y329) (i0) (i1) (i3) (y294) (y293) (y297) (y324) (y323) (y327) h337 n0 (Nat.le_trans Z0 K.1) E_b338 V_b338 g_b338 hy302 hy303 hy305 hy306 hy332 hy333 hy335 hy336 hy300 hy301 hy304 hy330 hy331 hy334) 0 (by decide) (by decide) rfl pd_7 rfl rfl (Nat.le_of_eq rfl) at_142 rfl (k' := 3) (n' := 74) rfl rfl (by decide) (by decide) ?_
    intro T356 v356 h356 X356 q356
    obtain ⟨rfl, rfl⟩ := q356
    show own_Go p e below (T356.setTop (mkF m 145 #[.val (.int i0), .val (.int i1), .val (.int i2), .val (.int i3), .val (.int (4 : Int32)), .val (.ref b288), .val (.ref b338)] [(.int (1 : Int32))])) _
    refine own_ifNo (pc' := 148) B X356 at_145 ((if0 _ _).trans (feq (by decide : ¬ ((1 : Int32) = (0 : Int32)))).1) rfl ?_
    refine own_aload (pc' := 150) B X356 at_148 rfl rfl rfl ?_
    refine own_bipush (pc' := 152) B X356 (z := (6 : Int32)) at_150 rfl (by decide) ?_
    refine own_iloadN (pc' := 153) B X356 at_152 rfl rfl ?_
    refine own_iloadN (pc' := 154) B X356 at_153 rfl rfl ?_
    refine own_iload (pc' := 156) B X356 at_154 rfl rfl ?_
    refine own_iloadN (pc' := 157) B X356 at_156 rfl rfl ?_
    refine own_callS (pc' := 160) B X356 (own_w hw 66 rfl) (own_w hw 67 rfl) (own_w hw 68 rfl) (own_w hw 69 rfl) (by decide) [(.ref b338), (.int (6 : Int32)), (.int i0), (.int i1), (.int (4 : Int32)), (.int i3)] [] (rm_78 l Z a0 hw [] b338 k339 (y295) (y296) (y298) (y299) (y325) (y326) (y328) (y329) (i0) (i1) (i3) (y294) (y293) (y297) (y324) (y323) (y327) h337 n0 (Nat.le_trans Z0 K.1) E_b338 V_b338 g_b338 hy302 hy303 hy305 hy306 hy332 hy333 hy335 hy336 hy300 hy301 hy304 hy330 hy331 hy334) 0 (by decide) (by decide) rfl pd_7 rfl rfl (Nat.le_of_eq rfl) at_157 rfl (k' := 3) (n' := 74) rfl rfl (by decide) (by decide) ?_
    intro T357 v357 h357 X357 q357
    obtain ⟨rfl, rfl⟩ := q357
    show own_Go p e below (T357.setTop (mkF m 160 #[.val (.int i0), .val (.int i1), .val (.int i2), .val (.int i3), .val (.int (4 : Int32)), .val (.ref b288), .val (.ref b338)] [(.int (1 : Int32))])) _
    refine own_ifNo (pc' := 163) B X357 at_160 ((if0 _ _).trans (feq (by decide : ¬ ((1 : Int32) = (0 : Int32)))).1) rfl ?_
    refine own_aload (pc' := 165) B X357 at_163 rfl rfl rfl ?_
    refine own_bipush (pc' := 167) B X357 (z := (7 : Int32)) at_165 rfl (by decide) ?_
    refine own_iloadN (pc' := 168) B X357 at_167 rfl rfl ?_
    refine own_iloadN (pc' := 169) B X357 at_168 rfl rfl ?_
    refine own_iload (pc' := 171) B X357 at_169 rfl rfl ?_
    refine own_iloadN (pc' := 172) B X357 at_171 rfl rfl ?_
    refine own_callS (pc' := 175) B X357 (own_w hw 66 rfl) (own_w hw 67 rfl) (own_w hw 68 rfl) (own_w hw 69 rfl) (by decide) [(.ref b338), (.int (7 : Int32)), (.int i0), (.int i1), (.int (4 : Int32)), (.int i3)] [] (rm_79 l Z a0 hw [] b338 k339 (y295) (y296) (y298) (y299) (y325) (y326) (y328) (y329) (i0) (i1) (i3) (y294) (y293) (y297) (y324) (y323) (y327) h337 n0 (Nat.le_trans Z0 K.1) E_b338 V_b338 g_b338 hy302 hy303 hy305 hy306 hy332 hy333 hy335 hy336 hy300 hy301 hy304 hy330 hy331 hy334) 0 (by decide) (by decide) rfl pd_7 rfl rfl (Nat.le_of_eq rfl) at_172 rfl (k' := 3) (n' := 74) rfl rfl (by decide) (by decide) ?_
    intro T358 v358 h358 X358 q358
    obtain ⟨rfl, rfl⟩ := q358
    show own_Go p e below (T358.setTop (mkF m 175 #[.val (.int i0), .val (.int i1), .val (.int i2), .val (.int i3), .val (.int (4 : Int32)), .val (.ref b288), .val (.ref b338)] [(.int (1 : Int32))])) _
    refine own_ifNo (pc' := 178) B X358 at_175 ((if0 _ _).trans (feq (by decide : ¬ ((1 : Int32) = (0 : Int32)))).1) rfl ?_
    refine own_iconst (pc' := 179) B X358 (z := (1 : Int32)) at_178 rfl rfl ?_
    refine own_goto (pc' := 183) B X358 at_179 (by decide) rfl ?_
    exact own_retN B X358 (t := .boolean) (z' := (1 : Int32)) (by simp) (by decide) at_183 (by decide) (by decide) rfl
set_option maxRecDepth 65536 in
set_option maxHeartbeats 40000000 in
theorem comes_1 {Post : Tables → Env → Array Value → State → Outcome → State → Prop} (hpost : ∀ tb e args s v u, (limb_1_1.after args s (.returned v) u = true ∧ limb_1_2.after args s (.returned v) u = true ∧ True) → FrameEnd s (.returned v) u (Jvm.fieldLocs frame_1_writes args s ++ Jvm.arrayLocs frame_1_arrays args s ++ Jvm.staticLocs frame_1_statics s) 16 256 → Post tb e args s (.returned v) u) :
    ArmFor flags0 classFile x code maxLocals ret World_1 tables_1 room_1 Calls_1 rest_1 Pre_1 Post := by
  intro l hfl _ _ p e ha hc hk s m args below hf hA hF happ hP
  obtain ⟨hcalls, hrest, hpre⟩ := hP
  obtain ⟨-, -, -, hnamed, -, -, -, hat⟩ := (Spec.applies_iff hf).mp happ
  obtain ⟨hg, hn⟩ := and_e (Cond.before_iff.mp (show (Jvm.Cond.and given_1 narrow_1).before args s = true from hpre))
  obtain ⟨g1, g2⟩ := and_e hg
  obtain ⟨g3, g4⟩ := and_e g2
  obtain ⟨g5, g6⟩ := and_e g4
  obtain ⟨g7, g8⟩ := and_e g6
  obtain ⟨w0, w1, w2, w3, rfl⟩ : ∃ w0 w1 w2 w3 : Value, args = #[w0, w1, w2, w3] := by
    have hs : args.size = 4 := by simpa [Cond.value, given_1] using g1
    obtain ⟨L⟩ := args
    match L, hs with
    | [w0, w1, w2, w3], _ => exact ⟨w0, w1, w2, w3, rfl⟩
  have hw := fun d (hd : d ∈ tables_1) => atoms_spec (ws := Jvm.Cond.code x code maxLocals ret :: tables_1) hat d (List.mem_cons_of_mem _ hd)
  obtain ⟨i0, ei0⟩ := is_v g3
  obtain rfl : w0 = (.int i0) := Option.some.inj ei0
  obtain ⟨i1, ei1⟩ := is_v g5
  obtain rfl : w1 = (.int i1) := Option.some.inj ei1
  obtain ⟨i2, ei2⟩ := is_v g7
  obtain rfl : w2 = (.int i2) := Option.some.inj ei2
  obtain ⟨i3, ei3⟩ := is_v g8
  obtain rfl : w3 = (.int i3) := Option.some.inj ei3
  obtain ⟨n, o, h1, h2, h3, _, L, rfl, ⟨N, rfl⟩, hq⟩ := rm_0 l s _ hw tables_1 i0 i1 i2 i3 s.heap s.heap.size (Nat.le_refl _)  p e ha hc hk s m _ below hf ((Spec.applies_iff_loose hf).mp happ).1 ⟨rfl, State.Warmed39.refl s, rfl⟩ trivial
  refine ⟨n, _, h1, h2, h3, hpost _ _ _ _ _ _ ⟨Cond.after_iff.mpr rfl, Cond.after_iff.mpr (eq_i res_at (Term.int_eval (1)) rfl), trivial⟩ ⟨hq.1, hq.2.1, (hq.2.2.sift fun y hy => Or.inr (N y hy)).mono (by decide) (by decide)⟩⟩
theorem main_1_1 : Claimed_1_1 := comes_1 fun _ _ _ _ _ _ h hF => ⟨h.1, hF⟩
theorem main_1_2 : Claimed_1_2 := comes_1 fun _ _ _ _ _ _ h hF => ⟨h.2.1, hF⟩
end Jvm.Pilot.@@N@@
namespace Jvm.Pilot.@@N@@
open Jvm Jvm.ClassFile Sem Op Lib Jvm.Free Jvm.Stand Jvm.Pilot.@@N@@.Jvm.D
/-! MADE BY PROGRAM (witnessworld.py) out of the Statement's table words and the real class files: 12 classes; the members and pool entries that the words name. The judged class is class 1, her method 1. -/
namespace start1
open Jvm.ClassFile
def u (s : String) : CpInfo := .utf8 (stringToUtf16 s)
/-- a pool by its gaps: so many unusable entries, then the entry; so many at the end -/
def gap : Nat → List CpInfo → List CpInfo
  | 0, r => r
  | n + 1, r => .unusable :: gap n r
def poolList (es : List (Nat × CpInfo)) (last : Nat) : List CpInfo := es.foldr (fun e r => gap e.1 (e.2 :: r)) (gap last [])
def pool (es : List (Nat × CpInfo)) (last : Nat) : Array CpInfo := ⟨poolList es last⟩
def fileOf (pool : Array CpInfo) (this : Nat) (attrs : Array Attribute := #[]) (ms : Array MethodInfo := #[]) (fl : Nat := 33) (sup : Nat := 0) (ifs : Array Nat := #[]) (fds : Array FieldInfo := #[]) : ClassFile where
  minorVersion := 0
  majorVersion := 65
  constantPool := pool
  accessFlags := fl
  thisClass := this
  superClass := sup
  interfaces := ifs
  fields := fds
  methods := ms
  attributes := attrs
def plain (name : String) (sup : Option ClassId) : Class where
  name := name
  kind := .ordinary
  loader := none
  accessFlags := 33
  super := sup
  interfaces := #[]
  cf := none
  fields := #[]
  methods := #[]
  instanceTypes := #[]
  staticTypes := #[]
  resolved := #[]
  callSites := []
  init := .initialized
  statics := none
  mirror := none

def pool0 : Array CpInfo := pool [(5, u "<init>"), (0, u "()V"), (1, .class_ 10), (1, u "java/lang/Object")] 113

def k0c0 : Code := { maxStack := 0, maxLocals := 1, code := object_method_1_code, exceptionTable := #[], attributes := #[] }
def k0m0 : Method := { name := "<init>", desc := "()V", sig := { parameters := [], returnType := none }, accessFlags := 1, code := some k0c0 }
/-- java/lang/Object -/
def k0 : Class := { plain "java/lang/Object" none with
  accessFlags := 33
  interfaces := #[]
  cf := some (fileOf pool0 8 #[] #[{ accessFlags := 1, nameIndex := 5, descriptorIndex := 6, attributes := #[] }] 33 0 #[] #[])
  fields := #[]
  methods := #[k0m0]
  instanceTypes := #[]
  staticTypes := #[]
  resolved := Array.replicate 124 none
  statics := none }

def pool1 : Array CpInfo := pool [(2, .class_ 4), (0, .nameAndType 5 6), (0, u "java/lang/Object"), (0, u "<init>"), (0, u "()V"), (0, .integer 2147483647), (0, .class_ 9), (0, u "demitasse/interp/Bytes"), (0, .methodref 8 3), (0, .methodref 8 12), (0, .nameAndType 13 14), (0, u "u4"), (0, u "(I)V"), (0, .methodref 8 16), (0, .nameAndType 17 18), (0, u "u4At"), (0, u "(II)V"), (0, .methodref 8 20), (0, .nameAndType 21 22), (0, u "toArray"), (0, u "()[B"), (0, .methodref 8 24), (0, .nameAndType 25 26), (0, u "length"), (0, u "()I"), (0, .methodref 28 29), (0, .class_ 30), (0, .nameAndType 31 32), (0, u "demitasse/interp/BytesU4AtPinLaw"), (0, u "ok"), (0, u "([BIIIII)Z"), (2, u "law"), (0, u "(IIII)Z")] 5

def k1m0 : Method := { name := "<init>", desc := "()V", sig := { parameters := [], returnType := none }, accessFlags := 1, code := none }
def k1c1 : Code := { maxStack := 6, maxLocals := 7, code := code, exceptionTable := #[], attributes := #[] }
def k1m1 : Method := { name := "law", desc := "(IIII)Z", sig := { parameters := [.int, .int, .int, .int], returnType := some .boolean }, accessFlags := 9, code := some k1c1 }
def k1c2 : Code := { maxStack := 5, maxLocals := 7, code := method_3_code, exceptionTable := #[], attributes := #[] }
def k1m2 : Method := { name := "ok", desc := "([BIIIII)Z", sig := { parameters := [(.array .byte), .int, .int, .int, .int, .int], returnType := some .boolean }, accessFlags := 10, code := some k1c2 }
/-- demitasse/interp/BytesU4AtPinLaw -/
def k1 : Class := { plain "demitasse/interp/BytesU4AtPinLaw" (some 0) with
  accessFlags := 49
  interfaces := #[]
  cf := some (fileOf pool1 28 #[] #[{ accessFlags := 1, nameIndex := 5, descriptorIndex := 6, attributes := #[] }, { accessFlags := 9, nameIndex := 35, descriptorIndex := 36, attributes := #[] }, { accessFlags := 10, nameIndex := 31, descriptorIndex := 32, attributes := #[] }] 49 2 #[] #[])
  fields := #[]
  methods := #[k1m0, k1m1, k1m2]
  instanceTypes := #[]
  staticTypes := #[]
  resolved := Array.replicate 42 none
  statics := none }

def pool2 : Array CpInfo := pool [(1, .methodref 2 3), (0, .class_ 4), (0, .nameAndType 5 6), (0, u "java/lang/Object"), (0, u "<init>"), (0, u "()V"), (0, .fieldref 8 9), (0, .class_ 10), (0, .nameAndType 11 12), (0, u "demitasse/interp/Bytes"), (0, u "bytes"), (0, u "[B"), (0, .fieldref 8 14), (0, .nameAndType 15 16), (0, u "length"), (0, u "I"), (0, .methodref 8 18), (0, .nameAndType 19 20), (0, u "makeRoom"), (0, u "(I)V"), (0, .methodref 8 22), (0, .nameAndType 23 20), (0, u "u1"), (0, .methodref 8 25), (0, .nameAndType 26 20), (0, u "u2"), (0, .methodref 8 28), (0, .nameAndType 29 30), (0, u "u2At"), (0, u "(II)V"), (12, .methodref 44 45), (0, .class_ 46), (0, .nameAndType 47 48), (0, u "java/util/Arrays"), (0, u "copyOf"), (0, u "([BI)[B"), (2, u "()I"), (0, u "u4"), (0, u "u4At"), (4, u "toArray"), (0, u "()[B")] 2

def k2c0 : Code := { maxStack := 2, maxLocals := 1, code := prog_64_method_1_code, exceptionTable := #[], attributes := #[] }
def k2m0 : Method := { name := "<init>", desc := "()V", sig := { parameters := [], returnType := none }, accessFlags := 0, code := some k2c0 }
def k2c1 : Code := { maxStack := 1, maxLocals := 1, code := prog_64_method_2_code, exceptionTable := #[], attributes := #[] }
def k2m1 : Method := { name := "length", desc := "()I", sig := { parameters := [], returnType := some .int }, accessFlags := 0, code := some k2c1 }
def k2c2 : Code := { maxStack := 5, maxLocals := 2, code := prog_64_method_3_code, exceptionTable := #[], attributes := #[] }
def k2m2 : Method := { name := "u1", desc := "(I)V", sig := { parameters := [.int], returnType := none }, accessFlags := 0, code := some k2c2 }
def k2c3 : Code := { maxStack := 3, maxLocals := 2, code := prog_64_method_4_code, exceptionTable := #[], attributes := #[] }
def k2m3 : Method := { name := "u2", desc := "(I)V", sig := { parameters := [.int], returnType := none }, accessFlags := 0, code := some k2c3 }
def k2c4 : Code := { maxStack := 3, maxLocals := 2, code := prog_64_method_5_code, exceptionTable := #[], attributes := #[] }
def k2m4 : Method := { name := "u4", desc := "(I)V", sig := { parameters := [.int], returnType := none }, accessFlags := 0, code := some k2c4 }
def k2c5 : Code := { maxStack := 4, maxLocals := 3, code := prog_64_method_6_code, exceptionTable := #[], attributes := #[] }
def k2m5 : Method := { name := "u2At", desc := "(II)V", sig := { parameters := [.int, .int], returnType := none }, accessFlags := 0, code := some k2c5 }
def k2c6 : Code := { maxStack := 4, maxLocals := 3, code := prog_64_method_7_code, exceptionTable := #[], attributes := #[] }
def k2m6 : Method := { name := "u4At", desc := "(II)V", sig := { parameters := [.int, .int], returnType := none }, accessFlags := 0, code := some k2c6 }
def k2c7 : Code := { maxStack := 5, maxLocals := 2, code := prog_64_method_10_code, exceptionTable := #[], attributes := #[] }
def k2m7 : Method := { name := "makeRoom", desc := "(I)V", sig := { parameters := [.int], returnType := none }, accessFlags := 2, code := some k2c7 }
def k2c8 : Code := { maxStack := 2, maxLocals := 1, code := prog_64_method_11_code, exceptionTable := #[], attributes := #[] }
def k2m8 : Method := { name := "toArray", desc := "()[B", sig := { parameters := [], returnType := some (.array .byte) }, accessFlags := 0, code := some k2c8 }
/-- demitasse/interp/Bytes -/
def k2 : Class := { plain "demitasse/interp/Bytes" (some 0) with
  accessFlags := 48
  interfaces := #[]
  cf := some (fileOf pool2 8 #[] #[{ accessFlags := 0, nameIndex := 5, descriptorIndex := 6, attributes := #[] }, { accessFlags := 0, nameIndex := 15, descriptorIndex := 51, attributes := #[] }, { accessFlags := 0, nameIndex := 23, descriptorIndex := 20, attributes := #[] }, { accessFlags := 0, nameIndex := 26, descriptorIndex := 20, attributes := #[] }, { accessFlags := 0, nameIndex := 52, descriptorIndex := 20, attributes := #[] }, { accessFlags := 0, nameIndex := 29, descriptorIndex := 30, attributes := #[] }, { accessFlags := 0, nameIndex := 53, descriptorIndex := 30, attributes := #[] }, { accessFlags := 2, nameIndex := 19, descriptorIndex := 20, attributes := #[] }, { accessFlags := 0, nameIndex := 58, descriptorIndex := 59, attributes := #[] }] 48 2 #[] #[{ accessFlags := 2, nameIndex := 11, descriptorIndex := 12, attributes := #[] }, { accessFlags := 2, nameIndex := 15, descriptorIndex := 16, attributes := #[] }])
  fields := #[{ name := "bytes", type := (.array .byte), accessFlags := 2, slot := 0, constantValue := 0 }, { name := "length", type := .int, accessFlags := 2, slot := 1, constantValue := 0 }]
  methods := #[k2m0, k2m1, k2m2, k2m3, k2m4, k2m5, k2m6, k2m7, k2m8]
  instanceTypes := #[(.array .byte), .int]
  staticTypes := #[]
  resolved := Array.replicate 62 none
  statics := none }

def pool3 : Array CpInfo := pool [(2, .class_ 4), (1, u "java/lang/Object"), (0, u "<init>"), (0, u "()V"), (7, .class_ 16), (1, u "java/util/Arrays"), (57, .class_ 76), (1, u "java/util/Arrays$NaturalOrder"), (36, .class_ 115), (1, u "java/util/Arrays$LegacyMergeSort"), (1, u "Z"), (32, .methodref 151 152), (0, .class_ 153), (0, .nameAndType 154 155), (0, u "java/lang/System"), (0, u "arraycopy"), (0, u "(Ljava/lang/Object;ILjava/lang/Object;II)V"), (146, u "copyOf"), (1, .methodref 305 306), (0, .class_ 307), (0, .nameAndType 308 309), (0, u "java/lang/Math"), (0, u "min"), (0, u "(II)I"), (65, .class_ 376), (0, u "java/util/Arrays$ArrayList"), (68, u "$assertionsDisabled"), (269, u "MIN_ARRAY_SORT_GRAN"), (0, u "I"), (2, u "INSERTIONSORT_THRESHOLD"), (149, u "([BI)[B"), (105, .class_ 976), (0, u "java/util/Arrays$ArrayItr")] 52

def k3m0 : Method := { name := "<init>", desc := "()V", sig := { parameters := [], returnType := none }, accessFlags := 2, code := none }
def k3c1 : Code := { maxStack := 6, maxLocals := 3, code := jdk_65_method_121_code, exceptionTable := #[], attributes := #[] }
def k3m1 : Method := { name := "copyOf", desc := "([BI)[B", sig := { parameters := [(.array .byte), .int], returnType := some (.array .byte) }, accessFlags := 9, code := some k3c1 }
/-- java/util/Arrays -/
def k3 : Class := { plain "java/util/Arrays" (some 0) with
  accessFlags := 49
  interfaces := #[]
  cf := some (fileOf pool3 14 #[.nestMembers #[975, 375, 113, 74]] #[{ accessFlags := 2, nameIndex := 5, descriptorIndex := 6, attributes := #[] }, { accessFlags := 9, nameIndex := 302, descriptorIndex := 869, attributes := #[] }] 49 2 #[] #[{ accessFlags := 26, nameIndex := 715, descriptorIndex := 716, attributes := #[] }, { accessFlags := 26, nameIndex := 719, descriptorIndex := 716, attributes := #[] }, { accessFlags := 4120, nameIndex := 445, descriptorIndex := 117, attributes := #[] }])
  fields := #[{ name := "MIN_ARRAY_SORT_GRAN", type := .int, accessFlags := 26, slot := 0, constantValue := 0 }, { name := "INSERTIONSORT_THRESHOLD", type := .int, accessFlags := 26, slot := 1, constantValue := 0 }, { name := "$assertionsDisabled", type := .boolean, accessFlags := 4120, slot := 2, constantValue := 0 }]
  methods := #[k3m0, k3m1]
  instanceTypes := #[]
  staticTypes := #[.int, .int, .boolean]
  resolved := Array.replicate 1029 none
  statics := none }

def pool4 : Array CpInfo := pool [(1, .class_ 2), (0, u "java/lang/Math"), (1, .class_ 6), (1, u "java/lang/Object"), (0, u "<init>"), (0, u "()V"), (89, .class_ 100), (1, u "java/lang/Math$RandomNumberGeneratorHolder"), (71, u "negativeZeroFloatBits"), (0, u "J"), (2, u "negativeZeroDoubleBits"), (24, u "min"), (43, u "$assertionsDisabled"), (0, u "Z"), (88, u "(II)I"), (2, u "twoToTheDoubleScaleDown"), (0, u "D"), (4, u "twoToTheDoubleScaleUp"), (9, u "E"), (3, u "PI"), (2, u "TAU"), (2, u "DEGREES_TO_RADIANS"), (0, u "RADIANS_TO_DEGREES")] 94

def k4m0 : Method := { name := "<init>", desc := "()V", sig := { parameters := [], returnType := none }, accessFlags := 2, code := none }
def k4c1 : Code := { maxStack := 2, maxLocals := 2, code := jdk_29_method_69_code, exceptionTable := #[], attributes := #[] }
def k4m1 : Method := { name := "min", desc := "(II)I", sig := { parameters := [.int, .int], returnType := some .int }, accessFlags := 9, code := some k4c1 }
/-- java/lang/Math -/
def k4 : Class := { plain "java/lang/Math" (some 0) with
  accessFlags := 49
  interfaces := #[]
  cf := some (fileOf pool4 1 #[.nestMembers #[98]] #[{ accessFlags := 2, nameIndex := 7, descriptorIndex := 8, attributes := #[] }, { accessFlags := 9, nameIndex := 201, descriptorIndex := 335, attributes := #[] }] 49 4 #[] #[{ accessFlags := 25, nameIndex := 354, descriptorIndex := 339, attributes := #[] }, { accessFlags := 25, nameIndex := 358, descriptorIndex := 339, attributes := #[] }, { accessFlags := 25, nameIndex := 361, descriptorIndex := 339, attributes := #[] }, { accessFlags := 26, nameIndex := 364, descriptorIndex := 339, attributes := #[] }, { accessFlags := 26, nameIndex := 365, descriptorIndex := 339, attributes := #[] }, { accessFlags := 26, nameIndex := 172, descriptorIndex := 173, attributes := #[] }, { accessFlags := 26, nameIndex := 176, descriptorIndex := 173, attributes := #[] }, { accessFlags := 8, nameIndex := 344, descriptorIndex := 339, attributes := #[] }, { accessFlags := 8, nameIndex := 338, descriptorIndex := 339, attributes := #[] }, { accessFlags := 4120, nameIndex := 245, descriptorIndex := 246, attributes := #[] }])
  fields := #[{ name := "E", type := .double, accessFlags := 25, slot := 0, constantValue := 0 }, { name := "PI", type := .double, accessFlags := 25, slot := 1, constantValue := 0 }, { name := "TAU", type := .double, accessFlags := 25, slot := 2, constantValue := 0 }, { name := "DEGREES_TO_RADIANS", type := .double, accessFlags := 26, slot := 3, constantValue := 0 }, { name := "RADIANS_TO_DEGREES", type := .double, accessFlags := 26, slot := 4, constantValue := 0 }, { name := "negativeZeroFloatBits", type := .long, accessFlags := 26, slot := 5, constantValue := 0 }, { name := "negativeZeroDoubleBits", type := .long, accessFlags := 26, slot := 6, constantValue := 0 }, { name := "twoToTheDoubleScaleUp", type := .double, accessFlags := 8, slot := 7, constantValue := 0 }, { name := "twoToTheDoubleScaleDown", type := .double, accessFlags := 8, slot := 8, constantValue := 0 }, { name := "$assertionsDisabled", type := .boolean, accessFlags := 4120, slot := 9, constantValue := 0 }]
  methods := #[k4m0, k4m1]
  instanceTypes := #[]
  staticTypes := #[.double, .double, .double, .double, .double, .long, .long, .double, .double, .boolean]
  resolved := Array.replicate 460 none
  statics := none }

def pool5 : Array CpInfo := pool [(2, .class_ 4), (1, u "java/lang/Object"), (0, u "<init>"), (0, u "()V"), (1, .class_ 10), (1, u "java/lang/System"), (0, u "allowSecurityManager"), (0, u "I"), (16, u "cons"), (0, u "Ljava/io/Console;"), (77, .class_ 110), (1, u "java/lang/System$CallersHolder"), (43, u "initialErrStream"), (0, u "Ljava/io/PrintStream;"), (19, u "security"), (0, u "Ljava/lang/SecurityManager;"), (31, .class_ 209), (0, u "java/lang/System$1"), (7, u "props"), (0, u "Ljava/util/Properties;"), (2, u "lineSeparator"), (0, u "Ljava/lang/String;"), (96, .class_ 321), (1, u "java/lang/System$LoggerFinder"), (5, .class_ 328), (0, u "java/lang/System$Logger"), (67, u "err"), (2, u "out"), (91, u "notSupportedJnuEncoding"), (15, u "in"), (17, u "initialIn"), (0, u "Ljava/io/InputStream;"), (35, u "bootLayer"), (0, u "Ljava/lang/ModuleLayer;"), (99, .class_ 664), (0, u "java/lang/System$2"), (9, u "NEVER"), (2, u "MAYBE"), (49, u "arraycopy"), (0, u "(Ljava/lang/Object;ILjava/lang/Object;II)V"), (72, .class_ 802), (0, u "java/lang/System$Logger$Level")] 31

def k5m0 : Method := { name := "<init>", desc := "()V", sig := { parameters := [], returnType := none }, accessFlags := 2, code := none }
def k5m1 : Method := { name := "arraycopy", desc := "(Ljava/lang/Object;ILjava/lang/Object;II)V", sig := { parameters := [(.object "java/lang/Object"), .int, (.object "java/lang/Object"), .int, .int], returnType := none }, accessFlags := 265, code := none }
/-- java/lang/System -/
def k5 : Class := { plain "java/lang/System" (some 0) with
  accessFlags := 49
  interfaces := #[]
  cf := some (fileOf pool5 8 #[.nestMembers #[319, 327, 801, 108, 663, 208]] #[{ accessFlags := 2, nameIndex := 5, descriptorIndex := 6, attributes := #[] }, { accessFlags := 265, nameIndex := 727, descriptorIndex := 728, attributes := #[] }] 49 2 #[] #[{ accessFlags := 25, nameIndex := 507, descriptorIndex := 526, attributes := #[] }, { accessFlags := 25, nameIndex := 399, descriptorIndex := 155, attributes := #[] }, { accessFlags := 25, nameIndex := 396, descriptorIndex := 155, attributes := #[] }, { accessFlags := 10, nameIndex := 525, descriptorIndex := 526, attributes := #[] }, { accessFlags := 26, nameIndex := 674, descriptorIndex := 12, attributes := #[] }, { accessFlags := 26, nameIndex := 677, descriptorIndex := 12, attributes := #[] }, { accessFlags := 10, nameIndex := 11, descriptorIndex := 12, attributes := #[] }, { accessFlags := 74, nameIndex := 175, descriptorIndex := 176, attributes := #[] }, { accessFlags := 10, nameIndex := 491, descriptorIndex := 222, attributes := #[] }, { accessFlags := 74, nameIndex := 29, descriptorIndex := 30, attributes := #[] }, { accessFlags := 74, nameIndex := 154, descriptorIndex := 155, attributes := #[] }, { accessFlags := 10, nameIndex := 217, descriptorIndex := 218, attributes := #[] }, { accessFlags := 10, nameIndex := 221, descriptorIndex := 222, attributes := #[] }, { accessFlags := 8, nameIndex := 562, descriptorIndex := 563, attributes := #[] }])
  fields := #[{ name := "in", type := (.object "java/io/InputStream"), accessFlags := 25, slot := 0, constantValue := 0 }, { name := "out", type := (.object "java/io/PrintStream"), accessFlags := 25, slot := 1, constantValue := 0 }, { name := "err", type := (.object "java/io/PrintStream"), accessFlags := 25, slot := 2, constantValue := 0 }, { name := "initialIn", type := (.object "java/io/InputStream"), accessFlags := 10, slot := 3, constantValue := 0 }, { name := "NEVER", type := .int, accessFlags := 26, slot := 4, constantValue := 0 }, { name := "MAYBE", type := .int, accessFlags := 26, slot := 5, constantValue := 0 }, { name := "allowSecurityManager", type := .int, accessFlags := 10, slot := 6, constantValue := 0 }, { name := "security", type := (.object "java/lang/SecurityManager"), accessFlags := 74, slot := 7, constantValue := 0 }, { name := "notSupportedJnuEncoding", type := (.object "java/lang/String"), accessFlags := 10, slot := 8, constantValue := 0 }, { name := "cons", type := (.object "java/io/Console"), accessFlags := 74, slot := 9, constantValue := 0 }, { name := "initialErrStream", type := (.object "java/io/PrintStream"), accessFlags := 74, slot := 10, constantValue := 0 }, { name := "props", type := (.object "java/util/Properties"), accessFlags := 10, slot := 11, constantValue := 0 }, { name := "lineSeparator", type := (.object "java/lang/String"), accessFlags := 10, slot := 12, constantValue := 0 }, { name := "bootLayer", type := (.object "java/lang/ModuleLayer"), accessFlags := 8, slot := 13, constantValue := 0 }]
  methods := #[k5m0, k5m1]
  instanceTypes := #[]
  staticTypes := #[(.object "java/io/InputStream"), (.object "java/io/PrintStream"), (.object "java/io/PrintStream"), (.object "java/io/InputStream"), .int, .int, .int, (.object "java/lang/SecurityManager"), (.object "java/lang/String"), (.object "java/io/Console"), (.object "java/io/PrintStream"), (.object "java/util/Properties"), (.object "java/lang/String"), (.object "java/lang/ModuleLayer")]
  resolved := Array.replicate 834 none
  statics := none }

def pool6 : Array CpInfo := pool [(1, u "java/lang/Cloneable"), (0, .class_ 1), (0, u "java/lang/Object"), (0, .class_ 3)] 3

/-- java/lang/Cloneable -/
def k6 : Class := { plain "java/lang/Cloneable" (some 0) with
  accessFlags := 1537
  interfaces := #[]
  cf := some (fileOf pool6 2 #[] #[] 1537 4 #[] #[])
  fields := #[]
  methods := #[]
  instanceTypes := #[]
  staticTypes := #[]
  resolved := Array.replicate 8 none
  statics := none }

def pool7 : Array CpInfo := pool [(1, u "java/io/Serializable"), (0, .class_ 1), (0, u "java/lang/Object"), (0, .class_ 3)] 3

/-- java/io/Serializable -/
def k7 : Class := { plain "java/io/Serializable" (some 0) with
  accessFlags := 1537
  interfaces := #[]
  cf := some (fileOf pool7 2 #[] #[] 1537 4 #[] #[])
  fields := #[]
  methods := #[]
  instanceTypes := #[]
  staticTypes := #[]
  resolved := Array.replicate 8 none
  statics := none }

/-- the primitive byte -/
def k8 : Class := { plain "byte" none with kind := .primitive 'B', accessFlags := 0x411 }
/-- [B -/
def k9 : Class := { plain "[B" (some 0) with kind := .array 8 .byte, interfaces := #[6, 7], accessFlags := 1041 }

/-- the primitive int -/
def k10 : Class := { plain "int" none with kind := .primitive 'I', accessFlags := 0x411 }
/-- [I -/
def k11 : Class := { plain "[I" (some 0) with kind := .array 10 .int, interfaces := #[6, 7], accessFlags := 1041 }

def heap : Heap := #[]
def classes : Array Class := #[k0, k1, k2, k3, k4, k5, k6, k7, k8, k9, k10, k11]
def interned : List (Array UInt16 × Addr) := []
def slotsUsed : Nat := 0
def theMethod : MethodId := ⟨1, 1⟩
def args0 : Array Value := #[.int 1, .int 2, .int 3, .int 4]
def aboutOver (below : List Frame) : State where
  vm := { classes := classes, interned := interned.toArray }
  heap := heap
  slotsUsed := slotsUsed
  threads := #[{ frames := .invoking theMethod args0 :: below }]
def below0 : List Frame := [.native { method := ⟨0, 0⟩, args := #[] }]
def about1 : State := aboutOver below0
def p0 : Program := .bare "" "" ""
def e0 : Env := launch0.env 0 0 0
theorem w_frames : about1.frames = Frame.invoking theMethod args0 :: below0 := rfl
set_option maxRecDepth 65536 in
theorem w_args : argsFit about1.vm theMethod args0 = true := by decide +kernel
set_option maxRecDepth 65536 in
theorem w_heap : heapFits about1 = true := by decide +kernel
set_option maxRecDepth 65536 in
theorem w_runnable : about1.curStatus? = some .runnable := by decide +kernel
set_option maxRecDepth 65536 in
theorem w_alone : about1.alone = true := by decide +kernel
set_option maxRecDepth 65536 in
theorem w_named : about1.methodNamed? x = some theMethod := by decide +kernel
set_option maxRecDepth 65536 in
theorem w_hears : about1.hears theMethod below0 = true := by decide +kernel
set_option maxRecDepth 65536 in
theorem w_ripe : about1.ripe theMethod args0 below0 = true := by decide +kernel
theorem w_running : about1.status = .running := rfl
set_option maxRecDepth 65536 in
theorem w_room : about1.hasRoom e0.platform room_1 = true :=
  launch0.hasRoom_least _ room_1 (by decide +kernel) (by decide +kernel) (by decide +kernel) (by decide +kernel) (by decide +kernel) (by decide +kernel)
theorem allAtoms_all (ts : List Jvm.Cond) (a : Array Jvm.Value) (st : Jvm.State) : (allAtoms ts).before a st = ts.all (fun c => c.before a st) := by
  induction ts with
  | nil => rfl
  | cons c t ih =>
    show (Jvm.Cond.and c (allAtoms t)).before a st = _
    rw [Jvm.Cond.before_and, ih, List.all_cons]
def words1 : List Jvm.Cond := Jvm.Cond.code x code maxLocals ret :: tables_1
/-- a 'code' word, met by the world's own term for the bytes: nothing is compared byte by byte -/
theorem code_word {y : MethodName} {bytes : ByteArray} {mx : Nat} {rt : Option FieldType} {a : Array Value} {s : State} {m : MethodId} {meth : Method} {c : Code} (h1 : s.methodNamed? y = some m) (h2 : s.vm.method? m = some meth) (h3 : meth.code = some c) (h4 : c.code = bytes)
    (h5 : (c.maxLocals == mx && c.exceptionTable.isEmpty && decide (c.maxStack ≤ mostOperands) && decide (meth.sig.returnType = rt) && !meth.locks && decide (parseMethodDescriptor y.desc = some meth.sig)) = true) : (Jvm.Cond.code y bytes mx rt).before a s = true := by
  simp only [Bool.and_eq_true, beq_iff_eq, Bool.not_eq_true', decide_eq_true_eq] at h5
  obtain ⟨⟨⟨⟨⟨g1, g2⟩, g3⟩, g4⟩, g5⟩, g6⟩ := h5
  simp [Cond.before, Cond.holds, Cond.value, h1, h2, h3, h4, g1, g2, g3, g4, g5, g6]
def isCode : Jvm.Cond → Bool
  | .code _ _ _ _ => true
  | _ => false
theorem all_split {L : List Jvm.Cond} {P : Jvm.Cond → Bool} (h1 : L.all (fun c => isCode c || P c) = true) (h2 : ∀ c ∈ L.filter isCode, P c = true) : L.all P = true := by
  refine List.all_eq_true.mpr fun c hc => ?_
  have h := List.all_eq_true.mp h1 c hc
  rcases Bool.eq_false_or_eq_true (isCode c) with hi | hi
  · exact h2 c (List.mem_filter.mpr ⟨hc, hi⟩)
  · simpa [hi] using h
set_option maxRecDepth 65536 in
theorem w_c0 : (Jvm.Cond.code x code maxLocals ret).before args0 about1 = true := code_word (m := ⟨1, 1⟩) (meth := k1m1) (c := k1c1) (by decide +kernel) rfl rfl rfl (by decide +kernel)
set_option maxRecDepth 65536 in
theorem w_c1 : (Jvm.Cond.code ({ cls := "demitasse/interp/Bytes", name := "<init>", desc := "()V" } : Jvm.MethodName) prog_64_method_1_code (1 : Nat) (Option.none : Option Jvm.ClassFile.FieldType)).before args0 about1 = true := code_word (m := ⟨2, 0⟩) (meth := k2m0) (c := k2c0) (by decide +kernel) rfl rfl rfl (by decide +kernel)
set_option maxRecDepth 65536 in
theorem w_c2 : (Jvm.Cond.code ({ cls := "java/lang/Object", name := "<init>", desc := "()V" } : Jvm.MethodName) object_method_1_code (1 : Nat) (Option.none : Option Jvm.ClassFile.FieldType)).before args0 about1 = true := code_word (m := ⟨0, 0⟩) (meth := k0m0) (c := k0c0) (by decide +kernel) rfl rfl rfl (by decide +kernel)
set_option maxRecDepth 65536 in
theorem w_c3 : (Jvm.Cond.code ({ cls := "demitasse/interp/Bytes", name := "u4", desc := "(I)V" } : Jvm.MethodName) prog_64_method_5_code (2 : Nat) (Option.none : Option Jvm.ClassFile.FieldType)).before args0 about1 = true := code_word (m := ⟨2, 4⟩) (meth := k2m4) (c := k2c4) (by decide +kernel) rfl rfl rfl (by decide +kernel)
set_option maxRecDepth 65536 in
theorem w_c4 : (Jvm.Cond.code ({ cls := "demitasse/interp/Bytes", name := "u2", desc := "(I)V" } : Jvm.MethodName) prog_64_method_4_code (2 : Nat) (Option.none : Option Jvm.ClassFile.FieldType)).before args0 about1 = true := code_word (m := ⟨2, 3⟩) (meth := k2m3) (c := k2c3) (by decide +kernel) rfl rfl rfl (by decide +kernel)
set_option maxRecDepth 65536 in
theorem w_c5 : (Jvm.Cond.code ({ cls := "demitasse/interp/Bytes", name := "u1", desc := "(I)V" } : Jvm.MethodName) prog_64_method_3_code (2 : Nat) (Option.none : Option Jvm.ClassFile.FieldType)).before args0 about1 = true := code_word (m := ⟨2, 2⟩) (meth := k2m2) (c := k2c2) (by decide +kernel) rfl rfl rfl (by decide +kernel)
set_option maxRecDepth 65536 in
theorem w_c6 : (Jvm.Cond.code ({ cls := "demitasse/interp/Bytes", name := "makeRoom", desc := "(I)V" } : Jvm.MethodName) prog_64_method_10_code (2 : Nat) (Option.none : Option Jvm.ClassFile.FieldType)).before args0 about1 = true := code_word (m := ⟨2, 7⟩) (meth := k2m7) (c := k2c7) (by decide +kernel) rfl rfl rfl (by decide +kernel)
set_option maxRecDepth 65536 in
theorem w_c7 : (Jvm.Cond.code ({ cls := "demitasse/interp/Bytes", name := "u4At", desc := "(II)V" } : Jvm.MethodName) prog_64_method_7_code (3 : Nat) (Option.none : Option Jvm.ClassFile.FieldType)).before args0 about1 = true := code_word (m := ⟨2, 6⟩) (meth := k2m6) (c := k2c6) (by decide +kernel) rfl rfl rfl (by decide +kernel)
set_option maxRecDepth 65536 in
theorem w_c8 : (Jvm.Cond.code ({ cls := "demitasse/interp/Bytes", name := "u2At", desc := "(II)V" } : Jvm.MethodName) prog_64_method_6_code (3 : Nat) (Option.none : Option Jvm.ClassFile.FieldType)).before args0 about1 = true := code_word (m := ⟨2, 5⟩) (meth := k2m5) (c := k2c5) (by decide +kernel) rfl rfl rfl (by decide +kernel)
set_option maxRecDepth 65536 in
theorem w_c9 : (Jvm.Cond.code ({ cls := "demitasse/interp/Bytes", name := "toArray", desc := "()[B" } : Jvm.MethodName) prog_64_method_11_code (1 : Nat) (Option.some (Jvm.ClassFile.FieldType.array Jvm.ClassFile.FieldType.byte))).before args0 about1 = true := code_word (m := ⟨2, 8⟩) (meth := k2m8) (c := k2c8) (by decide +kernel) rfl rfl rfl (by decide +kernel)
set_option maxRecDepth 65536 in
theorem w_c10 : (Jvm.Cond.code ({ cls := "java/util/Arrays", name := "copyOf", desc := "([BI)[B" } : Jvm.MethodName) jdk_65_method_121_code (3 : Nat) (Option.some (Jvm.ClassFile.FieldType.array Jvm.ClassFile.FieldType.byte))).before args0 about1 = true := code_word (m := ⟨3, 1⟩) (meth := k3m1) (c := k3c1) (by decide +kernel) rfl rfl rfl (by decide +kernel)
set_option maxRecDepth 65536 in
theorem w_c11 : (Jvm.Cond.code ({ cls := "java/lang/Math", name := "min", desc := "(II)I" } : Jvm.MethodName) jdk_29_method_69_code (2 : Nat) (Option.some Jvm.ClassFile.FieldType.int)).before args0 about1 = true := code_word (m := ⟨4, 1⟩) (meth := k4m1) (c := k4c1) (by decide +kernel) rfl rfl rfl (by decide +kernel)
set_option maxRecDepth 65536 in
theorem w_c12 : (Jvm.Cond.code ({ cls := "demitasse/interp/Bytes", name := "length", desc := "()I" } : Jvm.MethodName) prog_64_method_2_code (1 : Nat) (Option.some Jvm.ClassFile.FieldType.int)).before args0 about1 = true := code_word (m := ⟨2, 1⟩) (meth := k2m1) (c := k2c1) (by decide +kernel) rfl rfl rfl (by decide +kernel)
set_option maxRecDepth 65536 in
theorem w_c13 : (Jvm.Cond.code ({ cls := "demitasse/interp/BytesU4AtPinLaw", name := "ok", desc := "([BIIIII)Z" } : Jvm.MethodName) method_3_code (7 : Nat) (Option.some Jvm.ClassFile.FieldType.boolean)).before args0 about1 = true := code_word (m := ⟨1, 2⟩) (meth := k1m2) (c := k1c2) (by decide +kernel) rfl rfl rfl (by decide +kernel)
def codes1 : List Jvm.Cond := [Jvm.Cond.code x code maxLocals ret, Jvm.Cond.code ({ cls := "demitasse/interp/Bytes", name := "<init>", desc := "()V" } : Jvm.MethodName) prog_64_method_1_code (1 : Nat) (Option.none : Option Jvm.ClassFile.FieldType), Jvm.Cond.code ({ cls := "java/lang/Object", name := "<init>", desc := "()V" } : Jvm.MethodName) object_method_1_code (1 : Nat) (Option.none : Option Jvm.ClassFile.FieldType), Jvm.Cond.code ({ cls := "demitasse/interp/Bytes", name := "u4", desc := "(I)V" } : Jvm.MethodName) prog_64_method_5_code (2 : Nat) (Option.none : Option Jvm.ClassFile.FieldType), Jvm.Cond.code ({ cls := "demitasse/interp/Bytes", name := "u2", desc := "(I)V" } : Jvm.MethodName) prog_64_method_4_code (2 : Nat) (Option.none : Option Jvm.ClassFile.FieldType), Jvm.Cond.code ({ cls := "demitasse/interp/Bytes", name := "u1", desc := "(I)V" } : Jvm.MethodName) prog_64_method_3_code (2 : Nat) (Option.none : Option Jvm.ClassFile.FieldType), Jvm.Cond.code ({ cls := "demitasse/interp/Bytes", name := "makeRoom", desc := "(I)V" } : Jvm.MethodName) prog_64_method_10_code (2 : Nat) (Option.none : Option Jvm.ClassFile.FieldType), Jvm.Cond.code ({ cls := "demitasse/interp/Bytes", name := "u4At", desc := "(II)V" } : Jvm.MethodName) prog_64_method_7_code (3 : Nat) (Option.none : Option Jvm.ClassFile.FieldType), Jvm.Cond.code ({ cls := "demitasse/interp/Bytes", name := "u2At", desc := "(II)V" } : Jvm.MethodName) prog_64_method_6_code (3 : Nat) (Option.none : Option Jvm.ClassFile.FieldType), Jvm.Cond.code ({ cls := "demitasse/interp/Bytes", name := "toArray", desc := "()[B" } : Jvm.MethodName) prog_64_method_11_code (1 : Nat) (Option.some (Jvm.ClassFile.FieldType.array Jvm.ClassFile.FieldType.byte)), Jvm.Cond.code ({ cls := "java/util/Arrays", name := "copyOf", desc := "([BI)[B" } : Jvm.MethodName) jdk_65_method_121_code (3 : Nat) (Option.some (Jvm.ClassFile.FieldType.array Jvm.ClassFile.FieldType.byte)), Jvm.Cond.code ({ cls := "java/lang/Math", name := "min", desc := "(II)I" } : Jvm.MethodName) jdk_29_method_69_code (2 : Nat) (Option.some Jvm.ClassFile.FieldType.int), Jvm.Cond.code ({ cls := "demitasse/interp/Bytes", name := "length", desc := "()I" } : Jvm.MethodName) prog_64_method_2_code (1 : Nat) (Option.some Jvm.ClassFile.FieldType.int), Jvm.Cond.code ({ cls := "demitasse/interp/BytesU4AtPinLaw", name := "ok", desc := "([BIIIII)Z" } : Jvm.MethodName) method_3_code (7 : Nat) (Option.some Jvm.ClassFile.FieldType.boolean)]
set_option maxRecDepth 65536 in
theorem codes_eq : words1.filter isCode = codes1 := rfl
theorem w_codes : ∀ c ∈ words1.filter isCode, c.before args0 about1 = true := by
  rw [codes_eq]
  intro c hc
  simp only [codes1, List.mem_cons, List.not_mem_nil, or_false] at hc
  rcases hc with rfl | rfl | rfl | rfl | rfl | rfl | rfl | rfl | rfl | rfl | rfl | rfl | rfl | rfl
  · exact w_c0
  · exact w_c1
  · exact w_c2
  · exact w_c3
  · exact w_c4
  · exact w_c5
  · exact w_c6
  · exact w_c7
  · exact w_c8
  · exact w_c9
  · exact w_c10
  · exact w_c11
  · exact w_c12
  · exact w_c13
set_option maxRecDepth 65536 in
theorem w_t1 : (words1.take 24).all (fun c => isCode c || c.before args0 about1) = true := by decide +kernel
set_option maxRecDepth 65536 in
theorem w_t2 : ((words1.drop 24).take 24).all (fun c => isCode c || c.before args0 about1) = true := by decide +kernel
set_option maxRecDepth 65536 in
theorem w_t3 : ((words1.drop 24).drop 24).all (fun c => isCode c || c.before args0 about1) = true := by decide +kernel
theorem w_tables : (allAtoms (Jvm.Cond.code x code maxLocals ret :: tables_1)).before args0 about1 = true := by
  rw [allAtoms_all]
  show words1.all (fun c => c.before args0 about1) = true
  refine all_split ?_ w_codes
  rw [← List.take_append_drop 24 words1, List.all_append, w_t1, ← List.take_append_drop 24 (words1.drop 24), List.all_append, w_t2, w_t3]
  rfl
set_option maxRecDepth 65536 in
theorem w_case : (Jvm.Cond.and given_1 narrow_1).before args0 about1 = true := by decide +kernel
theorem w_applies : (headSpec (Jvm.Cond.code x code maxLocals ret :: tables_1) room_1).applies x e0.platform about1 = true :=
  (Spec.applies_iff w_frames).mpr ⟨w_running, w_runnable, w_alone, w_named, w_hears, w_ripe, w_room, w_tables⟩
theorem atStart : AtStart classFile x code maxLocals ret World_1 tables_1 room_1 Calls_1 rest_1 Pre_1 launch0 p0 e0 about1 theMethod args0 below0 :=
  ⟨lists_1, trivial, launch0.admits_env _ _ _, launch0.least_env, fairChoices_fair.cas, fairChoices_fair.clock, w_frames, w_args, w_heap, w_applies, trivial, trivial, w_case⟩
end start1
theorem witness_1 : WitnessClaimed_1 := ⟨start1.p0, start1.e0, start1.about1, start1.theMethod, start1.args0, start1.below0, start1.atStart⟩
end Jvm.Pilot.@@N@@
