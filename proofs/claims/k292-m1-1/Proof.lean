import JvmDerived
import JvmDerived.Pilot.@@N@@Statement
import JvmDerived.Pilot.@@N@@Code
set_option linter.unusedVariables false
set_option linter.unusedSimpArgs false
namespace Jvm.Pilot.@@N@@
open Jvm Jvm.ClassFile Sem Op Lib Jvm.Free Jvm.Stand Jvm.LawKit Jvm.RoadKit Bundle Jvm.Pilot.@@N@@.Jvm.D
section OwnKit
variable {p : Program} {l : Launch} {e : Env} {R : Room} {s : State} {m : MethodId} {args : Array Value} {below : List Frame} {meth : Method} {c : Code} {T : State} {cells slots : Nat} {P : State → Outcome → Prop}
variable {Z : State} {a0 : Array Value} {h h0 : Heap} {n0 : Nat} {own nm : String} {bytes : ByteArray} {maxL : Nat} {ret : Option FieldType}
variable {pc pc' : Nat} {Ls : Array Slot} {st : List Value}
/-- from the state U the run comes to an end that P allows -/
def own_Go (p : Program) (e : Env) (below : List Frame) (U : State) (P : State → Outcome → Prop) : Prop := ∃ a o, Steps p.tables e below U a ∧ P a o
theorem own_by {U U' : State} (q : ∀ t, Steps p.tables e below U' t → Steps p.tables e below U t) (G : own_Go p e below U' P) : own_Go p e below U P := by
  obtain ⟨a, o, h1, h2⟩ := G
  exact ⟨a, o, q a h1, h2⟩
/-- what stays the same in one body -/
def own_B (p : Program) (s : State) (m : MethodId) (meth : Method) (c : Code) (Z : State) (own nm : String) (bytes : ByteArray) (maxL : Nat) (ret : Option FieldType) : Prop :=
  p.tables.exec = Jvm.exec ∧ Z.Warmed39 s.vm ∧ c.maxLocals = maxL ∧ s.vm.findClass own = some m.cls ∧ meth.sig.returnType = ret ∧ meth.locks = false ∧ meth.name = nm ∧ c.code = bytes
/-- where the run stands: the state T, its heap h; nothing below n0 has been written -/
def own_S (p : Program) (l : Launch) (e : Env) (R : Room) (s : State) (m : MethodId) (args : Array Value) (below : List Frame) (meth : Method) (c : Code) (n0 : Nat) (T : State) (h : Heap) (cells slots : Nat) : Prop :=
  ∃ locs, Stand p l e R s m args below meth c T locs cells slots ∧ T.heap = h ∧ Fr n0 locs
/-- what a body owes at its end -/
def own_P (s : State) (below : List Frame) (n0 : Nat) (Q : Option Value → Heap → Prop) (k n : Nat) (a : State) (o : Outcome) : Prop :=
  a.status = .running ∧ Ended a below o ∧ ∃ v L, o = .returned v ∧ (Fr n0 L ∧ Q v a.heap) ∧ FrameEnd s o a L k n
theorem own_iload (B : own_B p s m meth c Z own nm bytes maxL ret) (X : own_S p l e R s m args below meth c n0 T h cells slots) {k : Nat} {v : Int32} (d : decode bytes pc = .ok (.iload k, 2)) (hp : pc + 2 = pc') (hl : Ls[k]? = some (.val (.int v)))
    (G : own_Go p e below (T.setTop (mkF m pc' Ls (.int v :: st))) P) : own_Go p e below (T.setTop (mkF m pc Ls (st))) P := by
  obtain ⟨locs, X, -, -⟩ := X
  subst hp
  exact own_by (fun _ => XS.iload X.here B.1 rfl (hb B.2.2.2.2.2.2.2 d) hl) G
theorem own_iloadN (B : own_B p s m meth c Z own nm bytes maxL ret) (X : own_S p l e R s m args below meth c n0 T h cells slots) {k : Fin 4} {v : Int32} (d : decode bytes pc = .ok (.iload_n k, 1)) (hp : pc + 1 = pc') (hl : Ls[k.val]? = some (.val (.int v)))
    (G : own_Go p e below (T.setTop (mkF m pc' Ls (.int v :: st))) P) : own_Go p e below (T.setTop (mkF m pc Ls (st))) P := by
  obtain ⟨locs, X, -, -⟩ := X
  subst hp
  exact own_by (fun _ => XS.iloadN X.here B.1 rfl (hb B.2.2.2.2.2.2.2 d) hl) G
theorem own_aload (B : own_B p s m meth c Z own nm bytes maxL ret) (X : own_S p l e R s m args below meth c n0 T h cells slots) {k : Nat} {v : Value} (d : decode bytes pc = .ok (.aload k, 2)) (hp : pc + 2 = pc') (hl : Ls[k]? = some (.val v)) (hv : v.isRef = true)
    (G : own_Go p e below (T.setTop (mkF m pc' Ls (v :: st))) P) : own_Go p e below (T.setTop (mkF m pc Ls (st))) P := by
  obtain ⟨locs, X, -, -⟩ := X
  subst hp
  exact own_by (fun _ => XS.aload X.here B.1 rfl (hb B.2.2.2.2.2.2.2 d) hl hv) G
theorem own_aloadN (B : own_B p s m meth c Z own nm bytes maxL ret) (X : own_S p l e R s m args below meth c n0 T h cells slots) {k : Fin 4} {v : Value} (d : decode bytes pc = .ok (.aload_n k, 1)) (hp : pc + 1 = pc') (hl : Ls[k.val]? = some (.val v)) (hv : v.isRef = true)
    (G : own_Go p e below (T.setTop (mkF m pc' Ls (v :: st))) P) : own_Go p e below (T.setTop (mkF m pc Ls (st))) P := by
  obtain ⟨locs, X, -, -⟩ := X
  subst hp
  exact own_by (fun _ => XS.aloadN X.here B.1 rfl (hb B.2.2.2.2.2.2.2 d) hl hv) G
theorem own_istore (B : own_B p s m meth c Z own nm bytes maxL ret) (X : own_S p l e R s m args below meth c n0 T h cells slots) {k : Nat} {v : Int32} {Ls' : Array Slot} (d : decode bytes pc = .ok (.istore k, 2)) (hp : pc + 2 = pc') (hl : storeLocals Ls k (.int v) = some Ls')
    (G : own_Go p e below (T.setTop (mkF m pc' Ls' st)) P) : own_Go p e below (T.setTop (mkF m pc Ls (.int v :: st))) P := by
  obtain ⟨locs, X, -, -⟩ := X
  subst hp
  exact own_by (fun _ => XS.istore X.here B.1 rfl (hb B.2.2.2.2.2.2.2 d) rfl hl) G
theorem own_astore (B : own_B p s m meth c Z own nm bytes maxL ret) (X : own_S p l e R s m args below meth c n0 T h cells slots) {k : Nat} {v : Value} {Ls' : Array Slot} (d : decode bytes pc = .ok (.astore k, 2)) (hp : pc + 2 = pc') (hv : v.isRef = true) (hl : storeLocals Ls k (v) = some Ls')
    (G : own_Go p e below (T.setTop (mkF m pc' Ls' st)) P) : own_Go p e below (T.setTop (mkF m pc Ls (v :: st))) P := by
  obtain ⟨locs, X, -, -⟩ := X
  subst hp
  exact own_by (fun _ => XS.astore X.here B.1 rfl (hb B.2.2.2.2.2.2.2 d) rfl hv hl) G
theorem own_astoreN (B : own_B p s m meth c Z own nm bytes maxL ret) (X : own_S p l e R s m args below meth c n0 T h cells slots) {k : Fin 4} {v : Value} {Ls' : Array Slot} (d : decode bytes pc = .ok (.astore_n k, 1)) (hp : pc + 1 = pc') (hv : v.isRef = true) (hl : storeLocals Ls k.val (v) = some Ls')
    (G : own_Go p e below (T.setTop (mkF m pc' Ls' st)) P) : own_Go p e below (T.setTop (mkF m pc Ls (v :: st))) P := by
  obtain ⟨locs, X, -, -⟩ := X
  subst hp
  exact own_by (fun _ => XS.astoreN X.here B.1 rfl (hb B.2.2.2.2.2.2.2 d) rfl hv hl) G
theorem own_iconst (B : own_B p s m meth c Z own nm bytes maxL ret) (X : own_S p l e R s m args below meth c n0 T h cells slots) {i : Int} {z : Int32} (d : decode bytes pc = .ok (.iconst i, 1)) (hp : pc + 1 = pc') (hz : Int32.ofInt i = z)
    (G : own_Go p e below (T.setTop (mkF m pc' Ls (.int z :: st))) P) : own_Go p e below (T.setTop (mkF m pc Ls (st))) P := by
  obtain ⟨locs, X, -, -⟩ := X
  subst hp
  subst hz
  exact own_by (fun _ => XS.iconst X.here B.1 rfl (hb B.2.2.2.2.2.2.2 d)) G
theorem own_bipush (B : own_B p s m meth c Z own nm bytes maxL ret) (X : own_S p l e R s m args below meth c n0 T h cells slots) {i : Int} {z : Int32} (d : decode bytes pc = .ok (.bipush i, 2)) (hp : pc + 2 = pc') (hz : (Int8.ofInt i).toInt32 = z)
    (G : own_Go p e below (T.setTop (mkF m pc' Ls (.int z :: st))) P) : own_Go p e below (T.setTop (mkF m pc Ls (st))) P := by
  obtain ⟨locs, X, -, -⟩ := X
  subst hp
  subst hz
  exact own_by (fun _ => XS.bipush X.here B.1 rfl (hb B.2.2.2.2.2.2.2 d)) G
theorem own_sipush (B : own_B p s m meth c Z own nm bytes maxL ret) (X : own_S p l e R s m args below meth c n0 T h cells slots) {i : Int} {z : Int32} (d : decode bytes pc = .ok (.sipush i, 3)) (hp : pc + 3 = pc') (hz : (Int16.ofInt i).toInt32 = z)
    (G : own_Go p e below (T.setTop (mkF m pc' Ls (.int z :: st))) P) : own_Go p e below (T.setTop (mkF m pc Ls (st))) P := by
  obtain ⟨locs, X, -, -⟩ := X
  subst hp
  subst hz
  exact own_by (fun _ => XS.sipush X.here B.1 rfl (hb B.2.2.2.2.2.2.2 d)) G
theorem own_ldcI (B : own_B p s m meth c Z own nm bytes maxL ret) (X : own_S p l e R s m args below meth c n0 T h cells slots) {i : Nat} {z : Int32} (w : (Cond.constant own i z).before a0 Z = true) (d : decode bytes pc = .ok (.ldc i, 2)) (hp : pc + 2 = pc') 
    (G : own_Go p e below (T.setTop (mkF m pc' Ls (.int z :: st))) P) : own_Go p e below (T.setTop (mkF m pc Ls (st))) P := by
  obtain ⟨locs, X, -, -⟩ := X
  subst hp
  exact own_by (fun _ => X.ldcInt B.1 B.2.2.2.1 (mvT B.2.1 w) (g := mkF m pc Ls st) rfl (hb B.2.2.2.2.2.2.2 d) _) G
theorem own_iadd (B : own_B p s m meth c Z own nm bytes maxL ret) (X : own_S p l e R s m args below meth c n0 T h cells slots) {x y z : Int32} (d : decode bytes pc = .ok (.iadd, 1)) (hp : pc + 1 = pc') (hz : x + y = z)
    (G : own_Go p e below (T.setTop (mkF m pc' Ls (.int z :: st))) P) : own_Go p e below (T.setTop (mkF m pc Ls (.int y :: .int x :: st))) P := by
  obtain ⟨locs, X, -, -⟩ := X
  subst hp
  subst hz
  exact own_by (fun _ => XS.iadd X.here B.1 rfl (hb B.2.2.2.2.2.2.2 d) rfl) G
theorem own_iand (B : own_B p s m meth c Z own nm bytes maxL ret) (X : own_S p l e R s m args below meth c n0 T h cells slots) {x y z : Int32} (d : decode bytes pc = .ok (.iand, 1)) (hp : pc + 1 = pc') (hz : x &&& y = z)
    (G : own_Go p e below (T.setTop (mkF m pc' Ls (.int z :: st))) P) : own_Go p e below (T.setTop (mkF m pc Ls (.int y :: .int x :: st))) P := by
  obtain ⟨locs, X, -, -⟩ := X
  subst hp
  subst hz
  exact own_by (fun _ => XS.iand X.here B.1 rfl (hb B.2.2.2.2.2.2.2 d) rfl) G
theorem own_ishr (B : own_B p s m meth c Z own nm bytes maxL ret) (X : own_S p l e R s m args below meth c n0 T h cells slots) {x y z : Int32} (d : decode bytes pc = .ok (.ishr, 1)) (hp : pc + 1 = pc') (hz : x >>> (y &&& 31) = z)
    (G : own_Go p e below (T.setTop (mkF m pc' Ls (.int z :: st))) P) : own_Go p e below (T.setTop (mkF m pc Ls (.int y :: .int x :: st))) P := by
  obtain ⟨locs, X, -, -⟩ := X
  subst hp
  subst hz
  exact own_by (fun _ => XS.ishr X.here B.1 rfl (hb B.2.2.2.2.2.2.2 d) rfl) G
theorem own_iushr (B : own_B p s m meth c Z own nm bytes maxL ret) (X : own_S p l e R s m args below meth c n0 T h cells slots) {x y z : Int32} (d : decode bytes pc = .ok (.iushr, 1)) (hp : pc + 1 = pc') (hz : (x.toUInt32 >>> (y &&& 31).toUInt32).toInt32 = z)
    (G : own_Go p e below (T.setTop (mkF m pc' Ls (.int z :: st))) P) : own_Go p e below (T.setTop (mkF m pc Ls (.int y :: .int x :: st))) P := by
  obtain ⟨locs, X, -, -⟩ := X
  subst hp
  subst hz
  exact own_by (fun _ => XS.iushr X.here B.1 rfl (hb B.2.2.2.2.2.2.2 d) rfl) G
theorem own_irem (B : own_B p s m meth c Z own nm bytes maxL ret) (X : own_S p l e R s m args below meth c n0 T h cells slots) {x y z : Int32} (d : decode bytes pc = .ok (.irem, 1)) (hp : pc + 1 = pc') (hy : y ≠ 0) (hz : x % y = z)
    (G : own_Go p e below (T.setTop (mkF m pc' Ls (.int z :: st))) P) : own_Go p e below (T.setTop (mkF m pc Ls (.int y :: .int x :: st))) P := by
  obtain ⟨locs, X, -, -⟩ := X
  subst hp
  subst hz
  exact own_by (fun _ => iremM X B.1 rfl (hb B.2.2.2.2.2.2.2 d) rfl hy) G
theorem own_i2b (B : own_B p s m meth c Z own nm bytes maxL ret) (X : own_S p l e R s m args below meth c n0 T h cells slots) {x : Int32} {z : Int32} (d : decode bytes pc = .ok (.i2b, 1)) (hp : pc + 1 = pc') (hz : x.toInt8.toInt32 = z)
    (G : own_Go p e below (T.setTop (mkF m pc' Ls (.int z :: st))) P) : own_Go p e below (T.setTop (mkF m pc Ls (.int x :: st))) P := by
  obtain ⟨locs, X, -, -⟩ := X
  subst hp
  subst hz
  exact own_by (fun _ => XS.i2b X.here B.1 rfl (hb B.2.2.2.2.2.2.2 d) rfl) G
theorem own_dup (B : own_B p s m meth c Z own nm bytes maxL ret) (X : own_S p l e R s m args below meth c n0 T h cells slots) {v : Value} (d : decode bytes pc = .ok (.dup, 1)) (hp : pc + 1 = pc') (hv : v.category = 1)
    (G : own_Go p e below (T.setTop (mkF m pc' Ls (v :: v :: st))) P) : own_Go p e below (T.setTop (mkF m pc Ls (v :: st))) P := by
  obtain ⟨locs, X, -, -⟩ := X
  subst hp
  exact own_by (fun _ => XS.dup X.here B.1 rfl (hb B.2.2.2.2.2.2.2 d) rfl hv) G
theorem own_dup_x1 (B : own_B p s m meth c Z own nm bytes maxL ret) (X : own_S p l e R s m args below meth c n0 T h cells slots) {v w : Value} (d : decode bytes pc = .ok (.dup_x1, 1)) (hp : pc + 1 = pc') (hv : v.category = 1) (hw : w.category = 1)
    (G : own_Go p e below (T.setTop (mkF m pc' Ls (v :: w :: v :: st))) P) : own_Go p e below (T.setTop (mkF m pc Ls (v :: w :: st))) P := by
  obtain ⟨locs, X, -, -⟩ := X
  subst hp
  exact own_by (fun _ => XS.dupX1 X.here B.1 rfl (hb B.2.2.2.2.2.2.2 d) rfl hv hw) G
theorem own_goto (B : own_B p s m meth c Z own nm bytes maxL ret) (X : own_S p l e R s m args below meth c n0 T h cells slots) {o : Int} (d : decode bytes pc = .ok (.goto o, 3)) (ho : 0 ≤ (pc : Int) + o) (hp : ((pc : Int) + o).toNat = pc')
    (G : own_Go p e below (T.setTop (mkF m pc' Ls st)) P) : own_Go p e below (T.setTop (mkF m pc Ls st)) P := by
  obtain ⟨locs, X, -, -⟩ := X
  exact own_by (fun _ => XS.goto X.here B.1 rfl (pc0 := pc) rfl (hb B.2.2.2.2.2.2.2 d) ho hp) G
theorem own_icmpYes (B : own_B p s m meth c Z own nm bytes maxL ret) (X : own_S p l e R s m args below meth c n0 T h cells slots) {cd : ClassFile.Cond} {o : Int} {x y : Int32} (d : decode bytes pc = .ok (.if_icmp cd o, 3)) (hc : if_icmp.holds cd x y = true) (ho : 0 ≤ (pc : Int) + o) (hp : ((pc : Int) + o).toNat = pc')
    (G : own_Go p e below (T.setTop (mkF m pc' Ls st)) P) : own_Go p e below (T.setTop (mkF m pc Ls (.int y :: .int x :: st))) P := by
  obtain ⟨locs, X, -, -⟩ := X
  exact own_by (fun _ => XS.icmpYes X.here B.1 rfl (pc0 := pc) rfl (hb B.2.2.2.2.2.2.2 d) rfl hc ho hp) G
theorem own_icmpNo (B : own_B p s m meth c Z own nm bytes maxL ret) (X : own_S p l e R s m args below meth c n0 T h cells slots) {cd : ClassFile.Cond} {o : Int} {x y : Int32} (d : decode bytes pc = .ok (.if_icmp cd o, 3)) (hc : if_icmp.holds cd x y = false) (hp : pc + 3 = pc')
    (G : own_Go p e below (T.setTop (mkF m pc' Ls st)) P) : own_Go p e below (T.setTop (mkF m pc Ls (.int y :: .int x :: st))) P := by
  obtain ⟨locs, X, -, -⟩ := X
  subst hp
  exact own_by (fun _ => XS.icmpNo X.here B.1 rfl (hb B.2.2.2.2.2.2.2 d) rfl hc) G
theorem own_arraylength (B : own_B p s m meth c Z own nm bytes maxL ret) (X : own_S p l e R s m args below meth c n0 T h cells slots) {a : Addr} {k : ClassId} {z : Int32} {vs : List Value} {dv : Value} {ty : FieldType} (V : Arv Z h a k ty z vs dv) (d : decode bytes pc = .ok (.arraylength, 1)) (hp : pc + 1 = pc')
    (G : own_Go p e below (T.setTop (mkF m pc' Ls (.int z :: st))) P) : own_Go p e below (T.setTop (mkF m pc Ls (.ref a :: st))) P := by
  obtain ⟨locs, X, eT, -⟩ := X
  subst hp
  obtain ⟨cl, A, -, S, N, -, -⟩ := V
  refine own_by (fun t ht => ?_) G
  refine X.arraylength B.1 (by rw [eT]; exact A.1) (State.isArrayOf_alike B.2.1.alike A.2.1) (g := mkF m pc Ls (.ref a :: st)) rfl rfl (hb B.2.2.2.2.2.2.2 d) _ ?_
  rw [len_of S N]; exact ht
theorem own_baload (B : own_B p s m meth c Z own nm bytes maxL ret) (X : own_S p l e R s m args below meth c n0 T h cells slots) {a : Addr} {k : ClassId} {z : Int32} {vs : List Value} {dv : Value} {j : Int32} {v : Value} (V : Arv Z h a k .byte z vs dv) (hj : ¬ j < 0 ∧ j < z) (hv : vs.getD j.toNatClampNeg dv = v) (d : decode bytes pc = .ok (.baload, 1)) (hp : pc + 1 = pc')
    (G : own_Go p e below (T.setTop (mkF m pc' Ls (v :: st))) P) : own_Go p e below (T.setTop (mkF m pc Ls (.int j :: .ref a :: st))) P := by
  obtain ⟨locs, X, eT, -⟩ := X
  subst hp
  obtain ⟨cl, A, -, S, N, H, -⟩ := V
  have hin := inb_of S hj
  exact own_by (fun t => X.baloadBytes B.1 (j := j) (v := v) (by rw [eT]; exact A.1) (State.isArrayOf_alike B.2.1.alike A.2.1) A.2.2 hin (H.at hin hv) (g := mkF m pc Ls (.int j :: .ref a :: st)) rfl rfl (hb B.2.2.2.2.2.2.2 d) t) G
theorem own_bastore (B : own_B p s m meth c Z own nm bytes maxL ret) (X : own_S p l e R s m args below meth c n0 T h cells slots) {a : Addr} {k : ClassId} {z : Int32} {vs : List Value} {dv : Value} {j : Int32} {x x' : Int32} (V : Arv Z h a k .byte z vs dv) (ge : n0 ≤ a) (hj : ¬ j < 0 ∧ j < z) (i : Nat) (hi : j.toNatClampNeg = i) (hl : i < vs.length) (hz : x.toInt8.toInt32 = x') (d : decode bytes pc = .ok (.bastore, 1)) (hp : pc + 1 = pc')
    (G : ∀ T' h', own_S p l e R s m args below meth c n0 T' h' cells slots → Wr h h' a i (.int x') → Arv Z h' a k .byte z (vs.set i (.int x')) dv → own_Go p e below (T'.setTop (mkF m pc' Ls st)) P) : own_Go p e below (T.setTop (mkF m pc Ls (.int x :: .int j :: .ref a :: st))) P := by
  obtain ⟨locs, X, eT, N0⟩ := X
  subst hp hi hz
  obtain ⟨cl, A, q, S, N, H, F⟩ := V
  have hin := inb_of S hj
  obtain ⟨T', h', X', e', W, st'⟩ := stB X B.1 B.2.1 eT A (j := j) hin (g := mkF m pc Ls (.int x :: .int j :: .ref a :: st)) rfl rfl (hb B.2.2.2.2.2.2.2 d)
  exact own_by st' (G T' h' ⟨_, X', e', Fr.snoc X' N0 ge⟩ W (Arv.set A q S N H F (fits_nar_byte _) W _ rfl hl))
theorem own_newarray (B : own_B p s m meth c Z own nm bytes maxL ret) (X : own_S p l e R s m args below meth c n0 T h cells slots) {aty : ArrayType} {t : FieldType} (w : (Cond.arrayClass t).before a0 Z = true) (d : decode bytes pc = .ok (.newarray aty, 2)) (hp : pc + 2 = pc') (hty : newarray.typeOf aty = t) {z : Int32} (hz : ¬ z < 0) (cap : Nat) (hcap : z.toNatClampNeg ≤ cap) (hbig : cap * 8 ≤ 536870912) {k' n' : Nat} (hk : cells + 1 = k') (hn : slots + cap = n') (hkR : k' ≤ R.cells) (hnR : n' ≤ R.slots) (ad : String) (had : "[" ++ (newarray.typeOf aty).toString = ad) (dv : Value) (hdv : defaultValue t = dv)
    (G : ∀ T' h' b k, own_S p l e R s m args below meth c n0 T' h' k' n' → b = h.size → Ext h h' → Arv Z h' b k t z [] dv → Exa Z h' b ad → own_Go p e below (T'.setTop (mkF m pc' Ls (.ref b :: st))) P) : own_Go p e below (T.setTop (mkF m pc Ls (.int z :: st))) P := by
  obtain ⟨locs, X, eT, N0⟩ := X
  subst hp hk hn hdv hty
  obtain ⟨T', h', kA, X', e', E, A, A', st'⟩ := newPE X B.1 B.2.1 w eT (g := mkF m pc Ls (.int z :: st)) rfl (hb B.2.2.2.2.2.2.2 d) rfl hz (cap := cap) hcap hbig hkR hnR had
  exact own_by st' (G T' h' _ kA ⟨_, X', e', N0⟩ rfl E (Arv.new A hz) A')
theorem own_new (B : own_B p s m meth c Z own nm bytes maxL ret) (X : own_S p l e R s m args below meth c n0 T h cells slots) {C : String} {i n : Nat} (w : (Cond.classLink own i C).before a0 Z = true) (wi : (Cond.instantiable C n).before a0 Z = true) (wz : (Cond.initialized C).before a0 Z = true) (d : decode bytes pc = .ok (.new i, 3)) (hp : pc + 3 = pc') {k' n' : Nat} (hk : cells + 1 = k') (hn : slots + n = n') (hkR : k' ≤ R.cells) (hnR : n' ≤ R.slots)
    (G : ∀ T' h' b, own_S p l e R s m args below meth c n0 T' h' k' n' → b = h.size → Ext h h' → Exa Z h' b C → (∀ {O f t : String} {ty : FieldType}, Laid Z a0 C O f t → parseFieldDescriptor t = some ty → Fld Z h' b O f t (defaultValue ty)) → own_Go p e below (T'.setTop (mkF m pc' Ls (.ref b :: st))) P) : own_Go p e below (T.setTop (mkF m pc Ls st)) P := by
  obtain ⟨locs, X, eT, N0⟩ := X
  subst hp hk hn
  obtain ⟨T', h', X', e', E, A, D, -, st'⟩ := newO X B.1 B.2.1 B.2.2.2.1 w wi wz eT (g := mkF m pc Ls st) rfl (hb B.2.2.2.2.2.2.2 d) hkR hnR
  exact own_by st' (G T' h' _ ⟨_, X', e', N0⟩ rfl E A D)
theorem own_objinit (B : own_B p s m meth c Z own nm bytes maxL ret) (X : own_S p l e R s m args below meth c n0 T h cells slots) {i : Nat} {a : Addr} (w1 : (Cond.methodLink own i Lib.objectInit).before a0 Z = true) (w2 : (Cond.instanceMethod Lib.objectInit).before a0 Z = true) (w3 : (Cond.code Lib.objectInit ⟨#[0xb1]⟩ 1 none).before a0 Z = true) (d : decode bytes pc = .ok (.invokespecial i, 3)) (hp : pc + 3 = pc') (hsz : Ls.size = maxL) (hf : 1 ≤ R.frames) (W : Nat) (hW : (st.map fun v => v.category).sum ≤ W) (hl : W + 12 ≤ R.locals)
    (G : ∀ T', own_S p l e R s m args below meth c n0 T' h cells slots → own_Go p e below (T'.setTop (mkF m pc' Ls st)) P) : own_Go p e below (T.setTop (mkF m pc Ls (.ref a :: st))) P := by
  obtain ⟨locs, X, eT, N0⟩ := X
  subst hp
  obtain ⟨T', X', e', st'⟩ := initO X B.1 B.2.1 B.2.2.2.1 w1 w2 w3 eT (g := mkF m pc Ls (.ref a :: st)) rfl (by rw [B.2.2.1]; exact hsz) rfl (hb B.2.2.2.2.2.2.2 d) hf (W := W) (by show 2 * 0 + _ ≤ _; omega) hl
  exact own_by st' (G T' ⟨_, X', e', N0⟩)
theorem own_getfield (B : own_B p s m meth c Z own nm bytes maxL ret) (X : own_S p l e R s m args below meth c n0 T h cells slots) {R0 O n t : String} {host : String} {i : Nat} {a : Addr} {v : Value} (w : (Cond.fieldLink own i R0 n t).before a0 Z = true ∨ (Cond.fieldLinkNest own i R0 n t host).before a0 Z = true) (via : Via Z R0 O n t) (F : Fld Z h a O n t v) (d : decode bytes pc = .ok (.getfield i, 3)) (hp : pc + 3 = pc')
    (G : ∀ T', own_S p l e R s m args below meth c n0 T' h cells slots → own_Go p e below (T'.setTop (mkF m pc' Ls (v :: st))) P) : own_Go p e below (T.setTop (mkF m pc Ls (.ref a :: st))) P := by
  obtain ⟨locs, X, eT, N0⟩ := X
  subst hp
  obtain ⟨T', X', e', st'⟩ := getF X B.1 B.2.1 B.2.2.2.1 w via eT F (g := mkF m pc Ls (.ref a :: st)) rfl rfl (hb B.2.2.2.2.2.2.2 d)
  exact own_by st' (G T' ⟨_, X', e', N0⟩)
theorem own_putfield (B : own_B p s m meth c Z own nm bytes maxL ret) (X : own_S p l e R s m args below meth c n0 T h cells slots) {R0 O n t C : String} {host : String} {i kk : Nat} {ty : FieldType} {a : Addr} {v old : Value} (w : (Cond.fieldLink own i R0 n t).before a0 Z = true ∨ (Cond.fieldLinkNest own i R0 n t host).before a0 Z = true) (via : Via Z R0 O n t) (F : Fld Z h a O n t old) (E : Exa Z h a C) (ge : n0 ≤ a) (L : (Cond.lays C O n t).before a0 Z = true ∨ ((Cond.laysFinal C O n t).before a0 Z = true ∧ own = O ∧ nm = "<init>")) (wi : (Cond.instantiable C kk).before a0 Z = true) (hty : parseFieldDescriptor t = some ty) (hn : narrow ty v = v) (hf : fits ty v = true) (d : decode bytes pc = .ok (.putfield i, 3)) (hp : pc + 3 = pc')
    (G : ∀ T' h', own_S p l e R s m args below meth c n0 T' h' cells slots → Wr h h' a (Jvm.RoadKit.slotOf Z O n t) v → Fld Z h' a O n t v → own_Go p e below (T'.setTop (mkF m pc' Ls st)) P) : own_Go p e below (T.setTop (mkF m pc Ls (v :: .ref a :: st))) P := by
  obtain ⟨locs, X, eT, N0⟩ := X
  subst hp
  obtain ⟨T', h', X', e', W, st'⟩ := putF X B.1 B.2.1 B.2.2.2.1 w via eT F E (L.imp id fun q => ⟨q.1, q.2.1, B.2.2.2.2.2.2.1.trans q.2.2⟩) wi hty hn hf (g := mkF m pc Ls (v :: .ref a :: st)) rfl rfl (hb B.2.2.2.2.2.2.2 d)
  exact own_by st' (G T' h' ⟨_, X', e', Fr.snoc X' N0 ge⟩ W (F.same W))
theorem own_arraycopy (B : own_B p s m meth c Z own nm bytes maxL ret) (X : own_S p l e R s m args below meth c n0 T h cells slots) {i : Nat} (w1 : (Cond.methodLink own i Jvm.Stand.acN).before a0 Z = true) (w2 : (Cond.native Jvm.Stand.acN).before a0 Z = true) (w3 : (Cond.static Jvm.Stand.acN).before a0 Z = true) (w4 : (Cond.initialized "java/lang/System").before a0 Z = true) {a b : Addr} {k k' : ClassId} {ty : FieldType} {z z' sp dp nn : Int32} {vs vd us rs : List Value} {dv dd : Value} (A : Arv Z h a k ty z vs dv) (A' : Arv Z h b k' ty z' vd dd) (hty : refKind ty = false) (ge : n0 ≤ b) (h1 : ¬ sp < 0) (h2 : ¬ dp < 0) (h3 : ¬ nn < 0) (h4 : sp.toNatClampNeg + nn.toNatClampNeg ≤ z.toNatClampNeg) (h5 : dp.toNatClampNeg + nn.toNatClampNeg ≤ z'.toNatClampNeg) (hus : us = (List.range nn.toNatClampNeg).map fun i => vs.getD (sp.toNatClampNeg + i) dv) (hl : dp.toNatClampNeg + nn.toNatClampNeg ≤ vd.length) (hrs : vd.take dp.toNatClampNeg ++ us ++ vd.drop (dp.toNatClampNeg + nn.toNatClampNeg) = rs) (d : decode bytes pc = .ok (.invokestatic i, 3)) (hp : pc + 3 = pc') (hsz : Ls.size = maxL) (hf : 1 ≤ R.frames) (W : Nat) (hW : (st.map fun v => v.category).sum ≤ W) (hlo : W + (nativeFrameWords "java/lang/System" "arraycopy" 5 + 11) ≤ R.locals)
    (G : ∀ T' h', own_S p l e R s m args below meth c n0 T' h' cells slots → Keep h h' [b] → Arv Z h' b k' ty z' rs dd → own_Go p e below (T'.setTop (mkF m pc' Ls st)) P) : own_Go p e below (T.setTop (mkF m pc Ls (.int nn :: .int dp :: .ref b :: .int sp :: .ref a :: st))) P := by
  obtain ⟨locs, X, eT, N0⟩ := X
  subst hp hrs
  obtain ⟨T', h', L, X', e', N', K, V, st'⟩ := cpA X B.1 B.2.1 B.2.2.2.1 w1 w2 w3 w4 eT A A' (Or.inl ⟨rfl, hty⟩) h1 h2 h3 h4 h5 hus hl N0 ge (g := mkF m pc Ls (.int nn :: .int dp :: .ref b :: .int sp :: .ref a :: st)) rfl (by rw [B.2.2.1]; exact hsz) rfl (hb B.2.2.2.2.2.2.2 d) hf (W := W) (by show 2 * 0 + _ ≤ _; omega) hlo
  exact own_by st' (G T' h' ⟨_, X', e', N'⟩ K V)
theorem own_retI (B : own_B p s m meth c Z own nm bytes maxL (some .int)) (X : own_S p l e R s m args below meth c n0 T h cells slots) {Q : Option Value → Heap → Prop} {k n : Nat} {z : Int32} (d : decode bytes pc = .ok (.ireturn, 1)) (hk : cells ≤ k) (hn : slots ≤ n) (hq : Q (some (.int z)) h) : own_Go p e below (T.setTop (mkF m pc Ls (.int z :: st))) (own_P s below n0 Q k n) := by
  obtain ⟨locs, X, eT, N0⟩ := X
  obtain ⟨fs, hr, hrun, hended, hW, hsame⟩ := X.leave (v := (some (.int z))) (fun h => by rw [B.2.2.2.2.1] at h; cases h) B.2.2.2.2.2.1
  exact ⟨_, _, retOut X B.1 B.2.2.2.2.1 rfl (Or.inl ⟨rfl, Or.inl rfl, _, rfl⟩) (hb B.2.2.2.2.2.2.2 d) hr, hrun, hended, _, _, rfl, ⟨N0, by show Q _ T.heap; rw [eT]; exact hq⟩, ⟨_, rfl⟩, hW, hsame.mono hk hn⟩
theorem own_retN {t : FieldType} (B : own_B p s m meth c Z own nm bytes maxL (some t)) (X : own_S p l e R s m args below meth c n0 T h cells slots) {Q : Option Value → Heap → Prop} {k n : Nat} {z z' : Int32} (ht : t = .boolean ∨ t = .byte ∨ t = .char ∨ t = .short) (hz : nar t z = z') (d : decode bytes pc = .ok (.ireturn, 1)) (hk : cells ≤ k) (hn : slots ≤ n) (hq : Q (some (.int z')) h) : own_Go p e below (T.setTop (mkF m pc Ls (.int z :: st))) (own_P s below n0 Q k n) := by
  subst hz
  obtain ⟨locs, X, eT, N0⟩ := X
  obtain ⟨fs, hr, hrun, hended, hW, hsame⟩ := X.leave (v := (some (.int (nar t z)))) (fun h => by rw [B.2.2.2.2.1] at h; cases h) B.2.2.2.2.2.1
  exact ⟨_, _, retN X B.1 B.2.2.2.2.1 ht (hb B.2.2.2.2.2.2.2 d) hr, hrun, hended, _, _, rfl, ⟨N0, by show Q _ T.heap; rw [eT]; exact hq⟩, ⟨_, rfl⟩, hW, hsame.mono hk hn⟩
theorem own_retA {t : FieldType} (B : own_B p s m meth c Z own nm bytes maxL (some t)) (X : own_S p l e R s m args below meth c n0 T h cells slots) {Q : Option Value → Heap → Prop} {k n : Nat} {w : Value} (ht : t.isReference = true) (hw : w.isRef = true) (hnw : narrow t w = w) (d : decode bytes pc = .ok (.areturn, 1)) (hk : cells ≤ k) (hn : slots ≤ n) (hq : Q (some w) h) : own_Go p e below (T.setTop (mkF m pc Ls (w :: st))) (own_P s below n0 Q k n) := by
  obtain ⟨locs, X, eT, N0⟩ := X
  obtain ⟨fs, hr, hrun, hended, hW, hsame⟩ := X.leave (v := (some w)) (fun h => by rw [B.2.2.2.2.1] at h; cases h) B.2.2.2.2.2.1
  exact ⟨_, _, retOut X B.1 B.2.2.2.2.1 hnw (Or.inr (Or.inr (Or.inr (Or.inr ⟨rfl, ht, hw⟩)))) (hb B.2.2.2.2.2.2.2 d) hr, hrun, hended, _, _, rfl, ⟨N0, by show Q _ T.heap; rw [eT]; exact hq⟩, ⟨_, rfl⟩, hW, hsame.mono hk hn⟩
theorem own_ret (B : own_B p s m meth c Z own nm bytes maxL none) (X : own_S p l e R s m args below meth c n0 T h cells slots) {Q : Option Value → Heap → Prop} {k n : Nat} (d : decode bytes pc = .ok (.return_, 1)) (hk : cells ≤ k) (hn : slots ≤ n) (hq : Q none h) : own_Go p e below (T.setTop (mkF m pc Ls [])) (own_P s below n0 Q k n) := by
  obtain ⟨locs, X, eT, N0⟩ := X
  obtain ⟨fs, hr, hrun, hended, hW, hsame⟩ := X.leave (v := none) (fun _ => rfl) B.2.2.2.2.2.1
  exact ⟨_, _, X.returnOut B.1 B.2.2.2.2.1 (hb B.2.2.2.2.2.2.2 d) hr, hrun, hended, _, _, rfl, ⟨N0, by show Q _ T.heap; rw [eT]; exact hq⟩, ⟨_, rfl⟩, hW, hsame.mono hk hn⟩
theorem own_enter {y : MethodName} {rm : Room} {ws : List Jvm.Cond} {as' : Array Value} {Q : Option Value → Heap → Prop} {F : MethodId → JFrame} (hpl : plainFor y = true) (hF : ∀ m, entryFrame m as' maxL = F m)
    (body : ∀ p e s m below meth c s₁, own_B p s m meth c Z y.cls y.name bytes maxL ret → own_S p l e rm s m as' below meth c n0 s₁ h0 0 0 → own_Go p e below (s₁.setTop (F m)) (own_P s below n0 Q rm.cells rm.slots)) :
    MetFree l y (head1 (Jvm.Cond.code y bytes maxL ret :: ws) rm) (fun a U => a = as' ∧ Z.Warmed39 U.vm ∧ U.heap = h0) (fun _ _ _ _ _ => True) (fun _ U o U' => ∃ v L, o = .returned v ∧ (Fr n0 L ∧ Q v U'.heap) ∧ FrameEnd U o U' L rm.cells rm.slots) := by
  refine MetFree.of_bodySF hpl hisR ?_
  intro p e s m args below meth c s₁ Bd hml0 hP hK
  obtain ⟨rfl, hZ, hh⟩ := hP
  have e0 : s₁.heap = h0 := by rw [← hh, Bd.state]; rfl
  have nm := (name_of_methodNamed Bd.named Bd.method).1
  obtain ⟨a, o, h1, h2⟩ := body p e s m below meth c s₁ ⟨Bd.exec, hZ, hml0, findClass_of_methodNamed Bd.named, Bd.returns, Bd.notSynchronized, nm, Bd.bytes⟩ ⟨[], Stand.of_body Bd, e0, Fr.nil n0⟩
  exact ⟨a, o, castTop (hF m) h1, h2⟩
theorem own_callS (B : own_B p s m meth c Z own nm bytes maxL ret) (X : own_S p l e R s m args below meth c n0 T h cells slots) {i : Nat} {y : MethodName} {yb : ByteArray} {yl : Nat} {yr : Option FieldType} (w1 : (Cond.methodLink own i y).before a0 Z = true) (w2 : (Cond.static y).before a0 Z = true) (w3 : (Cond.initialized y.cls).before a0 Z = true) (w4 : (Cond.code y yb yl yr).before a0 Z = true) (hy : y.cls ≠ "java/lang/invoke/MethodHandle" ∧ y.cls ≠ "java/lang/invoke/VarHandle") {rm : Room} {Q : Option Value → Heap → Prop} (argsL rest : List Value)
    (hM : MetFree l y (head1 [Jvm.Cond.code y yb yl yr] rm) (fun b U => b = argsL.toArray ∧ Z.Warmed39 U.vm ∧ U.heap = h) (fun _ _ _ _ _ => True) (fun _ U o U' => ∃ v L, o = .returned v ∧ (Fr n0 L ∧ Q v U'.heap) ∧ FrameEnd U o U' L rm.cells rm.slots))
    (W : Nat) (hf : rm.frames + 1 ≤ R.frames) (hl : W + (yl + 11) + rm.locals ≤ R.locals) (hsz : Ls.size = maxL) {ps : List FieldType} {rt : Option FieldType} (hpd : parseMethodDescriptor y.desc = some ⟨ps, rt⟩) (hln : argsL.length = ps.length) (hst : st = argsL.reverse ++ rest) (hW : (rest.map fun v => v.category).sum ≤ W) (d : decode bytes pc = .ok (.invokestatic i, 3)) (hp : pc + 3 = pc') {k' n' : Nat} (hk : cells + rm.cells = k') (hn : slots + rm.slots = n') (hkR : k' ≤ R.cells) (hnR : n' ≤ R.slots)
    (G : ∀ T' v h', own_S p l e R s m args below meth c n0 T' h' k' n' → Q v h' → own_Go p e below (T'.setTop (mkF m pc' Ls (v.toList ++ rest))) P) : own_Go p e below (T.setTop (mkF m pc Ls st)) P := by
  obtain ⟨locs, X, eT, N0⟩ := X
  subst hp hk hn
  have bk := backOf (p := p) (e := e) (below := below) (args := args) (len := 3) (W := W) (Q := fun v h' L => Fr n0 L ∧ Q v h') hM B.2.1 w4 w3 hf hl
  obtain ⟨v, vm₁, ⟨T', L', k1, n1⟩, hW1, X', ⟨Lc, hQ, l1, y1, z1⟩, stp⟩ := Jvm.LawKit.callS X B.1 (y := y) B.2.2.2.1 (mvT B.2.1 w1) (mvT B.2.1 w2) (mvT B.2.1 w3) (mvT B.2.1 w4) hy bk (g := mkF m pc Ls st) rfl (by rw [B.2.2.1]; exact hsz) (argsL := argsL) (rest := rest) (lenOf hpd hln) hst (by show 2 * 0 + _ ≤ _; omega) (hb B.2.2.2.2.2.2.2 d) (fun _ _ => ⟨rfl, eT, hkR, hnR⟩)
  dsimp only [Pt.U, Pt.locs, Pt.cells, Pt.slots] at X' l1 y1 z1 stp hQ
  subst l1 y1 z1
  exact own_by stp (G T' v _ ⟨_, X', rfl, N0.app hQ.1⟩ hQ.2)
theorem own_callI (B : own_B p s m meth c Z own nm bytes maxL ret) (X : own_S p l e R s m args below meth c n0 T h cells slots) {i : Nat} {y : MethodName} {yb : ByteArray} {yl : Nat} {yr : Option FieldType} (hyn : y.name = "<init>") (hyr : yr = none) (w1 : (Cond.methodLink own i y).before a0 Z = true) (w2 : (Cond.instanceMethod y).before a0 Z = true) (w3 : (Cond.initialized y.cls).before a0 Z = true) (w4 : (Cond.code y yb yl yr).before a0 Z = true) (hy : y.cls ≠ "java/lang/invoke/MethodHandle" ∧ y.cls ≠ "java/lang/invoke/VarHandle") {rm : Room} {Q : Option Value → Heap → Prop} {a : Addr} (argsL rest : List Value)
    (hM : MetFree l y (head1 [Jvm.Cond.code y yb yl yr] rm) (fun b U => b = (Value.ref a :: argsL).toArray ∧ Z.Warmed39 U.vm ∧ U.heap = h) (fun _ _ _ _ _ => True) (fun _ U o U' => ∃ v L, o = .returned v ∧ (Fr n0 L ∧ Q v U'.heap) ∧ FrameEnd U o U' L rm.cells rm.slots))
    (W : Nat) (hf : rm.frames + 1 ≤ R.frames) (hl : W + (yl + 11) + rm.locals ≤ R.locals) (hsz : Ls.size = maxL) {ps : List FieldType} {rt : Option FieldType} (hpd : parseMethodDescriptor y.desc = some ⟨ps, rt⟩) (hln : argsL.length = ps.length) (hst : st = argsL.reverse ++ .ref a :: rest) (hW : (rest.map fun v => v.category).sum ≤ W) (d : decode bytes pc = .ok (.invokespecial i, 3)) (hp : pc + 3 = pc') {k' n' : Nat} (hk : cells + rm.cells = k') (hn : slots + rm.slots = n') (hkR : k' ≤ R.cells) (hnR : n' ≤ R.slots)
    (G : ∀ T' v h', own_S p l e R s m args below meth c n0 T' h' k' n' → Q v h' → own_Go p e below (T'.setTop (mkF m pc' Ls (v.toList ++ rest))) P) : own_Go p e below (T.setTop (mkF m pc Ls st)) P := by
  obtain ⟨locs, X, eT, N0⟩ := X
  subst hp hk hn
  have bk := backOf (p := p) (e := e) (below := below) (args := args) (len := 3) (W := W) (Q := fun v h' L => Fr n0 L ∧ Q v h') hM B.2.1 w4 w3 hf hl
  subst hyr
  obtain ⟨v, vm₁, ⟨T', L', k1, n1⟩, hW1, X', ⟨Lc, hQ, l1, y1, z1⟩, stp⟩ := X.specialBack B.1 (y := y) hyn B.2.2.2.1 (mvT B.2.1 w1) (mvT B.2.1 w2) (mvT B.2.1 w4) hy bk (g := mkF m pc Ls st) rfl (by rw [B.2.2.1]; exact hsz) (Steps.refl _) (a := a) (argsL := argsL) (rest := rest) (lenOf hpd hln) hst (by show 2 * 0 + _ ≤ _; omega) (hb B.2.2.2.2.2.2.2 d) (fun _ _ => ⟨rfl, eT, hkR, hnR⟩)
  dsimp only [Pt.U, Pt.locs, Pt.cells, Pt.slots] at X' l1 y1 z1 stp hQ
  subst l1 y1 z1
  exact own_by (fun _ k => stp.trans k) (G T' v _ ⟨_, X', rfl, N0.app hQ.1⟩ hQ.2)
theorem own_callV (B : own_B p s m meth c Z own nm bytes maxL ret) (X : own_S p l e R s m args below meth c n0 T h cells slots) {i : Nat} {a : Addr} {y : MethodName} {yb : ByteArray} {yl : Nat} {yr : Option FieldType} {C : String} (w1 : (Cond.methodLink own i y).before a0 Z = true) (w2 : (Cond.declares y).before a0 Z = true) (w5 : (Cond.selects C y y).before a0 Z = true) (w6 : (Cond.instanceMethod y).before a0 Z = true) (w3 : (Cond.initialized y.cls).before a0 Z = true) (w4 : (Cond.code y yb yl yr).before a0 Z = true) (E : Exa Z h a C) (hy : y.cls ≠ "java/lang/invoke/MethodHandle" ∧ y.cls ≠ "java/lang/invoke/VarHandle") {rm : Room} {Q : Option Value → Heap → Prop} (argsL rest : List Value)
    (hM : MetFree l y (head1 [Jvm.Cond.code y yb yl yr] rm) (fun b U => b = (Value.ref a :: argsL).toArray ∧ Z.Warmed39 U.vm ∧ U.heap = h) (fun _ _ _ _ _ => True) (fun _ U o U' => ∃ v L, o = .returned v ∧ (Fr n0 L ∧ Q v U'.heap) ∧ FrameEnd U o U' L rm.cells rm.slots))
    (W : Nat) (hf : rm.frames + 1 ≤ R.frames) (hl : W + (yl + 11) + rm.locals ≤ R.locals) (hsz : Ls.size = maxL) {ps : List FieldType} {rt : Option FieldType} (hpd : parseMethodDescriptor y.desc = some ⟨ps, rt⟩) (hln : argsL.length = ps.length) (hst : st = argsL.reverse ++ .ref a :: rest) (hW : (rest.map fun v => v.category).sum ≤ W) (d : decode bytes pc = .ok (.invokevirtual i, 3)) (hp : pc + 3 = pc') {k' n' : Nat} (hk : cells + rm.cells = k') (hn : slots + rm.slots = n') (hkR : k' ≤ R.cells) (hnR : n' ≤ R.slots)
    (G : ∀ T' v h', own_S p l e R s m args below meth c n0 T' h' k' n' → Q v h' → own_Go p e below (T'.setTop (mkF m pc' Ls (v.toList ++ rest))) P) : own_Go p e below (T.setTop (mkF m pc Ls st)) P := by
  obtain ⟨locs, X, eT, N0⟩ := X
  subst hp hk hn
  have bk := backOf (p := p) (e := e) (below := below) (args := args) (len := 3) (W := W) (Q := fun v h' L => Fr n0 L ∧ Q v h') hM B.2.1 w4 w3 hf hl
  obtain ⟨cq, kq, qa, qb, qc⟩ := isOf B.2.1 eT E
  obtain ⟨v, vm₁, ⟨T', L', k1, n1⟩, hW1, X', ⟨Lc, hQ, l1, y1, z1⟩, stp⟩ := X.virtualBack B.1 (y := y) (z := y) B.2.2.2.1 (mvT B.2.1 w1) (mvT B.2.1 w2) (notFace_of_selects (args := #[]) (mvT B.2.1 w5)) (mvT B.2.1 w5) (mvT B.2.1 w6) hy bk qa qc (g := mkF m pc Ls st) rfl (by rw [B.2.2.1]; exact hsz) (Steps.refl _) (argsL := argsL) (rest := rest) (lenOf hpd hln) hst (by show 2 * 0 + _ ≤ _; omega) (hb B.2.2.2.2.2.2.2 d) (fun _ _ => ⟨rfl, eT, hkR, hnR⟩)
  dsimp only [Pt.U, Pt.locs, Pt.cells, Pt.slots] at X' l1 y1 z1 stp hQ
  subst l1 y1 z1
  exact own_by (fun _ k => stp.trans k) (G T' v _ ⟨_, X', rfl, N0.app hQ.1⟩ hQ.2)
theorem own_callP (B : own_B p s m meth c Z own nm bytes maxL ret) (X : own_S p l e R s m args below meth c n0 T h cells slots) {i : Nat} {a : Addr} {y : MethodName} {yb : ByteArray} {yl : Nat} {yr : Option FieldType} {n : Nat} (w1 : (Cond.methodLink own i y).before a0 Z = true) (w2 : (Cond.instanceMethod y).before a0 Z = true) (w5 : (Cond.privateMethod y).before a0 Z = true) (w6 : (Cond.instantiable y.cls n).before a0 Z = true) (w3 : (Cond.initialized y.cls).before a0 Z = true) (w4 : (Cond.code y yb yl yr).before a0 Z = true) (E : Exa Z h a y.cls) (hy : y.cls ≠ "java/lang/invoke/MethodHandle" ∧ y.cls ≠ "java/lang/invoke/VarHandle") {rm : Room} {Q : Option Value → Heap → Prop} (argsL rest : List Value)
    (hM : MetFree l y (head1 [Jvm.Cond.code y yb yl yr] rm) (fun b U => b = (Value.ref a :: argsL).toArray ∧ Z.Warmed39 U.vm ∧ U.heap = h) (fun _ _ _ _ _ => True) (fun _ U o U' => ∃ v L, o = .returned v ∧ (Fr n0 L ∧ Q v U'.heap) ∧ FrameEnd U o U' L rm.cells rm.slots))
    (W : Nat) (hf : rm.frames + 1 ≤ R.frames) (hl : W + (yl + 11) + rm.locals ≤ R.locals) (hsz : Ls.size = maxL) {ps : List FieldType} {rt : Option FieldType} (hpd : parseMethodDescriptor y.desc = some ⟨ps, rt⟩) (hln : argsL.length = ps.length) (hst : st = argsL.reverse ++ .ref a :: rest) (hW : (rest.map fun v => v.category).sum ≤ W) (d : decode bytes pc = .ok (.invokevirtual i, 3)) (hp : pc + 3 = pc') {k' n' : Nat} (hk : cells + rm.cells = k') (hn : slots + rm.slots = n') (hkR : k' ≤ R.cells) (hnR : n' ≤ R.slots)
    (G : ∀ T' v h', own_S p l e R s m args below meth c n0 T' h' k' n' → Q v h' → own_Go p e below (T'.setTop (mkF m pc' Ls (v.toList ++ rest))) P) : own_Go p e below (T.setTop (mkF m pc Ls st)) P := by
  obtain ⟨locs, X, eT, N0⟩ := X
  subst hp hk hn
  have bk := backOf (p := p) (e := e) (below := below) (args := args) (len := 3) (W := W) (Q := fun v h' L => Fr n0 L ∧ Q v h') hM B.2.1 w4 w3 hf hl
  obtain ⟨cq, q1, q2⟩ := E.cell
  have hpr := Cond.privateMethod_at (mvP B.2.1 w5 (args := #[]))
  have wi : (Cond.instantiable y.cls n).before #[] s = true := mvT B.2.1 w6
  obtain ⟨ci, ki, i1, i2, i3, i4, -⟩ := Cond.instantiable_spec wi
  have hsel : (Cond.selects y.cls y y).before args s = true := selects_self_of_private i1 i2 (by cases hh : ki.isInterface <;> simp [hh] at i4 ⊢) hpr (mvT B.2.1 w2) hy
  obtain ⟨v, vm₁, ⟨T', L', k1, n1⟩, hW1, X', ⟨Lc, hQ, l1, y1, z1⟩, stp⟩ := X.privateBack B.1 (y := y) B.2.2.2.1 (mvT B.2.1 w1) (mvT B.2.1 w2) hsel hpr (mvT B.2.1 w4) hy bk (g := mkF m pc Ls st) rfl (by rw [B.2.2.1]; exact hsz) (Steps.refl _) (a := a) (by rw [eT]; exact q1) q2 (argsL := argsL) (rest := rest) (lenOf hpd hln) hst (by show 2 * 0 + _ ≤ _; omega) (hb B.2.2.2.2.2.2.2 d) (fun _ _ => ⟨rfl, eT, hkR, hnR⟩)
  dsimp only [Pt.U, Pt.locs, Pt.cells, Pt.slots] at X' l1 y1 z1 stp hQ
  subst l1 y1 z1
  exact own_by (fun _ k => stp.trans k) (G T' v _ ⟨_, X', rfl, N0.app hQ.1⟩ hQ.2)
theorem own_sz {h1 : Heap} {ws : List Addr} {b : Addr} (K : Keep h0 h1 ws) (g : b = h1.size) : h0.size ≤ b := g ▸ K.1
theorem own_ne {h1 : Heap} {x b : Addr} (q : x < h1.size) (g : b = h1.size) : x ≠ b := fun u => by rw [u, g] at q; exact Nat.lt_irrefl _ q
theorem own_ne' {h1 : Heap} {x b : Addr} (q : x < h1.size) (g : h1.size ≤ b) : x ≠ b := Nat.ne_of_lt (Nat.lt_of_lt_of_le q g)
end OwnKit
section OwnNum
theorem own_idem_i2b {x y : Int32} (h : x.toInt8.toInt32 = y) : y.toInt8.toInt32 = y := by subst h; simp
theorem own_w {a0 : Array Value} {Z : State} (hw : ∀ d ∈ tables_1, d.before a0 Z = true) (i : Nat) {d : Jvm.Cond} (hd : tables_1[i]? = some d) : d.before a0 Z = true := hw _ (List.mem_of_getElem? hd)
theorem own_eq {x y : Int32} (h : x = y) : x.toInt = y.toInt := congrArg Int32.toInt h
theorem own_eqI {x y : Int32} (h : x.toInt = y.toInt) : x = y := Int32.toInt_inj.mp h
theorem own_o_mask {x m z : Int32} (h : x &&& m = z) (k : Nat) (hk : k ≤ 31) (hm : m.toBitVec.toNat = 2 ^ k - 1) : z.toInt = x.toInt % (2 ^ k : Nat) := h ▸ c_mask x m k hk hm
theorem own_o_irem {x y z : Int32} (h : x % y = z) (d : Int) (hy : y.toInt = d) : (0 ≤ x.toInt → z.toInt = x.toInt % d) ∧ (x.toInt < 0 → z.toInt = -((-x.toInt) % d)) := h ▸ c_irem x y d hy
theorem own_o_ishr {x q z : Int32} (h : x >>> (q &&& 31) = z) (k : Nat) (hk : q.toBitVec.toNat % 32 = k) : z.toInt = x.toInt / (2 ^ k : Nat) := h ▸ c_ishr x q k hk
theorem own_o_iushr {x q z : Int32} (h : (x.toUInt32 >>> (q &&& 31).toUInt32).toInt32 = z) (k : Nat) (hk : q.toBitVec.toNat % 32 = k) (h0 : 0 < k) : z.toInt = (x.toInt % 4294967296) / (2 ^ k : Nat) := h ▸ c_iushr x q k hk h0
theorem own_o_i2b {x z : Int32} (h : x.toInt8.toInt32 = z) : (z.toInt - x.toInt) % 256 = 0 ∧ -128 ≤ z.toInt ∧ z.toInt < 128 := h ▸ c_i2b x
theorem own_nat (x : Int32) : (x.toInt - (x.toBitVec.toNat : Int)) % 4294967296 = 0 := by
  rw [Int32.toInt, BitVec.toInt_eq_toNat_bmod]
  have := Int.bmod_emod (x := (x.toBitVec.toNat : Int)) (m := 2 ^ 32)
  omega
theorem own_and65280n (n : Nat) : n &&& 65280 = n % 65536 - n % 256 := by
  have e : n % 65536 - n % 256 = (n / 2 ^ 8 % 2 ^ 8) * 2 ^ 8 := by omega
  rw [e]
  apply Nat.eq_of_testBit_eq
  intro i
  have e2 : (65280 : Nat) = (2 ^ 8 - 1) * 2 ^ 8 := rfl
  rw [Nat.testBit_and, e2, Nat.testBit_mul_two_pow, Nat.testBit_two_pow_sub_one, Nat.testBit_mul_two_pow, Nat.testBit_mod_two_pow, Nat.testBit_div_two_pow]
  by_cases h : 8 ≤ i
  · simp only [h, decide_true, Bool.true_and]
    rw [Nat.sub_add_cancel h]
    rw [Bool.and_comm]
  · simp [h]
theorem own_and65280 (x : Int32) : (x &&& (65280 : Int32)).toInt = x.toInt % 65536 - x.toInt % 256 := by
  have h1 := own_nat x
  have h3 := own_nat (x &&& 65280)
  have e : (x &&& (65280 : Int32)).toBitVec.toNat = x.toBitVec.toNat &&& 65280 := by simp
  rw [e, own_and65280n] at h3
  have := (x &&& 65280).toInt_lt
  have := (x &&& 65280).le_toInt
  omega
theorem own_o_and65280 {x z : Int32} (h : x &&& (65280 : Int32) = z) : z.toInt = x.toInt % 65536 - x.toInt % 256 := h ▸ own_and65280 x
end OwnNum

theorem d1_0 : decode prog_64_method_1_code 0 = .ok (.aload_n 0, 1) := by decide +kernel
theorem d1_1 : decode prog_64_method_1_code 1 = .ok (.invokespecial 1, 3) := by decide +kernel
theorem d1_4 : decode prog_64_method_1_code 4 = .ok (.aload_n 0, 1) := by decide +kernel
theorem d1_5 : decode prog_64_method_1_code 5 = .ok (.bipush 64, 2) := by decide +kernel
theorem d1_7 : decode prog_64_method_1_code 7 = .ok (.newarray .byte, 2) := by decide +kernel
theorem d1_9 : decode prog_64_method_1_code 9 = .ok (.putfield 7, 3) := by decide +kernel
theorem d1_12 : decode prog_64_method_1_code 12 = .ok (.return_, 1) := by decide +kernel
theorem pn_0 : plainName "demitasse/interp/Bytes" = true := by first | (simp [plainName, overriddenIn]; done) | decide +kernel
theorem pd_0 : parseMethodDescriptor "()V" = some ⟨[], none⟩ := by decide +kernel
theorem d3_0 : decode prog_64_method_5_code 0 = .ok (.aload_n 0, 1) := by decide +kernel
theorem d3_1 : decode prog_64_method_5_code 1 = .ok (.iload_n 1, 1) := by decide +kernel
theorem d3_2 : decode prog_64_method_5_code 2 = .ok (.bipush 16, 2) := by decide +kernel
theorem d3_4 : decode prog_64_method_5_code 4 = .ok (.iushr, 1) := by decide +kernel
theorem d3_5 : decode prog_64_method_5_code 5 = .ok (.invokevirtual 24, 3) := by decide +kernel
theorem d4_0 : decode prog_64_method_4_code 0 = .ok (.aload_n 0, 1) := by decide +kernel
theorem d4_1 : decode prog_64_method_4_code 1 = .ok (.iload_n 1, 1) := by decide +kernel
theorem d4_2 : decode prog_64_method_4_code 2 = .ok (.bipush 8, 2) := by decide +kernel
theorem d4_4 : decode prog_64_method_4_code 4 = .ok (.iushr, 1) := by decide +kernel
theorem d4_5 : decode prog_64_method_4_code 5 = .ok (.invokevirtual 21, 3) := by decide +kernel
theorem d5_0 : decode prog_64_method_3_code 0 = .ok (.aload_n 0, 1) := by decide +kernel
theorem d5_1 : decode prog_64_method_3_code 1 = .ok (.iconst 1, 1) := by decide +kernel
theorem d5_2 : decode prog_64_method_3_code 2 = .ok (.invokevirtual 17, 3) := by decide +kernel
theorem d6_0 : decode prog_64_method_10_code 0 = .ok (.aload_n 0, 1) := by decide +kernel
theorem d6_1 : decode prog_64_method_10_code 1 = .ok (.getfield 13, 3) := by decide +kernel
theorem d6_4 : decode prog_64_method_10_code 4 = .ok (.iload_n 1, 1) := by decide +kernel
theorem d6_5 : decode prog_64_method_10_code 5 = .ok (.iadd, 1) := by decide +kernel
theorem d6_6 : decode prog_64_method_10_code 6 = .ok (.aload_n 0, 1) := by decide +kernel
theorem d6_7 : decode prog_64_method_10_code 7 = .ok (.getfield 7, 3) := by decide +kernel
theorem d6_10 : decode prog_64_method_10_code 10 = .ok (.arraylength, 1) := by decide +kernel
theorem d6_11 : decode prog_64_method_10_code 11 = .ok (.if_icmp .le 30, 3) := by decide +kernel
theorem d6_41 : decode prog_64_method_10_code 41 = .ok (.return_, 1) := by decide +kernel
theorem pd_1 : parseMethodDescriptor "(I)V" = some ⟨[.int], none⟩ := by decide +kernel
theorem d5_5 : decode prog_64_method_3_code 5 = .ok (.aload_n 0, 1) := by decide +kernel
theorem d5_6 : decode prog_64_method_3_code 6 = .ok (.getfield 7, 3) := by decide +kernel
theorem d5_9 : decode prog_64_method_3_code 9 = .ok (.aload_n 0, 1) := by decide +kernel
theorem d5_10 : decode prog_64_method_3_code 10 = .ok (.dup, 1) := by decide +kernel
theorem d5_11 : decode prog_64_method_3_code 11 = .ok (.getfield 13, 3) := by decide +kernel
theorem d5_14 : decode prog_64_method_3_code 14 = .ok (.dup_x1, 1) := by decide +kernel
theorem d5_15 : decode prog_64_method_3_code 15 = .ok (.iconst 1, 1) := by decide +kernel
theorem d5_16 : decode prog_64_method_3_code 16 = .ok (.iadd, 1) := by decide +kernel
theorem d5_17 : decode prog_64_method_3_code 17 = .ok (.putfield 13, 3) := by decide +kernel
theorem d5_20 : decode prog_64_method_3_code 20 = .ok (.iload_n 1, 1) := by decide +kernel
theorem d5_21 : decode prog_64_method_3_code 21 = .ok (.i2b, 1) := by decide +kernel
theorem d5_22 : decode prog_64_method_3_code 22 = .ok (.bastore, 1) := by decide +kernel
theorem d5_23 : decode prog_64_method_3_code 23 = .ok (.return_, 1) := by decide +kernel
theorem d4_8 : decode prog_64_method_4_code 8 = .ok (.aload_n 0, 1) := by decide +kernel
theorem d4_9 : decode prog_64_method_4_code 9 = .ok (.iload_n 1, 1) := by decide +kernel
theorem d4_10 : decode prog_64_method_4_code 10 = .ok (.invokevirtual 21, 3) := by decide +kernel
theorem d4_13 : decode prog_64_method_4_code 13 = .ok (.return_, 1) := by decide +kernel
theorem d3_8 : decode prog_64_method_5_code 8 = .ok (.aload_n 0, 1) := by decide +kernel
theorem d3_9 : decode prog_64_method_5_code 9 = .ok (.iload_n 1, 1) := by decide +kernel
theorem d3_10 : decode prog_64_method_5_code 10 = .ok (.invokevirtual 24, 3) := by decide +kernel
theorem d3_13 : decode prog_64_method_5_code 13 = .ok (.return_, 1) := by decide +kernel
theorem d7_0 : decode prog_64_method_6_code 0 = .ok (.aload_n 0, 1) := by decide +kernel
theorem d7_1 : decode prog_64_method_6_code 1 = .ok (.getfield 7, 3) := by decide +kernel
theorem d7_4 : decode prog_64_method_6_code 4 = .ok (.iload_n 1, 1) := by decide +kernel
theorem d7_5 : decode prog_64_method_6_code 5 = .ok (.iload_n 2, 1) := by decide +kernel
theorem d7_6 : decode prog_64_method_6_code 6 = .ok (.bipush 8, 2) := by decide +kernel
theorem d7_8 : decode prog_64_method_6_code 8 = .ok (.iushr, 1) := by decide +kernel
theorem d7_9 : decode prog_64_method_6_code 9 = .ok (.i2b, 1) := by decide +kernel
theorem d7_10 : decode prog_64_method_6_code 10 = .ok (.bastore, 1) := by decide +kernel
theorem d7_11 : decode prog_64_method_6_code 11 = .ok (.aload_n 0, 1) := by decide +kernel
theorem d7_12 : decode prog_64_method_6_code 12 = .ok (.getfield 7, 3) := by decide +kernel
theorem d7_15 : decode prog_64_method_6_code 15 = .ok (.iload_n 1, 1) := by decide +kernel
theorem d7_16 : decode prog_64_method_6_code 16 = .ok (.iconst 1, 1) := by decide +kernel
theorem d7_17 : decode prog_64_method_6_code 17 = .ok (.iadd, 1) := by decide +kernel
theorem d7_18 : decode prog_64_method_6_code 18 = .ok (.iload_n 2, 1) := by decide +kernel
theorem d7_19 : decode prog_64_method_6_code 19 = .ok (.i2b, 1) := by decide +kernel
theorem d7_20 : decode prog_64_method_6_code 20 = .ok (.bastore, 1) := by decide +kernel
theorem d7_21 : decode prog_64_method_6_code 21 = .ok (.return_, 1) := by decide +kernel
theorem pd_2 : parseMethodDescriptor "(II)V" = some ⟨[.int, .int], none⟩ := by decide +kernel
theorem d8_0 : decode prog_64_method_2_code 0 = .ok (.aload_n 0, 1) := by decide +kernel
theorem d8_1 : decode prog_64_method_2_code 1 = .ok (.getfield 13, 3) := by decide +kernel
theorem d8_4 : decode prog_64_method_2_code 4 = .ok (.ireturn, 1) := by decide +kernel
theorem pd_3 : parseMethodDescriptor "()I" = some ⟨[], some .int⟩ := by decide +kernel
theorem d9_0 : decode prog_64_method_11_code 0 = .ok (.aload_n 0, 1) := by decide +kernel
theorem d9_1 : decode prog_64_method_11_code 1 = .ok (.getfield 7, 3) := by decide +kernel
theorem d9_4 : decode prog_64_method_11_code 4 = .ok (.aload_n 0, 1) := by decide +kernel
theorem d9_5 : decode prog_64_method_11_code 5 = .ok (.getfield 13, 3) := by decide +kernel
theorem d9_8 : decode prog_64_method_11_code 8 = .ok (.invokestatic 43, 3) := by decide +kernel
theorem d10_0 : decode jdk_65_method_121_code 0 = .ok (.iload_n 1, 1) := by decide +kernel
theorem d10_1 : decode jdk_65_method_121_code 1 = .ok (.aload_n 0, 1) := by decide +kernel
theorem d10_2 : decode jdk_65_method_121_code 2 = .ok (.arraylength, 1) := by decide +kernel
theorem d10_3 : decode jdk_65_method_121_code 3 = .ok (.if_icmp .ne 11, 3) := by decide +kernel
theorem d10_14 : decode jdk_65_method_121_code 14 = .ok (.iload_n 1, 1) := by decide +kernel
theorem d10_15 : decode jdk_65_method_121_code 15 = .ok (.newarray .byte, 2) := by decide +kernel
theorem d10_17 : decode jdk_65_method_121_code 17 = .ok (.astore_n 2, 1) := by decide +kernel
theorem d10_18 : decode jdk_65_method_121_code 18 = .ok (.aload_n 0, 1) := by decide +kernel
theorem d10_19 : decode jdk_65_method_121_code 19 = .ok (.iconst 0, 1) := by decide +kernel
theorem d10_20 : decode jdk_65_method_121_code 20 = .ok (.aload_n 2, 1) := by decide +kernel
theorem d10_21 : decode jdk_65_method_121_code 21 = .ok (.iconst 0, 1) := by decide +kernel
theorem d10_22 : decode jdk_65_method_121_code 22 = .ok (.aload_n 0, 1) := by decide +kernel
theorem d10_23 : decode jdk_65_method_121_code 23 = .ok (.arraylength, 1) := by decide +kernel
theorem d10_24 : decode jdk_65_method_121_code 24 = .ok (.iload_n 1, 1) := by decide +kernel
theorem d10_25 : decode jdk_65_method_121_code 25 = .ok (.invokestatic 304, 3) := by decide +kernel
theorem d11_0 : decode jdk_29_method_69_code 0 = .ok (.iload_n 0, 1) := by decide +kernel
theorem d11_1 : decode jdk_29_method_69_code 1 = .ok (.iload_n 1, 1) := by decide +kernel
theorem d11_2 : decode jdk_29_method_69_code 2 = .ok (.if_icmp .gt 7, 3) := by decide +kernel
theorem d11_9 : decode jdk_29_method_69_code 9 = .ok (.iload_n 1, 1) := by decide +kernel
theorem d11_10 : decode jdk_29_method_69_code 10 = .ok (.ireturn, 1) := by decide +kernel
theorem pd_4 : parseMethodDescriptor "(II)I" = some ⟨[.int, .int], some .int⟩ := by decide +kernel
theorem d10_28 : decode jdk_65_method_121_code 28 = .ok (.invokestatic 150, 3) := by decide +kernel
theorem d10_31 : decode jdk_65_method_121_code 31 = .ok (.aload_n 2, 1) := by decide +kernel
theorem d10_32 : decode jdk_65_method_121_code 32 = .ok (.areturn, 1) := by decide +kernel
theorem pn_1 : plainName "java/util/Arrays" = true := by first | (simp [plainName, overriddenIn]; done) | decide +kernel
theorem pd_5 : parseMethodDescriptor "([BI)[B" = some ⟨[(.array .byte), .int], some (.array .byte)⟩ := by decide +kernel
theorem d9_11 : decode prog_64_method_11_code 11 = .ok (.areturn, 1) := by decide +kernel
theorem pd_6 : parseMethodDescriptor "()[B" = some ⟨[], some (.array .byte)⟩ := by decide +kernel
theorem pn_2 : plainName "demitasse/interp/BytesU2AtPinLaw" = true := by first | (simp [plainName, overriddenIn]; done) | decide +kernel
def Q_1 (Z : State) (w0 : Addr) (h0 : Heap) (n0 : Nat) (v : Option Value) (h : Heap) : Prop :=
  (∃ (b2 : Addr) (kb2 : ClassId), v = none ∧ Keep h0 h [w0] ∧ h0.size ≤ b2 ∧ Exa Z h w0 "demitasse/interp/Bytes" ∧ Fld Z h w0 "demitasse/interp/Bytes" "bytes" "[B" (.ref b2) ∧ Fld Z h w0 "demitasse/interp/Bytes" "length" "I" (.int (0 : Int32)) ∧ Exa Z h b2 "[B" ∧ Arv Z h b2 kb2 .byte (64 : Int32) [] (.int (0 : Int32)))
set_option maxRecDepth 65536 in
set_option maxHeartbeats 40000000 in
theorem rm_1 (l : Launch) (Z : State) (a0 : Array Value) (hw : ∀ d ∈ tables_1, d.before a0 Z = true) (ws : List Jvm.Cond) (w0 : Addr) (h0 : Heap) (n0 : Nat) (Z0 : n0 ≤ h0.size) (E_w0 : Exa Z h0 w0 "demitasse/interp/Bytes") (F_w0_bytes : Fld Z h0 w0 "demitasse/interp/Bytes" "bytes" "[B" .null) (F_w0_length : Fld Z h0 w0 "demitasse/interp/Bytes" "length" "I" (.int (0 : Int32))) (g_w0 : n0 ≤ w0) :
    MetFree l (⟨"demitasse/interp/Bytes", "<init>", "()V"⟩ : MethodName) (head1 (Jvm.Cond.code (⟨"demitasse/interp/Bytes", "<init>", "()V"⟩ : MethodName) prog_64_method_1_code 1 none :: ws) ({ frames := 1, cells := 1, slots := 64, locals := 12 } : Room)) (fun a U => a = #[(.ref w0)] ∧ Z.Warmed39 U.vm ∧ U.heap = h0) (fun _ _ _ _ _ => True) (fun _ U o U' => ∃ v L, o = .returned v ∧ (Fr n0 L ∧ Q_1 Z w0 h0 n0 v U'.heap) ∧ FrameEnd U o U' L ({ frames := 1, cells := 1, slots := 64, locals := 12 } : Room).cells ({ frames := 1, cells := 1, slots := 64, locals := 12 } : Room).slots) := by
  refine own_enter (Q := Q_1 Z w0 h0 n0) (F := fun m => mkF m 0 #[.val (.ref w0)] []) (plainFor_of_name pn_0) (fun m => by first | (simp [entryFrame, mkF, argsToLocals, Value.category]; done) | rfl) ?_
  intro p e s m below meth c s₁ B X0
  have K : Keep h0 h0 [w0] := Keep.refl h0 _
  refine own_aloadN (pc' := 1) B X0 d1_0 rfl rfl rfl ?_
  refine own_objinit (pc' := 4) B X0 (own_w hw 6 rfl) (own_w hw 7 rfl) (own_w hw 8 rfl) d1_1 rfl rfl (by decide) 0 (Nat.le_of_eq rfl) (by decide) ?_
  intro T1 X1
  refine own_aloadN (pc' := 5) B X1 d1_4 rfl rfl rfl ?_
  refine own_bipush (pc' := 7) B X1 (z := (64 : Int32)) d1_5 rfl (by decide) ?_
  refine own_newarray (pc' := 9) B X1 (own_w hw 9 rfl) d1_7 rfl rfl (by decide) 64 (by decide) (by decide) (k' := 1) (n' := 64) rfl rfl (by decide) (by decide) "[B" (by decide) (.int (0 : Int32)) rfl ?_
  intro T2 h2 b2 kb2 X2 g2 E2 V_b2 E_b2
  have ne_w0_b2 : w0 ≠ b2 := own_ne E_w0.lt g2
  have sz_b2 : h0.size ≤ b2 := own_sz K g2
  have g_b2 : n0 ≤ b2 := Nat.le_trans Z0 sz_b2
  replace K := K.ext E2
  replace E_w0 := E_w0.ext E2
  replace F_w0_bytes := F_w0_bytes.ext E2
  replace F_w0_length := F_w0_length.ext E2
  refine own_putfield (pc' := 12) B X2 (host := "") (Or.inl (own_w hw 10 rfl)) Via.refl F_w0_bytes E_w0 g_w0 (Or.inl (own_w hw 11 rfl)) (own_w hw 1 rfl) (ty := (.array .byte)) (by decide) rfl rfl d1_9 rfl ?_
  intro T3 h3 X3 W3 F_w0_bytes
  replace E_w0 := E_w0.wr W3
  replace F_w0_length := F_w0_length.other W3 (Or.inr (slot_ne (Or.inl (own_w hw 32 rfl)) (Or.inl (own_w hw 11 rfl)) (by decide) (t := .int) (t' := (.array .byte)) (by decide) (by decide)))
  replace E_b2 := E_b2.wr W3
  replace V_b2 := V_b2.other W3 (Ne.symm ne_w0_b2)
  replace K := K.wr W3 (Or.inl (List.mem_of_getElem? (i := 0) rfl))
  exact own_ret B X3 d1_12 (by decide) (by decide) (⟨b2, kb2, rfl, K, sz_b2, E_w0, F_w0_bytes, F_w0_length, E_b2, V_b2⟩)
def Q_5 (Z : State) (w0 : Addr) (w1 : Addr) (kw1 : ClassId) (h0 : Heap) (n0 : Nat) (v : Option Value) (h : Heap) : Prop :=
  (v = none ∧ h0 = h)
set_option maxRecDepth 65536 in
set_option maxHeartbeats 40000000 in
theorem rm_5 (l : Launch) (Z : State) (a0 : Array Value) (hw : ∀ d ∈ tables_1, d.before a0 Z = true) (ws : List Jvm.Cond) (w0 : Addr) (w1 : Addr) (kw1 : ClassId) (h0 : Heap) (n0 : Nat) (Z0 : n0 ≤ h0.size) (E_w0 : Exa Z h0 w0 "demitasse/interp/Bytes") (F_w0_bytes : Fld Z h0 w0 "demitasse/interp/Bytes" "bytes" "[B" (.ref w1)) (F_w0_length : Fld Z h0 w0 "demitasse/interp/Bytes" "length" "I" (.int (0 : Int32))) (g_w0 : n0 ≤ w0) (E_w1 : Exa Z h0 w1 "[B") (V_w1 : Arv Z h0 w1 kw1 .byte (64 : Int32) [] (.int (0 : Int32))) (g_w1 : n0 ≤ w1) (ne_w0_w1 : w0 ≠ w1) :
    MetFree l (⟨"demitasse/interp/Bytes", "makeRoom", "(I)V"⟩ : MethodName) (head1 (Jvm.Cond.code (⟨"demitasse/interp/Bytes", "makeRoom", "(I)V"⟩ : MethodName) prog_64_method_10_code 2 none :: ws) ({ frames := 0, cells := 0, slots := 0, locals := 0 } : Room)) (fun a U => a = #[(.ref w0), (.int (1 : Int32))] ∧ Z.Warmed39 U.vm ∧ U.heap = h0) (fun _ _ _ _ _ => True) (fun _ U o U' => ∃ v L, o = .returned v ∧ (Fr n0 L ∧ Q_5 Z w0 w1 kw1 h0 n0 v U'.heap) ∧ FrameEnd U o U' L ({ frames := 0, cells := 0, slots := 0, locals := 0 } : Room).cells ({ frames := 0, cells := 0, slots := 0, locals := 0 } : Room).slots) := by
  refine own_enter (Q := Q_5 Z w0 w1 kw1 h0 n0) (F := fun m => mkF m 0 #[.val (.ref w0), .val (.int (1 : Int32))] []) (plainFor_of_name pn_0) (fun m => by first | (simp [entryFrame, mkF, argsToLocals, Value.category]; done) | rfl) ?_
  intro p e s m below meth c s₁ B X0
  have K : Keep h0 h0 [] := Keep.refl h0 _
  refine own_aloadN (pc' := 1) B X0 d6_0 rfl rfl rfl ?_
  refine own_getfield (pc' := 4) B X0 (host := "") (Or.inl (own_w hw 31 rfl)) Via.refl F_w0_length d6_1 rfl ?_
  intro T1 X1
  refine own_iloadN (pc' := 5) B X1 d6_4 rfl rfl ?_
  refine own_iadd (pc' := 6) B X1 (z := (1 : Int32)) d6_5 rfl (by decide) ?_
  refine own_aloadN (pc' := 7) B X1 d6_6 rfl rfl rfl ?_
  refine own_getfield (pc' := 10) B X1 (host := "") (Or.inl (own_w hw 10 rfl)) Via.refl F_w0_bytes d6_7 rfl ?_
  intro T2 X2
  refine own_arraylength (pc' := 11) B X2 V_w1 d6_10 rfl ?_
  refine own_icmpYes (pc' := 41) B X2 d6_11 (flt (by decide : ¬ ((64 : Int32) < (1 : Int32)))).2.2.2 (by decide) rfl ?_
  exact own_ret B X2 d6_41 (by decide) (by decide) (⟨rfl, rfl⟩)
def Q_4 (Z : State) (w0 : Addr) (w1 : Addr) (kw1 : ClassId) (p3 : Int32) (h0 : Heap) (n0 : Nat) (v : Option Value) (h : Heap) : Prop :=
  (∃ (y5 : Int32), p3.toInt8.toInt32 = y5 ∧ v = none ∧ Keep h0 h [w0, w1] ∧ Exa Z h w0 "demitasse/interp/Bytes" ∧ Fld Z h w0 "demitasse/interp/Bytes" "bytes" "[B" (.ref w1) ∧ Fld Z h w0 "demitasse/interp/Bytes" "length" "I" (.int (1 : Int32)) ∧ Exa Z h w1 "[B" ∧ Arv Z h w1 kw1 .byte (64 : Int32) [(.int y5)] (.int (0 : Int32)))
set_option maxRecDepth 65536 in
set_option maxHeartbeats 40000000 in
theorem rm_4 (l : Launch) (Z : State) (a0 : Array Value) (hw : ∀ d ∈ tables_1, d.before a0 Z = true) (ws : List Jvm.Cond) (w0 : Addr) (w1 : Addr) (kw1 : ClassId) (p3 : Int32) (h0 : Heap) (n0 : Nat) (Z0 : n0 ≤ h0.size) (E_w0 : Exa Z h0 w0 "demitasse/interp/Bytes") (F_w0_bytes : Fld Z h0 w0 "demitasse/interp/Bytes" "bytes" "[B" (.ref w1)) (F_w0_length : Fld Z h0 w0 "demitasse/interp/Bytes" "length" "I" (.int (0 : Int32))) (g_w0 : n0 ≤ w0) (E_w1 : Exa Z h0 w1 "[B") (V_w1 : Arv Z h0 w1 kw1 .byte (64 : Int32) [] (.int (0 : Int32))) (g_w1 : n0 ≤ w1) (ne_w0_w1 : w0 ≠ w1) :
    MetFree l (⟨"demitasse/interp/Bytes", "u1", "(I)V"⟩ : MethodName) (head1 (Jvm.Cond.code (⟨"demitasse/interp/Bytes", "u1", "(I)V"⟩ : MethodName) prog_64_method_3_code 2 none :: ws) ({ frames := 1, cells := 0, slots := 0, locals := 13 } : Room)) (fun a U => a = #[(.ref w0), (.int p3)] ∧ Z.Warmed39 U.vm ∧ U.heap = h0) (fun _ _ _ _ _ => True) (fun _ U o U' => ∃ v L, o = .returned v ∧ (Fr n0 L ∧ Q_4 Z w0 w1 kw1 p3 h0 n0 v U'.heap) ∧ FrameEnd U o U' L ({ frames := 1, cells := 0, slots := 0, locals := 13 } : Room).cells ({ frames := 1, cells := 0, slots := 0, locals := 13 } : Room).slots) := by
  refine own_enter (Q := Q_4 Z w0 w1 kw1 p3 h0 n0) (F := fun m => mkF m 0 #[.val (.ref w0), .val (.int p3)] []) (plainFor_of_name pn_0) (fun m => by first | (simp [entryFrame, mkF, argsToLocals, Value.category]; done) | rfl) ?_
  intro p e s m below meth c s₁ B X0
  have K : Keep h0 h0 [w0, w1] := Keep.refl h0 _
  refine own_aloadN (pc' := 1) B X0 d5_0 rfl rfl rfl ?_
  refine own_iconst (pc' := 2) B X0 (z := (1 : Int32)) d5_1 rfl rfl ?_
  refine own_callP (pc' := 5) B X0 (own_w hw 27 rfl) (own_w hw 28 rfl) (own_w hw 29 rfl) (own_w hw 1 rfl) (own_w hw 2 rfl) (own_w hw 30 rfl) E_w0 (by decide) [(.int (1 : Int32))] [] (rm_5 l Z a0 hw [] w0 w1 kw1 h0 n0 (Nat.le_trans Z0 K.1) E_w0 F_w0_bytes F_w0_length g_w0 E_w1 V_w1 g_w1 ne_w0_w1) 0 (by decide) (by decide) rfl pd_1 rfl rfl (Nat.le_of_eq rfl) d5_2 rfl (k' := 0) (n' := 0) rfl rfl (by decide) (by decide) ?_
  intro T1 v1 h1 X1 q1
  obtain ⟨rfl, rfl⟩ := q1
  show own_Go p e below (T1.setTop (mkF m 5 #[.val (.ref w0), .val (.int p3)] [])) _
  refine own_aloadN (pc' := 6) B X1 d5_5 rfl rfl rfl ?_
  refine own_getfield (pc' := 9) B X1 (host := "") (Or.inl (own_w hw 10 rfl)) Via.refl F_w0_bytes d5_6 rfl ?_
  intro T2 X2
  refine own_aloadN (pc' := 10) B X2 d5_9 rfl rfl rfl ?_
  refine own_dup (pc' := 11) B X2 d5_10 rfl rfl ?_
  refine own_getfield (pc' := 14) B X2 (host := "") (Or.inl (own_w hw 31 rfl)) Via.refl F_w0_length d5_11 rfl ?_
  intro T3 X3
  refine own_dup_x1 (pc' := 15) B X3 d5_14 rfl rfl rfl ?_
  refine own_iconst (pc' := 16) B X3 (z := (1 : Int32)) d5_15 rfl rfl ?_
  refine own_iadd (pc' := 17) B X3 (z := (1 : Int32)) d5_16 rfl (by decide) ?_
  refine own_putfield (pc' := 20) B X3 (host := "") (Or.inl (own_w hw 31 rfl)) Via.refl F_w0_length E_w0 g_w0 (Or.inl (own_w hw 32 rfl)) (own_w hw 1 rfl) (ty := .int) (by decide) rfl rfl d5_17 rfl ?_
  intro T4 h4 X4 W4 F_w0_length
  replace E_w0 := E_w0.wr W4
  replace F_w0_bytes := F_w0_bytes.other W4 (Or.inr (slot_ne (Or.inl (own_w hw 11 rfl)) (Or.inl (own_w hw 32 rfl)) (by decide) (t := (.array .byte)) (t' := .int) (by decide) (by decide)))
  replace E_w1 := E_w1.wr W4
  replace V_w1 := V_w1.other W4 (Ne.symm ne_w0_w1)
  replace K := K.wr W4 (Or.inl (List.mem_of_getElem? (i := 0) rfl))
  refine own_iloadN (pc' := 21) B X4 d5_20 rfl rfl ?_
  obtain ⟨y5, hy5⟩ : ∃ z : Int32, p3.toInt8.toInt32 = z := ⟨_, rfl⟩
  refine own_i2b (pc' := 22) B X4 d5_21 rfl hy5 ?_
  replace V_w1 : Arv Z h4 w1 kw1 .byte (64 : Int32) [(.int (0 : Int32))] (.int (0 : Int32)) := V_w1.pad (pad_rep [] (.int (0 : Int32)) 1)
  refine own_bastore (pc' := 23) B X4 (x' := y5) V_w1 g_w1 ⟨by decide, by decide⟩ 0 (by decide) (Nat.le_of_ble_eq_true rfl) (own_idem_i2b hy5) d5_22 rfl ?_
  intro T6 h6 X6 W6 V_w1
  replace V_w1 : Arv Z h6 w1 kw1 .byte (64 : Int32) [(.int y5)] (.int (0 : Int32)) := V_w1
  replace E_w0 := E_w0.wr W6
  replace F_w0_bytes := F_w0_bytes.other W6 (Or.inl ne_w0_w1)
  replace F_w0_length := F_w0_length.other W6 (Or.inl ne_w0_w1)
  replace E_w1 := E_w1.wr W6
  replace K := K.wr W6 (Or.inl (List.mem_of_getElem? (i := 1) rfl))
  exact own_ret B X6 d5_23 (by decide) (by decide) (⟨y5, hy5, rfl, K, E_w0, F_w0_bytes, F_w0_length, E_w1, V_w1⟩)
def Q_7 (Z : State) (w0 : Addr) (w1 : Addr) (kw1 : ClassId) (p3 : Int32) (h0 : Heap) (n0 : Nat) (v : Option Value) (h : Heap) : Prop :=
  (v = none ∧ h0 = h)
set_option maxRecDepth 65536 in
set_option maxHeartbeats 40000000 in
theorem rm_7 (l : Launch) (Z : State) (a0 : Array Value) (hw : ∀ d ∈ tables_1, d.before a0 Z = true) (ws : List Jvm.Cond) (w0 : Addr) (w1 : Addr) (kw1 : ClassId) (p3 : Int32) (h0 : Heap) (n0 : Nat) (Z0 : n0 ≤ h0.size) (E_w0 : Exa Z h0 w0 "demitasse/interp/Bytes") (F_w0_bytes : Fld Z h0 w0 "demitasse/interp/Bytes" "bytes" "[B" (.ref w1)) (F_w0_length : Fld Z h0 w0 "demitasse/interp/Bytes" "length" "I" (.int (1 : Int32))) (g_w0 : n0 ≤ w0) (E_w1 : Exa Z h0 w1 "[B") (V_w1 : Arv Z h0 w1 kw1 .byte (64 : Int32) [(.int p3)] (.int (0 : Int32))) (g_w1 : n0 ≤ w1) (ne_w0_w1 : w0 ≠ w1) :
    MetFree l (⟨"demitasse/interp/Bytes", "makeRoom", "(I)V"⟩ : MethodName) (head1 (Jvm.Cond.code (⟨"demitasse/interp/Bytes", "makeRoom", "(I)V"⟩ : MethodName) prog_64_method_10_code 2 none :: ws) ({ frames := 0, cells := 0, slots := 0, locals := 0 } : Room)) (fun a U => a = #[(.ref w0), (.int (1 : Int32))] ∧ Z.Warmed39 U.vm ∧ U.heap = h0) (fun _ _ _ _ _ => True) (fun _ U o U' => ∃ v L, o = .returned v ∧ (Fr n0 L ∧ Q_7 Z w0 w1 kw1 p3 h0 n0 v U'.heap) ∧ FrameEnd U o U' L ({ frames := 0, cells := 0, slots := 0, locals := 0 } : Room).cells ({ frames := 0, cells := 0, slots := 0, locals := 0 } : Room).slots) := by
  refine own_enter (Q := Q_7 Z w0 w1 kw1 p3 h0 n0) (F := fun m => mkF m 0 #[.val (.ref w0), .val (.int (1 : Int32))] []) (plainFor_of_name pn_0) (fun m => by first | (simp [entryFrame, mkF, argsToLocals, Value.category]; done) | rfl) ?_
  intro p e s m below meth c s₁ B X0
  have K : Keep h0 h0 [] := Keep.refl h0 _
  refine own_aloadN (pc' := 1) B X0 d6_0 rfl rfl rfl ?_
  refine own_getfield (pc' := 4) B X0 (host := "") (Or.inl (own_w hw 31 rfl)) Via.refl F_w0_length d6_1 rfl ?_
  intro T1 X1
  refine own_iloadN (pc' := 5) B X1 d6_4 rfl rfl ?_
  refine own_iadd (pc' := 6) B X1 (z := (2 : Int32)) d6_5 rfl (by decide) ?_
  refine own_aloadN (pc' := 7) B X1 d6_6 rfl rfl rfl ?_
  refine own_getfield (pc' := 10) B X1 (host := "") (Or.inl (own_w hw 10 rfl)) Via.refl F_w0_bytes d6_7 rfl ?_
  intro T2 X2
  refine own_arraylength (pc' := 11) B X2 V_w1 d6_10 rfl ?_
  refine own_icmpYes (pc' := 41) B X2 d6_11 (flt (by decide : ¬ ((64 : Int32) < (2 : Int32)))).2.2.2 (by decide) rfl ?_
  exact own_ret B X2 d6_41 (by decide) (by decide) (⟨rfl, rfl⟩)
def Q_6 (Z : State) (w0 : Addr) (w1 : Addr) (kw1 : ClassId) (p3 : Int32) (p4 : Int32) (h0 : Heap) (n0 : Nat) (v : Option Value) (h : Heap) : Prop :=
  (∃ (y5 : Int32), p4.toInt8.toInt32 = y5 ∧ v = none ∧ Keep h0 h [w0, w1] ∧ Exa Z h w0 "demitasse/interp/Bytes" ∧ Fld Z h w0 "demitasse/interp/Bytes" "bytes" "[B" (.ref w1) ∧ Fld Z h w0 "demitasse/interp/Bytes" "length" "I" (.int (2 : Int32)) ∧ Exa Z h w1 "[B" ∧ Arv Z h w1 kw1 .byte (64 : Int32) [(.int p3), (.int y5)] (.int (0 : Int32)))
set_option maxRecDepth 65536 in
set_option maxHeartbeats 40000000 in
theorem rm_6 (l : Launch) (Z : State) (a0 : Array Value) (hw : ∀ d ∈ tables_1, d.before a0 Z = true) (ws : List Jvm.Cond) (w0 : Addr) (w1 : Addr) (kw1 : ClassId) (p3 : Int32) (p4 : Int32) (h0 : Heap) (n0 : Nat) (Z0 : n0 ≤ h0.size) (E_w0 : Exa Z h0 w0 "demitasse/interp/Bytes") (F_w0_bytes : Fld Z h0 w0 "demitasse/interp/Bytes" "bytes" "[B" (.ref w1)) (F_w0_length : Fld Z h0 w0 "demitasse/interp/Bytes" "length" "I" (.int (1 : Int32))) (g_w0 : n0 ≤ w0) (E_w1 : Exa Z h0 w1 "[B") (V_w1 : Arv Z h0 w1 kw1 .byte (64 : Int32) [(.int p3)] (.int (0 : Int32))) (g_w1 : n0 ≤ w1) (ne_w0_w1 : w0 ≠ w1) :
    MetFree l (⟨"demitasse/interp/Bytes", "u1", "(I)V"⟩ : MethodName) (head1 (Jvm.Cond.code (⟨"demitasse/interp/Bytes", "u1", "(I)V"⟩ : MethodName) prog_64_method_3_code 2 none :: ws) ({ frames := 1, cells := 0, slots := 0, locals := 13 } : Room)) (fun a U => a = #[(.ref w0), (.int p4)] ∧ Z.Warmed39 U.vm ∧ U.heap = h0) (fun _ _ _ _ _ => True) (fun _ U o U' => ∃ v L, o = .returned v ∧ (Fr n0 L ∧ Q_6 Z w0 w1 kw1 p3 p4 h0 n0 v U'.heap) ∧ FrameEnd U o U' L ({ frames := 1, cells := 0, slots := 0, locals := 13 } : Room).cells ({ frames := 1, cells := 0, slots := 0, locals := 13 } : Room).slots) := by
  refine own_enter (Q := Q_6 Z w0 w1 kw1 p3 p4 h0 n0) (F := fun m => mkF m 0 #[.val (.ref w0), .val (.int p4)] []) (plainFor_of_name pn_0) (fun m => by first | (simp [entryFrame, mkF, argsToLocals, Value.category]; done) | rfl) ?_
  intro p e s m below meth c s₁ B X0
  have K : Keep h0 h0 [w0, w1] := Keep.refl h0 _
  refine own_aloadN (pc' := 1) B X0 d5_0 rfl rfl rfl ?_
  refine own_iconst (pc' := 2) B X0 (z := (1 : Int32)) d5_1 rfl rfl ?_
  refine own_callP (pc' := 5) B X0 (own_w hw 27 rfl) (own_w hw 28 rfl) (own_w hw 29 rfl) (own_w hw 1 rfl) (own_w hw 2 rfl) (own_w hw 30 rfl) E_w0 (by decide) [(.int (1 : Int32))] [] (rm_7 l Z a0 hw [] w0 w1 kw1 (p3) h0 n0 (Nat.le_trans Z0 K.1) E_w0 F_w0_bytes F_w0_length g_w0 E_w1 V_w1 g_w1 ne_w0_w1) 0 (by decide) (by decide) rfl pd_1 rfl rfl (Nat.le_of_eq rfl) d5_2 rfl (k' := 0) (n' := 0) rfl rfl (by decide) (by decide) ?_
  intro T1 v1 h1 X1 q1
  obtain ⟨rfl, rfl⟩ := q1
  show own_Go p e below (T1.setTop (mkF m 5 #[.val (.ref w0), .val (.int p4)] [])) _
  refine own_aloadN (pc' := 6) B X1 d5_5 rfl rfl rfl ?_
  refine own_getfield (pc' := 9) B X1 (host := "") (Or.inl (own_w hw 10 rfl)) Via.refl F_w0_bytes d5_6 rfl ?_
  intro T2 X2
  refine own_aloadN (pc' := 10) B X2 d5_9 rfl rfl rfl ?_
  refine own_dup (pc' := 11) B X2 d5_10 rfl rfl ?_
  refine own_getfield (pc' := 14) B X2 (host := "") (Or.inl (own_w hw 31 rfl)) Via.refl F_w0_length d5_11 rfl ?_
  intro T3 X3
  refine own_dup_x1 (pc' := 15) B X3 d5_14 rfl rfl rfl ?_
  refine own_iconst (pc' := 16) B X3 (z := (1 : Int32)) d5_15 rfl rfl ?_
  refine own_iadd (pc' := 17) B X3 (z := (2 : Int32)) d5_16 rfl (by decide) ?_
  refine own_putfield (pc' := 20) B X3 (host := "") (Or.inl (own_w hw 31 rfl)) Via.refl F_w0_length E_w0 g_w0 (Or.inl (own_w hw 32 rfl)) (own_w hw 1 rfl) (ty := .int) (by decide) rfl rfl d5_17 rfl ?_
  intro T4 h4 X4 W4 F_w0_length
  replace E_w0 := E_w0.wr W4
  replace F_w0_bytes := F_w0_bytes.other W4 (Or.inr (slot_ne (Or.inl (own_w hw 11 rfl)) (Or.inl (own_w hw 32 rfl)) (by decide) (t := (.array .byte)) (t' := .int) (by decide) (by decide)))
  replace E_w1 := E_w1.wr W4
  replace V_w1 := V_w1.other W4 (Ne.symm ne_w0_w1)
  replace K := K.wr W4 (Or.inl (List.mem_of_getElem? (i := 0) rfl))
  refine own_iloadN (pc' := 21) B X4 d5_20 rfl rfl ?_
  obtain ⟨y5, hy5⟩ : ∃ z : Int32, p4.toInt8.toInt32 = z := ⟨_, rfl⟩
  refine own_i2b (pc' := 22) B X4 d5_21 rfl hy5 ?_
  replace V_w1 : Arv Z h4 w1 kw1 .byte (64 : Int32) [(.int p3), (.int (0 : Int32))] (.int (0 : Int32)) := V_w1.pad (pad_rep [(.int p3)] (.int (0 : Int32)) 1)
  refine own_bastore (pc' := 23) B X4 (x' := y5) V_w1 g_w1 ⟨by decide, by decide⟩ 1 (by decide) (Nat.le_of_ble_eq_true rfl) (own_idem_i2b hy5) d5_22 rfl ?_
  intro T6 h6 X6 W6 V_w1
  replace V_w1 : Arv Z h6 w1 kw1 .byte (64 : Int32) [(.int p3), (.int y5)] (.int (0 : Int32)) := V_w1
  replace E_w0 := E_w0.wr W6
  replace F_w0_bytes := F_w0_bytes.other W6 (Or.inl ne_w0_w1)
  replace F_w0_length := F_w0_length.other W6 (Or.inl ne_w0_w1)
  replace E_w1 := E_w1.wr W6
  replace K := K.wr W6 (Or.inl (List.mem_of_getElem? (i := 1) rfl))
  exact own_ret B X6 d5_23 (by decide) (by decide) (⟨y5, hy5, rfl, K, E_w0, F_w0_bytes, F_w0_length, E_w1, V_w1⟩)
def Q_3 (Z : State) (w0 : Addr) (w1 : Addr) (kw1 : ClassId) (p3 : Int32) (h0 : Heap) (n0 : Nat) (v : Option Value) (h : Heap) : Prop :=
  (∃ (y1 : Int32) (y3 : Int32) (y6 : Int32), (p3.toUInt32 >>> ((8 : Int32) &&& 31).toUInt32).toInt32 = y1 ∧ y1.toInt8.toInt32 = y3 ∧ p3.toInt8.toInt32 = y6 ∧ v = none ∧ Keep h0 h [w0, w1] ∧ Exa Z h w0 "demitasse/interp/Bytes" ∧ Fld Z h w0 "demitasse/interp/Bytes" "bytes" "[B" (.ref w1) ∧ Fld Z h w0 "demitasse/interp/Bytes" "length" "I" (.int (2 : Int32)) ∧ Exa Z h w1 "[B" ∧ Arv Z h w1 kw1 .byte (64 : Int32) [(.int y3), (.int y6)] (.int (0 : Int32)))
set_option maxRecDepth 65536 in
set_option maxHeartbeats 40000000 in
theorem rm_3 (l : Launch) (Z : State) (a0 : Array Value) (hw : ∀ d ∈ tables_1, d.before a0 Z = true) (ws : List Jvm.Cond) (w0 : Addr) (w1 : Addr) (kw1 : ClassId) (p3 : Int32) (h0 : Heap) (n0 : Nat) (Z0 : n0 ≤ h0.size) (E_w0 : Exa Z h0 w0 "demitasse/interp/Bytes") (F_w0_bytes : Fld Z h0 w0 "demitasse/interp/Bytes" "bytes" "[B" (.ref w1)) (F_w0_length : Fld Z h0 w0 "demitasse/interp/Bytes" "length" "I" (.int (0 : Int32))) (g_w0 : n0 ≤ w0) (E_w1 : Exa Z h0 w1 "[B") (V_w1 : Arv Z h0 w1 kw1 .byte (64 : Int32) [] (.int (0 : Int32))) (g_w1 : n0 ≤ w1) (ne_w0_w1 : w0 ≠ w1) :
    MetFree l (⟨"demitasse/interp/Bytes", "u2", "(I)V"⟩ : MethodName) (head1 (Jvm.Cond.code (⟨"demitasse/interp/Bytes", "u2", "(I)V"⟩ : MethodName) prog_64_method_4_code 2 none :: ws) ({ frames := 2, cells := 0, slots := 0, locals := 26 } : Room)) (fun a U => a = #[(.ref w0), (.int p3)] ∧ Z.Warmed39 U.vm ∧ U.heap = h0) (fun _ _ _ _ _ => True) (fun _ U o U' => ∃ v L, o = .returned v ∧ (Fr n0 L ∧ Q_3 Z w0 w1 kw1 p3 h0 n0 v U'.heap) ∧ FrameEnd U o U' L ({ frames := 2, cells := 0, slots := 0, locals := 26 } : Room).cells ({ frames := 2, cells := 0, slots := 0, locals := 26 } : Room).slots) := by
  refine own_enter (Q := Q_3 Z w0 w1 kw1 p3 h0 n0) (F := fun m => mkF m 0 #[.val (.ref w0), .val (.int p3)] []) (plainFor_of_name pn_0) (fun m => by first | (simp [entryFrame, mkF, argsToLocals, Value.category]; done) | rfl) ?_
  intro p e s m below meth c s₁ B X0
  have K : Keep h0 h0 [w0, w1] := Keep.refl h0 _
  refine own_aloadN (pc' := 1) B X0 d4_0 rfl rfl rfl ?_
  refine own_iloadN (pc' := 2) B X0 d4_1 rfl rfl ?_
  refine own_bipush (pc' := 4) B X0 (z := (8 : Int32)) d4_2 rfl (by decide) ?_
  obtain ⟨y1, hy1⟩ : ∃ z : Int32, (p3.toUInt32 >>> ((8 : Int32) &&& 31).toUInt32).toInt32 = z := ⟨_, rfl⟩
  refine own_iushr (pc' := 5) B X0 d4_4 rfl hy1 ?_
  refine own_callV (pc' := 8) B X0 (own_w hw 22 rfl) (own_w hw 23 rfl) (own_w hw 25 rfl) (own_w hw 24 rfl) (own_w hw 2 rfl) (own_w hw 26 rfl) E_w0 (by decide) [(.int y1)] [] (rm_4 l Z a0 hw [] w0 w1 kw1 (y1) h0 n0 (Nat.le_trans Z0 K.1) E_w0 F_w0_bytes F_w0_length g_w0 E_w1 V_w1 g_w1 ne_w0_w1) 0 (by decide) (by decide) rfl pd_1 rfl rfl (Nat.le_of_eq rfl) d4_5 rfl (k' := 0) (n' := 0) rfl rfl (by decide) (by decide) ?_
  intro T2 v2 h2 X2 q2
  obtain ⟨y3, hy4, rfl, K2, E_w0, F_w0_bytes, F_w0_length, E_w1, V_w1⟩ := q2
  replace K := K.trans K2 (allS (Or.inl (List.mem_of_getElem? (i := 0) rfl)) (allS (Or.inl (List.mem_of_getElem? (i := 1) rfl)) all0))
  show own_Go p e below (T2.setTop (mkF m 8 #[.val (.ref w0), .val (.int p3)] [])) _
  refine own_aloadN (pc' := 9) B X2 d4_8 rfl rfl rfl ?_
  refine own_iloadN (pc' := 10) B X2 d4_9 rfl rfl ?_
  refine own_callV (pc' := 13) B X2 (own_w hw 22 rfl) (own_w hw 23 rfl) (own_w hw 25 rfl) (own_w hw 24 rfl) (own_w hw 2 rfl) (own_w hw 26 rfl) E_w0 (by decide) [(.int p3)] [] (rm_6 l Z a0 hw [] w0 w1 kw1 (y3) (p3) h2 n0 (Nat.le_trans Z0 K.1) E_w0 F_w0_bytes F_w0_length g_w0 E_w1 V_w1 g_w1 ne_w0_w1) 0 (by decide) (by decide) rfl pd_1 rfl rfl (Nat.le_of_eq rfl) d4_10 rfl (k' := 0) (n' := 0) rfl rfl (by decide) (by decide) ?_
  intro T5 v5 h5 X5 q5
  obtain ⟨y6, hy7, rfl, K5, E_w0, F_w0_bytes, F_w0_length, E_w1, V_w1⟩ := q5
  replace K := K.trans K5 (allS (Or.inl (List.mem_of_getElem? (i := 0) rfl)) (allS (Or.inl (List.mem_of_getElem? (i := 1) rfl)) all0))
  show own_Go p e below (T5.setTop (mkF m 13 #[.val (.ref w0), .val (.int p3)] [])) _
  exact own_ret B X5 d4_13 (by decide) (by decide) (⟨y1, y3, y6, hy1, hy4, hy7, rfl, K, E_w0, F_w0_bytes, F_w0_length, E_w1, V_w1⟩)
def Q_10 (Z : State) (w0 : Addr) (w1 : Addr) (kw1 : ClassId) (p3 : Int32) (p4 : Int32) (h0 : Heap) (n0 : Nat) (v : Option Value) (h : Heap) : Prop :=
  (v = none ∧ h0 = h)
set_option maxRecDepth 65536 in
set_option maxHeartbeats 40000000 in
theorem rm_10 (l : Launch) (Z : State) (a0 : Array Value) (hw : ∀ d ∈ tables_1, d.before a0 Z = true) (ws : List Jvm.Cond) (w0 : Addr) (w1 : Addr) (kw1 : ClassId) (p3 : Int32) (p4 : Int32) (h0 : Heap) (n0 : Nat) (Z0 : n0 ≤ h0.size) (E_w0 : Exa Z h0 w0 "demitasse/interp/Bytes") (F_w0_bytes : Fld Z h0 w0 "demitasse/interp/Bytes" "bytes" "[B" (.ref w1)) (F_w0_length : Fld Z h0 w0 "demitasse/interp/Bytes" "length" "I" (.int (2 : Int32))) (g_w0 : n0 ≤ w0) (E_w1 : Exa Z h0 w1 "[B") (V_w1 : Arv Z h0 w1 kw1 .byte (64 : Int32) [(.int p3), (.int p4)] (.int (0 : Int32))) (g_w1 : n0 ≤ w1) (ne_w0_w1 : w0 ≠ w1) :
    MetFree l (⟨"demitasse/interp/Bytes", "makeRoom", "(I)V"⟩ : MethodName) (head1 (Jvm.Cond.code (⟨"demitasse/interp/Bytes", "makeRoom", "(I)V"⟩ : MethodName) prog_64_method_10_code 2 none :: ws) ({ frames := 0, cells := 0, slots := 0, locals := 0 } : Room)) (fun a U => a = #[(.ref w0), (.int (1 : Int32))] ∧ Z.Warmed39 U.vm ∧ U.heap = h0) (fun _ _ _ _ _ => True) (fun _ U o U' => ∃ v L, o = .returned v ∧ (Fr n0 L ∧ Q_10 Z w0 w1 kw1 p3 p4 h0 n0 v U'.heap) ∧ FrameEnd U o U' L ({ frames := 0, cells := 0, slots := 0, locals := 0 } : Room).cells ({ frames := 0, cells := 0, slots := 0, locals := 0 } : Room).slots) := by
  refine own_enter (Q := Q_10 Z w0 w1 kw1 p3 p4 h0 n0) (F := fun m => mkF m 0 #[.val (.ref w0), .val (.int (1 : Int32))] []) (plainFor_of_name pn_0) (fun m => by first | (simp [entryFrame, mkF, argsToLocals, Value.category]; done) | rfl) ?_
  intro p e s m below meth c s₁ B X0
  have K : Keep h0 h0 [] := Keep.refl h0 _
  refine own_aloadN (pc' := 1) B X0 d6_0 rfl rfl rfl ?_
  refine own_getfield (pc' := 4) B X0 (host := "") (Or.inl (own_w hw 31 rfl)) Via.refl F_w0_length d6_1 rfl ?_
  intro T1 X1
  refine own_iloadN (pc' := 5) B X1 d6_4 rfl rfl ?_
  refine own_iadd (pc' := 6) B X1 (z := (3 : Int32)) d6_5 rfl (by decide) ?_
  refine own_aloadN (pc' := 7) B X1 d6_6 rfl rfl rfl ?_
  refine own_getfield (pc' := 10) B X1 (host := "") (Or.inl (own_w hw 10 rfl)) Via.refl F_w0_bytes d6_7 rfl ?_
  intro T2 X2
  refine own_arraylength (pc' := 11) B X2 V_w1 d6_10 rfl ?_
  refine own_icmpYes (pc' := 41) B X2 d6_11 (flt (by decide : ¬ ((64 : Int32) < (3 : Int32)))).2.2.2 (by decide) rfl ?_
  exact own_ret B X2 d6_41 (by decide) (by decide) (⟨rfl, rfl⟩)
def Q_9 (Z : State) (w0 : Addr) (w1 : Addr) (kw1 : ClassId) (p3 : Int32) (p4 : Int32) (p5 : Int32) (h0 : Heap) (n0 : Nat) (v : Option Value) (h : Heap) : Prop :=
  (∃ (y5 : Int32), p5.toInt8.toInt32 = y5 ∧ v = none ∧ Keep h0 h [w0, w1] ∧ Exa Z h w0 "demitasse/interp/Bytes" ∧ Fld Z h w0 "demitasse/interp/Bytes" "bytes" "[B" (.ref w1) ∧ Fld Z h w0 "demitasse/interp/Bytes" "length" "I" (.int (3 : Int32)) ∧ Exa Z h w1 "[B" ∧ Arv Z h w1 kw1 .byte (64 : Int32) [(.int p3), (.int p4), (.int y5)] (.int (0 : Int32)))
set_option maxRecDepth 65536 in
set_option maxHeartbeats 40000000 in
theorem rm_9 (l : Launch) (Z : State) (a0 : Array Value) (hw : ∀ d ∈ tables_1, d.before a0 Z = true) (ws : List Jvm.Cond) (w0 : Addr) (w1 : Addr) (kw1 : ClassId) (p3 : Int32) (p4 : Int32) (p5 : Int32) (h0 : Heap) (n0 : Nat) (Z0 : n0 ≤ h0.size) (E_w0 : Exa Z h0 w0 "demitasse/interp/Bytes") (F_w0_bytes : Fld Z h0 w0 "demitasse/interp/Bytes" "bytes" "[B" (.ref w1)) (F_w0_length : Fld Z h0 w0 "demitasse/interp/Bytes" "length" "I" (.int (2 : Int32))) (g_w0 : n0 ≤ w0) (E_w1 : Exa Z h0 w1 "[B") (V_w1 : Arv Z h0 w1 kw1 .byte (64 : Int32) [(.int p3), (.int p4)] (.int (0 : Int32))) (g_w1 : n0 ≤ w1) (ne_w0_w1 : w0 ≠ w1) :
    MetFree l (⟨"demitasse/interp/Bytes", "u1", "(I)V"⟩ : MethodName) (head1 (Jvm.Cond.code (⟨"demitasse/interp/Bytes", "u1", "(I)V"⟩ : MethodName) prog_64_method_3_code 2 none :: ws) ({ frames := 1, cells := 0, slots := 0, locals := 13 } : Room)) (fun a U => a = #[(.ref w0), (.int p5)] ∧ Z.Warmed39 U.vm ∧ U.heap = h0) (fun _ _ _ _ _ => True) (fun _ U o U' => ∃ v L, o = .returned v ∧ (Fr n0 L ∧ Q_9 Z w0 w1 kw1 p3 p4 p5 h0 n0 v U'.heap) ∧ FrameEnd U o U' L ({ frames := 1, cells := 0, slots := 0, locals := 13 } : Room).cells ({ frames := 1, cells := 0, slots := 0, locals := 13 } : Room).slots) := by
  refine own_enter (Q := Q_9 Z w0 w1 kw1 p3 p4 p5 h0 n0) (F := fun m => mkF m 0 #[.val (.ref w0), .val (.int p5)] []) (plainFor_of_name pn_0) (fun m => by first | (simp [entryFrame, mkF, argsToLocals, Value.category]; done) | rfl) ?_
  intro p e s m below meth c s₁ B X0
  have K : Keep h0 h0 [w0, w1] := Keep.refl h0 _
  refine own_aloadN (pc' := 1) B X0 d5_0 rfl rfl rfl ?_
  refine own_iconst (pc' := 2) B X0 (z := (1 : Int32)) d5_1 rfl rfl ?_
  refine own_callP (pc' := 5) B X0 (own_w hw 27 rfl) (own_w hw 28 rfl) (own_w hw 29 rfl) (own_w hw 1 rfl) (own_w hw 2 rfl) (own_w hw 30 rfl) E_w0 (by decide) [(.int (1 : Int32))] [] (rm_10 l Z a0 hw [] w0 w1 kw1 (p3) (p4) h0 n0 (Nat.le_trans Z0 K.1) E_w0 F_w0_bytes F_w0_length g_w0 E_w1 V_w1 g_w1 ne_w0_w1) 0 (by decide) (by decide) rfl pd_1 rfl rfl (Nat.le_of_eq rfl) d5_2 rfl (k' := 0) (n' := 0) rfl rfl (by decide) (by decide) ?_
  intro T1 v1 h1 X1 q1
  obtain ⟨rfl, rfl⟩ := q1
  show own_Go p e below (T1.setTop (mkF m 5 #[.val (.ref w0), .val (.int p5)] [])) _
  refine own_aloadN (pc' := 6) B X1 d5_5 rfl rfl rfl ?_
  refine own_getfield (pc' := 9) B X1 (host := "") (Or.inl (own_w hw 10 rfl)) Via.refl F_w0_bytes d5_6 rfl ?_
  intro T2 X2
  refine own_aloadN (pc' := 10) B X2 d5_9 rfl rfl rfl ?_
  refine own_dup (pc' := 11) B X2 d5_10 rfl rfl ?_
  refine own_getfield (pc' := 14) B X2 (host := "") (Or.inl (own_w hw 31 rfl)) Via.refl F_w0_length d5_11 rfl ?_
  intro T3 X3
  refine own_dup_x1 (pc' := 15) B X3 d5_14 rfl rfl rfl ?_
  refine own_iconst (pc' := 16) B X3 (z := (1 : Int32)) d5_15 rfl rfl ?_
  refine own_iadd (pc' := 17) B X3 (z := (3 : Int32)) d5_16 rfl (by decide) ?_
  refine own_putfield (pc' := 20) B X3 (host := "") (Or.inl (own_w hw 31 rfl)) Via.refl F_w0_length E_w0 g_w0 (Or.inl (own_w hw 32 rfl)) (own_w hw 1 rfl) (ty := .int) (by decide) rfl rfl d5_17 rfl ?_
  intro T4 h4 X4 W4 F_w0_length
  replace E_w0 := E_w0.wr W4
  replace F_w0_bytes := F_w0_bytes.other W4 (Or.inr (slot_ne (Or.inl (own_w hw 11 rfl)) (Or.inl (own_w hw 32 rfl)) (by decide) (t := (.array .byte)) (t' := .int) (by decide) (by decide)))
  replace E_w1 := E_w1.wr W4
  replace V_w1 := V_w1.other W4 (Ne.symm ne_w0_w1)
  replace K := K.wr W4 (Or.inl (List.mem_of_getElem? (i := 0) rfl))
  refine own_iloadN (pc' := 21) B X4 d5_20 rfl rfl ?_
  obtain ⟨y5, hy5⟩ : ∃ z : Int32, p5.toInt8.toInt32 = z := ⟨_, rfl⟩
  refine own_i2b (pc' := 22) B X4 d5_21 rfl hy5 ?_
  replace V_w1 : Arv Z h4 w1 kw1 .byte (64 : Int32) [(.int p3), (.int p4), (.int (0 : Int32))] (.int (0 : Int32)) := V_w1.pad (pad_rep [(.int p3), (.int p4)] (.int (0 : Int32)) 1)
  refine own_bastore (pc' := 23) B X4 (x' := y5) V_w1 g_w1 ⟨by decide, by decide⟩ 2 (by decide) (Nat.le_of_ble_eq_true rfl) (own_idem_i2b hy5) d5_22 rfl ?_
  intro T6 h6 X6 W6 V_w1
  replace V_w1 : Arv Z h6 w1 kw1 .byte (64 : Int32) [(.int p3), (.int p4), (.int y5)] (.int (0 : Int32)) := V_w1
  replace E_w0 := E_w0.wr W6
  replace F_w0_bytes := F_w0_bytes.other W6 (Or.inl ne_w0_w1)
  replace F_w0_length := F_w0_length.other W6 (Or.inl ne_w0_w1)
  replace E_w1 := E_w1.wr W6
  replace K := K.wr W6 (Or.inl (List.mem_of_getElem? (i := 1) rfl))
  exact own_ret B X6 d5_23 (by decide) (by decide) (⟨y5, hy5, rfl, K, E_w0, F_w0_bytes, F_w0_length, E_w1, V_w1⟩)
def Q_12 (Z : State) (w0 : Addr) (w1 : Addr) (kw1 : ClassId) (p3 : Int32) (p4 : Int32) (p5 : Int32) (h0 : Heap) (n0 : Nat) (v : Option Value) (h : Heap) : Prop :=
  (v = none ∧ h0 = h)
set_option maxRecDepth 65536 in
set_option maxHeartbeats 40000000 in
theorem rm_12 (l : Launch) (Z : State) (a0 : Array Value) (hw : ∀ d ∈ tables_1, d.before a0 Z = true) (ws : List Jvm.Cond) (w0 : Addr) (w1 : Addr) (kw1 : ClassId) (p3 : Int32) (p4 : Int32) (p5 : Int32) (h0 : Heap) (n0 : Nat) (Z0 : n0 ≤ h0.size) (E_w0 : Exa Z h0 w0 "demitasse/interp/Bytes") (F_w0_bytes : Fld Z h0 w0 "demitasse/interp/Bytes" "bytes" "[B" (.ref w1)) (F_w0_length : Fld Z h0 w0 "demitasse/interp/Bytes" "length" "I" (.int (3 : Int32))) (g_w0 : n0 ≤ w0) (E_w1 : Exa Z h0 w1 "[B") (V_w1 : Arv Z h0 w1 kw1 .byte (64 : Int32) [(.int p3), (.int p4), (.int p5)] (.int (0 : Int32))) (g_w1 : n0 ≤ w1) (ne_w0_w1 : w0 ≠ w1) :
    MetFree l (⟨"demitasse/interp/Bytes", "makeRoom", "(I)V"⟩ : MethodName) (head1 (Jvm.Cond.code (⟨"demitasse/interp/Bytes", "makeRoom", "(I)V"⟩ : MethodName) prog_64_method_10_code 2 none :: ws) ({ frames := 0, cells := 0, slots := 0, locals := 0 } : Room)) (fun a U => a = #[(.ref w0), (.int (1 : Int32))] ∧ Z.Warmed39 U.vm ∧ U.heap = h0) (fun _ _ _ _ _ => True) (fun _ U o U' => ∃ v L, o = .returned v ∧ (Fr n0 L ∧ Q_12 Z w0 w1 kw1 p3 p4 p5 h0 n0 v U'.heap) ∧ FrameEnd U o U' L ({ frames := 0, cells := 0, slots := 0, locals := 0 } : Room).cells ({ frames := 0, cells := 0, slots := 0, locals := 0 } : Room).slots) := by
  refine own_enter (Q := Q_12 Z w0 w1 kw1 p3 p4 p5 h0 n0) (F := fun m => mkF m 0 #[.val (.ref w0), .val (.int (1 : Int32))] []) (plainFor_of_name pn_0) (fun m => by first | (simp [entryFrame, mkF, argsToLocals, Value.category]; done) | rfl) ?_
  intro p e s m below meth c s₁ B X0
  have K : Keep h0 h0 [] := Keep.refl h0 _
  refine own_aloadN (pc' := 1) B X0 d6_0 rfl rfl rfl ?_
  refine own_getfield (pc' := 4) B X0 (host := "") (Or.inl (own_w hw 31 rfl)) Via.refl F_w0_length d6_1 rfl ?_
  intro T1 X1
  refine own_iloadN (pc' := 5) B X1 d6_4 rfl rfl ?_
  refine own_iadd (pc' := 6) B X1 (z := (4 : Int32)) d6_5 rfl (by decide) ?_
  refine own_aloadN (pc' := 7) B X1 d6_6 rfl rfl rfl ?_
  refine own_getfield (pc' := 10) B X1 (host := "") (Or.inl (own_w hw 10 rfl)) Via.refl F_w0_bytes d6_7 rfl ?_
  intro T2 X2
  refine own_arraylength (pc' := 11) B X2 V_w1 d6_10 rfl ?_
  refine own_icmpYes (pc' := 41) B X2 d6_11 (flt (by decide : ¬ ((64 : Int32) < (4 : Int32)))).2.2.2 (by decide) rfl ?_
  exact own_ret B X2 d6_41 (by decide) (by decide) (⟨rfl, rfl⟩)
def Q_11 (Z : State) (w0 : Addr) (w1 : Addr) (kw1 : ClassId) (p3 : Int32) (p4 : Int32) (p5 : Int32) (p6 : Int32) (h0 : Heap) (n0 : Nat) (v : Option Value) (h : Heap) : Prop :=
  (∃ (y5 : Int32), p6.toInt8.toInt32 = y5 ∧ v = none ∧ Keep h0 h [w0, w1] ∧ Exa Z h w0 "demitasse/interp/Bytes" ∧ Fld Z h w0 "demitasse/interp/Bytes" "bytes" "[B" (.ref w1) ∧ Fld Z h w0 "demitasse/interp/Bytes" "length" "I" (.int (4 : Int32)) ∧ Exa Z h w1 "[B" ∧ Arv Z h w1 kw1 .byte (64 : Int32) [(.int p3), (.int p4), (.int p5), (.int y5)] (.int (0 : Int32)))
set_option maxRecDepth 65536 in
set_option maxHeartbeats 40000000 in
theorem rm_11 (l : Launch) (Z : State) (a0 : Array Value) (hw : ∀ d ∈ tables_1, d.before a0 Z = true) (ws : List Jvm.Cond) (w0 : Addr) (w1 : Addr) (kw1 : ClassId) (p3 : Int32) (p4 : Int32) (p5 : Int32) (p6 : Int32) (h0 : Heap) (n0 : Nat) (Z0 : n0 ≤ h0.size) (E_w0 : Exa Z h0 w0 "demitasse/interp/Bytes") (F_w0_bytes : Fld Z h0 w0 "demitasse/interp/Bytes" "bytes" "[B" (.ref w1)) (F_w0_length : Fld Z h0 w0 "demitasse/interp/Bytes" "length" "I" (.int (3 : Int32))) (g_w0 : n0 ≤ w0) (E_w1 : Exa Z h0 w1 "[B") (V_w1 : Arv Z h0 w1 kw1 .byte (64 : Int32) [(.int p3), (.int p4), (.int p5)] (.int (0 : Int32))) (g_w1 : n0 ≤ w1) (ne_w0_w1 : w0 ≠ w1) :
    MetFree l (⟨"demitasse/interp/Bytes", "u1", "(I)V"⟩ : MethodName) (head1 (Jvm.Cond.code (⟨"demitasse/interp/Bytes", "u1", "(I)V"⟩ : MethodName) prog_64_method_3_code 2 none :: ws) ({ frames := 1, cells := 0, slots := 0, locals := 13 } : Room)) (fun a U => a = #[(.ref w0), (.int p6)] ∧ Z.Warmed39 U.vm ∧ U.heap = h0) (fun _ _ _ _ _ => True) (fun _ U o U' => ∃ v L, o = .returned v ∧ (Fr n0 L ∧ Q_11 Z w0 w1 kw1 p3 p4 p5 p6 h0 n0 v U'.heap) ∧ FrameEnd U o U' L ({ frames := 1, cells := 0, slots := 0, locals := 13 } : Room).cells ({ frames := 1, cells := 0, slots := 0, locals := 13 } : Room).slots) := by
  refine own_enter (Q := Q_11 Z w0 w1 kw1 p3 p4 p5 p6 h0 n0) (F := fun m => mkF m 0 #[.val (.ref w0), .val (.int p6)] []) (plainFor_of_name pn_0) (fun m => by first | (simp [entryFrame, mkF, argsToLocals, Value.category]; done) | rfl) ?_
  intro p e s m below meth c s₁ B X0
  have K : Keep h0 h0 [w0, w1] := Keep.refl h0 _
  refine own_aloadN (pc' := 1) B X0 d5_0 rfl rfl rfl ?_
  refine own_iconst (pc' := 2) B X0 (z := (1 : Int32)) d5_1 rfl rfl ?_
  refine own_callP (pc' := 5) B X0 (own_w hw 27 rfl) (own_w hw 28 rfl) (own_w hw 29 rfl) (own_w hw 1 rfl) (own_w hw 2 rfl) (own_w hw 30 rfl) E_w0 (by decide) [(.int (1 : Int32))] [] (rm_12 l Z a0 hw [] w0 w1 kw1 (p3) (p4) (p5) h0 n0 (Nat.le_trans Z0 K.1) E_w0 F_w0_bytes F_w0_length g_w0 E_w1 V_w1 g_w1 ne_w0_w1) 0 (by decide) (by decide) rfl pd_1 rfl rfl (Nat.le_of_eq rfl) d5_2 rfl (k' := 0) (n' := 0) rfl rfl (by decide) (by decide) ?_
  intro T1 v1 h1 X1 q1
  obtain ⟨rfl, rfl⟩ := q1
  show own_Go p e below (T1.setTop (mkF m 5 #[.val (.ref w0), .val (.int p6)] [])) _
  refine own_aloadN (pc' := 6) B X1 d5_5 rfl rfl rfl ?_
  refine own_getfield (pc' := 9) B X1 (host := "") (Or.inl (own_w hw 10 rfl)) Via.refl F_w0_bytes d5_6 rfl ?_
  intro T2 X2
  refine own_aloadN (pc' := 10) B X2 d5_9 rfl rfl rfl ?_
  refine own_dup (pc' := 11) B X2 d5_10 rfl rfl ?_
  refine own_getfield (pc' := 14) B X2 (host := "") (Or.inl (own_w hw 31 rfl)) Via.refl F_w0_length d5_11 rfl ?_
  intro T3 X3
  refine own_dup_x1 (pc' := 15) B X3 d5_14 rfl rfl rfl ?_
  refine own_iconst (pc' := 16) B X3 (z := (1 : Int32)) d5_15 rfl rfl ?_
  refine own_iadd (pc' := 17) B X3 (z := (4 : Int32)) d5_16 rfl (by decide) ?_
  refine own_putfield (pc' := 20) B X3 (host := "") (Or.inl (own_w hw 31 rfl)) Via.refl F_w0_length E_w0 g_w0 (Or.inl (own_w hw 32 rfl)) (own_w hw 1 rfl) (ty := .int) (by decide) rfl rfl d5_17 rfl ?_
  intro T4 h4 X4 W4 F_w0_length
  replace E_w0 := E_w0.wr W4
  replace F_w0_bytes := F_w0_bytes.other W4 (Or.inr (slot_ne (Or.inl (own_w hw 11 rfl)) (Or.inl (own_w hw 32 rfl)) (by decide) (t := (.array .byte)) (t' := .int) (by decide) (by decide)))
  replace E_w1 := E_w1.wr W4
  replace V_w1 := V_w1.other W4 (Ne.symm ne_w0_w1)
  replace K := K.wr W4 (Or.inl (List.mem_of_getElem? (i := 0) rfl))
  refine own_iloadN (pc' := 21) B X4 d5_20 rfl rfl ?_
  obtain ⟨y5, hy5⟩ : ∃ z : Int32, p6.toInt8.toInt32 = z := ⟨_, rfl⟩
  refine own_i2b (pc' := 22) B X4 d5_21 rfl hy5 ?_
  replace V_w1 : Arv Z h4 w1 kw1 .byte (64 : Int32) [(.int p3), (.int p4), (.int p5), (.int (0 : Int32))] (.int (0 : Int32)) := V_w1.pad (pad_rep [(.int p3), (.int p4), (.int p5)] (.int (0 : Int32)) 1)
  refine own_bastore (pc' := 23) B X4 (x' := y5) V_w1 g_w1 ⟨by decide, by decide⟩ 3 (by decide) (Nat.le_of_ble_eq_true rfl) (own_idem_i2b hy5) d5_22 rfl ?_
  intro T6 h6 X6 W6 V_w1
  replace V_w1 : Arv Z h6 w1 kw1 .byte (64 : Int32) [(.int p3), (.int p4), (.int p5), (.int y5)] (.int (0 : Int32)) := V_w1
  replace E_w0 := E_w0.wr W6
  replace F_w0_bytes := F_w0_bytes.other W6 (Or.inl ne_w0_w1)
  replace F_w0_length := F_w0_length.other W6 (Or.inl ne_w0_w1)
  replace E_w1 := E_w1.wr W6
  replace K := K.wr W6 (Or.inl (List.mem_of_getElem? (i := 1) rfl))
  exact own_ret B X6 d5_23 (by decide) (by decide) (⟨y5, hy5, rfl, K, E_w0, F_w0_bytes, F_w0_length, E_w1, V_w1⟩)
def Q_8 (Z : State) (w0 : Addr) (w1 : Addr) (kw1 : ClassId) (p3 : Int32) (p4 : Int32) (p5 : Int32) (h0 : Heap) (n0 : Nat) (v : Option Value) (h : Heap) : Prop :=
  (∃ (y1 : Int32) (y3 : Int32) (y6 : Int32), (p5.toUInt32 >>> ((8 : Int32) &&& 31).toUInt32).toInt32 = y1 ∧ y1.toInt8.toInt32 = y3 ∧ p5.toInt8.toInt32 = y6 ∧ v = none ∧ Keep h0 h [w0, w1] ∧ Exa Z h w0 "demitasse/interp/Bytes" ∧ Fld Z h w0 "demitasse/interp/Bytes" "bytes" "[B" (.ref w1) ∧ Fld Z h w0 "demitasse/interp/Bytes" "length" "I" (.int (4 : Int32)) ∧ Exa Z h w1 "[B" ∧ Arv Z h w1 kw1 .byte (64 : Int32) [(.int p3), (.int p4), (.int y3), (.int y6)] (.int (0 : Int32)))
set_option maxRecDepth 65536 in
set_option maxHeartbeats 40000000 in
theorem rm_8 (l : Launch) (Z : State) (a0 : Array Value) (hw : ∀ d ∈ tables_1, d.before a0 Z = true) (ws : List Jvm.Cond) (w0 : Addr) (w1 : Addr) (kw1 : ClassId) (p3 : Int32) (p4 : Int32) (p5 : Int32) (h0 : Heap) (n0 : Nat) (Z0 : n0 ≤ h0.size) (E_w0 : Exa Z h0 w0 "demitasse/interp/Bytes") (F_w0_bytes : Fld Z h0 w0 "demitasse/interp/Bytes" "bytes" "[B" (.ref w1)) (F_w0_length : Fld Z h0 w0 "demitasse/interp/Bytes" "length" "I" (.int (2 : Int32))) (g_w0 : n0 ≤ w0) (E_w1 : Exa Z h0 w1 "[B") (V_w1 : Arv Z h0 w1 kw1 .byte (64 : Int32) [(.int p3), (.int p4)] (.int (0 : Int32))) (g_w1 : n0 ≤ w1) (ne_w0_w1 : w0 ≠ w1) :
    MetFree l (⟨"demitasse/interp/Bytes", "u2", "(I)V"⟩ : MethodName) (head1 (Jvm.Cond.code (⟨"demitasse/interp/Bytes", "u2", "(I)V"⟩ : MethodName) prog_64_method_4_code 2 none :: ws) ({ frames := 2, cells := 0, slots := 0, locals := 26 } : Room)) (fun a U => a = #[(.ref w0), (.int p5)] ∧ Z.Warmed39 U.vm ∧ U.heap = h0) (fun _ _ _ _ _ => True) (fun _ U o U' => ∃ v L, o = .returned v ∧ (Fr n0 L ∧ Q_8 Z w0 w1 kw1 p3 p4 p5 h0 n0 v U'.heap) ∧ FrameEnd U o U' L ({ frames := 2, cells := 0, slots := 0, locals := 26 } : Room).cells ({ frames := 2, cells := 0, slots := 0, locals := 26 } : Room).slots) := by
  refine own_enter (Q := Q_8 Z w0 w1 kw1 p3 p4 p5 h0 n0) (F := fun m => mkF m 0 #[.val (.ref w0), .val (.int p5)] []) (plainFor_of_name pn_0) (fun m => by first | (simp [entryFrame, mkF, argsToLocals, Value.category]; done) | rfl) ?_
  intro p e s m below meth c s₁ B X0
  have K : Keep h0 h0 [w0, w1] := Keep.refl h0 _
  refine own_aloadN (pc' := 1) B X0 d4_0 rfl rfl rfl ?_
  refine own_iloadN (pc' := 2) B X0 d4_1 rfl rfl ?_
  refine own_bipush (pc' := 4) B X0 (z := (8 : Int32)) d4_2 rfl (by decide) ?_
  obtain ⟨y1, hy1⟩ : ∃ z : Int32, (p5.toUInt32 >>> ((8 : Int32) &&& 31).toUInt32).toInt32 = z := ⟨_, rfl⟩
  refine own_iushr (pc' := 5) B X0 d4_4 rfl hy1 ?_
  refine own_callV (pc' := 8) B X0 (own_w hw 22 rfl) (own_w hw 23 rfl) (own_w hw 25 rfl) (own_w hw 24 rfl) (own_w hw 2 rfl) (own_w hw 26 rfl) E_w0 (by decide) [(.int y1)] [] (rm_9 l Z a0 hw [] w0 w1 kw1 (p3) (p4) (y1) h0 n0 (Nat.le_trans Z0 K.1) E_w0 F_w0_bytes F_w0_length g_w0 E_w1 V_w1 g_w1 ne_w0_w1) 0 (by decide) (by decide) rfl pd_1 rfl rfl (Nat.le_of_eq rfl) d4_5 rfl (k' := 0) (n' := 0) rfl rfl (by decide) (by decide) ?_
  intro T2 v2 h2 X2 q2
  obtain ⟨y3, hy4, rfl, K2, E_w0, F_w0_bytes, F_w0_length, E_w1, V_w1⟩ := q2
  replace K := K.trans K2 (allS (Or.inl (List.mem_of_getElem? (i := 0) rfl)) (allS (Or.inl (List.mem_of_getElem? (i := 1) rfl)) all0))
  show own_Go p e below (T2.setTop (mkF m 8 #[.val (.ref w0), .val (.int p5)] [])) _
  refine own_aloadN (pc' := 9) B X2 d4_8 rfl rfl rfl ?_
  refine own_iloadN (pc' := 10) B X2 d4_9 rfl rfl ?_
  refine own_callV (pc' := 13) B X2 (own_w hw 22 rfl) (own_w hw 23 rfl) (own_w hw 25 rfl) (own_w hw 24 rfl) (own_w hw 2 rfl) (own_w hw 26 rfl) E_w0 (by decide) [(.int p5)] [] (rm_11 l Z a0 hw [] w0 w1 kw1 (p3) (p4) (y3) (p5) h2 n0 (Nat.le_trans Z0 K.1) E_w0 F_w0_bytes F_w0_length g_w0 E_w1 V_w1 g_w1 ne_w0_w1) 0 (by decide) (by decide) rfl pd_1 rfl rfl (Nat.le_of_eq rfl) d4_10 rfl (k' := 0) (n' := 0) rfl rfl (by decide) (by decide) ?_
  intro T5 v5 h5 X5 q5
  obtain ⟨y6, hy7, rfl, K5, E_w0, F_w0_bytes, F_w0_length, E_w1, V_w1⟩ := q5
  replace K := K.trans K5 (allS (Or.inl (List.mem_of_getElem? (i := 0) rfl)) (allS (Or.inl (List.mem_of_getElem? (i := 1) rfl)) all0))
  show own_Go p e below (T5.setTop (mkF m 13 #[.val (.ref w0), .val (.int p5)] [])) _
  exact own_ret B X5 d4_13 (by decide) (by decide) (⟨y1, y3, y6, hy1, hy4, hy7, rfl, K, E_w0, F_w0_bytes, F_w0_length, E_w1, V_w1⟩)
def Q_2 (Z : State) (w0 : Addr) (w1 : Addr) (kw1 : ClassId) (p3 : Int32) (h0 : Heap) (n0 : Nat) (v : Option Value) (h : Heap) : Prop :=
  (∃ (y1 : Int32) (y3 : Int32) (y4 : Int32) (y5 : Int32) (y10 : Int32) (y11 : Int32) (y12 : Int32), (p3.toUInt32 >>> ((16 : Int32) &&& 31).toUInt32).toInt32 = y1 ∧ (y1.toUInt32 >>> ((8 : Int32) &&& 31).toUInt32).toInt32 = y3 ∧ y3.toInt8.toInt32 = y4 ∧ y1.toInt8.toInt32 = y5 ∧ (p3.toUInt32 >>> ((8 : Int32) &&& 31).toUInt32).toInt32 = y10 ∧ y10.toInt8.toInt32 = y11 ∧ p3.toInt8.toInt32 = y12 ∧ v = none ∧ Keep h0 h [w0, w1] ∧ Exa Z h w0 "demitasse/interp/Bytes" ∧ Fld Z h w0 "demitasse/interp/Bytes" "bytes" "[B" (.ref w1) ∧ Fld Z h w0 "demitasse/interp/Bytes" "length" "I" (.int (4 : Int32)) ∧ Exa Z h w1 "[B" ∧ Arv Z h w1 kw1 .byte (64 : Int32) [(.int y4), (.int y5), (.int y11), (.int y12)] (.int (0 : Int32)))
set_option maxRecDepth 65536 in
set_option maxHeartbeats 40000000 in
theorem rm_2 (l : Launch) (Z : State) (a0 : Array Value) (hw : ∀ d ∈ tables_1, d.before a0 Z = true) (ws : List Jvm.Cond) (w0 : Addr) (w1 : Addr) (kw1 : ClassId) (p3 : Int32) (h0 : Heap) (n0 : Nat) (Z0 : n0 ≤ h0.size) (E_w0 : Exa Z h0 w0 "demitasse/interp/Bytes") (F_w0_bytes : Fld Z h0 w0 "demitasse/interp/Bytes" "bytes" "[B" (.ref w1)) (F_w0_length : Fld Z h0 w0 "demitasse/interp/Bytes" "length" "I" (.int (0 : Int32))) (g_w0 : n0 ≤ w0) (E_w1 : Exa Z h0 w1 "[B") (V_w1 : Arv Z h0 w1 kw1 .byte (64 : Int32) [] (.int (0 : Int32))) (g_w1 : n0 ≤ w1) (ne_w0_w1 : w0 ≠ w1) :
    MetFree l (⟨"demitasse/interp/Bytes", "u4", "(I)V"⟩ : MethodName) (head1 (Jvm.Cond.code (⟨"demitasse/interp/Bytes", "u4", "(I)V"⟩ : MethodName) prog_64_method_5_code 2 none :: ws) ({ frames := 3, cells := 0, slots := 0, locals := 39 } : Room)) (fun a U => a = #[(.ref w0), (.int p3)] ∧ Z.Warmed39 U.vm ∧ U.heap = h0) (fun _ _ _ _ _ => True) (fun _ U o U' => ∃ v L, o = .returned v ∧ (Fr n0 L ∧ Q_2 Z w0 w1 kw1 p3 h0 n0 v U'.heap) ∧ FrameEnd U o U' L ({ frames := 3, cells := 0, slots := 0, locals := 39 } : Room).cells ({ frames := 3, cells := 0, slots := 0, locals := 39 } : Room).slots) := by
  refine own_enter (Q := Q_2 Z w0 w1 kw1 p3 h0 n0) (F := fun m => mkF m 0 #[.val (.ref w0), .val (.int p3)] []) (plainFor_of_name pn_0) (fun m => by first | (simp [entryFrame, mkF, argsToLocals, Value.category]; done) | rfl) ?_
  intro p e s m below meth c s₁ B X0
  have K : Keep h0 h0 [w0, w1] := Keep.refl h0 _
  refine own_aloadN (pc' := 1) B X0 d3_0 rfl rfl rfl ?_
  refine own_iloadN (pc' := 2) B X0 d3_1 rfl rfl ?_
  refine own_bipush (pc' := 4) B X0 (z := (16 : Int32)) d3_2 rfl (by decide) ?_
  obtain ⟨y1, hy1⟩ : ∃ z : Int32, (p3.toUInt32 >>> ((16 : Int32) &&& 31).toUInt32).toInt32 = z := ⟨_, rfl⟩
  refine own_iushr (pc' := 5) B X0 d3_4 rfl hy1 ?_
  refine own_callV (pc' := 8) B X0 (own_w hw 17 rfl) (own_w hw 18 rfl) (own_w hw 20 rfl) (own_w hw 19 rfl) (own_w hw 2 rfl) (own_w hw 21 rfl) E_w0 (by decide) [(.int y1)] [] (rm_3 l Z a0 hw [] w0 w1 kw1 (y1) h0 n0 (Nat.le_trans Z0 K.1) E_w0 F_w0_bytes F_w0_length g_w0 E_w1 V_w1 g_w1 ne_w0_w1) 0 (by decide) (by decide) rfl pd_1 rfl rfl (Nat.le_of_eq rfl) d3_5 rfl (k' := 0) (n' := 0) rfl rfl (by decide) (by decide) ?_
  intro T2 v2 h2 X2 q2
  obtain ⟨y3, y4, y5, hy6, hy7, hy8, rfl, K2, E_w0, F_w0_bytes, F_w0_length, E_w1, V_w1⟩ := q2
  replace K := K.trans K2 (allS (Or.inl (List.mem_of_getElem? (i := 0) rfl)) (allS (Or.inl (List.mem_of_getElem? (i := 1) rfl)) all0))
  show own_Go p e below (T2.setTop (mkF m 8 #[.val (.ref w0), .val (.int p3)] [])) _
  refine own_aloadN (pc' := 9) B X2 d3_8 rfl rfl rfl ?_
  refine own_iloadN (pc' := 10) B X2 d3_9 rfl rfl ?_
  refine own_callV (pc' := 13) B X2 (own_w hw 17 rfl) (own_w hw 18 rfl) (own_w hw 20 rfl) (own_w hw 19 rfl) (own_w hw 2 rfl) (own_w hw 21 rfl) E_w0 (by decide) [(.int p3)] [] (rm_8 l Z a0 hw [] w0 w1 kw1 (y4) (y5) (p3) h2 n0 (Nat.le_trans Z0 K.1) E_w0 F_w0_bytes F_w0_length g_w0 E_w1 V_w1 g_w1 ne_w0_w1) 0 (by decide) (by decide) rfl pd_1 rfl rfl (Nat.le_of_eq rfl) d3_10 rfl (k' := 0) (n' := 0) rfl rfl (by decide) (by decide) ?_
  intro T9 v9 h9 X9 q9
  obtain ⟨y10, y11, y12, hy13, hy14, hy15, rfl, K9, E_w0, F_w0_bytes, F_w0_length, E_w1, V_w1⟩ := q9
  replace K := K.trans K9 (allS (Or.inl (List.mem_of_getElem? (i := 0) rfl)) (allS (Or.inl (List.mem_of_getElem? (i := 1) rfl)) all0))
  show own_Go p e below (T9.setTop (mkF m 13 #[.val (.ref w0), .val (.int p3)] [])) _
  exact own_ret B X9 d3_13 (by decide) (by decide) (⟨y1, y3, y4, y5, y10, y11, y12, hy1, hy6, hy7, hy8, hy13, hy14, hy15, rfl, K, E_w0, F_w0_bytes, F_w0_length, E_w1, V_w1⟩)
def Q_14 (Z : State) (w0 : Addr) (w1 : Addr) (kw1 : ClassId) (p3 : Int32) (p4 : Int32) (p5 : Int32) (p6 : Int32) (h0 : Heap) (n0 : Nat) (v : Option Value) (h : Heap) : Prop :=
  (v = none ∧ h0 = h)
set_option maxRecDepth 65536 in
set_option maxHeartbeats 40000000 in
theorem rm_14 (l : Launch) (Z : State) (a0 : Array Value) (hw : ∀ d ∈ tables_1, d.before a0 Z = true) (ws : List Jvm.Cond) (w0 : Addr) (w1 : Addr) (kw1 : ClassId) (p3 : Int32) (p4 : Int32) (p5 : Int32) (p6 : Int32) (h0 : Heap) (n0 : Nat) (Z0 : n0 ≤ h0.size) (E_w0 : Exa Z h0 w0 "demitasse/interp/Bytes") (F_w0_bytes : Fld Z h0 w0 "demitasse/interp/Bytes" "bytes" "[B" (.ref w1)) (F_w0_length : Fld Z h0 w0 "demitasse/interp/Bytes" "length" "I" (.int (4 : Int32))) (g_w0 : n0 ≤ w0) (E_w1 : Exa Z h0 w1 "[B") (V_w1 : Arv Z h0 w1 kw1 .byte (64 : Int32) [(.int p3), (.int p4), (.int p5), (.int p6)] (.int (0 : Int32))) (g_w1 : n0 ≤ w1) (ne_w0_w1 : w0 ≠ w1) :
    MetFree l (⟨"demitasse/interp/Bytes", "makeRoom", "(I)V"⟩ : MethodName) (head1 (Jvm.Cond.code (⟨"demitasse/interp/Bytes", "makeRoom", "(I)V"⟩ : MethodName) prog_64_method_10_code 2 none :: ws) ({ frames := 0, cells := 0, slots := 0, locals := 0 } : Room)) (fun a U => a = #[(.ref w0), (.int (1 : Int32))] ∧ Z.Warmed39 U.vm ∧ U.heap = h0) (fun _ _ _ _ _ => True) (fun _ U o U' => ∃ v L, o = .returned v ∧ (Fr n0 L ∧ Q_14 Z w0 w1 kw1 p3 p4 p5 p6 h0 n0 v U'.heap) ∧ FrameEnd U o U' L ({ frames := 0, cells := 0, slots := 0, locals := 0 } : Room).cells ({ frames := 0, cells := 0, slots := 0, locals := 0 } : Room).slots) := by
  refine own_enter (Q := Q_14 Z w0 w1 kw1 p3 p4 p5 p6 h0 n0) (F := fun m => mkF m 0 #[.val (.ref w0), .val (.int (1 : Int32))] []) (plainFor_of_name pn_0) (fun m => by first | (simp [entryFrame, mkF, argsToLocals, Value.category]; done) | rfl) ?_
  intro p e s m below meth c s₁ B X0
  have K : Keep h0 h0 [] := Keep.refl h0 _
  refine own_aloadN (pc' := 1) B X0 d6_0 rfl rfl rfl ?_
  refine own_getfield (pc' := 4) B X0 (host := "") (Or.inl (own_w hw 31 rfl)) Via.refl F_w0_length d6_1 rfl ?_
  intro T1 X1
  refine own_iloadN (pc' := 5) B X1 d6_4 rfl rfl ?_
  refine own_iadd (pc' := 6) B X1 (z := (5 : Int32)) d6_5 rfl (by decide) ?_
  refine own_aloadN (pc' := 7) B X1 d6_6 rfl rfl rfl ?_
  refine own_getfield (pc' := 10) B X1 (host := "") (Or.inl (own_w hw 10 rfl)) Via.refl F_w0_bytes d6_7 rfl ?_
  intro T2 X2
  refine own_arraylength (pc' := 11) B X2 V_w1 d6_10 rfl ?_
  refine own_icmpYes (pc' := 41) B X2 d6_11 (flt (by decide : ¬ ((64 : Int32) < (5 : Int32)))).2.2.2 (by decide) rfl ?_
  exact own_ret B X2 d6_41 (by decide) (by decide) (⟨rfl, rfl⟩)
def Q_13 (Z : State) (w0 : Addr) (w1 : Addr) (kw1 : ClassId) (p3 : Int32) (p4 : Int32) (p5 : Int32) (p6 : Int32) (p7 : Int32) (h0 : Heap) (n0 : Nat) (v : Option Value) (h : Heap) : Prop :=
  (∃ (y5 : Int32), p7.toInt8.toInt32 = y5 ∧ v = none ∧ Keep h0 h [w0, w1] ∧ Exa Z h w0 "demitasse/interp/Bytes" ∧ Fld Z h w0 "demitasse/interp/Bytes" "bytes" "[B" (.ref w1) ∧ Fld Z h w0 "demitasse/interp/Bytes" "length" "I" (.int (5 : Int32)) ∧ Exa Z h w1 "[B" ∧ Arv Z h w1 kw1 .byte (64 : Int32) [(.int p3), (.int p4), (.int p5), (.int p6), (.int y5)] (.int (0 : Int32)))
set_option maxRecDepth 65536 in
set_option maxHeartbeats 40000000 in
theorem rm_13 (l : Launch) (Z : State) (a0 : Array Value) (hw : ∀ d ∈ tables_1, d.before a0 Z = true) (ws : List Jvm.Cond) (w0 : Addr) (w1 : Addr) (kw1 : ClassId) (p3 : Int32) (p4 : Int32) (p5 : Int32) (p6 : Int32) (p7 : Int32) (h0 : Heap) (n0 : Nat) (Z0 : n0 ≤ h0.size) (E_w0 : Exa Z h0 w0 "demitasse/interp/Bytes") (F_w0_bytes : Fld Z h0 w0 "demitasse/interp/Bytes" "bytes" "[B" (.ref w1)) (F_w0_length : Fld Z h0 w0 "demitasse/interp/Bytes" "length" "I" (.int (4 : Int32))) (g_w0 : n0 ≤ w0) (E_w1 : Exa Z h0 w1 "[B") (V_w1 : Arv Z h0 w1 kw1 .byte (64 : Int32) [(.int p3), (.int p4), (.int p5), (.int p6)] (.int (0 : Int32))) (g_w1 : n0 ≤ w1) (ne_w0_w1 : w0 ≠ w1) :
    MetFree l (⟨"demitasse/interp/Bytes", "u1", "(I)V"⟩ : MethodName) (head1 (Jvm.Cond.code (⟨"demitasse/interp/Bytes", "u1", "(I)V"⟩ : MethodName) prog_64_method_3_code 2 none :: ws) ({ frames := 1, cells := 0, slots := 0, locals := 13 } : Room)) (fun a U => a = #[(.ref w0), (.int p7)] ∧ Z.Warmed39 U.vm ∧ U.heap = h0) (fun _ _ _ _ _ => True) (fun _ U o U' => ∃ v L, o = .returned v ∧ (Fr n0 L ∧ Q_13 Z w0 w1 kw1 p3 p4 p5 p6 p7 h0 n0 v U'.heap) ∧ FrameEnd U o U' L ({ frames := 1, cells := 0, slots := 0, locals := 13 } : Room).cells ({ frames := 1, cells := 0, slots := 0, locals := 13 } : Room).slots) := by
  refine own_enter (Q := Q_13 Z w0 w1 kw1 p3 p4 p5 p6 p7 h0 n0) (F := fun m => mkF m 0 #[.val (.ref w0), .val (.int p7)] []) (plainFor_of_name pn_0) (fun m => by first | (simp [entryFrame, mkF, argsToLocals, Value.category]; done) | rfl) ?_
  intro p e s m below meth c s₁ B X0
  have K : Keep h0 h0 [w0, w1] := Keep.refl h0 _
  refine own_aloadN (pc' := 1) B X0 d5_0 rfl rfl rfl ?_
  refine own_iconst (pc' := 2) B X0 (z := (1 : Int32)) d5_1 rfl rfl ?_
  refine own_callP (pc' := 5) B X0 (own_w hw 27 rfl) (own_w hw 28 rfl) (own_w hw 29 rfl) (own_w hw 1 rfl) (own_w hw 2 rfl) (own_w hw 30 rfl) E_w0 (by decide) [(.int (1 : Int32))] [] (rm_14 l Z a0 hw [] w0 w1 kw1 (p3) (p4) (p5) (p6) h0 n0 (Nat.le_trans Z0 K.1) E_w0 F_w0_bytes F_w0_length g_w0 E_w1 V_w1 g_w1 ne_w0_w1) 0 (by decide) (by decide) rfl pd_1 rfl rfl (Nat.le_of_eq rfl) d5_2 rfl (k' := 0) (n' := 0) rfl rfl (by decide) (by decide) ?_
  intro T1 v1 h1 X1 q1
  obtain ⟨rfl, rfl⟩ := q1
  show own_Go p e below (T1.setTop (mkF m 5 #[.val (.ref w0), .val (.int p7)] [])) _
  refine own_aloadN (pc' := 6) B X1 d5_5 rfl rfl rfl ?_
  refine own_getfield (pc' := 9) B X1 (host := "") (Or.inl (own_w hw 10 rfl)) Via.refl F_w0_bytes d5_6 rfl ?_
  intro T2 X2
  refine own_aloadN (pc' := 10) B X2 d5_9 rfl rfl rfl ?_
  refine own_dup (pc' := 11) B X2 d5_10 rfl rfl ?_
  refine own_getfield (pc' := 14) B X2 (host := "") (Or.inl (own_w hw 31 rfl)) Via.refl F_w0_length d5_11 rfl ?_
  intro T3 X3
  refine own_dup_x1 (pc' := 15) B X3 d5_14 rfl rfl rfl ?_
  refine own_iconst (pc' := 16) B X3 (z := (1 : Int32)) d5_15 rfl rfl ?_
  refine own_iadd (pc' := 17) B X3 (z := (5 : Int32)) d5_16 rfl (by decide) ?_
  refine own_putfield (pc' := 20) B X3 (host := "") (Or.inl (own_w hw 31 rfl)) Via.refl F_w0_length E_w0 g_w0 (Or.inl (own_w hw 32 rfl)) (own_w hw 1 rfl) (ty := .int) (by decide) rfl rfl d5_17 rfl ?_
  intro T4 h4 X4 W4 F_w0_length
  replace E_w0 := E_w0.wr W4
  replace F_w0_bytes := F_w0_bytes.other W4 (Or.inr (slot_ne (Or.inl (own_w hw 11 rfl)) (Or.inl (own_w hw 32 rfl)) (by decide) (t := (.array .byte)) (t' := .int) (by decide) (by decide)))
  replace E_w1 := E_w1.wr W4
  replace V_w1 := V_w1.other W4 (Ne.symm ne_w0_w1)
  replace K := K.wr W4 (Or.inl (List.mem_of_getElem? (i := 0) rfl))
  refine own_iloadN (pc' := 21) B X4 d5_20 rfl rfl ?_
  obtain ⟨y5, hy5⟩ : ∃ z : Int32, p7.toInt8.toInt32 = z := ⟨_, rfl⟩
  refine own_i2b (pc' := 22) B X4 d5_21 rfl hy5 ?_
  replace V_w1 : Arv Z h4 w1 kw1 .byte (64 : Int32) [(.int p3), (.int p4), (.int p5), (.int p6), (.int (0 : Int32))] (.int (0 : Int32)) := V_w1.pad (pad_rep [(.int p3), (.int p4), (.int p5), (.int p6)] (.int (0 : Int32)) 1)
  refine own_bastore (pc' := 23) B X4 (x' := y5) V_w1 g_w1 ⟨by decide, by decide⟩ 4 (by decide) (Nat.le_of_ble_eq_true rfl) (own_idem_i2b hy5) d5_22 rfl ?_
  intro T6 h6 X6 W6 V_w1
  replace V_w1 : Arv Z h6 w1 kw1 .byte (64 : Int32) [(.int p3), (.int p4), (.int p5), (.int p6), (.int y5)] (.int (0 : Int32)) := V_w1
  replace E_w0 := E_w0.wr W6
  replace F_w0_bytes := F_w0_bytes.other W6 (Or.inl ne_w0_w1)
  replace F_w0_length := F_w0_length.other W6 (Or.inl ne_w0_w1)
  replace E_w1 := E_w1.wr W6
  replace K := K.wr W6 (Or.inl (List.mem_of_getElem? (i := 1) rfl))
  exact own_ret B X6 d5_23 (by decide) (by decide) (⟨y5, hy5, rfl, K, E_w0, F_w0_bytes, F_w0_length, E_w1, V_w1⟩)
def Q_15 (Z : State) (w0 : Addr) (w1 : Addr) (kw1 : ClassId) (p3 : Int32) (p4 : Int32) (p5 : Int32) (p6 : Int32) (p7 : Int32) (p8 : Int32) (h0 : Heap) (n0 : Nat) (v : Option Value) (h : Heap) : Prop :=
  (∃ (y2 : Int32) (y3 : Int32) (y6 : Int32), (p8.toUInt32 >>> ((8 : Int32) &&& 31).toUInt32).toInt32 = y2 ∧ y2.toInt8.toInt32 = y3 ∧ p8.toInt8.toInt32 = y6 ∧ v = none ∧ Keep h0 h [w1] ∧ Exa Z h w1 "[B" ∧ Arv Z h w1 kw1 .byte (64 : Int32) [(.int y3), (.int y6), (.int p5), (.int p6), (.int p7)] (.int (0 : Int32)))
set_option maxRecDepth 65536 in
set_option maxHeartbeats 40000000 in
theorem rm_15 (l : Launch) (Z : State) (a0 : Array Value) (hw : ∀ d ∈ tables_1, d.before a0 Z = true) (ws : List Jvm.Cond) (w0 : Addr) (w1 : Addr) (kw1 : ClassId) (p3 : Int32) (p4 : Int32) (p5 : Int32) (p6 : Int32) (p7 : Int32) (p8 : Int32) (h0 : Heap) (n0 : Nat) (Z0 : n0 ≤ h0.size) (E_w0 : Exa Z h0 w0 "demitasse/interp/Bytes") (F_w0_bytes : Fld Z h0 w0 "demitasse/interp/Bytes" "bytes" "[B" (.ref w1)) (F_w0_length : Fld Z h0 w0 "demitasse/interp/Bytes" "length" "I" (.int (5 : Int32))) (g_w0 : n0 ≤ w0) (E_w1 : Exa Z h0 w1 "[B") (V_w1 : Arv Z h0 w1 kw1 .byte (64 : Int32) [(.int p3), (.int p4), (.int p5), (.int p6), (.int p7)] (.int (0 : Int32))) (g_w1 : n0 ≤ w1) (ne_w0_w1 : w0 ≠ w1) :
    MetFree l (⟨"demitasse/interp/Bytes", "u2At", "(II)V"⟩ : MethodName) (head1 (Jvm.Cond.code (⟨"demitasse/interp/Bytes", "u2At", "(II)V"⟩ : MethodName) prog_64_method_6_code 3 none :: ws) ({ frames := 0, cells := 0, slots := 0, locals := 0 } : Room)) (fun a U => a = #[(.ref w0), (.int (0 : Int32)), (.int p8)] ∧ Z.Warmed39 U.vm ∧ U.heap = h0) (fun _ _ _ _ _ => True) (fun _ U o U' => ∃ v L, o = .returned v ∧ (Fr n0 L ∧ Q_15 Z w0 w1 kw1 p3 p4 p5 p6 p7 p8 h0 n0 v U'.heap) ∧ FrameEnd U o U' L ({ frames := 0, cells := 0, slots := 0, locals := 0 } : Room).cells ({ frames := 0, cells := 0, slots := 0, locals := 0 } : Room).slots) := by
  refine own_enter (Q := Q_15 Z w0 w1 kw1 p3 p4 p5 p6 p7 p8 h0 n0) (F := fun m => mkF m 0 #[.val (.ref w0), .val (.int (0 : Int32)), .val (.int p8)] []) (plainFor_of_name pn_0) (fun m => by first | (simp [entryFrame, mkF, argsToLocals, Value.category]; done) | rfl) ?_
  intro p e s m below meth c s₁ B X0
  have K : Keep h0 h0 [w1] := Keep.refl h0 _
  refine own_aloadN (pc' := 1) B X0 d7_0 rfl rfl rfl ?_
  refine own_getfield (pc' := 4) B X0 (host := "") (Or.inl (own_w hw 10 rfl)) Via.refl F_w0_bytes d7_1 rfl ?_
  intro T1 X1
  refine own_iloadN (pc' := 5) B X1 d7_4 rfl rfl ?_
  refine own_iloadN (pc' := 6) B X1 d7_5 rfl rfl ?_
  refine own_bipush (pc' := 8) B X1 (z := (8 : Int32)) d7_6 rfl (by decide) ?_
  obtain ⟨y2, hy2⟩ : ∃ z : Int32, (p8.toUInt32 >>> ((8 : Int32) &&& 31).toUInt32).toInt32 = z := ⟨_, rfl⟩
  refine own_iushr (pc' := 9) B X1 d7_8 rfl hy2 ?_
  obtain ⟨y3, hy3⟩ : ∃ z : Int32, y2.toInt8.toInt32 = z := ⟨_, rfl⟩
  refine own_i2b (pc' := 10) B X1 d7_9 rfl hy3 ?_
  refine own_bastore (pc' := 11) B X1 (x' := y3) V_w1 g_w1 ⟨by decide, by decide⟩ 0 (by decide) (Nat.le_of_ble_eq_true rfl) (own_idem_i2b hy3) d7_10 rfl ?_
  intro T4 h4 X4 W4 V_w1
  replace V_w1 : Arv Z h4 w1 kw1 .byte (64 : Int32) [(.int y3), (.int p4), (.int p5), (.int p6), (.int p7)] (.int (0 : Int32)) := V_w1
  replace E_w0 := E_w0.wr W4
  replace F_w0_bytes := F_w0_bytes.other W4 (Or.inl ne_w0_w1)
  replace F_w0_length := F_w0_length.other W4 (Or.inl ne_w0_w1)
  replace E_w1 := E_w1.wr W4
  replace K := K.wr W4 (Or.inl (List.mem_of_getElem? (i := 0) rfl))
  refine own_aloadN (pc' := 12) B X4 d7_11 rfl rfl rfl ?_
  refine own_getfield (pc' := 15) B X4 (host := "") (Or.inl (own_w hw 10 rfl)) Via.refl F_w0_bytes d7_12 rfl ?_
  intro T5 X5
  refine own_iloadN (pc' := 16) B X5 d7_15 rfl rfl ?_
  refine own_iconst (pc' := 17) B X5 (z := (1 : Int32)) d7_16 rfl rfl ?_
  refine own_iadd (pc' := 18) B X5 (z := (1 : Int32)) d7_17 rfl (by decide) ?_
  refine own_iloadN (pc' := 19) B X5 d7_18 rfl rfl ?_
  obtain ⟨y6, hy6⟩ : ∃ z : Int32, p8.toInt8.toInt32 = z := ⟨_, rfl⟩
  refine own_i2b (pc' := 20) B X5 d7_19 rfl hy6 ?_
  refine own_bastore (pc' := 21) B X5 (x' := y6) V_w1 g_w1 ⟨by decide, by decide⟩ 1 (by decide) (Nat.le_of_ble_eq_true rfl) (own_idem_i2b hy6) d7_20 rfl ?_
  intro T7 h7 X7 W7 V_w1
  replace V_w1 : Arv Z h7 w1 kw1 .byte (64 : Int32) [(.int y3), (.int y6), (.int p5), (.int p6), (.int p7)] (.int (0 : Int32)) := V_w1
  replace E_w0 := E_w0.wr W7
  replace F_w0_bytes := F_w0_bytes.other W7 (Or.inl ne_w0_w1)
  replace F_w0_length := F_w0_length.other W7 (Or.inl ne_w0_w1)
  replace E_w1 := E_w1.wr W7
  replace K := K.wr W7 (Or.inl (List.mem_of_getElem? (i := 0) rfl))
  exact own_ret B X7 d7_21 (by decide) (by decide) (⟨y2, y3, y6, hy2, hy3, hy6, rfl, K, E_w1, V_w1⟩)
def Q_16 (Z : State) (w0 : Addr) (w1 : Addr) (kw1 : ClassId) (p3 : Int32) (p4 : Int32) (p5 : Int32) (p6 : Int32) (p7 : Int32) (h0 : Heap) (n0 : Nat) (v : Option Value) (h : Heap) : Prop :=
  (v = some (.int (5 : Int32)) ∧ h0 = h)
set_option maxRecDepth 65536 in
set_option maxHeartbeats 40000000 in
theorem rm_16 (l : Launch) (Z : State) (a0 : Array Value) (hw : ∀ d ∈ tables_1, d.before a0 Z = true) (ws : List Jvm.Cond) (w0 : Addr) (w1 : Addr) (kw1 : ClassId) (p3 : Int32) (p4 : Int32) (p5 : Int32) (p6 : Int32) (p7 : Int32) (h0 : Heap) (n0 : Nat) (Z0 : n0 ≤ h0.size) (E_w0 : Exa Z h0 w0 "demitasse/interp/Bytes") (F_w0_bytes : Fld Z h0 w0 "demitasse/interp/Bytes" "bytes" "[B" (.ref w1)) (F_w0_length : Fld Z h0 w0 "demitasse/interp/Bytes" "length" "I" (.int (5 : Int32))) (g_w0 : n0 ≤ w0) (E_w1 : Exa Z h0 w1 "[B") (V_w1 : Arv Z h0 w1 kw1 .byte (64 : Int32) [(.int p3), (.int p4), (.int p5), (.int p6), (.int p7)] (.int (0 : Int32))) (g_w1 : n0 ≤ w1) (ne_w0_w1 : w0 ≠ w1) :
    MetFree l (⟨"demitasse/interp/Bytes", "length", "()I"⟩ : MethodName) (head1 (Jvm.Cond.code (⟨"demitasse/interp/Bytes", "length", "()I"⟩ : MethodName) prog_64_method_2_code 1 (some .int) :: ws) ({ frames := 0, cells := 0, slots := 0, locals := 0 } : Room)) (fun a U => a = #[(.ref w0)] ∧ Z.Warmed39 U.vm ∧ U.heap = h0) (fun _ _ _ _ _ => True) (fun _ U o U' => ∃ v L, o = .returned v ∧ (Fr n0 L ∧ Q_16 Z w0 w1 kw1 p3 p4 p5 p6 p7 h0 n0 v U'.heap) ∧ FrameEnd U o U' L ({ frames := 0, cells := 0, slots := 0, locals := 0 } : Room).cells ({ frames := 0, cells := 0, slots := 0, locals := 0 } : Room).slots) := by
  refine own_enter (Q := Q_16 Z w0 w1 kw1 p3 p4 p5 p6 p7 h0 n0) (F := fun m => mkF m 0 #[.val (.ref w0)] []) (plainFor_of_name pn_0) (fun m => by first | (simp [entryFrame, mkF, argsToLocals, Value.category]; done) | rfl) ?_
  intro p e s m below meth c s₁ B X0
  have K : Keep h0 h0 [] := Keep.refl h0 _
  refine own_aloadN (pc' := 1) B X0 d8_0 rfl rfl rfl ?_
  refine own_getfield (pc' := 4) B X0 (host := "") (Or.inl (own_w hw 31 rfl)) Via.refl F_w0_length d8_1 rfl ?_
  intro T1 X1
  exact own_retI B X1 d8_4 (by decide) (by decide) (⟨rfl, rfl⟩)
def Q_19 (Z : State)  (h0 : Heap) (n0 : Nat) (v : Option Value) (h : Heap) : Prop :=
  (v = some (.int (5 : Int32)) ∧ h0 = h)
set_option maxRecDepth 65536 in
set_option maxHeartbeats 40000000 in
theorem rm_19 (l : Launch) (Z : State) (a0 : Array Value) (hw : ∀ d ∈ tables_1, d.before a0 Z = true) (ws : List Jvm.Cond)  (h0 : Heap) (n0 : Nat) (Z0 : n0 ≤ h0.size)  :
    MetFree l (⟨"java/lang/Math", "min", "(II)I"⟩ : MethodName) (head1 (Jvm.Cond.code (⟨"java/lang/Math", "min", "(II)I"⟩ : MethodName) jdk_29_method_69_code 2 (some .int) :: ws) ({ frames := 0, cells := 0, slots := 0, locals := 0 } : Room)) (fun a U => a = #[(.int (64 : Int32)), (.int (5 : Int32))] ∧ Z.Warmed39 U.vm ∧ U.heap = h0) (fun _ _ _ _ _ => True) (fun _ U o U' => ∃ v L, o = .returned v ∧ (Fr n0 L ∧ Q_19 Z  h0 n0 v U'.heap) ∧ FrameEnd U o U' L ({ frames := 0, cells := 0, slots := 0, locals := 0 } : Room).cells ({ frames := 0, cells := 0, slots := 0, locals := 0 } : Room).slots) := by
  refine own_enter (Q := Q_19 Z  h0 n0) (F := fun m => mkF m 0 #[.val (.int (64 : Int32)), .val (.int (5 : Int32))] []) (Jvm.Free.JP.mathPlain rfl (by decide +kernel)) (fun m => by first | (simp [entryFrame, mkF, argsToLocals, Value.category]; done) | rfl) ?_
  intro p e s m below meth c s₁ B X0
  have K : Keep h0 h0 [] := Keep.refl h0 _
  refine own_iloadN (pc' := 1) B X0 d11_0 rfl rfl ?_
  refine own_iloadN (pc' := 2) B X0 d11_1 rfl rfl ?_
  refine own_icmpYes (pc' := 9) B X0 d11_2 (tlt (by decide : (5 : Int32) < (64 : Int32))).2.2.1 (by decide) rfl ?_
  refine own_iloadN (pc' := 10) B X0 d11_9 rfl rfl ?_
  exact own_retI B X0 d11_10 (by decide) (by decide) (⟨rfl, rfl⟩)
def Q_18 (Z : State) (w0 : Addr) (kw0 : ClassId) (p2 : Int32) (p3 : Int32) (p4 : Int32) (p5 : Int32) (p6 : Int32) (h0 : Heap) (n0 : Nat) (v : Option Value) (h : Heap) : Prop :=
  (∃ (b1 : Addr) (kb1 : ClassId), v = some (.ref b1) ∧ Keep h0 h [] ∧ h0.size ≤ b1 ∧ Exa Z h b1 "[B" ∧ Arv Z h b1 kb1 .byte (5 : Int32) [(.int p2), (.int p3), (.int p4), (.int p5), (.int p6)] (.int (0 : Int32)))
set_option maxRecDepth 65536 in
set_option maxHeartbeats 40000000 in
theorem rm_18 (l : Launch) (Z : State) (a0 : Array Value) (hw : ∀ d ∈ tables_1, d.before a0 Z = true) (ws : List Jvm.Cond) (w0 : Addr) (kw0 : ClassId) (p2 : Int32) (p3 : Int32) (p4 : Int32) (p5 : Int32) (p6 : Int32) (h0 : Heap) (n0 : Nat) (Z0 : n0 ≤ h0.size) (E_w0 : Exa Z h0 w0 "[B") (V_w0 : Arv Z h0 w0 kw0 .byte (64 : Int32) [(.int p2), (.int p3), (.int p4), (.int p5), (.int p6)] (.int (0 : Int32))) (g_w0 : n0 ≤ w0) :
    MetFree l (⟨"java/util/Arrays", "copyOf", "([BI)[B"⟩ : MethodName) (head1 (Jvm.Cond.code (⟨"java/util/Arrays", "copyOf", "([BI)[B"⟩ : MethodName) jdk_65_method_121_code 3 (some (.array .byte)) :: ws) ({ frames := 1, cells := 1, slots := 5, locals := 40 } : Room)) (fun a U => a = #[(.ref w0), (.int (5 : Int32))] ∧ Z.Warmed39 U.vm ∧ U.heap = h0) (fun _ _ _ _ _ => True) (fun _ U o U' => ∃ v L, o = .returned v ∧ (Fr n0 L ∧ Q_18 Z w0 kw0 p2 p3 p4 p5 p6 h0 n0 v U'.heap) ∧ FrameEnd U o U' L ({ frames := 1, cells := 1, slots := 5, locals := 40 } : Room).cells ({ frames := 1, cells := 1, slots := 5, locals := 40 } : Room).slots) := by
  refine own_enter (Q := Q_18 Z w0 kw0 p2 p3 p4 p5 p6 h0 n0) (F := fun m => mkF m 0 #[.val (.ref w0), .val (.int (5 : Int32)), .unset] []) (plainFor_of_name pn_1) (fun m => by first | (simp [entryFrame, mkF, argsToLocals, Value.category]; done) | rfl) ?_
  intro p e s m below meth c s₁ B X0
  have K : Keep h0 h0 [] := Keep.refl h0 _
  refine own_iloadN (pc' := 1) B X0 d10_0 rfl rfl ?_
  refine own_aloadN (pc' := 2) B X0 d10_1 rfl rfl rfl ?_
  refine own_arraylength (pc' := 3) B X0 V_w0 d10_2 rfl ?_
  refine own_icmpYes (pc' := 14) B X0 d10_3 (feq (by decide : ¬ ((5 : Int32) = (64 : Int32)))).2 (by decide) rfl ?_
  refine own_iloadN (pc' := 15) B X0 d10_14 rfl rfl ?_
  refine own_newarray (pc' := 17) B X0 (own_w hw 9 rfl) d10_15 rfl rfl (by decide) 5 (by decide) (by decide) (k' := 1) (n' := 5) rfl rfl (by decide) (by decide) "[B" (by decide) (.int (0 : Int32)) rfl ?_
  intro T1 h1 b1 kb1 X1 g1 E1 V_b1 E_b1
  have ne_w0_b1 : w0 ≠ b1 := own_ne E_w0.lt g1
  have sz_b1 : h0.size ≤ b1 := own_sz K g1
  have g_b1 : n0 ≤ b1 := Nat.le_trans Z0 sz_b1
  replace K := K.ext E1
  replace E_w0 := E_w0.ext E1
  replace V_w0 := V_w0.ext E1
  replace V_b1 : Arv Z h1 b1 kb1 .byte (5 : Int32) [(.int (0 : Int32)), (.int (0 : Int32)), (.int (0 : Int32)), (.int (0 : Int32)), (.int (0 : Int32))] (.int (0 : Int32)) := V_b1.pad (pad_rep [] (.int (0 : Int32)) 5)
  refine own_astoreN (pc' := 18) B X1 (Ls' := #[.val (.ref w0), .val (.int (5 : Int32)), .val (.ref b1)]) d10_17 rfl rfl rfl ?_
  refine own_aloadN (pc' := 19) B X1 d10_18 rfl rfl rfl ?_
  refine own_iconst (pc' := 20) B X1 (z := (0 : Int32)) d10_19 rfl rfl ?_
  refine own_aloadN (pc' := 21) B X1 d10_20 rfl rfl rfl ?_
  refine own_iconst (pc' := 22) B X1 (z := (0 : Int32)) d10_21 rfl rfl ?_
  refine own_aloadN (pc' := 23) B X1 d10_22 rfl rfl rfl ?_
  refine own_arraylength (pc' := 24) B X1 V_w0 d10_23 rfl ?_
  refine own_iloadN (pc' := 25) B X1 d10_24 rfl rfl ?_
  refine own_callS (pc' := 28) B X1 (own_w hw 55 rfl) (own_w hw 56 rfl) (own_w hw 57 rfl) (own_w hw 58 rfl) (by decide) [(.int (64 : Int32)), (.int (5 : Int32))] [(.int (0 : Int32)), (.ref b1), (.int (0 : Int32)), (.ref w0)] (rm_19 l Z a0 hw []  h1 n0 (Nat.le_trans Z0 K.1) ) 4 (by decide) (by decide) rfl pd_4 rfl rfl (Nat.le_of_eq rfl) d10_25 rfl (k' := 1) (n' := 5) rfl rfl (by decide) (by decide) ?_
  intro T2 v2 h2 X2 q2
  obtain ⟨rfl, rfl⟩ := q2
  show own_Go p e below (T2.setTop (mkF m 28 #[.val (.ref w0), .val (.int (5 : Int32)), .val (.ref b1)] [(.int (5 : Int32)), (.int (0 : Int32)), (.ref b1), (.int (0 : Int32)), (.ref w0)])) _
  refine own_arraycopy (pc' := 31) B X2 (own_w hw 59 rfl) (own_w hw 62 rfl) (own_w hw 60 rfl) (own_w hw 61 rfl) V_w0 V_b1 rfl g_b1 (by decide) (by decide) (by decide) (by decide) (by decide) (us := [(.int p2), (.int p3), (.int p4), (.int p5), (.int p6)]) rfl (Nat.le_of_ble_eq_true rfl) (rs := [(.int p2), (.int p3), (.int p4), (.int p5), (.int p6)]) rfl d10_28 rfl rfl (by decide) 0 (Nat.le_of_eq rfl) (by decide) ?_
  intro T3 h3 X3 K3 V_b1
  replace K := K.trans K3 (allS (Or.inr sz_b1) all0)
  replace E_w0 := E_w0.keep K3
  replace V_w0 := V_w0.keep K3 (ninS ne_w0_b1 nin0)
  replace E_b1 := E_b1.keep K3
  refine own_aloadN (pc' := 32) B X3 d10_31 rfl rfl rfl ?_
  exact own_retA B X3 (t := (.array .byte)) rfl rfl rfl d10_32 (by decide) (by decide) (⟨b1, kb1, rfl, K, sz_b1, E_b1, V_b1⟩)
def Q_17 (Z : State) (w0 : Addr) (w1 : Addr) (kw1 : ClassId) (p3 : Int32) (p4 : Int32) (p5 : Int32) (p6 : Int32) (p7 : Int32) (h0 : Heap) (n0 : Nat) (v : Option Value) (h : Heap) : Prop :=
  (∃ (b4 : Addr) (k5 : ClassId), v = some (.ref b4) ∧ Keep h0 h [] ∧ h0.size ≤ b4 ∧ Exa Z h b4 "[B" ∧ Arv Z h b4 k5 .byte (5 : Int32) [(.int p3), (.int p4), (.int p5), (.int p6), (.int p7)] (.int (0 : Int32)))
set_option maxRecDepth 65536 in
set_option maxHeartbeats 40000000 in
theorem rm_17 (l : Launch) (Z : State) (a0 : Array Value) (hw : ∀ d ∈ tables_1, d.before a0 Z = true) (ws : List Jvm.Cond) (w0 : Addr) (w1 : Addr) (kw1 : ClassId) (p3 : Int32) (p4 : Int32) (p5 : Int32) (p6 : Int32) (p7 : Int32) (h0 : Heap) (n0 : Nat) (Z0 : n0 ≤ h0.size) (E_w0 : Exa Z h0 w0 "demitasse/interp/Bytes") (F_w0_bytes : Fld Z h0 w0 "demitasse/interp/Bytes" "bytes" "[B" (.ref w1)) (F_w0_length : Fld Z h0 w0 "demitasse/interp/Bytes" "length" "I" (.int (5 : Int32))) (g_w0 : n0 ≤ w0) (E_w1 : Exa Z h0 w1 "[B") (V_w1 : Arv Z h0 w1 kw1 .byte (64 : Int32) [(.int p3), (.int p4), (.int p5), (.int p6), (.int p7)] (.int (0 : Int32))) (g_w1 : n0 ≤ w1) (ne_w0_w1 : w0 ≠ w1) :
    MetFree l (⟨"demitasse/interp/Bytes", "toArray", "()[B"⟩ : MethodName) (head1 (Jvm.Cond.code (⟨"demitasse/interp/Bytes", "toArray", "()[B"⟩ : MethodName) prog_64_method_11_code 1 (some (.array .byte)) :: ws) ({ frames := 2, cells := 1, slots := 5, locals := 54 } : Room)) (fun a U => a = #[(.ref w0)] ∧ Z.Warmed39 U.vm ∧ U.heap = h0) (fun _ _ _ _ _ => True) (fun _ U o U' => ∃ v L, o = .returned v ∧ (Fr n0 L ∧ Q_17 Z w0 w1 kw1 p3 p4 p5 p6 p7 h0 n0 v U'.heap) ∧ FrameEnd U o U' L ({ frames := 2, cells := 1, slots := 5, locals := 54 } : Room).cells ({ frames := 2, cells := 1, slots := 5, locals := 54 } : Room).slots) := by
  refine own_enter (Q := Q_17 Z w0 w1 kw1 p3 p4 p5 p6 p7 h0 n0) (F := fun m => mkF m 0 #[.val (.ref w0)] []) (plainFor_of_name pn_0) (fun m => by first | (simp [entryFrame, mkF, argsToLocals, Value.category]; done) | rfl) ?_
  intro p e s m below meth c s₁ B X0
  have K : Keep h0 h0 [] := Keep.refl h0 _
  refine own_aloadN (pc' := 1) B X0 d9_0 rfl rfl rfl ?_
  refine own_getfield (pc' := 4) B X0 (host := "") (Or.inl (own_w hw 10 rfl)) Via.refl F_w0_bytes d9_1 rfl ?_
  intro T1 X1
  refine own_aloadN (pc' := 5) B X1 d9_4 rfl rfl rfl ?_
  refine own_getfield (pc' := 8) B X1 (host := "") (Or.inl (own_w hw 31 rfl)) Via.refl F_w0_length d9_5 rfl ?_
  intro T2 X2
  refine own_callS (pc' := 11) B X2 (own_w hw 51 rfl) (own_w hw 52 rfl) (own_w hw 53 rfl) (own_w hw 54 rfl) (by decide) [(.ref w1), (.int (5 : Int32))] [] (rm_18 l Z a0 hw [] w1 kw1 (p3) (p4) (p5) (p6) (p7) h0 n0 (Nat.le_trans Z0 K.1) E_w1 V_w1 g_w1) 0 (by decide) (by decide) rfl pd_5 rfl rfl (Nat.le_of_eq rfl) d9_8 rfl (k' := 1) (n' := 5) rfl rfl (by decide) (by decide) ?_
  intro T3 v3 h3 X3 q3
  have lt_w0 := E_w0.lt
  have lt_w1 := E_w1.lt
  obtain ⟨b4, k5, rfl, K3, z_b4, E_b4, V_b4⟩ := q3
  have ne_w0_b4 : w0 ≠ b4 := own_ne' lt_w0 z_b4
  have ne_w1_b4 : w1 ≠ b4 := own_ne' lt_w1 z_b4
  have sz_b4 : h0.size ≤ b4 := Nat.le_trans K.1 z_b4
  have g_b4 : n0 ≤ b4 := Nat.le_trans Z0 sz_b4
  replace K := K.trans K3 all0
  replace E_w0 := E_w0.keep K3
  replace F_w0_bytes := F_w0_bytes.keep K3 nin0
  replace F_w0_length := F_w0_length.keep K3 nin0
  replace E_w1 := E_w1.keep K3
  replace V_w1 := V_w1.keep K3 nin0
  show own_Go p e below (T3.setTop (mkF m 11 #[.val (.ref w0)] [(.ref b4)])) _
  exact own_retA B X3 (t := (.array .byte)) rfl rfl rfl d9_11 (by decide) (by decide) (⟨b4, k5, rfl, K, sz_b4, E_b4, V_b4⟩)
def Q_20 (Z : State) (w0 : Addr) (w1 : Addr) (kw1 : ClassId) (p3 : Int32) (p4 : Int32) (p5 : Int32) (p6 : Int32) (p7 : Int32) (p8 : Int32) (h0 : Heap) (n0 : Nat) (v : Option Value) (h : Heap) : Prop :=
  (∃ (y2 : Int32) (y3 : Int32) (y6 : Int32), (p8.toUInt32 >>> ((8 : Int32) &&& 31).toUInt32).toInt32 = y2 ∧ y2.toInt8.toInt32 = y3 ∧ p8.toInt8.toInt32 = y6 ∧ v = none ∧ Keep h0 h [w1] ∧ Exa Z h w1 "[B" ∧ Arv Z h w1 kw1 .byte (64 : Int32) [(.int p3), (.int y3), (.int y6), (.int p6), (.int p7)] (.int (0 : Int32)))
set_option maxRecDepth 65536 in
set_option maxHeartbeats 40000000 in
theorem rm_20 (l : Launch) (Z : State) (a0 : Array Value) (hw : ∀ d ∈ tables_1, d.before a0 Z = true) (ws : List Jvm.Cond) (w0 : Addr) (w1 : Addr) (kw1 : ClassId) (p3 : Int32) (p4 : Int32) (p5 : Int32) (p6 : Int32) (p7 : Int32) (p8 : Int32) (h0 : Heap) (n0 : Nat) (Z0 : n0 ≤ h0.size) (E_w0 : Exa Z h0 w0 "demitasse/interp/Bytes") (F_w0_bytes : Fld Z h0 w0 "demitasse/interp/Bytes" "bytes" "[B" (.ref w1)) (F_w0_length : Fld Z h0 w0 "demitasse/interp/Bytes" "length" "I" (.int (5 : Int32))) (g_w0 : n0 ≤ w0) (E_w1 : Exa Z h0 w1 "[B") (V_w1 : Arv Z h0 w1 kw1 .byte (64 : Int32) [(.int p3), (.int p4), (.int p5), (.int p6), (.int p7)] (.int (0 : Int32))) (g_w1 : n0 ≤ w1) (ne_w0_w1 : w0 ≠ w1) :
    MetFree l (⟨"demitasse/interp/Bytes", "u2At", "(II)V"⟩ : MethodName) (head1 (Jvm.Cond.code (⟨"demitasse/interp/Bytes", "u2At", "(II)V"⟩ : MethodName) prog_64_method_6_code 3 none :: ws) ({ frames := 0, cells := 0, slots := 0, locals := 0 } : Room)) (fun a U => a = #[(.ref w0), (.int (1 : Int32)), (.int p8)] ∧ Z.Warmed39 U.vm ∧ U.heap = h0) (fun _ _ _ _ _ => True) (fun _ U o U' => ∃ v L, o = .returned v ∧ (Fr n0 L ∧ Q_20 Z w0 w1 kw1 p3 p4 p5 p6 p7 p8 h0 n0 v U'.heap) ∧ FrameEnd U o U' L ({ frames := 0, cells := 0, slots := 0, locals := 0 } : Room).cells ({ frames := 0, cells := 0, slots := 0, locals := 0 } : Room).slots) := by
  refine own_enter (Q := Q_20 Z w0 w1 kw1 p3 p4 p5 p6 p7 p8 h0 n0) (F := fun m => mkF m 0 #[.val (.ref w0), .val (.int (1 : Int32)), .val (.int p8)] []) (plainFor_of_name pn_0) (fun m => by first | (simp [entryFrame, mkF, argsToLocals, Value.category]; done) | rfl) ?_
  intro p e s m below meth c s₁ B X0
  have K : Keep h0 h0 [w1] := Keep.refl h0 _
  refine own_aloadN (pc' := 1) B X0 d7_0 rfl rfl rfl ?_
  refine own_getfield (pc' := 4) B X0 (host := "") (Or.inl (own_w hw 10 rfl)) Via.refl F_w0_bytes d7_1 rfl ?_
  intro T1 X1
  refine own_iloadN (pc' := 5) B X1 d7_4 rfl rfl ?_
  refine own_iloadN (pc' := 6) B X1 d7_5 rfl rfl ?_
  refine own_bipush (pc' := 8) B X1 (z := (8 : Int32)) d7_6 rfl (by decide) ?_
  obtain ⟨y2, hy2⟩ : ∃ z : Int32, (p8.toUInt32 >>> ((8 : Int32) &&& 31).toUInt32).toInt32 = z := ⟨_, rfl⟩
  refine own_iushr (pc' := 9) B X1 d7_8 rfl hy2 ?_
  obtain ⟨y3, hy3⟩ : ∃ z : Int32, y2.toInt8.toInt32 = z := ⟨_, rfl⟩
  refine own_i2b (pc' := 10) B X1 d7_9 rfl hy3 ?_
  refine own_bastore (pc' := 11) B X1 (x' := y3) V_w1 g_w1 ⟨by decide, by decide⟩ 1 (by decide) (Nat.le_of_ble_eq_true rfl) (own_idem_i2b hy3) d7_10 rfl ?_
  intro T4 h4 X4 W4 V_w1
  replace V_w1 : Arv Z h4 w1 kw1 .byte (64 : Int32) [(.int p3), (.int y3), (.int p5), (.int p6), (.int p7)] (.int (0 : Int32)) := V_w1
  replace E_w0 := E_w0.wr W4
  replace F_w0_bytes := F_w0_bytes.other W4 (Or.inl ne_w0_w1)
  replace F_w0_length := F_w0_length.other W4 (Or.inl ne_w0_w1)
  replace E_w1 := E_w1.wr W4
  replace K := K.wr W4 (Or.inl (List.mem_of_getElem? (i := 0) rfl))
  refine own_aloadN (pc' := 12) B X4 d7_11 rfl rfl rfl ?_
  refine own_getfield (pc' := 15) B X4 (host := "") (Or.inl (own_w hw 10 rfl)) Via.refl F_w0_bytes d7_12 rfl ?_
  intro T5 X5
  refine own_iloadN (pc' := 16) B X5 d7_15 rfl rfl ?_
  refine own_iconst (pc' := 17) B X5 (z := (1 : Int32)) d7_16 rfl rfl ?_
  refine own_iadd (pc' := 18) B X5 (z := (2 : Int32)) d7_17 rfl (by decide) ?_
  refine own_iloadN (pc' := 19) B X5 d7_18 rfl rfl ?_
  obtain ⟨y6, hy6⟩ : ∃ z : Int32, p8.toInt8.toInt32 = z := ⟨_, rfl⟩
  refine own_i2b (pc' := 20) B X5 d7_19 rfl hy6 ?_
  refine own_bastore (pc' := 21) B X5 (x' := y6) V_w1 g_w1 ⟨by decide, by decide⟩ 2 (by decide) (Nat.le_of_ble_eq_true rfl) (own_idem_i2b hy6) d7_20 rfl ?_
  intro T7 h7 X7 W7 V_w1
  replace V_w1 : Arv Z h7 w1 kw1 .byte (64 : Int32) [(.int p3), (.int y3), (.int y6), (.int p6), (.int p7)] (.int (0 : Int32)) := V_w1
  replace E_w0 := E_w0.wr W7
  replace F_w0_bytes := F_w0_bytes.other W7 (Or.inl ne_w0_w1)
  replace F_w0_length := F_w0_length.other W7 (Or.inl ne_w0_w1)
  replace E_w1 := E_w1.wr W7
  replace K := K.wr W7 (Or.inl (List.mem_of_getElem? (i := 0) rfl))
  exact own_ret B X7 d7_21 (by decide) (by decide) (⟨y2, y3, y6, hy2, hy3, hy6, rfl, K, E_w1, V_w1⟩)
def Q_21 (Z : State) (w0 : Addr) (w1 : Addr) (kw1 : ClassId) (p3 : Int32) (p4 : Int32) (p5 : Int32) (p6 : Int32) (p7 : Int32) (p8 : Int32) (h0 : Heap) (n0 : Nat) (v : Option Value) (h : Heap) : Prop :=
  (∃ (y2 : Int32) (y3 : Int32) (y6 : Int32), (p8.toUInt32 >>> ((8 : Int32) &&& 31).toUInt32).toInt32 = y2 ∧ y2.toInt8.toInt32 = y3 ∧ p8.toInt8.toInt32 = y6 ∧ v = none ∧ Keep h0 h [w1] ∧ Exa Z h w1 "[B" ∧ Arv Z h w1 kw1 .byte (64 : Int32) [(.int p3), (.int p4), (.int y3), (.int y6), (.int p7)] (.int (0 : Int32)))
set_option maxRecDepth 65536 in
set_option maxHeartbeats 40000000 in
theorem rm_21 (l : Launch) (Z : State) (a0 : Array Value) (hw : ∀ d ∈ tables_1, d.before a0 Z = true) (ws : List Jvm.Cond) (w0 : Addr) (w1 : Addr) (kw1 : ClassId) (p3 : Int32) (p4 : Int32) (p5 : Int32) (p6 : Int32) (p7 : Int32) (p8 : Int32) (h0 : Heap) (n0 : Nat) (Z0 : n0 ≤ h0.size) (E_w0 : Exa Z h0 w0 "demitasse/interp/Bytes") (F_w0_bytes : Fld Z h0 w0 "demitasse/interp/Bytes" "bytes" "[B" (.ref w1)) (F_w0_length : Fld Z h0 w0 "demitasse/interp/Bytes" "length" "I" (.int (5 : Int32))) (g_w0 : n0 ≤ w0) (E_w1 : Exa Z h0 w1 "[B") (V_w1 : Arv Z h0 w1 kw1 .byte (64 : Int32) [(.int p3), (.int p4), (.int p5), (.int p6), (.int p7)] (.int (0 : Int32))) (g_w1 : n0 ≤ w1) (ne_w0_w1 : w0 ≠ w1) :
    MetFree l (⟨"demitasse/interp/Bytes", "u2At", "(II)V"⟩ : MethodName) (head1 (Jvm.Cond.code (⟨"demitasse/interp/Bytes", "u2At", "(II)V"⟩ : MethodName) prog_64_method_6_code 3 none :: ws) ({ frames := 0, cells := 0, slots := 0, locals := 0 } : Room)) (fun a U => a = #[(.ref w0), (.int (2 : Int32)), (.int p8)] ∧ Z.Warmed39 U.vm ∧ U.heap = h0) (fun _ _ _ _ _ => True) (fun _ U o U' => ∃ v L, o = .returned v ∧ (Fr n0 L ∧ Q_21 Z w0 w1 kw1 p3 p4 p5 p6 p7 p8 h0 n0 v U'.heap) ∧ FrameEnd U o U' L ({ frames := 0, cells := 0, slots := 0, locals := 0 } : Room).cells ({ frames := 0, cells := 0, slots := 0, locals := 0 } : Room).slots) := by
  refine own_enter (Q := Q_21 Z w0 w1 kw1 p3 p4 p5 p6 p7 p8 h0 n0) (F := fun m => mkF m 0 #[.val (.ref w0), .val (.int (2 : Int32)), .val (.int p8)] []) (plainFor_of_name pn_0) (fun m => by first | (simp [entryFrame, mkF, argsToLocals, Value.category]; done) | rfl) ?_
  intro p e s m below meth c s₁ B X0
  have K : Keep h0 h0 [w1] := Keep.refl h0 _
  refine own_aloadN (pc' := 1) B X0 d7_0 rfl rfl rfl ?_
  refine own_getfield (pc' := 4) B X0 (host := "") (Or.inl (own_w hw 10 rfl)) Via.refl F_w0_bytes d7_1 rfl ?_
  intro T1 X1
  refine own_iloadN (pc' := 5) B X1 d7_4 rfl rfl ?_
  refine own_iloadN (pc' := 6) B X1 d7_5 rfl rfl ?_
  refine own_bipush (pc' := 8) B X1 (z := (8 : Int32)) d7_6 rfl (by decide) ?_
  obtain ⟨y2, hy2⟩ : ∃ z : Int32, (p8.toUInt32 >>> ((8 : Int32) &&& 31).toUInt32).toInt32 = z := ⟨_, rfl⟩
  refine own_iushr (pc' := 9) B X1 d7_8 rfl hy2 ?_
  obtain ⟨y3, hy3⟩ : ∃ z : Int32, y2.toInt8.toInt32 = z := ⟨_, rfl⟩
  refine own_i2b (pc' := 10) B X1 d7_9 rfl hy3 ?_
  refine own_bastore (pc' := 11) B X1 (x' := y3) V_w1 g_w1 ⟨by decide, by decide⟩ 2 (by decide) (Nat.le_of_ble_eq_true rfl) (own_idem_i2b hy3) d7_10 rfl ?_
  intro T4 h4 X4 W4 V_w1
  replace V_w1 : Arv Z h4 w1 kw1 .byte (64 : Int32) [(.int p3), (.int p4), (.int y3), (.int p6), (.int p7)] (.int (0 : Int32)) := V_w1
  replace E_w0 := E_w0.wr W4
  replace F_w0_bytes := F_w0_bytes.other W4 (Or.inl ne_w0_w1)
  replace F_w0_length := F_w0_length.other W4 (Or.inl ne_w0_w1)
  replace E_w1 := E_w1.wr W4
  replace K := K.wr W4 (Or.inl (List.mem_of_getElem? (i := 0) rfl))
  refine own_aloadN (pc' := 12) B X4 d7_11 rfl rfl rfl ?_
  refine own_getfield (pc' := 15) B X4 (host := "") (Or.inl (own_w hw 10 rfl)) Via.refl F_w0_bytes d7_12 rfl ?_
  intro T5 X5
  refine own_iloadN (pc' := 16) B X5 d7_15 rfl rfl ?_
  refine own_iconst (pc' := 17) B X5 (z := (1 : Int32)) d7_16 rfl rfl ?_
  refine own_iadd (pc' := 18) B X5 (z := (3 : Int32)) d7_17 rfl (by decide) ?_
  refine own_iloadN (pc' := 19) B X5 d7_18 rfl rfl ?_
  obtain ⟨y6, hy6⟩ : ∃ z : Int32, p8.toInt8.toInt32 = z := ⟨_, rfl⟩
  refine own_i2b (pc' := 20) B X5 d7_19 rfl hy6 ?_
  refine own_bastore (pc' := 21) B X5 (x' := y6) V_w1 g_w1 ⟨by decide, by decide⟩ 3 (by decide) (Nat.le_of_ble_eq_true rfl) (own_idem_i2b hy6) d7_20 rfl ?_
  intro T7 h7 X7 W7 V_w1
  replace V_w1 : Arv Z h7 w1 kw1 .byte (64 : Int32) [(.int p3), (.int p4), (.int y3), (.int y6), (.int p7)] (.int (0 : Int32)) := V_w1
  replace E_w0 := E_w0.wr W7
  replace F_w0_bytes := F_w0_bytes.other W7 (Or.inl ne_w0_w1)
  replace F_w0_length := F_w0_length.other W7 (Or.inl ne_w0_w1)
  replace E_w1 := E_w1.wr W7
  replace K := K.wr W7 (Or.inl (List.mem_of_getElem? (i := 0) rfl))
  exact own_ret B X7 d7_21 (by decide) (by decide) (⟨y2, y3, y6, hy2, hy3, hy6, rfl, K, E_w1, V_w1⟩)
def Q_22 (Z : State) (w0 : Addr) (w1 : Addr) (kw1 : ClassId) (p3 : Int32) (p4 : Int32) (p5 : Int32) (p6 : Int32) (p7 : Int32) (p8 : Int32) (h0 : Heap) (n0 : Nat) (v : Option Value) (h : Heap) : Prop :=
  (∃ (y2 : Int32) (y3 : Int32) (y6 : Int32), (p8.toUInt32 >>> ((8 : Int32) &&& 31).toUInt32).toInt32 = y2 ∧ y2.toInt8.toInt32 = y3 ∧ p8.toInt8.toInt32 = y6 ∧ v = none ∧ Keep h0 h [w1] ∧ Exa Z h w1 "[B" ∧ Arv Z h w1 kw1 .byte (64 : Int32) [(.int p3), (.int p4), (.int p5), (.int y3), (.int y6)] (.int (0 : Int32)))
set_option maxRecDepth 65536 in
set_option maxHeartbeats 40000000 in
theorem rm_22 (l : Launch) (Z : State) (a0 : Array Value) (hw : ∀ d ∈ tables_1, d.before a0 Z = true) (ws : List Jvm.Cond) (w0 : Addr) (w1 : Addr) (kw1 : ClassId) (p3 : Int32) (p4 : Int32) (p5 : Int32) (p6 : Int32) (p7 : Int32) (p8 : Int32) (h0 : Heap) (n0 : Nat) (Z0 : n0 ≤ h0.size) (E_w0 : Exa Z h0 w0 "demitasse/interp/Bytes") (F_w0_bytes : Fld Z h0 w0 "demitasse/interp/Bytes" "bytes" "[B" (.ref w1)) (F_w0_length : Fld Z h0 w0 "demitasse/interp/Bytes" "length" "I" (.int (5 : Int32))) (g_w0 : n0 ≤ w0) (E_w1 : Exa Z h0 w1 "[B") (V_w1 : Arv Z h0 w1 kw1 .byte (64 : Int32) [(.int p3), (.int p4), (.int p5), (.int p6), (.int p7)] (.int (0 : Int32))) (g_w1 : n0 ≤ w1) (ne_w0_w1 : w0 ≠ w1) :
    MetFree l (⟨"demitasse/interp/Bytes", "u2At", "(II)V"⟩ : MethodName) (head1 (Jvm.Cond.code (⟨"demitasse/interp/Bytes", "u2At", "(II)V"⟩ : MethodName) prog_64_method_6_code 3 none :: ws) ({ frames := 0, cells := 0, slots := 0, locals := 0 } : Room)) (fun a U => a = #[(.ref w0), (.int (3 : Int32)), (.int p8)] ∧ Z.Warmed39 U.vm ∧ U.heap = h0) (fun _ _ _ _ _ => True) (fun _ U o U' => ∃ v L, o = .returned v ∧ (Fr n0 L ∧ Q_22 Z w0 w1 kw1 p3 p4 p5 p6 p7 p8 h0 n0 v U'.heap) ∧ FrameEnd U o U' L ({ frames := 0, cells := 0, slots := 0, locals := 0 } : Room).cells ({ frames := 0, cells := 0, slots := 0, locals := 0 } : Room).slots) := by
  refine own_enter (Q := Q_22 Z w0 w1 kw1 p3 p4 p5 p6 p7 p8 h0 n0) (F := fun m => mkF m 0 #[.val (.ref w0), .val (.int (3 : Int32)), .val (.int p8)] []) (plainFor_of_name pn_0) (fun m => by first | (simp [entryFrame, mkF, argsToLocals, Value.category]; done) | rfl) ?_
  intro p e s m below meth c s₁ B X0
  have K : Keep h0 h0 [w1] := Keep.refl h0 _
  refine own_aloadN (pc' := 1) B X0 d7_0 rfl rfl rfl ?_
  refine own_getfield (pc' := 4) B X0 (host := "") (Or.inl (own_w hw 10 rfl)) Via.refl F_w0_bytes d7_1 rfl ?_
  intro T1 X1
  refine own_iloadN (pc' := 5) B X1 d7_4 rfl rfl ?_
  refine own_iloadN (pc' := 6) B X1 d7_5 rfl rfl ?_
  refine own_bipush (pc' := 8) B X1 (z := (8 : Int32)) d7_6 rfl (by decide) ?_
  obtain ⟨y2, hy2⟩ : ∃ z : Int32, (p8.toUInt32 >>> ((8 : Int32) &&& 31).toUInt32).toInt32 = z := ⟨_, rfl⟩
  refine own_iushr (pc' := 9) B X1 d7_8 rfl hy2 ?_
  obtain ⟨y3, hy3⟩ : ∃ z : Int32, y2.toInt8.toInt32 = z := ⟨_, rfl⟩
  refine own_i2b (pc' := 10) B X1 d7_9 rfl hy3 ?_
  refine own_bastore (pc' := 11) B X1 (x' := y3) V_w1 g_w1 ⟨by decide, by decide⟩ 3 (by decide) (Nat.le_of_ble_eq_true rfl) (own_idem_i2b hy3) d7_10 rfl ?_
  intro T4 h4 X4 W4 V_w1
  replace V_w1 : Arv Z h4 w1 kw1 .byte (64 : Int32) [(.int p3), (.int p4), (.int p5), (.int y3), (.int p7)] (.int (0 : Int32)) := V_w1
  replace E_w0 := E_w0.wr W4
  replace F_w0_bytes := F_w0_bytes.other W4 (Or.inl ne_w0_w1)
  replace F_w0_length := F_w0_length.other W4 (Or.inl ne_w0_w1)
  replace E_w1 := E_w1.wr W4
  replace K := K.wr W4 (Or.inl (List.mem_of_getElem? (i := 0) rfl))
  refine own_aloadN (pc' := 12) B X4 d7_11 rfl rfl rfl ?_
  refine own_getfield (pc' := 15) B X4 (host := "") (Or.inl (own_w hw 10 rfl)) Via.refl F_w0_bytes d7_12 rfl ?_
  intro T5 X5
  refine own_iloadN (pc' := 16) B X5 d7_15 rfl rfl ?_
  refine own_iconst (pc' := 17) B X5 (z := (1 : Int32)) d7_16 rfl rfl ?_
  refine own_iadd (pc' := 18) B X5 (z := (4 : Int32)) d7_17 rfl (by decide) ?_
  refine own_iloadN (pc' := 19) B X5 d7_18 rfl rfl ?_
  obtain ⟨y6, hy6⟩ : ∃ z : Int32, p8.toInt8.toInt32 = z := ⟨_, rfl⟩
  refine own_i2b (pc' := 20) B X5 d7_19 rfl hy6 ?_
  refine own_bastore (pc' := 21) B X5 (x' := y6) V_w1 g_w1 ⟨by decide, by decide⟩ 4 (by decide) (Nat.le_of_ble_eq_true rfl) (own_idem_i2b hy6) d7_20 rfl ?_
  intro T7 h7 X7 W7 V_w1
  replace V_w1 : Arv Z h7 w1 kw1 .byte (64 : Int32) [(.int p3), (.int p4), (.int p5), (.int y3), (.int y6)] (.int (0 : Int32)) := V_w1
  replace E_w0 := E_w0.wr W7
  replace F_w0_bytes := F_w0_bytes.other W7 (Or.inl ne_w0_w1)
  replace F_w0_length := F_w0_length.other W7 (Or.inl ne_w0_w1)
  replace E_w1 := E_w1.wr W7
  replace K := K.wr W7 (Or.inl (List.mem_of_getElem? (i := 0) rfl))
  exact own_ret B X7 d7_21 (by decide) (by decide) (⟨y2, y3, y6, hy2, hy3, hy6, rfl, K, E_w1, V_w1⟩)
def Q_0 (Z : State) (i0 : Int32) (i1 : Int32) (i2 : Int32) (i3 : Int32) (h0 : Heap) (n0 : Nat) (v : Option Value) (h : Heap) : Prop :=
  (v = some (.int (1 : Int32)))
set_option maxRecDepth 65536 in
set_option maxHeartbeats 40000000 in
theorem rm_0 (l : Launch) (Z : State) (a0 : Array Value) (hw : ∀ d ∈ tables_1, d.before a0 Z = true) (ws : List Jvm.Cond) (i0 : Int32) (i1 : Int32) (i2 : Int32) (i3 : Int32) (h0 : Heap) (n0 : Nat) (Z0 : n0 ≤ h0.size)  :
    MetFree l x (head1 (Jvm.Cond.code x code maxLocals ret :: ws) room_1) (fun a U => a = #[(.int i0), (.int i1), (.int i2), (.int i3)] ∧ Z.Warmed39 U.vm ∧ U.heap = h0) (fun _ _ _ _ _ => True) (fun _ U o U' => ∃ v L, o = .returned v ∧ (Fr n0 L ∧ Q_0 Z i0 i1 i2 i3 h0 n0 v U'.heap) ∧ FrameEnd U o U' L room_1.cells room_1.slots) := by
  refine own_enter (Q := Q_0 Z i0 i1 i2 i3 h0 n0) (F := fun m => mkF m 0 #[.val (.int i0), .val (.int i1), .val (.int i2), .val (.int i3), .unset, .unset, .unset, .unset] []) (plainFor_of_name pn_2) (fun m => by first | (simp [entryFrame, mkF, argsToLocals, Value.category, maxLocals]; done) | rfl) ?_
  intro p e s m below meth c s₁ B X0
  have K : Keep h0 h0 [] := Keep.refl h0 _
  refine own_new (pc' := 3) B X0 (own_w hw 0 rfl) (own_w hw 1 rfl) (own_w hw 2 rfl) at_0 rfl (k' := 1) (n' := 2) rfl rfl (by decide) (by decide) ?_
  intro T1 h1 b1 X1 g1 E1 E_b1 D1
  have sz_b1 : h0.size ≤ b1 := own_sz K g1
  have g_b1 : n0 ≤ b1 := Nat.le_trans Z0 sz_b1
  replace K := K.ext E1
  have F_b1_bytes : Fld Z h1 b1 "demitasse/interp/Bytes" "bytes" "[B" .null := D1 (Or.inl (own_w hw 11 rfl)) (ty := (.array .byte)) (by decide)
  have F_b1_length : Fld Z h1 b1 "demitasse/interp/Bytes" "length" "I" (.int (0 : Int32)) := D1 (Or.inl (own_w hw 32 rfl)) (ty := .int) (by decide)
  clear D1
  refine own_dup (pc' := 4) B X1 at_3 rfl rfl ?_
  refine own_callI (pc' := 7) B X1 rfl rfl (own_w hw 3 rfl) (own_w hw 4 rfl) (own_w hw 2 rfl) (own_w hw 5 rfl) (by decide) [] [(.ref b1)] (rm_1 l Z a0 hw [] b1 h1 n0 (Nat.le_trans Z0 K.1) E_b1 F_b1_bytes F_b1_length g_b1) 1 (by decide) (by decide) rfl pd_0 rfl rfl (Nat.le_of_eq rfl) at_4 rfl (k' := 2) (n' := 66) rfl rfl (by decide) (by decide) ?_
  intro T2 v2 h2 X2 q2
  have lt_b1 := E_b1.lt
  obtain ⟨b3, k4, rfl, K2, z_b3, E_b1, F_b1_bytes, F_b1_length, E_b3, V_b3⟩ := q2
  have ne_b1_b3 : b1 ≠ b3 := own_ne' lt_b1 z_b3
  have sz_b3 : h0.size ≤ b3 := Nat.le_trans K.1 z_b3
  have g_b3 : n0 ≤ b3 := Nat.le_trans Z0 sz_b3
  replace K := K.trans K2 (allS (Or.inr sz_b1) all0)
  show own_Go p e below (T2.setTop (mkF m 7 #[.val (.int i0), .val (.int i1), .val (.int i2), .val (.int i3), .unset, .unset, .unset, .unset] [(.ref b1)])) _
  refine own_astore (pc' := 9) B X2 (Ls' := #[.val (.int i0), .val (.int i1), .val (.int i2), .val (.int i3), .val (.ref b1), .unset, .unset, .unset]) at_7 rfl rfl rfl ?_
  refine own_aload (pc' := 11) B X2 at_9 rfl rfl rfl ?_
  refine own_iloadN (pc' := 12) B X2 at_11 rfl rfl ?_
  refine own_callV (pc' := 15) B X2 (own_w hw 12 rfl) (own_w hw 13 rfl) (own_w hw 15 rfl) (own_w hw 14 rfl) (own_w hw 2 rfl) (own_w hw 16 rfl) E_b1 (by decide) [(.int i0)] [] (rm_2 l Z a0 hw [] b1 b3 k4 (i0) h2 n0 (Nat.le_trans Z0 K.1) E_b1 F_b1_bytes F_b1_length g_b1 E_b3 V_b3 g_b3 ne_b1_b3) 0 (by decide) (by decide) rfl pd_1 rfl rfl (Nat.le_of_eq rfl) at_12 rfl (k' := 2) (n' := 66) rfl rfl (by decide) (by decide) ?_
  intro T5 v5 h5 X5 q5
  obtain ⟨y6, y7, y8, y9, y10, y11, y12, hy13, hy14, hy15, hy16, hy17, hy18, hy19, rfl, K5, E_b1, F_b1_bytes, F_b1_length, E_b3, V_b3⟩ := q5
  replace K := K.trans K5 (allS (Or.inr sz_b1) (allS (Or.inr sz_b3) all0))
  show own_Go p e below (T5.setTop (mkF m 15 #[.val (.int i0), .val (.int i1), .val (.int i2), .val (.int i3), .val (.ref b1), .unset, .unset, .unset] [])) _
  refine own_aload (pc' := 17) B X5 at_15 rfl rfl rfl ?_
  refine own_iloadN (pc' := 18) B X5 at_17 rfl rfl ?_
  refine own_callV (pc' := 21) B X5 (own_w hw 33 rfl) (own_w hw 23 rfl) (own_w hw 25 rfl) (own_w hw 24 rfl) (own_w hw 2 rfl) (own_w hw 26 rfl) E_b1 (by decide) [(.int i1)] [] (rm_13 l Z a0 hw [] b1 b3 k4 (y8) (y9) (y11) (y12) (i1) h5 n0 (Nat.le_trans Z0 K.1) E_b1 F_b1_bytes F_b1_length g_b1 E_b3 V_b3 g_b3 ne_b1_b3) 0 (by decide) (by decide) rfl pd_1 rfl rfl (Nat.le_of_eq rfl) at_18 rfl (k' := 2) (n' := 66) rfl rfl (by decide) (by decide) ?_
  intro T20 v20 h20 X20 q20
  obtain ⟨y21, hy22, rfl, K20, E_b1, F_b1_bytes, F_b1_length, E_b3, V_b3⟩ := q20
  replace K := K.trans K20 (allS (Or.inr sz_b1) (allS (Or.inr sz_b3) all0))
  show own_Go p e below (T20.setTop (mkF m 21 #[.val (.int i0), .val (.int i1), .val (.int i2), .val (.int i3), .val (.ref b1), .unset, .unset, .unset] [])) _
  refine own_iloadN (pc' := 22) B X20 at_21 rfl rfl ?_
  refine own_ldcI (pc' := 24) B X20 (own_w hw 34 rfl) at_22 rfl ?_
  obtain ⟨y23, hy23⟩ : ∃ z : Int32, i2 &&& (2147483647 : Int32) = z := ⟨_, rfl⟩
  refine own_iand (pc' := 25) B X20 at_24 rfl hy23 ?_
  refine own_iconst (pc' := 26) B X20 (z := (4 : Int32)) at_25 rfl rfl ?_
  obtain ⟨y24, hy24⟩ : ∃ z : Int32, y23 % (4 : Int32) = z := ⟨_, rfl⟩
  refine own_irem (pc' := 27) B X20 at_26 rfl (by decide) hy24 ?_
  have z25 : y24.toInt = 0 ∨ y24.toInt = 1 ∨ y24.toInt = 2 ∨ y24.toInt = 3 := by
    have o0 := own_o_mask hy23 31 (by decide) (by decide)
    have o1 := own_o_irem hy24 4 (by decide)
    have o2 := rng32 i2
    have o3 := rng32 y23
    have o4 := rng32 y24
    have o5 : (2147483647 : Int32).toInt = 2147483647 := by decide
    have o6 : (4 : Int32).toInt = 4 := by decide
    omega
  rcases z25 with z25 | z25 | z25 | z25
  · obtain rfl : y24 = (0 : Int32) := Int32.toInt_inj.mp (z25.trans (by decide))
    refine own_istore (pc' := 29) B X20 (Ls' := #[.val (.int i0), .val (.int i1), .val (.int i2), .val (.int i3), .val (.ref b1), .val (.int (0 : Int32)), .unset, .unset]) at_27 rfl rfl ?_
    refine own_iconst (pc' := 30) B X20 (z := (5 : Int32)) at_29 rfl rfl ?_
    refine own_newarray (pc' := 32) B X20 (own_w hw 9 rfl) at_30 rfl rfl (by decide) 5 (by decide) (by decide) (k' := 3) (n' := 71) rfl rfl (by decide) (by decide) "[B" (by decide) (.int (0 : Int32)) rfl ?_
    intro T26 h26 b26 kb26 X26 g26 E26 V_b26 E_b26
    have ne_b1_b26 : b1 ≠ b26 := own_ne E_b1.lt g26
    have ne_b3_b26 : b3 ≠ b26 := own_ne E_b3.lt g26
    have sz_b26 : h0.size ≤ b26 := own_sz K g26
    have g_b26 : n0 ≤ b26 := Nat.le_trans Z0 sz_b26
    replace K := K.ext E26
    replace E_b1 := E_b1.ext E26
    replace F_b1_bytes := F_b1_bytes.ext E26
    replace F_b1_length := F_b1_length.ext E26
    replace E_b3 := E_b3.ext E26
    replace V_b3 := V_b3.ext E26
    replace V_b26 : Arv Z h26 b26 kb26 .byte (5 : Int32) [(.int (0 : Int32)), (.int (0 : Int32)), (.int (0 : Int32)), (.int (0 : Int32)), (.int (0 : Int32))] (.int (0 : Int32)) := V_b26.pad (pad_rep [] (.int (0 : Int32)) 5)
    refine own_astore (pc' := 34) B X26 (Ls' := #[.val (.int i0), .val (.int i1), .val (.int i2), .val (.int i3), .val (.ref b1), .val (.int (0 : Int32)), .val (.ref b26), .unset]) at_32 rfl rfl rfl ?_
    refine own_aload (pc' := 36) B X26 at_34 rfl rfl rfl ?_
    refine own_iconst (pc' := 37) B X26 (z := (0 : Int32)) at_36 rfl rfl ?_
    refine own_iloadN (pc' := 38) B X26 at_37 rfl rfl ?_
    refine own_bipush (pc' := 40) B X26 (z := (24 : Int32)) at_38 rfl (by decide) ?_
    obtain ⟨y27, hy27⟩ : ∃ z : Int32, i0 >>> ((24 : Int32) &&& 31) = z := ⟨_, rfl⟩
    refine own_ishr (pc' := 41) B X26 at_40 rfl hy27 ?_
    obtain ⟨y28, hy28⟩ : ∃ z : Int32, y27.toInt8.toInt32 = z := ⟨_, rfl⟩
    refine own_i2b (pc' := 42) B X26 at_41 rfl hy28 ?_
    refine own_bastore (pc' := 43) B X26 (x' := y28) V_b26 g_b26 ⟨by decide, by decide⟩ 0 (by decide) (Nat.le_of_ble_eq_true rfl) (own_idem_i2b hy28) at_42 rfl ?_
    intro T29 h29 X29 W29 V_b26
    replace V_b26 : Arv Z h29 b26 kb26 .byte (5 : Int32) [(.int y28), (.int (0 : Int32)), (.int (0 : Int32)), (.int (0 : Int32)), (.int (0 : Int32))] (.int (0 : Int32)) := V_b26
    replace E_b1 := E_b1.wr W29
    replace F_b1_bytes := F_b1_bytes.other W29 (Or.inl ne_b1_b26)
    replace F_b1_length := F_b1_length.other W29 (Or.inl ne_b1_b26)
    replace E_b3 := E_b3.wr W29
    replace V_b3 := V_b3.other W29 ne_b3_b26
    replace E_b26 := E_b26.wr W29
    replace K := K.wr W29 (Or.inr sz_b26)
    refine own_aload (pc' := 45) B X29 at_43 rfl rfl rfl ?_
    refine own_iconst (pc' := 46) B X29 (z := (1 : Int32)) at_45 rfl rfl ?_
    refine own_iloadN (pc' := 47) B X29 at_46 rfl rfl ?_
    refine own_bipush (pc' := 49) B X29 (z := (16 : Int32)) at_47 rfl (by decide) ?_
    obtain ⟨y30, hy30⟩ : ∃ z : Int32, i0 >>> ((16 : Int32) &&& 31) = z := ⟨_, rfl⟩
    refine own_ishr (pc' := 50) B X29 at_49 rfl hy30 ?_
    obtain ⟨y31, hy31⟩ : ∃ z : Int32, y30.toInt8.toInt32 = z := ⟨_, rfl⟩
    refine own_i2b (pc' := 51) B X29 at_50 rfl hy31 ?_
    refine own_bastore (pc' := 52) B X29 (x' := y31) V_b26 g_b26 ⟨by decide, by decide⟩ 1 (by decide) (Nat.le_of_ble_eq_true rfl) (own_idem_i2b hy31) at_51 rfl ?_
    intro T32 h32 X32 W32 V_b26
    replace V_b26 : Arv Z h32 b26 kb26 .byte (5 : Int32) [(.int y28), (.int y31), (.int (0 : Int32)), (.int (0 : Int32)), (.int (0 : Int32))] (.int (0 : Int32)) := V_b26
    replace E_b1 := E_b1.wr W32
    replace F_b1_bytes := F_b1_bytes.other W32 (Or.inl ne_b1_b26)
    replace F_b1_length := F_b1_length.other W32 (Or.inl ne_b1_b26)
    replace E_b3 := E_b3.wr W32
    replace V_b3 := V_b3.other W32 ne_b3_b26
    replace E_b26 := E_b26.wr W32
    replace K := K.wr W32 (Or.inr sz_b26)
    refine own_aload (pc' := 54) B X32 at_52 rfl rfl rfl ?_
    refine own_iconst (pc' := 55) B X32 (z := (2 : Int32)) at_54 rfl rfl ?_
    refine own_iloadN (pc' := 56) B X32 at_55 rfl rfl ?_
    refine own_bipush (pc' := 58) B X32 (z := (8 : Int32)) at_56 rfl (by decide) ?_
    obtain ⟨y33, hy33⟩ : ∃ z : Int32, i0 >>> ((8 : Int32) &&& 31) = z := ⟨_, rfl⟩
    refine own_ishr (pc' := 59) B X32 at_58 rfl hy33 ?_
    obtain ⟨y34, hy34⟩ : ∃ z : Int32, y33.toInt8.toInt32 = z := ⟨_, rfl⟩
    refine own_i2b (pc' := 60) B X32 at_59 rfl hy34 ?_
    refine own_bastore (pc' := 61) B X32 (x' := y34) V_b26 g_b26 ⟨by decide, by decide⟩ 2 (by decide) (Nat.le_of_ble_eq_true rfl) (own_idem_i2b hy34) at_60 rfl ?_
    intro T35 h35 X35 W35 V_b26
    replace V_b26 : Arv Z h35 b26 kb26 .byte (5 : Int32) [(.int y28), (.int y31), (.int y34), (.int (0 : Int32)), (.int (0 : Int32))] (.int (0 : Int32)) := V_b26
    replace E_b1 := E_b1.wr W35
    replace F_b1_bytes := F_b1_bytes.other W35 (Or.inl ne_b1_b26)
    replace F_b1_length := F_b1_length.other W35 (Or.inl ne_b1_b26)
    replace E_b3 := E_b3.wr W35
    replace V_b3 := V_b3.other W35 ne_b3_b26
    replace E_b26 := E_b26.wr W35
    replace K := K.wr W35 (Or.inr sz_b26)
    refine own_aload (pc' := 63) B X35 at_61 rfl rfl rfl ?_
    refine own_iconst (pc' := 64) B X35 (z := (3 : Int32)) at_63 rfl rfl ?_
    refine own_iloadN (pc' := 65) B X35 at_64 rfl rfl ?_
    refine own_i2b (pc' := 66) B X35 at_65 rfl hy19 ?_
    refine own_bastore (pc' := 67) B X35 (x' := y12) V_b26 g_b26 ⟨by decide, by decide⟩ 3 (by decide) (Nat.le_of_ble_eq_true rfl) (own_idem_i2b hy19) at_66 rfl ?_
    intro T36 h36 X36 W36 V_b26
    replace V_b26 : Arv Z h36 b26 kb26 .byte (5 : Int32) [(.int y28), (.int y31), (.int y34), (.int y12), (.int (0 : Int32))] (.int (0 : Int32)) := V_b26
    replace E_b1 := E_b1.wr W36
    replace F_b1_bytes := F_b1_bytes.other W36 (Or.inl ne_b1_b26)
    replace F_b1_length := F_b1_length.other W36 (Or.inl ne_b1_b26)
    replace E_b3 := E_b3.wr W36
    replace V_b3 := V_b3.other W36 ne_b3_b26
    replace E_b26 := E_b26.wr W36
    replace K := K.wr W36 (Or.inr sz_b26)
    refine own_aload (pc' := 69) B X36 at_67 rfl rfl rfl ?_
    refine own_iconst (pc' := 70) B X36 (z := (4 : Int32)) at_69 rfl rfl ?_
    refine own_iloadN (pc' := 71) B X36 at_70 rfl rfl ?_
    refine own_i2b (pc' := 72) B X36 at_71 rfl hy22 ?_
    refine own_bastore (pc' := 73) B X36 (x' := y21) V_b26 g_b26 ⟨by decide, by decide⟩ 4 (by decide) (Nat.le_of_ble_eq_true rfl) (own_idem_i2b hy22) at_72 rfl ?_
    intro T37 h37 X37 W37 V_b26
    replace V_b26 : Arv Z h37 b26 kb26 .byte (5 : Int32) [(.int y28), (.int y31), (.int y34), (.int y12), (.int y21)] (.int (0 : Int32)) := V_b26
    replace E_b1 := E_b1.wr W37
    replace F_b1_bytes := F_b1_bytes.other W37 (Or.inl ne_b1_b26)
    replace F_b1_length := F_b1_length.other W37 (Or.inl ne_b1_b26)
    replace E_b3 := E_b3.wr W37
    replace V_b3 := V_b3.other W37 ne_b3_b26
    replace E_b26 := E_b26.wr W37
    replace K := K.wr W37 (Or.inr sz_b26)
    refine own_aload (pc' := 75) B X37 at_73 rfl rfl rfl ?_
    refine own_iload (pc' := 77) B X37 at_75 rfl rfl ?_
    refine own_iloadN (pc' := 78) B X37 at_77 rfl rfl ?_
    refine own_ldcI (pc' := 80) B X37 (own_w hw 35 rfl) at_78 rfl ?_
    obtain ⟨y38, hy38⟩ : ∃ z : Int32, i3 &&& (65280 : Int32) = z := ⟨_, rfl⟩
    refine own_iand (pc' := 81) B X37 at_80 rfl hy38 ?_
    refine own_bipush (pc' := 83) B X37 (z := (8 : Int32)) at_81 rfl (by decide) ?_
    obtain ⟨y39, hy39⟩ : ∃ z : Int32, y38 >>> ((8 : Int32) &&& 31) = z := ⟨_, rfl⟩
    refine own_ishr (pc' := 84) B X37 at_83 rfl hy39 ?_
    obtain ⟨y40, hy40⟩ : ∃ z : Int32, y39.toInt8.toInt32 = z := ⟨_, rfl⟩
    refine own_i2b (pc' := 85) B X37 at_84 rfl hy40 ?_
    refine own_bastore (pc' := 86) B X37 (x' := y40) V_b26 g_b26 ⟨by decide, by decide⟩ 0 (by decide) (Nat.le_of_ble_eq_true rfl) (own_idem_i2b hy40) at_85 rfl ?_
    intro T41 h41 X41 W41 V_b26
    replace V_b26 : Arv Z h41 b26 kb26 .byte (5 : Int32) [(.int y40), (.int y31), (.int y34), (.int y12), (.int y21)] (.int (0 : Int32)) := V_b26
    replace E_b1 := E_b1.wr W41
    replace F_b1_bytes := F_b1_bytes.other W41 (Or.inl ne_b1_b26)
    replace F_b1_length := F_b1_length.other W41 (Or.inl ne_b1_b26)
    replace E_b3 := E_b3.wr W41
    replace V_b3 := V_b3.other W41 ne_b3_b26
    replace E_b26 := E_b26.wr W41
    replace K := K.wr W41 (Or.inr sz_b26)
    refine own_aload (pc' := 88) B X41 at_86 rfl rfl rfl ?_
    refine own_iload (pc' := 90) B X41 at_88 rfl rfl ?_
    refine own_iconst (pc' := 91) B X41 (z := (1 : Int32)) at_90 rfl rfl ?_
    refine own_iadd (pc' := 92) B X41 (z := (1 : Int32)) at_91 rfl (by decide) ?_
    refine own_iloadN (pc' := 93) B X41 at_92 rfl rfl ?_
    refine own_sipush (pc' := 96) B X41 (z := (255 : Int32)) at_93 rfl (by decide) ?_
    obtain ⟨y42, hy42⟩ : ∃ z : Int32, i3 &&& (255 : Int32) = z := ⟨_, rfl⟩
    refine own_iand (pc' := 97) B X41 at_96 rfl hy42 ?_
    obtain ⟨y43, hy43⟩ : ∃ z : Int32, y42.toInt8.toInt32 = z := ⟨_, rfl⟩
    refine own_i2b (pc' := 98) B X41 at_97 rfl hy43 ?_
    refine own_bastore (pc' := 99) B X41 (x' := y43) V_b26 g_b26 ⟨by decide, by decide⟩ 1 (by decide) (Nat.le_of_ble_eq_true rfl) (own_idem_i2b hy43) at_98 rfl ?_
    intro T44 h44 X44 W44 V_b26
    replace V_b26 : Arv Z h44 b26 kb26 .byte (5 : Int32) [(.int y40), (.int y43), (.int y34), (.int y12), (.int y21)] (.int (0 : Int32)) := V_b26
    replace E_b1 := E_b1.wr W44
    replace F_b1_bytes := F_b1_bytes.other W44 (Or.inl ne_b1_b26)
    replace F_b1_length := F_b1_length.other W44 (Or.inl ne_b1_b26)
    replace E_b3 := E_b3.wr W44
    replace V_b3 := V_b3.other W44 ne_b3_b26
    replace E_b26 := E_b26.wr W44
    replace K := K.wr W44 (Or.inr sz_b26)
    refine own_aload (pc' := 101) B X44 at_99 rfl rfl rfl ?_
    refine own_iload (pc' := 103) B X44 at_101 rfl rfl ?_
    refine own_iloadN (pc' := 104) B X44 at_103 rfl rfl ?_
    refine own_callV (pc' := 107) B X44 (own_w hw 36 rfl) (own_w hw 37 rfl) (own_w hw 39 rfl) (own_w hw 38 rfl) (own_w hw 2 rfl) (own_w hw 40 rfl) E_b1 (by decide) [(.int (0 : Int32)), (.int i3)] [] (rm_15 l Z a0 hw [] b1 b3 k4 (y8) (y9) (y11) (y12) (y21) (i3) h44 n0 (Nat.le_trans Z0 K.1) E_b1 F_b1_bytes F_b1_length g_b1 E_b3 V_b3 g_b3 ne_b1_b3) 0 (by decide) (by decide) rfl pd_2 rfl rfl (Nat.le_of_eq rfl) at_104 rfl (k' := 3) (n' := 71) rfl rfl (by decide) (by decide) ?_
    intro T45 v45 h45 X45 q45
    obtain ⟨y46, y47, y48, hy49, hy50, hy51, rfl, K45, E_b3, V_b3⟩ := q45
    replace K := K.trans K45 (allS (Or.inr sz_b3) all0)
    replace E_b1 := E_b1.keep K45
    replace F_b1_bytes := F_b1_bytes.keep K45 (ninS ne_b1_b3 nin0)
    replace F_b1_length := F_b1_length.keep K45 (ninS ne_b1_b3 nin0)
    replace E_b26 := E_b26.keep K45
    replace V_b26 := V_b26.keep K45 (ninS (Ne.symm ne_b3_b26) nin0)
    show own_Go p e below (T45.setTop (mkF m 107 #[.val (.int i0), .val (.int i1), .val (.int i2), .val (.int i3), .val (.ref b1), .val (.int (0 : Int32)), .val (.ref b26), .unset] [])) _
    refine own_aload (pc' := 109) B X45 at_107 rfl rfl rfl ?_
    refine own_callV (pc' := 112) B X45 (own_w hw 41 rfl) (own_w hw 42 rfl) (own_w hw 44 rfl) (own_w hw 43 rfl) (own_w hw 2 rfl) (own_w hw 45 rfl) E_b1 (by decide) [] [] (rm_16 l Z a0 hw [] b1 b3 k4 (y47) (y48) (y11) (y12) (y21) h45 n0 (Nat.le_trans Z0 K.1) E_b1 F_b1_bytes F_b1_length g_b1 E_b3 V_b3 g_b3 ne_b1_b3) 0 (by decide) (by decide) rfl pd_3 rfl rfl (Nat.le_of_eq rfl) at_109 rfl (k' := 3) (n' := 71) rfl rfl (by decide) (by decide) ?_
    intro T52 v52 h52 X52 q52
    obtain ⟨rfl, rfl⟩ := q52
    show own_Go p e below (T52.setTop (mkF m 112 #[.val (.int i0), .val (.int i1), .val (.int i2), .val (.int i3), .val (.ref b1), .val (.int (0 : Int32)), .val (.ref b26), .unset] [(.int (5 : Int32))])) _
    refine own_iconst (pc' := 113) B X52 (z := (5 : Int32)) at_112 rfl rfl ?_
    refine own_icmpYes (pc' := 118) B X52 at_113 (teq (by decide : (5 : Int32) = (5 : Int32))).1 (by decide) rfl ?_
    refine own_aload (pc' := 120) B X52 at_118 rfl rfl rfl ?_
    refine own_callV (pc' := 123) B X52 (own_w hw 46 rfl) (own_w hw 47 rfl) (own_w hw 49 rfl) (own_w hw 48 rfl) (own_w hw 2 rfl) (own_w hw 50 rfl) E_b1 (by decide) [] [] (rm_17 l Z a0 hw [] b1 b3 k4 (y47) (y48) (y11) (y12) (y21) h45 n0 (Nat.le_trans Z0 K.1) E_b1 F_b1_bytes F_b1_length g_b1 E_b3 V_b3 g_b3 ne_b1_b3) 0 (by decide) (by decide) rfl pd_6 rfl rfl (Nat.le_of_eq rfl) at_120 rfl (k' := 4) (n' := 76) rfl rfl (by decide) (by decide) ?_
    intro T53 v53 h53 X53 q53
    have lt_b1 := E_b1.lt
    have lt_b3 := E_b3.lt
    have lt_b26 := E_b26.lt
    obtain ⟨b54, k55, rfl, K53, z_b54, E_b54, V_b54⟩ := q53
    have ne_b1_b54 : b1 ≠ b54 := own_ne' lt_b1 z_b54
    have ne_b3_b54 : b3 ≠ b54 := own_ne' lt_b3 z_b54
    have ne_b26_b54 : b26 ≠ b54 := own_ne' lt_b26 z_b54
    have sz_b54 : h0.size ≤ b54 := Nat.le_trans K.1 z_b54
    have g_b54 : n0 ≤ b54 := Nat.le_trans Z0 sz_b54
    replace K := K.trans K53 all0
    replace E_b1 := E_b1.keep K53
    replace F_b1_bytes := F_b1_bytes.keep K53 nin0
    replace F_b1_length := F_b1_length.keep K53 nin0
    replace E_b3 := E_b3.keep K53
    replace V_b3 := V_b3.keep K53 nin0
    replace E_b26 := E_b26.keep K53
    replace V_b26 := V_b26.keep K53 nin0
    show own_Go p e below (T53.setTop (mkF m 123 #[.val (.int i0), .val (.int i1), .val (.int i2), .val (.int i3), .val (.ref b1), .val (.int (0 : Int32)), .val (.ref b26), .unset] [(.ref b54)])) _
    refine own_astore (pc' := 125) B X53 (Ls' := #[.val (.int i0), .val (.int i1), .val (.int i2), .val (.int i3), .val (.ref b1), .val (.int (0 : Int32)), .val (.ref b26), .val (.ref b54)]) at_123 rfl rfl rfl ?_
    refine own_aload (pc' := 127) B X53 at_125 rfl rfl rfl ?_
    refine own_arraylength (pc' := 128) B X53 V_b54 at_127 rfl ?_
    refine own_iconst (pc' := 129) B X53 (z := (5 : Int32)) at_128 rfl rfl ?_
    refine own_icmpYes (pc' := 134) B X53 at_129 (teq (by decide : (5 : Int32) = (5 : Int32))).1 (by decide) rfl ?_
    refine own_aload (pc' := 136) B X53 at_134 rfl rfl rfl ?_
    refine own_iconst (pc' := 137) B X53 (z := (0 : Int32)) at_136 rfl rfl ?_
    refine own_baload (pc' := 138) B X53 V_b54 (v := (.int y47)) ⟨by decide, by decide⟩ rfl at_137 rfl ?_
    refine own_aload (pc' := 140) B X53 at_138 rfl rfl rfl ?_
    refine own_iconst (pc' := 141) B X53 (z := (0 : Int32)) at_140 rfl rfl ?_
    refine own_baload (pc' := 142) B X53 V_b26 (v := (.int y40)) ⟨by decide, by decide⟩ rfl at_141 rfl ?_
    have c56 : y47 = y40 := by
      have o0 := own_o_and65280 hy38
      have o1 := own_o_ishr hy39 8 (by decide)
      have o2 := own_o_i2b hy40
      have o3 := own_o_iushr hy49 8 (by decide) (by decide)
      have o4 := own_o_i2b hy50
      have o5 := rng32 i3
      have o6 := rng32 y38
      have o7 := rng32 y39
      have o8 := rng32 y40
      have o9 := rng32 y46
      have o10 := rng32 y47
      have o11 : (65280 : Int32).toInt = 65280 := by decide
      have o12 : (8 : Int32).toInt = 8 := by decide
      refine own_eqI ?_
      omega
    refine own_icmpNo (pc' := 145) B X53 at_142 (teq c56).2 rfl ?_
    refine own_aload (pc' := 147) B X53 at_145 rfl rfl rfl ?_
    refine own_iconst (pc' := 148) B X53 (z := (1 : Int32)) at_147 rfl rfl ?_
    refine own_baload (pc' := 149) B X53 V_b54 (v := (.int y48)) ⟨by decide, by decide⟩ rfl at_148 rfl ?_
    refine own_aload (pc' := 151) B X53 at_149 rfl rfl rfl ?_
    refine own_iconst (pc' := 152) B X53 (z := (1 : Int32)) at_151 rfl rfl ?_
    refine own_baload (pc' := 153) B X53 V_b26 (v := (.int y43)) ⟨by decide, by decide⟩ rfl at_152 rfl ?_
    have c57 : y48 = y43 := by
      have o0 := own_o_and65280 hy38
      have o1 := own_o_ishr hy39 8 (by decide)
      have o2 := own_o_i2b hy40
      have o3 := own_o_mask hy42 8 (by decide) (by decide)
      have o4 := own_o_i2b hy43
      have o5 := own_o_iushr hy49 8 (by decide) (by decide)
      have o6 := own_o_i2b hy50
      have o7 := own_o_i2b hy51
      have o8 := own_eq c56
      have o9 := rng32 i3
      have o10 := rng32 y38
      have o11 := rng32 y39
      have o12 := rng32 y40
      have o13 := rng32 y42
      have o14 := rng32 y43
      have o15 := rng32 y46
      have o16 := rng32 y47
      have o17 := rng32 y48
      have o18 : (65280 : Int32).toInt = 65280 := by decide
      have o19 : (8 : Int32).toInt = 8 := by decide
      have o20 : (255 : Int32).toInt = 255 := by decide
      refine own_eqI ?_
      omega
    refine own_icmpNo (pc' := 156) B X53 at_153 (teq c57).2 rfl ?_
    refine own_aload (pc' := 158) B X53 at_156 rfl rfl rfl ?_
    refine own_iconst (pc' := 159) B X53 (z := (2 : Int32)) at_158 rfl rfl ?_
    refine own_baload (pc' := 160) B X53 V_b54 (v := (.int y11)) ⟨by decide, by decide⟩ rfl at_159 rfl ?_
    refine own_aload (pc' := 162) B X53 at_160 rfl rfl rfl ?_
    refine own_iconst (pc' := 163) B X53 (z := (2 : Int32)) at_162 rfl rfl ?_
    refine own_baload (pc' := 164) B X53 V_b26 (v := (.int y34)) ⟨by decide, by decide⟩ rfl at_163 rfl ?_
    have c58 : y11 = y34 := by
      have o0 := own_o_iushr hy17 8 (by decide) (by decide)
      have o1 := own_o_i2b hy18
      have o2 := own_o_ishr hy33 8 (by decide)
      have o3 := own_o_i2b hy34
      have o4 := rng32 i0
      have o5 := rng32 y10
      have o6 := rng32 y11
      have o7 := rng32 y33
      have o8 := rng32 y34
      have o9 : (8 : Int32).toInt = 8 := by decide
      refine own_eqI ?_
      omega
    refine own_icmpNo (pc' := 167) B X53 at_164 (teq c58).2 rfl ?_
    refine own_aload (pc' := 169) B X53 at_167 rfl rfl rfl ?_
    refine own_iconst (pc' := 170) B X53 (z := (3 : Int32)) at_169 rfl rfl ?_
    refine own_baload (pc' := 171) B X53 V_b54 (v := (.int y12)) ⟨by decide, by decide⟩ rfl at_170 rfl ?_
    refine own_aload (pc' := 173) B X53 at_171 rfl rfl rfl ?_
    refine own_iconst (pc' := 174) B X53 (z := (3 : Int32)) at_173 rfl rfl ?_
    refine own_baload (pc' := 175) B X53 V_b26 (v := (.int y12)) ⟨by decide, by decide⟩ rfl at_174 rfl ?_
    refine own_icmpNo (pc' := 178) B X53 at_175 (teq rfl).2 rfl ?_
    refine own_aload (pc' := 180) B X53 at_178 rfl rfl rfl ?_
    refine own_iconst (pc' := 181) B X53 (z := (4 : Int32)) at_180 rfl rfl ?_
    refine own_baload (pc' := 182) B X53 V_b54 (v := (.int y21)) ⟨by decide, by decide⟩ rfl at_181 rfl ?_
    refine own_aload (pc' := 184) B X53 at_182 rfl rfl rfl ?_
    refine own_iconst (pc' := 185) B X53 (z := (4 : Int32)) at_184 rfl rfl ?_
    refine own_baload (pc' := 186) B X53 V_b26 (v := (.int y21)) ⟨by decide, by decide⟩ rfl at_185 rfl ?_
    refine own_icmpNo (pc' := 189) B X53 at_186 (teq rfl).2 rfl ?_
    refine own_iconst (pc' := 190) B X53 (z := (1 : Int32)) at_189 rfl rfl ?_
    refine own_goto (pc' := 194) B X53 at_190 (by decide) rfl ?_
    exact own_retN B X53 (t := .boolean) (z' := (1 : Int32)) (by simp) (by decide) at_194 (by decide) (by decide) rfl
  · obtain rfl : y24 = (1 : Int32) := Int32.toInt_inj.mp (z25.trans (by decide))
    refine own_istore (pc' := 29) B X20 (Ls' := #[.val (.int i0), .val (.int i1), .val (.int i2), .val (.int i3), .val (.ref b1), .val (.int (1 : Int32)), .unset, .unset]) at_27 rfl rfl ?_
    refine own_iconst (pc' := 30) B X20 (z := (5 : Int32)) at_29 rfl rfl ?_
    refine own_newarray (pc' := 32) B X20 (own_w hw 9 rfl) at_30 rfl rfl (by decide) 5 (by decide) (by decide) (k' := 3) (n' := 71) rfl rfl (by decide) (by decide) "[B" (by decide) (.int (0 : Int32)) rfl ?_
    intro T59 h59 b59 kb59 X59 g59 E59 V_b59 E_b59
    have ne_b1_b59 : b1 ≠ b59 := own_ne E_b1.lt g59
    have ne_b3_b59 : b3 ≠ b59 := own_ne E_b3.lt g59
    have sz_b59 : h0.size ≤ b59 := own_sz K g59
    have g_b59 : n0 ≤ b59 := Nat.le_trans Z0 sz_b59
    replace K := K.ext E59
    replace E_b1 := E_b1.ext E59
    replace F_b1_bytes := F_b1_bytes.ext E59
    replace F_b1_length := F_b1_length.ext E59
    replace E_b3 := E_b3.ext E59
    replace V_b3 := V_b3.ext E59
    replace V_b59 : Arv Z h59 b59 kb59 .byte (5 : Int32) [(.int (0 : Int32)), (.int (0 : Int32)), (.int (0 : Int32)), (.int (0 : Int32)), (.int (0 : Int32))] (.int (0 : Int32)) := V_b59.pad (pad_rep [] (.int (0 : Int32)) 5)
    refine own_astore (pc' := 34) B X59 (Ls' := #[.val (.int i0), .val (.int i1), .val (.int i2), .val (.int i3), .val (.ref b1), .val (.int (1 : Int32)), .val (.ref b59), .unset]) at_32 rfl rfl rfl ?_
    refine own_aload (pc' := 36) B X59 at_34 rfl rfl rfl ?_
    refine own_iconst (pc' := 37) B X59 (z := (0 : Int32)) at_36 rfl rfl ?_
    refine own_iloadN (pc' := 38) B X59 at_37 rfl rfl ?_
    refine own_bipush (pc' := 40) B X59 (z := (24 : Int32)) at_38 rfl (by decide) ?_
    obtain ⟨y60, hy60⟩ : ∃ z : Int32, i0 >>> ((24 : Int32) &&& 31) = z := ⟨_, rfl⟩
    refine own_ishr (pc' := 41) B X59 at_40 rfl hy60 ?_
    obtain ⟨y61, hy61⟩ : ∃ z : Int32, y60.toInt8.toInt32 = z := ⟨_, rfl⟩
    refine own_i2b (pc' := 42) B X59 at_41 rfl hy61 ?_
    refine own_bastore (pc' := 43) B X59 (x' := y61) V_b59 g_b59 ⟨by decide, by decide⟩ 0 (by decide) (Nat.le_of_ble_eq_true rfl) (own_idem_i2b hy61) at_42 rfl ?_
    intro T62 h62 X62 W62 V_b59
    replace V_b59 : Arv Z h62 b59 kb59 .byte (5 : Int32) [(.int y61), (.int (0 : Int32)), (.int (0 : Int32)), (.int (0 : Int32)), (.int (0 : Int32))] (.int (0 : Int32)) := V_b59
    replace E_b1 := E_b1.wr W62
    replace F_b1_bytes := F_b1_bytes.other W62 (Or.inl ne_b1_b59)
    replace F_b1_length := F_b1_length.other W62 (Or.inl ne_b1_b59)
    replace E_b3 := E_b3.wr W62
    replace V_b3 := V_b3.other W62 ne_b3_b59
    replace E_b59 := E_b59.wr W62
    replace K := K.wr W62 (Or.inr sz_b59)
    refine own_aload (pc' := 45) B X62 at_43 rfl rfl rfl ?_
    refine own_iconst (pc' := 46) B X62 (z := (1 : Int32)) at_45 rfl rfl ?_
    refine own_iloadN (pc' := 47) B X62 at_46 rfl rfl ?_
    refine own_bipush (pc' := 49) B X62 (z := (16 : Int32)) at_47 rfl (by decide) ?_
    obtain ⟨y63, hy63⟩ : ∃ z : Int32, i0 >>> ((16 : Int32) &&& 31) = z := ⟨_, rfl⟩
    refine own_ishr (pc' := 50) B X62 at_49 rfl hy63 ?_
    obtain ⟨y64, hy64⟩ : ∃ z : Int32, y63.toInt8.toInt32 = z := ⟨_, rfl⟩
    refine own_i2b (pc' := 51) B X62 at_50 rfl hy64 ?_
    refine own_bastore (pc' := 52) B X62 (x' := y64) V_b59 g_b59 ⟨by decide, by decide⟩ 1 (by decide) (Nat.le_of_ble_eq_true rfl) (own_idem_i2b hy64) at_51 rfl ?_
    intro T65 h65 X65 W65 V_b59
    replace V_b59 : Arv Z h65 b59 kb59 .byte (5 : Int32) [(.int y61), (.int y64), (.int (0 : Int32)), (.int (0 : Int32)), (.int (0 : Int32))] (.int (0 : Int32)) := V_b59
    replace E_b1 := E_b1.wr W65
    replace F_b1_bytes := F_b1_bytes.other W65 (Or.inl ne_b1_b59)
    replace F_b1_length := F_b1_length.other W65 (Or.inl ne_b1_b59)
    replace E_b3 := E_b3.wr W65
    replace V_b3 := V_b3.other W65 ne_b3_b59
    replace E_b59 := E_b59.wr W65
    replace K := K.wr W65 (Or.inr sz_b59)
    refine own_aload (pc' := 54) B X65 at_52 rfl rfl rfl ?_
    refine own_iconst (pc' := 55) B X65 (z := (2 : Int32)) at_54 rfl rfl ?_
    refine own_iloadN (pc' := 56) B X65 at_55 rfl rfl ?_
    refine own_bipush (pc' := 58) B X65 (z := (8 : Int32)) at_56 rfl (by decide) ?_
    obtain ⟨y66, hy66⟩ : ∃ z : Int32, i0 >>> ((8 : Int32) &&& 31) = z := ⟨_, rfl⟩
    refine own_ishr (pc' := 59) B X65 at_58 rfl hy66 ?_
    obtain ⟨y67, hy67⟩ : ∃ z : Int32, y66.toInt8.toInt32 = z := ⟨_, rfl⟩
    refine own_i2b (pc' := 60) B X65 at_59 rfl hy67 ?_
    refine own_bastore (pc' := 61) B X65 (x' := y67) V_b59 g_b59 ⟨by decide, by decide⟩ 2 (by decide) (Nat.le_of_ble_eq_true rfl) (own_idem_i2b hy67) at_60 rfl ?_
    intro T68 h68 X68 W68 V_b59
    replace V_b59 : Arv Z h68 b59 kb59 .byte (5 : Int32) [(.int y61), (.int y64), (.int y67), (.int (0 : Int32)), (.int (0 : Int32))] (.int (0 : Int32)) := V_b59
    replace E_b1 := E_b1.wr W68
    replace F_b1_bytes := F_b1_bytes.other W68 (Or.inl ne_b1_b59)
    replace F_b1_length := F_b1_length.other W68 (Or.inl ne_b1_b59)
    replace E_b3 := E_b3.wr W68
    replace V_b3 := V_b3.other W68 ne_b3_b59
    replace E_b59 := E_b59.wr W68
    replace K := K.wr W68 (Or.inr sz_b59)
    refine own_aload (pc' := 63) B X68 at_61 rfl rfl rfl ?_
    refine own_iconst (pc' := 64) B X68 (z := (3 : Int32)) at_63 rfl rfl ?_
    refine own_iloadN (pc' := 65) B X68 at_64 rfl rfl ?_
    refine own_i2b (pc' := 66) B X68 at_65 rfl hy19 ?_
    refine own_bastore (pc' := 67) B X68 (x' := y12) V_b59 g_b59 ⟨by decide, by decide⟩ 3 (by decide) (Nat.le_of_ble_eq_true rfl) (own_idem_i2b hy19) at_66 rfl ?_
    intro T69 h69 X69 W69 V_b59
    replace V_b59 : Arv Z h69 b59 kb59 .byte (5 : Int32) [(.int y61), (.int y64), (.int y67), (.int y12), (.int (0 : Int32))] (.int (0 : Int32)) := V_b59
    replace E_b1 := E_b1.wr W69
    replace F_b1_bytes := F_b1_bytes.other W69 (Or.inl ne_b1_b59)
    replace F_b1_length := F_b1_length.other W69 (Or.inl ne_b1_b59)
    replace E_b3 := E_b3.wr W69
    replace V_b3 := V_b3.other W69 ne_b3_b59
    replace E_b59 := E_b59.wr W69
    replace K := K.wr W69 (Or.inr sz_b59)
    refine own_aload (pc' := 69) B X69 at_67 rfl rfl rfl ?_
    refine own_iconst (pc' := 70) B X69 (z := (4 : Int32)) at_69 rfl rfl ?_
    refine own_iloadN (pc' := 71) B X69 at_70 rfl rfl ?_
    refine own_i2b (pc' := 72) B X69 at_71 rfl hy22 ?_
    refine own_bastore (pc' := 73) B X69 (x' := y21) V_b59 g_b59 ⟨by decide, by decide⟩ 4 (by decide) (Nat.le_of_ble_eq_true rfl) (own_idem_i2b hy22) at_72 rfl ?_
    intro T70 h70 X70 W70 V_b59
    replace V_b59 : Arv Z h70 b59 kb59 .byte (5 : Int32) [(.int y61), (.int y64), (.int y67), (.int y12), (.int y21)] (.int (0 : Int32)) := V_b59
    replace E_b1 := E_b1.wr W70
    replace F_b1_bytes := F_b1_bytes.other W70 (Or.inl ne_b1_b59)
    replace F_b1_length := F_b1_length.other W70 (Or.inl ne_b1_b59)
    replace E_b3 := E_b3.wr W70
    replace V_b3 := V_b3.other W70 ne_b3_b59
    replace E_b59 := E_b59.wr W70
    replace K := K.wr W70 (Or.inr sz_b59)
    refine own_aload (pc' := 75) B X70 at_73 rfl rfl rfl ?_
    refine own_iload (pc' := 77) B X70 at_75 rfl rfl ?_
    refine own_iloadN (pc' := 78) B X70 at_77 rfl rfl ?_
    refine own_ldcI (pc' := 80) B X70 (own_w hw 35 rfl) at_78 rfl ?_
    obtain ⟨y71, hy71⟩ : ∃ z : Int32, i3 &&& (65280 : Int32) = z := ⟨_, rfl⟩
    refine own_iand (pc' := 81) B X70 at_80 rfl hy71 ?_
    refine own_bipush (pc' := 83) B X70 (z := (8 : Int32)) at_81 rfl (by decide) ?_
    obtain ⟨y72, hy72⟩ : ∃ z : Int32, y71 >>> ((8 : Int32) &&& 31) = z := ⟨_, rfl⟩
    refine own_ishr (pc' := 84) B X70 at_83 rfl hy72 ?_
    obtain ⟨y73, hy73⟩ : ∃ z : Int32, y72.toInt8.toInt32 = z := ⟨_, rfl⟩
    refine own_i2b (pc' := 85) B X70 at_84 rfl hy73 ?_
    refine own_bastore (pc' := 86) B X70 (x' := y73) V_b59 g_b59 ⟨by decide, by decide⟩ 1 (by decide) (Nat.le_of_ble_eq_true rfl) (own_idem_i2b hy73) at_85 rfl ?_
    intro T74 h74 X74 W74 V_b59
    replace V_b59 : Arv Z h74 b59 kb59 .byte (5 : Int32) [(.int y61), (.int y73), (.int y67), (.int y12), (.int y21)] (.int (0 : Int32)) := V_b59
    replace E_b1 := E_b1.wr W74
    replace F_b1_bytes := F_b1_bytes.other W74 (Or.inl ne_b1_b59)
    replace F_b1_length := F_b1_length.other W74 (Or.inl ne_b1_b59)
    replace E_b3 := E_b3.wr W74
    replace V_b3 := V_b3.other W74 ne_b3_b59
    replace E_b59 := E_b59.wr W74
    replace K := K.wr W74 (Or.inr sz_b59)
    refine own_aload (pc' := 88) B X74 at_86 rfl rfl rfl ?_
    refine own_iload (pc' := 90) B X74 at_88 rfl rfl ?_
    refine own_iconst (pc' := 91) B X74 (z := (1 : Int32)) at_90 rfl rfl ?_
    refine own_iadd (pc' := 92) B X74 (z := (2 : Int32)) at_91 rfl (by decide) ?_
    refine own_iloadN (pc' := 93) B X74 at_92 rfl rfl ?_
    refine own_sipush (pc' := 96) B X74 (z := (255 : Int32)) at_93 rfl (by decide) ?_
    obtain ⟨y75, hy75⟩ : ∃ z : Int32, i3 &&& (255 : Int32) = z := ⟨_, rfl⟩
    refine own_iand (pc' := 97) B X74 at_96 rfl hy75 ?_
    obtain ⟨y76, hy76⟩ : ∃ z : Int32, y75.toInt8.toInt32 = z := ⟨_, rfl⟩
    refine own_i2b (pc' := 98) B X74 at_97 rfl hy76 ?_
    refine own_bastore (pc' := 99) B X74 (x' := y76) V_b59 g_b59 ⟨by decide, by decide⟩ 2 (by decide) (Nat.le_of_ble_eq_true rfl) (own_idem_i2b hy76) at_98 rfl ?_
    intro T77 h77 X77 W77 V_b59
    replace V_b59 : Arv Z h77 b59 kb59 .byte (5 : Int32) [(.int y61), (.int y73), (.int y76), (.int y12), (.int y21)] (.int (0 : Int32)) := V_b59
    replace E_b1 := E_b1.wr W77
    replace F_b1_bytes := F_b1_bytes.other W77 (Or.inl ne_b1_b59)
    replace F_b1_length := F_b1_length.other W77 (Or.inl ne_b1_b59)
    replace E_b3 := E_b3.wr W77
    replace V_b3 := V_b3.other W77 ne_b3_b59
    replace E_b59 := E_b59.wr W77
    replace K := K.wr W77 (Or.inr sz_b59)
    refine own_aload (pc' := 101) B X77 at_99 rfl rfl rfl ?_
    refine own_iload (pc' := 103) B X77 at_101 rfl rfl ?_
    refine own_iloadN (pc' := 104) B X77 at_103 rfl rfl ?_
    refine own_callV (pc' := 107) B X77 (own_w hw 36 rfl) (own_w hw 37 rfl) (own_w hw 39 rfl) (own_w hw 38 rfl) (own_w hw 2 rfl) (own_w hw 40 rfl) E_b1 (by decide) [(.int (1 : Int32)), (.int i3)] [] (rm_20 l Z a0 hw [] b1 b3 k4 (y8) (y9) (y11) (y12) (y21) (i3) h77 n0 (Nat.le_trans Z0 K.1) E_b1 F_b1_bytes F_b1_length g_b1 E_b3 V_b3 g_b3 ne_b1_b3) 0 (by decide) (by decide) rfl pd_2 rfl rfl (Nat.le_of_eq rfl) at_104 rfl (k' := 3) (n' := 71) rfl rfl (by decide) (by decide) ?_
    intro T78 v78 h78 X78 q78
    obtain ⟨y79, y80, y81, hy82, hy83, hy84, rfl, K78, E_b3, V_b3⟩ := q78
    replace K := K.trans K78 (allS (Or.inr sz_b3) all0)
    replace E_b1 := E_b1.keep K78
    replace F_b1_bytes := F_b1_bytes.keep K78 (ninS ne_b1_b3 nin0)
    replace F_b1_length := F_b1_length.keep K78 (ninS ne_b1_b3 nin0)
    replace E_b59 := E_b59.keep K78
    replace V_b59 := V_b59.keep K78 (ninS (Ne.symm ne_b3_b59) nin0)
    show own_Go p e below (T78.setTop (mkF m 107 #[.val (.int i0), .val (.int i1), .val (.int i2), .val (.int i3), .val (.ref b1), .val (.int (1 : Int32)), .val (.ref b59), .unset] [])) _
    refine own_aload (pc' := 109) B X78 at_107 rfl rfl rfl ?_
    refine own_callV (pc' := 112) B X78 (own_w hw 41 rfl) (own_w hw 42 rfl) (own_w hw 44 rfl) (own_w hw 43 rfl) (own_w hw 2 rfl) (own_w hw 45 rfl) E_b1 (by decide) [] [] (rm_16 l Z a0 hw [] b1 b3 k4 (y8) (y80) (y81) (y12) (y21) h78 n0 (Nat.le_trans Z0 K.1) E_b1 F_b1_bytes F_b1_length g_b1 E_b3 V_b3 g_b3 ne_b1_b3) 0 (by decide) (by decide) rfl pd_3 rfl rfl (Nat.le_of_eq rfl) at_109 rfl (k' := 3) (n' := 71) rfl rfl (by decide) (by decide) ?_
    intro T85 v85 h85 X85 q85
    obtain ⟨rfl, rfl⟩ := q85
    show own_Go p e below (T85.setTop (mkF m 112 #[.val (.int i0), .val (.int i1), .val (.int i2), .val (.int i3), .val (.ref b1), .val (.int (1 : Int32)), .val (.ref b59), .unset] [(.int (5 : Int32))])) _
    refine own_iconst (pc' := 113) B X85 (z := (5 : Int32)) at_112 rfl rfl ?_
    refine own_icmpYes (pc' := 118) B X85 at_113 (teq (by decide : (5 : Int32) = (5 : Int32))).1 (by decide) rfl ?_
    refine own_aload (pc' := 120) B X85 at_118 rfl rfl rfl ?_
    refine own_callV (pc' := 123) B X85 (own_w hw 46 rfl) (own_w hw 47 rfl) (own_w hw 49 rfl) (own_w hw 48 rfl) (own_w hw 2 rfl) (own_w hw 50 rfl) E_b1 (by decide) [] [] (rm_17 l Z a0 hw [] b1 b3 k4 (y8) (y80) (y81) (y12) (y21) h78 n0 (Nat.le_trans Z0 K.1) E_b1 F_b1_bytes F_b1_length g_b1 E_b3 V_b3 g_b3 ne_b1_b3) 0 (by decide) (by decide) rfl pd_6 rfl rfl (Nat.le_of_eq rfl) at_120 rfl (k' := 4) (n' := 76) rfl rfl (by decide) (by decide) ?_
    intro T86 v86 h86 X86 q86
    have lt_b1 := E_b1.lt
    have lt_b3 := E_b3.lt
    have lt_b59 := E_b59.lt
    obtain ⟨b87, k88, rfl, K86, z_b87, E_b87, V_b87⟩ := q86
    have ne_b1_b87 : b1 ≠ b87 := own_ne' lt_b1 z_b87
    have ne_b3_b87 : b3 ≠ b87 := own_ne' lt_b3 z_b87
    have ne_b59_b87 : b59 ≠ b87 := own_ne' lt_b59 z_b87
    have sz_b87 : h0.size ≤ b87 := Nat.le_trans K.1 z_b87
    have g_b87 : n0 ≤ b87 := Nat.le_trans Z0 sz_b87
    replace K := K.trans K86 all0
    replace E_b1 := E_b1.keep K86
    replace F_b1_bytes := F_b1_bytes.keep K86 nin0
    replace F_b1_length := F_b1_length.keep K86 nin0
    replace E_b3 := E_b3.keep K86
    replace V_b3 := V_b3.keep K86 nin0
    replace E_b59 := E_b59.keep K86
    replace V_b59 := V_b59.keep K86 nin0
    show own_Go p e below (T86.setTop (mkF m 123 #[.val (.int i0), .val (.int i1), .val (.int i2), .val (.int i3), .val (.ref b1), .val (.int (1 : Int32)), .val (.ref b59), .unset] [(.ref b87)])) _
    refine own_astore (pc' := 125) B X86 (Ls' := #[.val (.int i0), .val (.int i1), .val (.int i2), .val (.int i3), .val (.ref b1), .val (.int (1 : Int32)), .val (.ref b59), .val (.ref b87)]) at_123 rfl rfl rfl ?_
    refine own_aload (pc' := 127) B X86 at_125 rfl rfl rfl ?_
    refine own_arraylength (pc' := 128) B X86 V_b87 at_127 rfl ?_
    refine own_iconst (pc' := 129) B X86 (z := (5 : Int32)) at_128 rfl rfl ?_
    refine own_icmpYes (pc' := 134) B X86 at_129 (teq (by decide : (5 : Int32) = (5 : Int32))).1 (by decide) rfl ?_
    refine own_aload (pc' := 136) B X86 at_134 rfl rfl rfl ?_
    refine own_iconst (pc' := 137) B X86 (z := (0 : Int32)) at_136 rfl rfl ?_
    refine own_baload (pc' := 138) B X86 V_b87 (v := (.int y8)) ⟨by decide, by decide⟩ rfl at_137 rfl ?_
    refine own_aload (pc' := 140) B X86 at_138 rfl rfl rfl ?_
    refine own_iconst (pc' := 141) B X86 (z := (0 : Int32)) at_140 rfl rfl ?_
    refine own_baload (pc' := 142) B X86 V_b59 (v := (.int y61)) ⟨by decide, by decide⟩ rfl at_141 rfl ?_
    have c89 : y8 = y61 := by
      have o0 := own_o_iushr hy13 16 (by decide) (by decide)
      have o1 := own_o_iushr hy14 8 (by decide) (by decide)
      have o2 := own_o_i2b hy15
      have o3 := own_o_ishr hy60 24 (by decide)
      have o4 := own_o_i2b hy61
      have o5 := rng32 i0
      have o6 := rng32 y6
      have o7 := rng32 y60
      have o8 := rng32 y61
      have o9 := rng32 y7
      have o10 := rng32 y8
      have o11 : (16 : Int32).toInt = 16 := by decide
      have o12 : (8 : Int32).toInt = 8 := by decide
      have o13 : (24 : Int32).toInt = 24 := by decide
      refine own_eqI ?_
      omega
    refine own_icmpNo (pc' := 145) B X86 at_142 (teq c89).2 rfl ?_
    refine own_aload (pc' := 147) B X86 at_145 rfl rfl rfl ?_
    refine own_iconst (pc' := 148) B X86 (z := (1 : Int32)) at_147 rfl rfl ?_
    refine own_baload (pc' := 149) B X86 V_b87 (v := (.int y80)) ⟨by decide, by decide⟩ rfl at_148 rfl ?_
    refine own_aload (pc' := 151) B X86 at_149 rfl rfl rfl ?_
    refine own_iconst (pc' := 152) B X86 (z := (1 : Int32)) at_151 rfl rfl ?_
    refine own_baload (pc' := 153) B X86 V_b59 (v := (.int y73)) ⟨by decide, by decide⟩ rfl at_152 rfl ?_
    have c90 : y80 = y73 := by
      have o0 := own_o_and65280 hy71
      have o1 := own_o_ishr hy72 8 (by decide)
      have o2 := own_o_i2b hy73
      have o3 := own_o_iushr hy82 8 (by decide) (by decide)
      have o4 := own_o_i2b hy83
      have o5 := rng32 i3
      have o6 := rng32 y71
      have o7 := rng32 y72
      have o8 := rng32 y73
      have o9 := rng32 y79
      have o10 := rng32 y80
      have o11 : (65280 : Int32).toInt = 65280 := by decide
      have o12 : (8 : Int32).toInt = 8 := by decide
      refine own_eqI ?_
      omega
    refine own_icmpNo (pc' := 156) B X86 at_153 (teq c90).2 rfl ?_
    refine own_aload (pc' := 158) B X86 at_156 rfl rfl rfl ?_
    refine own_iconst (pc' := 159) B X86 (z := (2 : Int32)) at_158 rfl rfl ?_
    refine own_baload (pc' := 160) B X86 V_b87 (v := (.int y81)) ⟨by decide, by decide⟩ rfl at_159 rfl ?_
    refine own_aload (pc' := 162) B X86 at_160 rfl rfl rfl ?_
    refine own_iconst (pc' := 163) B X86 (z := (2 : Int32)) at_162 rfl rfl ?_
    refine own_baload (pc' := 164) B X86 V_b59 (v := (.int y76)) ⟨by decide, by decide⟩ rfl at_163 rfl ?_
    have c91 : y81 = y76 := by
      have o0 := own_o_and65280 hy71
      have o1 := own_o_ishr hy72 8 (by decide)
      have o2 := own_o_i2b hy73
      have o3 := own_o_mask hy75 8 (by decide) (by decide)
      have o4 := own_o_i2b hy76
      have o5 := own_o_iushr hy82 8 (by decide) (by decide)
      have o6 := own_o_i2b hy83
      have o7 := own_o_i2b hy84
      have o8 := own_eq c90
      have o9 := rng32 i3
      have o10 := rng32 y71
      have o11 := rng32 y72
      have o12 := rng32 y73
      have o13 := rng32 y75
      have o14 := rng32 y76
      have o15 := rng32 y79
      have o16 := rng32 y80
      have o17 := rng32 y81
      have o18 : (65280 : Int32).toInt = 65280 := by decide
      have o19 : (8 : Int32).toInt = 8 := by decide
      have o20 : (255 : Int32).toInt = 255 := by decide
      refine own_eqI ?_
      omega
    refine own_icmpNo (pc' := 167) B X86 at_164 (teq c91).2 rfl ?_
    refine own_aload (pc' := 169) B X86 at_167 rfl rfl rfl ?_
    refine own_iconst (pc' := 170) B X86 (z := (3 : Int32)) at_169 rfl rfl ?_
    refine own_baload (pc' := 171) B X86 V_b87 (v := (.int y12)) ⟨by decide, by decide⟩ rfl at_170 rfl ?_
    refine own_aload (pc' := 173) B X86 at_171 rfl rfl rfl ?_
    refine own_iconst (pc' := 174) B X86 (z := (3 : Int32)) at_173 rfl rfl ?_
    refine own_baload (pc' := 175) B X86 V_b59 (v := (.int y12)) ⟨by decide, by decide⟩ rfl at_174 rfl ?_
    refine own_icmpNo (pc' := 178) B X86 at_175 (teq rfl).2 rfl ?_
    refine own_aload (pc' := 180) B X86 at_178 rfl rfl rfl ?_
    refine own_iconst (pc' := 181) B X86 (z := (4 : Int32)) at_180 rfl rfl ?_
    refine own_baload (pc' := 182) B X86 V_b87 (v := (.int y21)) ⟨by decide, by decide⟩ rfl at_181 rfl ?_
    refine own_aload (pc' := 184) B X86 at_182 rfl rfl rfl ?_
    refine own_iconst (pc' := 185) B X86 (z := (4 : Int32)) at_184 rfl rfl ?_
    refine own_baload (pc' := 186) B X86 V_b59 (v := (.int y21)) ⟨by decide, by decide⟩ rfl at_185 rfl ?_
    refine own_icmpNo (pc' := 189) B X86 at_186 (teq rfl).2 rfl ?_
    refine own_iconst (pc' := 190) B X86 (z := (1 : Int32)) at_189 rfl rfl ?_
    refine own_goto (pc' := 194) B X86 at_190 (by decide) rfl ?_
    exact own_retN B X86 (t := .boolean) (z' := (1 : Int32)) (by simp) (by decide) at_194 (by decide) (by decide) rfl
  · obtain rfl : y24 = (2 : Int32) := Int32.toInt_inj.mp (z25.trans (by decide))
    refine own_istore (pc' := 29) B X20 (Ls' := #[.val (.int i0), .val (.int i1), .val (.int i2), .val (.int i3), .val (.ref b1), .val (.int (2 : Int32)), .unset, .unset]) at_27 rfl rfl ?_
    refine own_iconst (pc' := 30) B X20 (z := (5 : Int32)) at_29 rfl rfl ?_
    refine own_newarray (pc' := 32) B X20 (own_w hw 9 rfl) at_30 rfl rfl (by decide) 5 (by decide) (by decide) (k' := 3) (n' := 71) rfl rfl (by decide) (by decide) "[B" (by decide) (.int (0 : Int32)) rfl ?_
    intro T92 h92 b92 kb92 X92 g92 E92 V_b92 E_b92
    have ne_b1_b92 : b1 ≠ b92 := own_ne E_b1.lt g92
    have ne_b3_b92 : b3 ≠ b92 := own_ne E_b3.lt g92
    have sz_b92 : h0.size ≤ b92 := own_sz K g92
    have g_b92 : n0 ≤ b92 := Nat.le_trans Z0 sz_b92
    replace K := K.ext E92
    replace E_b1 := E_b1.ext E92
    replace F_b1_bytes := F_b1_bytes.ext E92
    replace F_b1_length := F_b1_length.ext E92
    replace E_b3 := E_b3.ext E92
    replace V_b3 := V_b3.ext E92
    replace V_b92 : Arv Z h92 b92 kb92 .byte (5 : Int32) [(.int (0 : Int32)), (.int (0 : Int32)), (.int (0 : Int32)), (.int (0 : Int32)), (.int (0 : Int32))] (.int (0 : Int32)) := V_b92.pad (pad_rep [] (.int (0 : Int32)) 5)
    refine own_astore (pc' := 34) B X92 (Ls' := #[.val (.int i0), .val (.int i1), .val (.int i2), .val (.int i3), .val (.ref b1), .val (.int (2 : Int32)), .val (.ref b92), .unset]) at_32 rfl rfl rfl ?_
    refine own_aload (pc' := 36) B X92 at_34 rfl rfl rfl ?_
    refine own_iconst (pc' := 37) B X92 (z := (0 : Int32)) at_36 rfl rfl ?_
    refine own_iloadN (pc' := 38) B X92 at_37 rfl rfl ?_
    refine own_bipush (pc' := 40) B X92 (z := (24 : Int32)) at_38 rfl (by decide) ?_
    obtain ⟨y93, hy93⟩ : ∃ z : Int32, i0 >>> ((24 : Int32) &&& 31) = z := ⟨_, rfl⟩
    refine own_ishr (pc' := 41) B X92 at_40 rfl hy93 ?_
    obtain ⟨y94, hy94⟩ : ∃ z : Int32, y93.toInt8.toInt32 = z := ⟨_, rfl⟩
    refine own_i2b (pc' := 42) B X92 at_41 rfl hy94 ?_
    refine own_bastore (pc' := 43) B X92 (x' := y94) V_b92 g_b92 ⟨by decide, by decide⟩ 0 (by decide) (Nat.le_of_ble_eq_true rfl) (own_idem_i2b hy94) at_42 rfl ?_
    intro T95 h95 X95 W95 V_b92
    replace V_b92 : Arv Z h95 b92 kb92 .byte (5 : Int32) [(.int y94), (.int (0 : Int32)), (.int (0 : Int32)), (.int (0 : Int32)), (.int (0 : Int32))] (.int (0 : Int32)) := V_b92
    replace E_b1 := E_b1.wr W95
    replace F_b1_bytes := F_b1_bytes.other W95 (Or.inl ne_b1_b92)
    replace F_b1_length := F_b1_length.other W95 (Or.inl ne_b1_b92)
    replace E_b3 := E_b3.wr W95
    replace V_b3 := V_b3.other W95 ne_b3_b92
    replace E_b92 := E_b92.wr W95
    replace K := K.wr W95 (Or.inr sz_b92)
    refine own_aload (pc' := 45) B X95 at_43 rfl rfl rfl ?_
    refine own_iconst (pc' := 46) B X95 (z := (1 : Int32)) at_45 rfl rfl ?_
    refine own_iloadN (pc' := 47) B X95 at_46 rfl rfl ?_
    refine own_bipush (pc' := 49) B X95 (z := (16 : Int32)) at_47 rfl (by decide) ?_
    obtain ⟨y96, hy96⟩ : ∃ z : Int32, i0 >>> ((16 : Int32) &&& 31) = z := ⟨_, rfl⟩
    refine own_ishr (pc' := 50) B X95 at_49 rfl hy96 ?_
    obtain ⟨y97, hy97⟩ : ∃ z : Int32, y96.toInt8.toInt32 = z := ⟨_, rfl⟩
    refine own_i2b (pc' := 51) B X95 at_50 rfl hy97 ?_
    refine own_bastore (pc' := 52) B X95 (x' := y97) V_b92 g_b92 ⟨by decide, by decide⟩ 1 (by decide) (Nat.le_of_ble_eq_true rfl) (own_idem_i2b hy97) at_51 rfl ?_
    intro T98 h98 X98 W98 V_b92
    replace V_b92 : Arv Z h98 b92 kb92 .byte (5 : Int32) [(.int y94), (.int y97), (.int (0 : Int32)), (.int (0 : Int32)), (.int (0 : Int32))] (.int (0 : Int32)) := V_b92
    replace E_b1 := E_b1.wr W98
    replace F_b1_bytes := F_b1_bytes.other W98 (Or.inl ne_b1_b92)
    replace F_b1_length := F_b1_length.other W98 (Or.inl ne_b1_b92)
    replace E_b3 := E_b3.wr W98
    replace V_b3 := V_b3.other W98 ne_b3_b92
    replace E_b92 := E_b92.wr W98
    replace K := K.wr W98 (Or.inr sz_b92)
    refine own_aload (pc' := 54) B X98 at_52 rfl rfl rfl ?_
    refine own_iconst (pc' := 55) B X98 (z := (2 : Int32)) at_54 rfl rfl ?_
    refine own_iloadN (pc' := 56) B X98 at_55 rfl rfl ?_
    refine own_bipush (pc' := 58) B X98 (z := (8 : Int32)) at_56 rfl (by decide) ?_
    obtain ⟨y99, hy99⟩ : ∃ z : Int32, i0 >>> ((8 : Int32) &&& 31) = z := ⟨_, rfl⟩
    refine own_ishr (pc' := 59) B X98 at_58 rfl hy99 ?_
    obtain ⟨y100, hy100⟩ : ∃ z : Int32, y99.toInt8.toInt32 = z := ⟨_, rfl⟩
    refine own_i2b (pc' := 60) B X98 at_59 rfl hy100 ?_
    refine own_bastore (pc' := 61) B X98 (x' := y100) V_b92 g_b92 ⟨by decide, by decide⟩ 2 (by decide) (Nat.le_of_ble_eq_true rfl) (own_idem_i2b hy100) at_60 rfl ?_
    intro T101 h101 X101 W101 V_b92
    replace V_b92 : Arv Z h101 b92 kb92 .byte (5 : Int32) [(.int y94), (.int y97), (.int y100), (.int (0 : Int32)), (.int (0 : Int32))] (.int (0 : Int32)) := V_b92
    replace E_b1 := E_b1.wr W101
    replace F_b1_bytes := F_b1_bytes.other W101 (Or.inl ne_b1_b92)
    replace F_b1_length := F_b1_length.other W101 (Or.inl ne_b1_b92)
    replace E_b3 := E_b3.wr W101
    replace V_b3 := V_b3.other W101 ne_b3_b92
    replace E_b92 := E_b92.wr W101
    replace K := K.wr W101 (Or.inr sz_b92)
    refine own_aload (pc' := 63) B X101 at_61 rfl rfl rfl ?_
    refine own_iconst (pc' := 64) B X101 (z := (3 : Int32)) at_63 rfl rfl ?_
    refine own_iloadN (pc' := 65) B X101 at_64 rfl rfl ?_
    refine own_i2b (pc' := 66) B X101 at_65 rfl hy19 ?_
    refine own_bastore (pc' := 67) B X101 (x' := y12) V_b92 g_b92 ⟨by decide, by decide⟩ 3 (by decide) (Nat.le_of_ble_eq_true rfl) (own_idem_i2b hy19) at_66 rfl ?_
    intro T102 h102 X102 W102 V_b92
    replace V_b92 : Arv Z h102 b92 kb92 .byte (5 : Int32) [(.int y94), (.int y97), (.int y100), (.int y12), (.int (0 : Int32))] (.int (0 : Int32)) := V_b92
    replace E_b1 := E_b1.wr W102
    replace F_b1_bytes := F_b1_bytes.other W102 (Or.inl ne_b1_b92)
    replace F_b1_length := F_b1_length.other W102 (Or.inl ne_b1_b92)
    replace E_b3 := E_b3.wr W102
    replace V_b3 := V_b3.other W102 ne_b3_b92
    replace E_b92 := E_b92.wr W102
    replace K := K.wr W102 (Or.inr sz_b92)
    refine own_aload (pc' := 69) B X102 at_67 rfl rfl rfl ?_
    refine own_iconst (pc' := 70) B X102 (z := (4 : Int32)) at_69 rfl rfl ?_
    refine own_iloadN (pc' := 71) B X102 at_70 rfl rfl ?_
    refine own_i2b (pc' := 72) B X102 at_71 rfl hy22 ?_
    refine own_bastore (pc' := 73) B X102 (x' := y21) V_b92 g_b92 ⟨by decide, by decide⟩ 4 (by decide) (Nat.le_of_ble_eq_true rfl) (own_idem_i2b hy22) at_72 rfl ?_
    intro T103 h103 X103 W103 V_b92
    replace V_b92 : Arv Z h103 b92 kb92 .byte (5 : Int32) [(.int y94), (.int y97), (.int y100), (.int y12), (.int y21)] (.int (0 : Int32)) := V_b92
    replace E_b1 := E_b1.wr W103
    replace F_b1_bytes := F_b1_bytes.other W103 (Or.inl ne_b1_b92)
    replace F_b1_length := F_b1_length.other W103 (Or.inl ne_b1_b92)
    replace E_b3 := E_b3.wr W103
    replace V_b3 := V_b3.other W103 ne_b3_b92
    replace E_b92 := E_b92.wr W103
    replace K := K.wr W103 (Or.inr sz_b92)
    refine own_aload (pc' := 75) B X103 at_73 rfl rfl rfl ?_
    refine own_iload (pc' := 77) B X103 at_75 rfl rfl ?_
    refine own_iloadN (pc' := 78) B X103 at_77 rfl rfl ?_
    refine own_ldcI (pc' := 80) B X103 (own_w hw 35 rfl) at_78 rfl ?_
    obtain ⟨y104, hy104⟩ : ∃ z : Int32, i3 &&& (65280 : Int32) = z := ⟨_, rfl⟩
    refine own_iand (pc' := 81) B X103 at_80 rfl hy104 ?_
    refine own_bipush (pc' := 83) B X103 (z := (8 : Int32)) at_81 rfl (by decide) ?_
    obtain ⟨y105, hy105⟩ : ∃ z : Int32, y104 >>> ((8 : Int32) &&& 31) = z := ⟨_, rfl⟩
    refine own_ishr (pc' := 84) B X103 at_83 rfl hy105 ?_
    obtain ⟨y106, hy106⟩ : ∃ z : Int32, y105.toInt8.toInt32 = z := ⟨_, rfl⟩
    refine own_i2b (pc' := 85) B X103 at_84 rfl hy106 ?_
    refine own_bastore (pc' := 86) B X103 (x' := y106) V_b92 g_b92 ⟨by decide, by decide⟩ 2 (by decide) (Nat.le_of_ble_eq_true rfl) (own_idem_i2b hy106) at_85 rfl ?_
    intro T107 h107 X107 W107 V_b92
    replace V_b92 : Arv Z h107 b92 kb92 .byte (5 : Int32) [(.int y94), (.int y97), (.int y106), (.int y12), (.int y21)] (.int (0 : Int32)) := V_b92
    replace E_b1 := E_b1.wr W107
    replace F_b1_bytes := F_b1_bytes.other W107 (Or.inl ne_b1_b92)
    replace F_b1_length := F_b1_length.other W107 (Or.inl ne_b1_b92)
    replace E_b3 := E_b3.wr W107
    replace V_b3 := V_b3.other W107 ne_b3_b92
    replace E_b92 := E_b92.wr W107
    replace K := K.wr W107 (Or.inr sz_b92)
    refine own_aload (pc' := 88) B X107 at_86 rfl rfl rfl ?_
    refine own_iload (pc' := 90) B X107 at_88 rfl rfl ?_
    refine own_iconst (pc' := 91) B X107 (z := (1 : Int32)) at_90 rfl rfl ?_
    refine own_iadd (pc' := 92) B X107 (z := (3 : Int32)) at_91 rfl (by decide) ?_
    refine own_iloadN (pc' := 93) B X107 at_92 rfl rfl ?_
    refine own_sipush (pc' := 96) B X107 (z := (255 : Int32)) at_93 rfl (by decide) ?_
    obtain ⟨y108, hy108⟩ : ∃ z : Int32, i3 &&& (255 : Int32) = z := ⟨_, rfl⟩
    refine own_iand (pc' := 97) B X107 at_96 rfl hy108 ?_
    obtain ⟨y109, hy109⟩ : ∃ z : Int32, y108.toInt8.toInt32 = z := ⟨_, rfl⟩
    refine own_i2b (pc' := 98) B X107 at_97 rfl hy109 ?_
    refine own_bastore (pc' := 99) B X107 (x' := y109) V_b92 g_b92 ⟨by decide, by decide⟩ 3 (by decide) (Nat.le_of_ble_eq_true rfl) (own_idem_i2b hy109) at_98 rfl ?_
    intro T110 h110 X110 W110 V_b92
    replace V_b92 : Arv Z h110 b92 kb92 .byte (5 : Int32) [(.int y94), (.int y97), (.int y106), (.int y109), (.int y21)] (.int (0 : Int32)) := V_b92
    replace E_b1 := E_b1.wr W110
    replace F_b1_bytes := F_b1_bytes.other W110 (Or.inl ne_b1_b92)
    replace F_b1_length := F_b1_length.other W110 (Or.inl ne_b1_b92)
    replace E_b3 := E_b3.wr W110
    replace V_b3 := V_b3.other W110 ne_b3_b92
    replace E_b92 := E_b92.wr W110
    replace K := K.wr W110 (Or.inr sz_b92)
    refine own_aload (pc' := 101) B X110 at_99 rfl rfl rfl ?_
    refine own_iload (pc' := 103) B X110 at_101 rfl rfl ?_
    refine own_iloadN (pc' := 104) B X110 at_103 rfl rfl ?_
    refine own_callV (pc' := 107) B X110 (own_w hw 36 rfl) (own_w hw 37 rfl) (own_w hw 39 rfl) (own_w hw 38 rfl) (own_w hw 2 rfl) (own_w hw 40 rfl) E_b1 (by decide) [(.int (2 : Int32)), (.int i3)] [] (rm_21 l Z a0 hw [] b1 b3 k4 (y8) (y9) (y11) (y12) (y21) (i3) h110 n0 (Nat.le_trans Z0 K.1) E_b1 F_b1_bytes F_b1_length g_b1 E_b3 V_b3 g_b3 ne_b1_b3) 0 (by decide) (by decide) rfl pd_2 rfl rfl (Nat.le_of_eq rfl) at_104 rfl (k' := 3) (n' := 71) rfl rfl (by decide) (by decide) ?_
    intro T111 v111 h111 X111 q111
    obtain ⟨y112, y113, y114, hy115, hy116, hy117, rfl, K111, E_b3, V_b3⟩ := q111
    replace K := K.trans K111 (allS (Or.inr sz_b3) all0)
    replace E_b1 := E_b1.keep K111
    replace F_b1_bytes := F_b1_bytes.keep K111 (ninS ne_b1_b3 nin0)
    replace F_b1_length := F_b1_length.keep K111 (ninS ne_b1_b3 nin0)
    replace E_b92 := E_b92.keep K111
    replace V_b92 := V_b92.keep K111 (ninS (Ne.symm ne_b3_b92) nin0)
    show own_Go p e below (T111.setTop (mkF m 107 #[.val (.int i0), .val (.int i1), .val (.int i2), .val (.int i3), .val (.ref b1), .val (.int (2 : Int32)), .val (.ref b92), .unset] [])) _
    refine own_aload (pc' := 109) B X111 at_107 rfl rfl rfl ?_
    refine own_callV (pc' := 112) B X111 (own_w hw 41 rfl) (own_w hw 42 rfl) (own_w hw 44 rfl) (own_w hw 43 rfl) (own_w hw 2 rfl) (own_w hw 45 rfl) E_b1 (by decide) [] [] (rm_16 l Z a0 hw [] b1 b3 k4 (y8) (y9) (y113) (y114) (y21) h111 n0 (Nat.le_trans Z0 K.1) E_b1 F_b1_bytes F_b1_length g_b1 E_b3 V_b3 g_b3 ne_b1_b3) 0 (by decide) (by decide) rfl pd_3 rfl rfl (Nat.le_of_eq rfl) at_109 rfl (k' := 3) (n' := 71) rfl rfl (by decide) (by decide) ?_
    intro T118 v118 h118 X118 q118
    obtain ⟨rfl, rfl⟩ := q118
    show own_Go p e below (T118.setTop (mkF m 112 #[.val (.int i0), .val (.int i1), .val (.int i2), .val (.int i3), .val (.ref b1), .val (.int (2 : Int32)), .val (.ref b92), .unset] [(.int (5 : Int32))])) _
    refine own_iconst (pc' := 113) B X118 (z := (5 : Int32)) at_112 rfl rfl ?_
    refine own_icmpYes (pc' := 118) B X118 at_113 (teq (by decide : (5 : Int32) = (5 : Int32))).1 (by decide) rfl ?_
    refine own_aload (pc' := 120) B X118 at_118 rfl rfl rfl ?_
    refine own_callV (pc' := 123) B X118 (own_w hw 46 rfl) (own_w hw 47 rfl) (own_w hw 49 rfl) (own_w hw 48 rfl) (own_w hw 2 rfl) (own_w hw 50 rfl) E_b1 (by decide) [] [] (rm_17 l Z a0 hw [] b1 b3 k4 (y8) (y9) (y113) (y114) (y21) h111 n0 (Nat.le_trans Z0 K.1) E_b1 F_b1_bytes F_b1_length g_b1 E_b3 V_b3 g_b3 ne_b1_b3) 0 (by decide) (by decide) rfl pd_6 rfl rfl (Nat.le_of_eq rfl) at_120 rfl (k' := 4) (n' := 76) rfl rfl (by decide) (by decide) ?_
    intro T119 v119 h119 X119 q119
    have lt_b1 := E_b1.lt
    have lt_b3 := E_b3.lt
    have lt_b92 := E_b92.lt
    obtain ⟨b120, k121, rfl, K119, z_b120, E_b120, V_b120⟩ := q119
    have ne_b1_b120 : b1 ≠ b120 := own_ne' lt_b1 z_b120
    have ne_b3_b120 : b3 ≠ b120 := own_ne' lt_b3 z_b120
    have ne_b92_b120 : b92 ≠ b120 := own_ne' lt_b92 z_b120
    have sz_b120 : h0.size ≤ b120 := Nat.le_trans K.1 z_b120
    have g_b120 : n0 ≤ b120 := Nat.le_trans Z0 sz_b120
    replace K := K.trans K119 all0
    replace E_b1 := E_b1.keep K119
    replace F_b1_bytes := F_b1_bytes.keep K119 nin0
    replace F_b1_length := F_b1_length.keep K119 nin0
    replace E_b3 := E_b3.keep K119
    replace V_b3 := V_b3.keep K119 nin0
    replace E_b92 := E_b92.keep K119
    replace V_b92 := V_b92.keep K119 nin0
    show own_Go p e below (T119.setTop (mkF m 123 #[.val (.int i0), .val (.int i1), .val (.int i2), .val (.int i3), .val (.ref b1), .val (.int (2 : Int32)), .val (.ref b92), .unset] [(.ref b120)])) _
    refine own_astore (pc' := 125) B X119 (Ls' := #[.val (.int i0), .val (.int i1), .val (.int i2), .val (.int i3), .val (.ref b1), .val (.int (2 : Int32)), .val (.ref b92), .val (.ref b120)]) at_123 rfl rfl rfl ?_
    refine own_aload (pc' := 127) B X119 at_125 rfl rfl rfl ?_
    refine own_arraylength (pc' := 128) B X119 V_b120 at_127 rfl ?_
    refine own_iconst (pc' := 129) B X119 (z := (5 : Int32)) at_128 rfl rfl ?_
    refine own_icmpYes (pc' := 134) B X119 at_129 (teq (by decide : (5 : Int32) = (5 : Int32))).1 (by decide) rfl ?_
    refine own_aload (pc' := 136) B X119 at_134 rfl rfl rfl ?_
    refine own_iconst (pc' := 137) B X119 (z := (0 : Int32)) at_136 rfl rfl ?_
    refine own_baload (pc' := 138) B X119 V_b120 (v := (.int y8)) ⟨by decide, by decide⟩ rfl at_137 rfl ?_
    refine own_aload (pc' := 140) B X119 at_138 rfl rfl rfl ?_
    refine own_iconst (pc' := 141) B X119 (z := (0 : Int32)) at_140 rfl rfl ?_
    refine own_baload (pc' := 142) B X119 V_b92 (v := (.int y94)) ⟨by decide, by decide⟩ rfl at_141 rfl ?_
    have c122 : y8 = y94 := by
      have o0 := own_o_iushr hy13 16 (by decide) (by decide)
      have o1 := own_o_iushr hy14 8 (by decide) (by decide)
      have o2 := own_o_i2b hy15
      have o3 := own_o_ishr hy93 24 (by decide)
      have o4 := own_o_i2b hy94
      have o5 := rng32 i0
      have o6 := rng32 y6
      have o7 := rng32 y7
      have o8 := rng32 y8
      have o9 := rng32 y93
      have o10 := rng32 y94
      have o11 : (16 : Int32).toInt = 16 := by decide
      have o12 : (8 : Int32).toInt = 8 := by decide
      have o13 : (24 : Int32).toInt = 24 := by decide
      refine own_eqI ?_
      omega
    refine own_icmpNo (pc' := 145) B X119 at_142 (teq c122).2 rfl ?_
    refine own_aload (pc' := 147) B X119 at_145 rfl rfl rfl ?_
    refine own_iconst (pc' := 148) B X119 (z := (1 : Int32)) at_147 rfl rfl ?_
    refine own_baload (pc' := 149) B X119 V_b120 (v := (.int y9)) ⟨by decide, by decide⟩ rfl at_148 rfl ?_
    refine own_aload (pc' := 151) B X119 at_149 rfl rfl rfl ?_
    refine own_iconst (pc' := 152) B X119 (z := (1 : Int32)) at_151 rfl rfl ?_
    refine own_baload (pc' := 153) B X119 V_b92 (v := (.int y97)) ⟨by decide, by decide⟩ rfl at_152 rfl ?_
    have c123 : y9 = y97 := by
      have o0 := own_o_iushr hy13 16 (by decide) (by decide)
      have o1 := own_o_iushr hy14 8 (by decide) (by decide)
      have o2 := own_o_i2b hy15
      have o3 := own_o_i2b hy16
      have o4 := own_o_ishr hy93 24 (by decide)
      have o5 := own_o_i2b hy94
      have o6 := own_o_ishr hy96 16 (by decide)
      have o7 := own_o_i2b hy97
      have o8 := own_eq c122
      have o9 := rng32 i0
      have o10 := rng32 y6
      have o11 := rng32 y7
      have o12 := rng32 y8
      have o13 := rng32 y9
      have o14 := rng32 y93
      have o15 := rng32 y94
      have o16 := rng32 y96
      have o17 := rng32 y97
      have o18 : (16 : Int32).toInt = 16 := by decide
      have o19 : (8 : Int32).toInt = 8 := by decide
      have o20 : (24 : Int32).toInt = 24 := by decide
      refine own_eqI ?_
      omega
    refine own_icmpNo (pc' := 156) B X119 at_153 (teq c123).2 rfl ?_
    refine own_aload (pc' := 158) B X119 at_156 rfl rfl rfl ?_
    refine own_iconst (pc' := 159) B X119 (z := (2 : Int32)) at_158 rfl rfl ?_
    refine own_baload (pc' := 160) B X119 V_b120 (v := (.int y113)) ⟨by decide, by decide⟩ rfl at_159 rfl ?_
    refine own_aload (pc' := 162) B X119 at_160 rfl rfl rfl ?_
    refine own_iconst (pc' := 163) B X119 (z := (2 : Int32)) at_162 rfl rfl ?_
    refine own_baload (pc' := 164) B X119 V_b92 (v := (.int y106)) ⟨by decide, by decide⟩ rfl at_163 rfl ?_
    have c124 : y113 = y106 := by
      have o0 := own_o_and65280 hy104
      have o1 := own_o_ishr hy105 8 (by decide)
      have o2 := own_o_i2b hy106
      have o3 := own_o_iushr hy115 8 (by decide) (by decide)
      have o4 := own_o_i2b hy116
      have o5 := rng32 i3
      have o6 := rng32 y104
      have o7 := rng32 y105
      have o8 := rng32 y106
      have o9 := rng32 y112
      have o10 := rng32 y113
      have o11 : (65280 : Int32).toInt = 65280 := by decide
      have o12 : (8 : Int32).toInt = 8 := by decide
      refine own_eqI ?_
      omega
    refine own_icmpNo (pc' := 167) B X119 at_164 (teq c124).2 rfl ?_
    refine own_aload (pc' := 169) B X119 at_167 rfl rfl rfl ?_
    refine own_iconst (pc' := 170) B X119 (z := (3 : Int32)) at_169 rfl rfl ?_
    refine own_baload (pc' := 171) B X119 V_b120 (v := (.int y114)) ⟨by decide, by decide⟩ rfl at_170 rfl ?_
    refine own_aload (pc' := 173) B X119 at_171 rfl rfl rfl ?_
    refine own_iconst (pc' := 174) B X119 (z := (3 : Int32)) at_173 rfl rfl ?_
    refine own_baload (pc' := 175) B X119 V_b92 (v := (.int y109)) ⟨by decide, by decide⟩ rfl at_174 rfl ?_
    have c125 : y114 = y109 := by
      have o0 := own_o_and65280 hy104
      have o1 := own_o_ishr hy105 8 (by decide)
      have o2 := own_o_i2b hy106
      have o3 := own_o_mask hy108 8 (by decide) (by decide)
      have o4 := own_o_i2b hy109
      have o5 := own_o_iushr hy115 8 (by decide) (by decide)
      have o6 := own_o_i2b hy116
      have o7 := own_o_i2b hy117
      have o8 := own_eq c124
      have o9 := rng32 i3
      have o10 := rng32 y104
      have o11 := rng32 y105
      have o12 := rng32 y106
      have o13 := rng32 y108
      have o14 := rng32 y109
      have o15 := rng32 y112
      have o16 := rng32 y113
      have o17 := rng32 y114
      have o18 : (65280 : Int32).toInt = 65280 := by decide
      have o19 : (8 : Int32).toInt = 8 := by decide
      have o20 : (255 : Int32).toInt = 255 := by decide
      refine own_eqI ?_
      omega
    refine own_icmpNo (pc' := 178) B X119 at_175 (teq c125).2 rfl ?_
    refine own_aload (pc' := 180) B X119 at_178 rfl rfl rfl ?_
    refine own_iconst (pc' := 181) B X119 (z := (4 : Int32)) at_180 rfl rfl ?_
    refine own_baload (pc' := 182) B X119 V_b120 (v := (.int y21)) ⟨by decide, by decide⟩ rfl at_181 rfl ?_
    refine own_aload (pc' := 184) B X119 at_182 rfl rfl rfl ?_
    refine own_iconst (pc' := 185) B X119 (z := (4 : Int32)) at_184 rfl rfl ?_
    refine own_baload (pc' := 186) B X119 V_b92 (v := (.int y21)) ⟨by decide, by decide⟩ rfl at_185 rfl ?_
    refine own_icmpNo (pc' := 189) B X119 at_186 (teq rfl).2 rfl ?_
    refine own_iconst (pc' := 190) B X119 (z := (1 : Int32)) at_189 rfl rfl ?_
    refine own_goto (pc' := 194) B X119 at_190 (by decide) rfl ?_
    exact own_retN B X119 (t := .boolean) (z' := (1 : Int32)) (by simp) (by decide) at_194 (by decide) (by decide) rfl
  · obtain rfl : y24 = (3 : Int32) := Int32.toInt_inj.mp (z25.trans (by decide))
    refine own_istore (pc' := 29) B X20 (Ls' := #[.val (.int i0), .val (.int i1), .val (.int i2), .val (.int i3), .val (.ref b1), .val (.int (3 : Int32)), .unset, .unset]) at_27 rfl rfl ?_
    refine own_iconst (pc' := 30) B X20 (z := (5 : Int32)) at_29 rfl rfl ?_
    refine own_newarray (pc' := 32) B X20 (own_w hw 9 rfl) at_30 rfl rfl (by decide) 5 (by decide) (by decide) (k' := 3) (n' := 71) rfl rfl (by decide) (by decide) "[B" (by decide) (.int (0 : Int32)) rfl ?_
    intro T126 h126 b126 kb126 X126 g126 E126 V_b126 E_b126
    have ne_b1_b126 : b1 ≠ b126 := own_ne E_b1.lt g126
    have ne_b3_b126 : b3 ≠ b126 := own_ne E_b3.lt g126
    have sz_b126 : h0.size ≤ b126 := own_sz K g126
    have g_b126 : n0 ≤ b126 := Nat.le_trans Z0 sz_b126
    replace K := K.ext E126
    replace E_b1 := E_b1.ext E126
    replace F_b1_bytes := F_b1_bytes.ext E126
    replace F_b1_length := F_b1_length.ext E126
    replace E_b3 := E_b3.ext E126
    replace V_b3 := V_b3.ext E126
    replace V_b126 : Arv Z h126 b126 kb126 .byte (5 : Int32) [(.int (0 : Int32)), (.int (0 : Int32)), (.int (0 : Int32)), (.int (0 : Int32)), (.int (0 : Int32))] (.int (0 : Int32)) := V_b126.pad (pad_rep [] (.int (0 : Int32)) 5)
    refine own_astore (pc' := 34) B X126 (Ls' := #[.val (.int i0), .val (.int i1), .val (.int i2), .val (.int i3), .val (.ref b1), .val (.int (3 : Int32)), .val (.ref b126), .unset]) at_32 rfl rfl rfl ?_
    refine own_aload (pc' := 36) B X126 at_34 rfl rfl rfl ?_
    refine own_iconst (pc' := 37) B X126 (z := (0 : Int32)) at_36 rfl rfl ?_
    refine own_iloadN (pc' := 38) B X126 at_37 rfl rfl ?_
    refine own_bipush (pc' := 40) B X126 (z := (24 : Int32)) at_38 rfl (by decide) ?_
    obtain ⟨y127, hy127⟩ : ∃ z : Int32, i0 >>> ((24 : Int32) &&& 31) = z := ⟨_, rfl⟩
    refine own_ishr (pc' := 41) B X126 at_40 rfl hy127 ?_
    obtain ⟨y128, hy128⟩ : ∃ z : Int32, y127.toInt8.toInt32 = z := ⟨_, rfl⟩
    refine own_i2b (pc' := 42) B X126 at_41 rfl hy128 ?_
    refine own_bastore (pc' := 43) B X126 (x' := y128) V_b126 g_b126 ⟨by decide, by decide⟩ 0 (by decide) (Nat.le_of_ble_eq_true rfl) (own_idem_i2b hy128) at_42 rfl ?_
    intro T129 h129 X129 W129 V_b126
    replace V_b126 : Arv Z h129 b126 kb126 .byte (5 : Int32) [(.int y128), (.int (0 : Int32)), (.int (0 : Int32)), (.int (0 : Int32)), (.int (0 : Int32))] (.int (0 : Int32)) := V_b126
    replace E_b1 := E_b1.wr W129
    replace F_b1_bytes := F_b1_bytes.other W129 (Or.inl ne_b1_b126)
    replace F_b1_length := F_b1_length.other W129 (Or.inl ne_b1_b126)
    replace E_b3 := E_b3.wr W129
    replace V_b3 := V_b3.other W129 ne_b3_b126
    replace E_b126 := E_b126.wr W129
    replace K := K.wr W129 (Or.inr sz_b126)
    refine own_aload (pc' := 45) B X129 at_43 rfl rfl rfl ?_
    refine own_iconst (pc' := 46) B X129 (z := (1 : Int32)) at_45 rfl rfl ?_
    refine own_iloadN (pc' := 47) B X129 at_46 rfl rfl ?_
    refine own_bipush (pc' := 49) B X129 (z := (16 : Int32)) at_47 rfl (by decide) ?_
    obtain ⟨y130, hy130⟩ : ∃ z : Int32, i0 >>> ((16 : Int32) &&& 31) = z := ⟨_, rfl⟩
    refine own_ishr (pc' := 50) B X129 at_49 rfl hy130 ?_
    obtain ⟨y131, hy131⟩ : ∃ z : Int32, y130.toInt8.toInt32 = z := ⟨_, rfl⟩
    refine own_i2b (pc' := 51) B X129 at_50 rfl hy131 ?_
    refine own_bastore (pc' := 52) B X129 (x' := y131) V_b126 g_b126 ⟨by decide, by decide⟩ 1 (by decide) (Nat.le_of_ble_eq_true rfl) (own_idem_i2b hy131) at_51 rfl ?_
    intro T132 h132 X132 W132 V_b126
    replace V_b126 : Arv Z h132 b126 kb126 .byte (5 : Int32) [(.int y128), (.int y131), (.int (0 : Int32)), (.int (0 : Int32)), (.int (0 : Int32))] (.int (0 : Int32)) := V_b126
    replace E_b1 := E_b1.wr W132
    replace F_b1_bytes := F_b1_bytes.other W132 (Or.inl ne_b1_b126)
    replace F_b1_length := F_b1_length.other W132 (Or.inl ne_b1_b126)
    replace E_b3 := E_b3.wr W132
    replace V_b3 := V_b3.other W132 ne_b3_b126
    replace E_b126 := E_b126.wr W132
    replace K := K.wr W132 (Or.inr sz_b126)
    refine own_aload (pc' := 54) B X132 at_52 rfl rfl rfl ?_
    refine own_iconst (pc' := 55) B X132 (z := (2 : Int32)) at_54 rfl rfl ?_
    refine own_iloadN (pc' := 56) B X132 at_55 rfl rfl ?_
    refine own_bipush (pc' := 58) B X132 (z := (8 : Int32)) at_56 rfl (by decide) ?_
    obtain ⟨y133, hy133⟩ : ∃ z : Int32, i0 >>> ((8 : Int32) &&& 31) = z := ⟨_, rfl⟩
    refine own_ishr (pc' := 59) B X132 at_58 rfl hy133 ?_
    obtain ⟨y134, hy134⟩ : ∃ z : Int32, y133.toInt8.toInt32 = z := ⟨_, rfl⟩
    refine own_i2b (pc' := 60) B X132 at_59 rfl hy134 ?_
    refine own_bastore (pc' := 61) B X132 (x' := y134) V_b126 g_b126 ⟨by decide, by decide⟩ 2 (by decide) (Nat.le_of_ble_eq_true rfl) (own_idem_i2b hy134) at_60 rfl ?_
    intro T135 h135 X135 W135 V_b126
    replace V_b126 : Arv Z h135 b126 kb126 .byte (5 : Int32) [(.int y128), (.int y131), (.int y134), (.int (0 : Int32)), (.int (0 : Int32))] (.int (0 : Int32)) := V_b126
    replace E_b1 := E_b1.wr W135
    replace F_b1_bytes := F_b1_bytes.other W135 (Or.inl ne_b1_b126)
    replace F_b1_length := F_b1_length.other W135 (Or.inl ne_b1_b126)
    replace E_b3 := E_b3.wr W135
    replace V_b3 := V_b3.other W135 ne_b3_b126
    replace E_b126 := E_b126.wr W135
    replace K := K.wr W135 (Or.inr sz_b126)
    refine own_aload (pc' := 63) B X135 at_61 rfl rfl rfl ?_
    refine own_iconst (pc' := 64) B X135 (z := (3 : Int32)) at_63 rfl rfl ?_
    refine own_iloadN (pc' := 65) B X135 at_64 rfl rfl ?_
    refine own_i2b (pc' := 66) B X135 at_65 rfl hy19 ?_
    refine own_bastore (pc' := 67) B X135 (x' := y12) V_b126 g_b126 ⟨by decide, by decide⟩ 3 (by decide) (Nat.le_of_ble_eq_true rfl) (own_idem_i2b hy19) at_66 rfl ?_
    intro T136 h136 X136 W136 V_b126
    replace V_b126 : Arv Z h136 b126 kb126 .byte (5 : Int32) [(.int y128), (.int y131), (.int y134), (.int y12), (.int (0 : Int32))] (.int (0 : Int32)) := V_b126
    replace E_b1 := E_b1.wr W136
    replace F_b1_bytes := F_b1_bytes.other W136 (Or.inl ne_b1_b126)
    replace F_b1_length := F_b1_length.other W136 (Or.inl ne_b1_b126)
    replace E_b3 := E_b3.wr W136
    replace V_b3 := V_b3.other W136 ne_b3_b126
    replace E_b126 := E_b126.wr W136
    replace K := K.wr W136 (Or.inr sz_b126)
    refine own_aload (pc' := 69) B X136 at_67 rfl rfl rfl ?_
    refine own_iconst (pc' := 70) B X136 (z := (4 : Int32)) at_69 rfl rfl ?_
    refine own_iloadN (pc' := 71) B X136 at_70 rfl rfl ?_
    refine own_i2b (pc' := 72) B X136 at_71 rfl hy22 ?_
    refine own_bastore (pc' := 73) B X136 (x' := y21) V_b126 g_b126 ⟨by decide, by decide⟩ 4 (by decide) (Nat.le_of_ble_eq_true rfl) (own_idem_i2b hy22) at_72 rfl ?_
    intro T137 h137 X137 W137 V_b126
    replace V_b126 : Arv Z h137 b126 kb126 .byte (5 : Int32) [(.int y128), (.int y131), (.int y134), (.int y12), (.int y21)] (.int (0 : Int32)) := V_b126
    replace E_b1 := E_b1.wr W137
    replace F_b1_bytes := F_b1_bytes.other W137 (Or.inl ne_b1_b126)
    replace F_b1_length := F_b1_length.other W137 (Or.inl ne_b1_b126)
    replace E_b3 := E_b3.wr W137
    replace V_b3 := V_b3.other W137 ne_b3_b126
    replace E_b126 := E_b126.wr W137
    replace K := K.wr W137 (Or.inr sz_b126)
    refine own_aload (pc' := 75) B X137 at_73 rfl rfl rfl ?_
    refine own_iload (pc' := 77) B X137 at_75 rfl rfl ?_
    refine own_iloadN (pc' := 78) B X137 at_77 rfl rfl ?_
    refine own_ldcI (pc' := 80) B X137 (own_w hw 35 rfl) at_78 rfl ?_
    obtain ⟨y138, hy138⟩ : ∃ z : Int32, i3 &&& (65280 : Int32) = z := ⟨_, rfl⟩
    refine own_iand (pc' := 81) B X137 at_80 rfl hy138 ?_
    refine own_bipush (pc' := 83) B X137 (z := (8 : Int32)) at_81 rfl (by decide) ?_
    obtain ⟨y139, hy139⟩ : ∃ z : Int32, y138 >>> ((8 : Int32) &&& 31) = z := ⟨_, rfl⟩
    refine own_ishr (pc' := 84) B X137 at_83 rfl hy139 ?_
    obtain ⟨y140, hy140⟩ : ∃ z : Int32, y139.toInt8.toInt32 = z := ⟨_, rfl⟩
    refine own_i2b (pc' := 85) B X137 at_84 rfl hy140 ?_
    refine own_bastore (pc' := 86) B X137 (x' := y140) V_b126 g_b126 ⟨by decide, by decide⟩ 3 (by decide) (Nat.le_of_ble_eq_true rfl) (own_idem_i2b hy140) at_85 rfl ?_
    intro T141 h141 X141 W141 V_b126
    replace V_b126 : Arv Z h141 b126 kb126 .byte (5 : Int32) [(.int y128), (.int y131), (.int y134), (.int y140), (.int y21)] (.int (0 : Int32)) := V_b126
    replace E_b1 := E_b1.wr W141
    replace F_b1_bytes := F_b1_bytes.other W141 (Or.inl ne_b1_b126)
    replace F_b1_length := F_b1_length.other W141 (Or.inl ne_b1_b126)
    replace E_b3 := E_b3.wr W141
    replace V_b3 := V_b3.other W141 ne_b3_b126
    replace E_b126 := E_b126.wr W141
    replace K := K.wr W141 (Or.inr sz_b126)
    refine own_aload (pc' := 88) B X141 at_86 rfl rfl rfl ?_
    refine own_iload (pc' := 90) B X141 at_88 rfl rfl ?_
    refine own_iconst (pc' := 91) B X141 (z := (1 : Int32)) at_90 rfl rfl ?_
    refine own_iadd (pc' := 92) B X141 (z := (4 : Int32)) at_91 rfl (by decide) ?_
    refine own_iloadN (pc' := 93) B X141 at_92 rfl rfl ?_
    refine own_sipush (pc' := 96) B X141 (z := (255 : Int32)) at_93 rfl (by decide) ?_
    obtain ⟨y142, hy142⟩ : ∃ z : Int32, i3 &&& (255 : Int32) = z := ⟨_, rfl⟩
    refine own_iand (pc' := 97) B X141 at_96 rfl hy142 ?_
    obtain ⟨y143, hy143⟩ : ∃ z : Int32, y142.toInt8.toInt32 = z := ⟨_, rfl⟩
    refine own_i2b (pc' := 98) B X141 at_97 rfl hy143 ?_
    refine own_bastore (pc' := 99) B X141 (x' := y143) V_b126 g_b126 ⟨by decide, by decide⟩ 4 (by decide) (Nat.le_of_ble_eq_true rfl) (own_idem_i2b hy143) at_98 rfl ?_
    intro T144 h144 X144 W144 V_b126
    replace V_b126 : Arv Z h144 b126 kb126 .byte (5 : Int32) [(.int y128), (.int y131), (.int y134), (.int y140), (.int y143)] (.int (0 : Int32)) := V_b126
    replace E_b1 := E_b1.wr W144
    replace F_b1_bytes := F_b1_bytes.other W144 (Or.inl ne_b1_b126)
    replace F_b1_length := F_b1_length.other W144 (Or.inl ne_b1_b126)
    replace E_b3 := E_b3.wr W144
    replace V_b3 := V_b3.other W144 ne_b3_b126
    replace E_b126 := E_b126.wr W144
    replace K := K.wr W144 (Or.inr sz_b126)
    refine own_aload (pc' := 101) B X144 at_99 rfl rfl rfl ?_
    refine own_iload (pc' := 103) B X144 at_101 rfl rfl ?_
    refine own_iloadN (pc' := 104) B X144 at_103 rfl rfl ?_
    refine own_callV (pc' := 107) B X144 (own_w hw 36 rfl) (own_w hw 37 rfl) (own_w hw 39 rfl) (own_w hw 38 rfl) (own_w hw 2 rfl) (own_w hw 40 rfl) E_b1 (by decide) [(.int (3 : Int32)), (.int i3)] [] (rm_22 l Z a0 hw [] b1 b3 k4 (y8) (y9) (y11) (y12) (y21) (i3) h144 n0 (Nat.le_trans Z0 K.1) E_b1 F_b1_bytes F_b1_length g_b1 E_b3 V_b3 g_b3 ne_b1_b3) 0 (by decide) (by decide) rfl pd_2 rfl rfl (Nat.le_of_eq rfl) at_104 rfl (k' := 3) (n' := 71) rfl rfl (by decide) (by decide) ?_
    intro T145 v145 h145 X145 q145
    obtain ⟨y146, y147, y148, hy149, hy150, hy151, rfl, K145, E_b3, V_b3⟩ := q145
    replace K := K.trans K145 (allS (Or.inr sz_b3) all0)
    replace E_b1 := E_b1.keep K145
    replace F_b1_bytes := F_b1_bytes.keep K145 (ninS ne_b1_b3 nin0)
    replace F_b1_length := F_b1_length.keep K145 (ninS ne_b1_b3 nin0)
    replace E_b126 := E_b126.keep K145
    replace V_b126 := V_b126.keep K145 (ninS (Ne.symm ne_b3_b126) nin0)
    show own_Go p e below (T145.setTop (mkF m 107 #[.val (.int i0), .val (.int i1), .val (.int i2), .val (.int i3), .val (.ref b1), .val (.int (3 : Int32)), .val (.ref b126), .unset] [])) _
    refine own_aload (pc' := 109) B X145 at_107 rfl rfl rfl ?_
    refine own_callV (pc' := 112) B X145 (own_w hw 41 rfl) (own_w hw 42 rfl) (own_w hw 44 rfl) (own_w hw 43 rfl) (own_w hw 2 rfl) (own_w hw 45 rfl) E_b1 (by decide) [] [] (rm_16 l Z a0 hw [] b1 b3 k4 (y8) (y9) (y11) (y147) (y148) h145 n0 (Nat.le_trans Z0 K.1) E_b1 F_b1_bytes F_b1_length g_b1 E_b3 V_b3 g_b3 ne_b1_b3) 0 (by decide) (by decide) rfl pd_3 rfl rfl (Nat.le_of_eq rfl) at_109 rfl (k' := 3) (n' := 71) rfl rfl (by decide) (by decide) ?_
    intro T152 v152 h152 X152 q152
    obtain ⟨rfl, rfl⟩ := q152
    show own_Go p e below (T152.setTop (mkF m 112 #[.val (.int i0), .val (.int i1), .val (.int i2), .val (.int i3), .val (.ref b1), .val (.int (3 : Int32)), .val (.ref b126), .unset] [(.int (5 : Int32))])) _
    refine own_iconst (pc' := 113) B X152 (z := (5 : Int32)) at_112 rfl rfl ?_
    refine own_icmpYes (pc' := 118) B X152 at_113 (teq (by decide : (5 : Int32) = (5 : Int32))).1 (by decide) rfl ?_
    refine own_aload (pc' := 120) B X152 at_118 rfl rfl rfl ?_
    refine own_callV (pc' := 123) B X152 (own_w hw 46 rfl) (own_w hw 47 rfl) (own_w hw 49 rfl) (own_w hw 48 rfl) (own_w hw 2 rfl) (own_w hw 50 rfl) E_b1 (by decide) [] [] (rm_17 l Z a0 hw [] b1 b3 k4 (y8) (y9) (y11) (y147) (y148) h145 n0 (Nat.le_trans Z0 K.1) E_b1 F_b1_bytes F_b1_length g_b1 E_b3 V_b3 g_b3 ne_b1_b3) 0 (by decide) (by decide) rfl pd_6 rfl rfl (Nat.le_of_eq rfl) at_120 rfl (k' := 4) (n' := 76) rfl rfl (by decide) (by decide) ?_
    intro T153 v153 h153 X153 q153
    have lt_b1 := E_b1.lt
    have lt_b3 := E_b3.lt
    have lt_b126 := E_b126.lt
    obtain ⟨b154, k155, rfl, K153, z_b154, E_b154, V_b154⟩ := q153
    have ne_b1_b154 : b1 ≠ b154 := own_ne' lt_b1 z_b154
    have ne_b3_b154 : b3 ≠ b154 := own_ne' lt_b3 z_b154
    have ne_b126_b154 : b126 ≠ b154 := own_ne' lt_b126 z_b154
    have sz_b154 : h0.size ≤ b154 := Nat.le_trans K.1 z_b154
    have g_b154 : n0 ≤ b154 := Nat.le_trans Z0 sz_b154
    replace K := K.trans K153 all0
    replace E_b1 := E_b1.keep K153
    replace F_b1_bytes := F_b1_bytes.keep K153 nin0
    replace F_b1_length := F_b1_length.keep K153 nin0
    replace E_b3 := E_b3.keep K153
    replace V_b3 := V_b3.keep K153 nin0
    replace E_b126 := E_b126.keep K153
    replace V_b126 := V_b126.keep K153 nin0
    show own_Go p e below (T153.setTop (mkF m 123 #[.val (.int i0), .val (.int i1), .val (.int i2), .val (.int i3), .val (.ref b1), .val (.int (3 : Int32)), .val (.ref b126), .unset] [(.ref b154)])) _
    refine own_astore (pc' := 125) B X153 (Ls' := #[.val (.int i0), .val (.int i1), .val (.int i2), .val (.int i3), .val (.ref b1), .val (.int (3 : Int32)), .val (.ref b126), .val (.ref b154)]) at_123 rfl rfl rfl ?_
    refine own_aload (pc' := 127) B X153 at_125 rfl rfl rfl ?_
    refine own_arraylength (pc' := 128) B X153 V_b154 at_127 rfl ?_
    refine own_iconst (pc' := 129) B X153 (z := (5 : Int32)) at_128 rfl rfl ?_
    refine own_icmpYes (pc' := 134) B X153 at_129 (teq (by decide : (5 : Int32) = (5 : Int32))).1 (by decide) rfl ?_
    refine own_aload (pc' := 136) B X153 at_134 rfl rfl rfl ?_
    refine own_iconst (pc' := 137) B X153 (z := (0 : Int32)) at_136 rfl rfl ?_
    refine own_baload (pc' := 138) B X153 V_b154 (v := (.int y8)) ⟨by decide, by decide⟩ rfl at_137 rfl ?_
    refine own_aload (pc' := 140) B X153 at_138 rfl rfl rfl ?_
    refine own_iconst (pc' := 141) B X153 (z := (0 : Int32)) at_140 rfl rfl ?_
    refine own_baload (pc' := 142) B X153 V_b126 (v := (.int y128)) ⟨by decide, by decide⟩ rfl at_141 rfl ?_
    have c156 : y8 = y128 := by
      have o0 := own_o_iushr hy13 16 (by decide) (by decide)
      have o1 := own_o_iushr hy14 8 (by decide) (by decide)
      have o2 := own_o_i2b hy15
      have o3 := own_o_ishr hy127 24 (by decide)
      have o4 := own_o_i2b hy128
      have o5 := rng32 i0
      have o6 := rng32 y127
      have o7 := rng32 y128
      have o8 := rng32 y6
      have o9 := rng32 y7
      have o10 := rng32 y8
      have o11 : (16 : Int32).toInt = 16 := by decide
      have o12 : (8 : Int32).toInt = 8 := by decide
      have o13 : (24 : Int32).toInt = 24 := by decide
      refine own_eqI ?_
      omega
    refine own_icmpNo (pc' := 145) B X153 at_142 (teq c156).2 rfl ?_
    refine own_aload (pc' := 147) B X153 at_145 rfl rfl rfl ?_
    refine own_iconst (pc' := 148) B X153 (z := (1 : Int32)) at_147 rfl rfl ?_
    refine own_baload (pc' := 149) B X153 V_b154 (v := (.int y9)) ⟨by decide, by decide⟩ rfl at_148 rfl ?_
    refine own_aload (pc' := 151) B X153 at_149 rfl rfl rfl ?_
    refine own_iconst (pc' := 152) B X153 (z := (1 : Int32)) at_151 rfl rfl ?_
    refine own_baload (pc' := 153) B X153 V_b126 (v := (.int y131)) ⟨by decide, by decide⟩ rfl at_152 rfl ?_
    have c157 : y9 = y131 := by
      have o0 := own_o_iushr hy13 16 (by decide) (by decide)
      have o1 := own_o_iushr hy14 8 (by decide) (by decide)
      have o2 := own_o_i2b hy15
      have o3 := own_o_i2b hy16
      have o4 := own_o_ishr hy127 24 (by decide)
      have o5 := own_o_i2b hy128
      have o6 := own_o_ishr hy130 16 (by decide)
      have o7 := own_o_i2b hy131
      have o8 := own_eq c156
      have o9 := rng32 i0
      have o10 := rng32 y127
      have o11 := rng32 y128
      have o12 := rng32 y130
      have o13 := rng32 y131
      have o14 := rng32 y6
      have o15 := rng32 y7
      have o16 := rng32 y8
      have o17 := rng32 y9
      have o18 : (16 : Int32).toInt = 16 := by decide
      have o19 : (8 : Int32).toInt = 8 := by decide
      have o20 : (24 : Int32).toInt = 24 := by decide
      refine own_eqI ?_
      omega
    refine own_icmpNo (pc' := 156) B X153 at_153 (teq c157).2 rfl ?_
    refine own_aload (pc' := 158) B X153 at_156 rfl rfl rfl ?_
    refine own_iconst (pc' := 159) B X153 (z := (2 : Int32)) at_158 rfl rfl ?_
    refine own_baload (pc' := 160) B X153 V_b154 (v := (.int y11)) ⟨by decide, by decide⟩ rfl at_159 rfl ?_
    refine own_aload (pc' := 162) B X153 at_160 rfl rfl rfl ?_
    refine own_iconst (pc' := 163) B X153 (z := (2 : Int32)) at_162 rfl rfl ?_
    refine own_baload (pc' := 164) B X153 V_b126 (v := (.int y134)) ⟨by decide, by decide⟩ rfl at_163 rfl ?_
    have c158 : y11 = y134 := by
      have o0 := own_o_iushr hy13 16 (by decide) (by decide)
      have o1 := own_o_iushr hy14 8 (by decide) (by decide)
      have o2 := own_o_i2b hy15
      have o3 := own_o_i2b hy16
      have o4 := own_o_iushr hy17 8 (by decide) (by decide)
      have o5 := own_o_i2b hy18
      have o6 := own_o_ishr hy127 24 (by decide)
      have o7 := own_o_i2b hy128
      have o8 := own_o_ishr hy130 16 (by decide)
      have o9 := own_o_i2b hy131
      have o10 := own_o_ishr hy133 8 (by decide)
      have o11 := own_o_i2b hy134
      have o12 := own_eq c156
      have o13 := own_eq c157
      have o14 := rng32 i0
      have o15 := rng32 y10
      have o16 := rng32 y11
      have o17 := rng32 y127
      have o18 := rng32 y128
      have o19 := rng32 y130
      have o20 := rng32 y131
      have o21 := rng32 y133
      have o22 := rng32 y134
      have o23 := rng32 y6
      have o24 := rng32 y7
      have o25 := rng32 y8
      have o26 := rng32 y9
      have o27 : (16 : Int32).toInt = 16 := by decide
      have o28 : (8 : Int32).toInt = 8 := by decide
      have o29 : (24 : Int32).toInt = 24 := by decide
      refine own_eqI ?_
      omega
    refine own_icmpNo (pc' := 167) B X153 at_164 (teq c158).2 rfl ?_
    refine own_aload (pc' := 169) B X153 at_167 rfl rfl rfl ?_
    refine own_iconst (pc' := 170) B X153 (z := (3 : Int32)) at_169 rfl rfl ?_
    refine own_baload (pc' := 171) B X153 V_b154 (v := (.int y147)) ⟨by decide, by decide⟩ rfl at_170 rfl ?_
    refine own_aload (pc' := 173) B X153 at_171 rfl rfl rfl ?_
    refine own_iconst (pc' := 174) B X153 (z := (3 : Int32)) at_173 rfl rfl ?_
    refine own_baload (pc' := 175) B X153 V_b126 (v := (.int y140)) ⟨by decide, by decide⟩ rfl at_174 rfl ?_
    have c159 : y147 = y140 := by
      have o0 := own_o_and65280 hy138
      have o1 := own_o_ishr hy139 8 (by decide)
      have o2 := own_o_i2b hy140
      have o3 := own_o_iushr hy149 8 (by decide) (by decide)
      have o4 := own_o_i2b hy150
      have o5 := rng32 i3
      have o6 := rng32 y138
      have o7 := rng32 y139
      have o8 := rng32 y140
      have o9 := rng32 y146
      have o10 := rng32 y147
      have o11 : (65280 : Int32).toInt = 65280 := by decide
      have o12 : (8 : Int32).toInt = 8 := by decide
      refine own_eqI ?_
      omega
    refine own_icmpNo (pc' := 178) B X153 at_175 (teq c159).2 rfl ?_
    refine own_aload (pc' := 180) B X153 at_178 rfl rfl rfl ?_
    refine own_iconst (pc' := 181) B X153 (z := (4 : Int32)) at_180 rfl rfl ?_
    refine own_baload (pc' := 182) B X153 V_b154 (v := (.int y148)) ⟨by decide, by decide⟩ rfl at_181 rfl ?_
    refine own_aload (pc' := 184) B X153 at_182 rfl rfl rfl ?_
    refine own_iconst (pc' := 185) B X153 (z := (4 : Int32)) at_184 rfl rfl ?_
    refine own_baload (pc' := 186) B X153 V_b126 (v := (.int y143)) ⟨by decide, by decide⟩ rfl at_185 rfl ?_
    have c160 : y148 = y143 := by
      have o0 := own_o_and65280 hy138
      have o1 := own_o_ishr hy139 8 (by decide)
      have o2 := own_o_i2b hy140
      have o3 := own_o_mask hy142 8 (by decide) (by decide)
      have o4 := own_o_i2b hy143
      have o5 := own_o_iushr hy149 8 (by decide) (by decide)
      have o6 := own_o_i2b hy150
      have o7 := own_o_i2b hy151
      have o8 := own_eq c159
      have o9 := rng32 i3
      have o10 := rng32 y138
      have o11 := rng32 y139
      have o12 := rng32 y140
      have o13 := rng32 y142
      have o14 := rng32 y143
      have o15 := rng32 y146
      have o16 := rng32 y147
      have o17 := rng32 y148
      have o18 : (65280 : Int32).toInt = 65280 := by decide
      have o19 : (8 : Int32).toInt = 8 := by decide
      have o20 : (255 : Int32).toInt = 255 := by decide
      refine own_eqI ?_
      omega
    refine own_icmpNo (pc' := 189) B X153 at_186 (teq c160).2 rfl ?_
    refine own_iconst (pc' := 190) B X153 (z := (1 : Int32)) at_189 rfl rfl ?_
    refine own_goto (pc' := 194) B X153 at_190 (by decide) rfl ?_
    exact own_retN B X153 (t := .boolean) (z' := (1 : Int32)) (by simp) (by decide) at_194 (by decide) (by decide) rfl
set_option maxRecDepth 65536 in
set_option maxHeartbeats 40000000 in
theorem comes_1 {Post : Tables → Env → Array Value → State → Outcome → State → Prop} (hpost : ∀ tb e args s v u, (limb_1_1.after args s (.returned v) u = true ∧ limb_1_2.after args s (.returned v) u = true ∧ True) → FrameEnd s (.returned v) u (Jvm.fieldLocs frame_1_writes args s ++ Jvm.arrayLocs frame_1_arrays args s ++ Jvm.staticLocs frame_1_statics s) 16 256 → Post tb e args s (.returned v) u) :
    ArmFor flags0 classFile x code maxLocals ret World_1 tables_1 room_1 Calls_1 rest_1 Pre_1 Post := by
  intro l hfl _ _ p e ha hc hk s m args below hf hA hF happ hP
  obtain ⟨hcalls, hrest, hpre⟩ := hP
  obtain ⟨-, -, -, hnamed, -, -, -, hat⟩ := (Spec.applies_iff hf).mp happ
  obtain ⟨hg, hn⟩ := and_e (Cond.before_iff.mp (show (Jvm.Cond.and given_1 narrow_1).before args s = true from hpre))
  obtain ⟨g1, g2⟩ := and_e hg
  obtain ⟨g3, g4⟩ := and_e g2
  obtain ⟨g5, g6⟩ := and_e g4
  obtain ⟨g7, g8⟩ := and_e g6
  obtain ⟨w0, w1, w2, w3, rfl⟩ : ∃ w0 w1 w2 w3 : Value, args = #[w0, w1, w2, w3] := by
    have hs : args.size = 4 := by simpa [Cond.value, given_1] using g1
    obtain ⟨L⟩ := args
    match L, hs with
    | [w0, w1, w2, w3], _ => exact ⟨w0, w1, w2, w3, rfl⟩
  have hw := fun d (hd : d ∈ tables_1) => atoms_spec (ws := Jvm.Cond.code x code maxLocals ret :: tables_1) hat d (List.mem_cons_of_mem _ hd)
  obtain ⟨i0, ei0⟩ := is_v g3
  obtain rfl : w0 = (.int i0) := Option.some.inj ei0
  obtain ⟨i1, ei1⟩ := is_v g5
  obtain rfl : w1 = (.int i1) := Option.some.inj ei1
  obtain ⟨i2, ei2⟩ := is_v g7
  obtain rfl : w2 = (.int i2) := Option.some.inj ei2
  obtain ⟨i3, ei3⟩ := is_v g8
  obtain rfl : w3 = (.int i3) := Option.some.inj ei3
  obtain ⟨n, o, h1, h2, h3, _, L, rfl, ⟨N, rfl⟩, hq⟩ := rm_0 l s _ hw tables_1 i0 i1 i2 i3 s.heap s.heap.size (Nat.le_refl _)  p e ha hc hk s m _ below hf ((Spec.applies_iff_loose hf).mp happ).1 ⟨rfl, State.Warmed39.refl s, rfl⟩ trivial
  refine ⟨n, _, h1, h2, h3, hpost _ _ _ _ _ _ ⟨Cond.after_iff.mpr rfl, Cond.after_iff.mpr (eq_i res_at (Term.int_eval (1)) rfl), trivial⟩ ⟨hq.1, hq.2.1, (hq.2.2.sift fun y hy => Or.inr (N y hy)).mono (by decide) (by decide)⟩⟩
theorem main_1_1 : Claimed_1_1 := comes_1 fun _ _ _ _ _ _ h hF => ⟨h.1, hF⟩
theorem main_1_2 : Claimed_1_2 := comes_1 fun _ _ _ _ _ _ h hF => ⟨h.2.1, hF⟩
end Jvm.Pilot.@@N@@
namespace Jvm.Pilot.@@N@@
open Jvm Jvm.ClassFile Sem Op Lib Jvm.Free Jvm.Stand Jvm.Pilot.@@N@@.Jvm.D
/-! MADE BY PROGRAM (witnessworld.py) out of the Statement's table words and the real class files: 12 classes; the members and pool entries that the words name. The judged class is class 1, her method 1. -/
namespace start1
open Jvm.ClassFile
def u (s : String) : CpInfo := .utf8 (stringToUtf16 s)
/-- a pool by its gaps: so many unusable entries, then the entry; so many at the end -/
def gap : Nat → List CpInfo → List CpInfo
  | 0, r => r
  | n + 1, r => .unusable :: gap n r
def poolList (es : List (Nat × CpInfo)) (last : Nat) : List CpInfo := es.foldr (fun e r => gap e.1 (e.2 :: r)) (gap last [])
def pool (es : List (Nat × CpInfo)) (last : Nat) : Array CpInfo := ⟨poolList es last⟩
def fileOf (pool : Array CpInfo) (this : Nat) (attrs : Array Attribute := #[]) (ms : Array MethodInfo := #[]) (fl : Nat := 33) (sup : Nat := 0) (ifs : Array Nat := #[]) (fds : Array FieldInfo := #[]) : ClassFile where
  minorVersion := 0
  majorVersion := 65
  constantPool := pool
  accessFlags := fl
  thisClass := this
  superClass := sup
  interfaces := ifs
  fields := fds
  methods := ms
  attributes := attrs
def plain (name : String) (sup : Option ClassId) : Class where
  name := name
  kind := .ordinary
  loader := none
  accessFlags := 33
  super := sup
  interfaces := #[]
  cf := none
  fields := #[]
  methods := #[]
  instanceTypes := #[]
  staticTypes := #[]
  resolved := #[]
  callSites := []
  init := .initialized
  statics := none
  mirror := none

def pool0 : Array CpInfo := pool [(5, u "<init>"), (0, u "()V"), (1, .class_ 10), (1, u "java/lang/Object")] 113

def k0c0 : Code := { maxStack := 0, maxLocals := 1, code := object_method_1_code, exceptionTable := #[], attributes := #[] }
def k0m0 : Method := { name := "<init>", desc := "()V", sig := { parameters := [], returnType := none }, accessFlags := 1, code := some k0c0 }
/-- java/lang/Object -/
def k0 : Class := { plain "java/lang/Object" none with
  accessFlags := 33
  interfaces := #[]
  cf := some (fileOf pool0 8 #[] #[{ accessFlags := 1, nameIndex := 5, descriptorIndex := 6, attributes := #[] }] 33 0 #[] #[])
  fields := #[]
  methods := #[k0m0]
  instanceTypes := #[]
  staticTypes := #[]
  resolved := Array.replicate 124 none
  statics := none }

def pool1 : Array CpInfo := pool [(2, .class_ 4), (0, .nameAndType 5 6), (0, u "java/lang/Object"), (0, u "<init>"), (0, u "()V"), (0, .class_ 8), (0, u "demitasse/interp/Bytes"), (0, .methodref 7 3), (0, .methodref 7 11), (0, .nameAndType 12 13), (0, u "u4"), (0, u "(I)V"), (0, .methodref 7 15), (0, .nameAndType 16 13), (0, u "u1"), (0, .integer 2147483647), (0, .integer 65280), (0, .methodref 7 20), (0, .nameAndType 21 22), (0, u "u2At"), (0, u "(II)V"), (0, .methodref 7 24), (0, .nameAndType 25 26), (0, u "length"), (0, u "()I"), (0, .methodref 7 28), (0, .nameAndType 29 30), (0, u "toArray"), (0, u "()[B"), (0, .class_ 32), (0, u "demitasse/interp/BytesU2AtPinLaw"), (2, u "law"), (0, u "(IIII)Z")] 5

def k1m0 : Method := { name := "<init>", desc := "()V", sig := { parameters := [], returnType := none }, accessFlags := 1, code := none }
def k1c1 : Code := { maxStack := 4, maxLocals := 8, code := code, exceptionTable := #[], attributes := #[] }
def k1m1 : Method := { name := "law", desc := "(IIII)Z", sig := { parameters := [.int, .int, .int, .int], returnType := some .boolean }, accessFlags := 9, code := some k1c1 }
/-- demitasse/interp/BytesU2AtPinLaw -/
def k1 : Class := { plain "demitasse/interp/BytesU2AtPinLaw" (some 0) with
  accessFlags := 49
  interfaces := #[]
  cf := some (fileOf pool1 31 #[] #[{ accessFlags := 1, nameIndex := 5, descriptorIndex := 6, attributes := #[] }, { accessFlags := 9, nameIndex := 35, descriptorIndex := 36, attributes := #[] }] 49 2 #[] #[])
  fields := #[]
  methods := #[k1m0, k1m1]
  instanceTypes := #[]
  staticTypes := #[]
  resolved := Array.replicate 42 none
  statics := none }

def pool2 : Array CpInfo := pool [(1, .methodref 2 3), (0, .class_ 4), (0, .nameAndType 5 6), (0, u "java/lang/Object"), (0, u "<init>"), (0, u "()V"), (0, .fieldref 8 9), (0, .class_ 10), (0, .nameAndType 11 12), (0, u "demitasse/interp/Bytes"), (0, u "bytes"), (0, u "[B"), (0, .fieldref 8 14), (0, .nameAndType 15 16), (0, u "length"), (0, u "I"), (0, .methodref 8 18), (0, .nameAndType 19 20), (0, u "makeRoom"), (0, u "(I)V"), (0, .methodref 8 22), (0, .nameAndType 23 20), (0, u "u1"), (0, .methodref 8 25), (0, .nameAndType 26 20), (0, u "u2"), (2, u "u2At"), (0, u "(II)V"), (12, .methodref 44 45), (0, .class_ 46), (0, .nameAndType 47 48), (0, u "java/util/Arrays"), (0, u "copyOf"), (0, u "([BI)[B"), (2, u "()I"), (0, u "u4"), (5, u "toArray"), (0, u "()[B")] 2

def k2c0 : Code := { maxStack := 2, maxLocals := 1, code := prog_64_method_1_code, exceptionTable := #[], attributes := #[] }
def k2m0 : Method := { name := "<init>", desc := "()V", sig := { parameters := [], returnType := none }, accessFlags := 0, code := some k2c0 }
def k2c1 : Code := { maxStack := 1, maxLocals := 1, code := prog_64_method_2_code, exceptionTable := #[], attributes := #[] }
def k2m1 : Method := { name := "length", desc := "()I", sig := { parameters := [], returnType := some .int }, accessFlags := 0, code := some k2c1 }
def k2c2 : Code := { maxStack := 5, maxLocals := 2, code := prog_64_method_3_code, exceptionTable := #[], attributes := #[] }
def k2m2 : Method := { name := "u1", desc := "(I)V", sig := { parameters := [.int], returnType := none }, accessFlags := 0, code := some k2c2 }
def k2c3 : Code := { maxStack := 3, maxLocals := 2, code := prog_64_method_4_code, exceptionTable := #[], attributes := #[] }
def k2m3 : Method := { name := "u2", desc := "(I)V", sig := { parameters := [.int], returnType := none }, accessFlags := 0, code := some k2c3 }
def k2c4 : Code := { maxStack := 3, maxLocals := 2, code := prog_64_method_5_code, exceptionTable := #[], attributes := #[] }
def k2m4 : Method := { name := "u4", desc := "(I)V", sig := { parameters := [.int], returnType := none }, accessFlags := 0, code := some k2c4 }
def k2c5 : Code := { maxStack := 4, maxLocals := 3, code := prog_64_method_6_code, exceptionTable := #[], attributes := #[] }
def k2m5 : Method := { name := "u2At", desc := "(II)V", sig := { parameters := [.int, .int], returnType := none }, accessFlags := 0, code := some k2c5 }
def k2c6 : Code := { maxStack := 5, maxLocals := 2, code := prog_64_method_10_code, exceptionTable := #[], attributes := #[] }
def k2m6 : Method := { name := "makeRoom", desc := "(I)V", sig := { parameters := [.int], returnType := none }, accessFlags := 2, code := some k2c6 }
def k2c7 : Code := { maxStack := 2, maxLocals := 1, code := prog_64_method_11_code, exceptionTable := #[], attributes := #[] }
def k2m7 : Method := { name := "toArray", desc := "()[B", sig := { parameters := [], returnType := some (.array .byte) }, accessFlags := 0, code := some k2c7 }
/-- demitasse/interp/Bytes -/
def k2 : Class := { plain "demitasse/interp/Bytes" (some 0) with
  accessFlags := 48
  interfaces := #[]
  cf := some (fileOf pool2 8 #[] #[{ accessFlags := 0, nameIndex := 5, descriptorIndex := 6, attributes := #[] }, { accessFlags := 0, nameIndex := 15, descriptorIndex := 51, attributes := #[] }, { accessFlags := 0, nameIndex := 23, descriptorIndex := 20, attributes := #[] }, { accessFlags := 0, nameIndex := 26, descriptorIndex := 20, attributes := #[] }, { accessFlags := 0, nameIndex := 52, descriptorIndex := 20, attributes := #[] }, { accessFlags := 0, nameIndex := 29, descriptorIndex := 30, attributes := #[] }, { accessFlags := 2, nameIndex := 19, descriptorIndex := 20, attributes := #[] }, { accessFlags := 0, nameIndex := 58, descriptorIndex := 59, attributes := #[] }] 48 2 #[] #[{ accessFlags := 2, nameIndex := 11, descriptorIndex := 12, attributes := #[] }, { accessFlags := 2, nameIndex := 15, descriptorIndex := 16, attributes := #[] }])
  fields := #[{ name := "bytes", type := (.array .byte), accessFlags := 2, slot := 0, constantValue := 0 }, { name := "length", type := .int, accessFlags := 2, slot := 1, constantValue := 0 }]
  methods := #[k2m0, k2m1, k2m2, k2m3, k2m4, k2m5, k2m6, k2m7]
  instanceTypes := #[(.array .byte), .int]
  staticTypes := #[]
  resolved := Array.replicate 62 none
  statics := none }

def pool3 : Array CpInfo := pool [(2, .class_ 4), (1, u "java/lang/Object"), (0, u "<init>"), (0, u "()V"), (7, .class_ 16), (1, u "java/util/Arrays"), (57, .class_ 76), (1, u "java/util/Arrays$NaturalOrder"), (36, .class_ 115), (1, u "java/util/Arrays$LegacyMergeSort"), (1, u "Z"), (32, .methodref 151 152), (0, .class_ 153), (0, .nameAndType 154 155), (0, u "java/lang/System"), (0, u "arraycopy"), (0, u "(Ljava/lang/Object;ILjava/lang/Object;II)V"), (146, u "copyOf"), (1, .methodref 305 306), (0, .class_ 307), (0, .nameAndType 308 309), (0, u "java/lang/Math"), (0, u "min"), (0, u "(II)I"), (65, .class_ 376), (0, u "java/util/Arrays$ArrayList"), (68, u "$assertionsDisabled"), (269, u "MIN_ARRAY_SORT_GRAN"), (0, u "I"), (2, u "INSERTIONSORT_THRESHOLD"), (149, u "([BI)[B"), (105, .class_ 976), (0, u "java/util/Arrays$ArrayItr")] 52

def k3m0 : Method := { name := "<init>", desc := "()V", sig := { parameters := [], returnType := none }, accessFlags := 2, code := none }
def k3c1 : Code := { maxStack := 6, maxLocals := 3, code := jdk_65_method_121_code, exceptionTable := #[], attributes := #[] }
def k3m1 : Method := { name := "copyOf", desc := "([BI)[B", sig := { parameters := [(.array .byte), .int], returnType := some (.array .byte) }, accessFlags := 9, code := some k3c1 }
/-- java/util/Arrays -/
def k3 : Class := { plain "java/util/Arrays" (some 0) with
  accessFlags := 49
  interfaces := #[]
  cf := some (fileOf pool3 14 #[.nestMembers #[975, 375, 113, 74]] #[{ accessFlags := 2, nameIndex := 5, descriptorIndex := 6, attributes := #[] }, { accessFlags := 9, nameIndex := 302, descriptorIndex := 869, attributes := #[] }] 49 2 #[] #[{ accessFlags := 26, nameIndex := 715, descriptorIndex := 716, attributes := #[] }, { accessFlags := 26, nameIndex := 719, descriptorIndex := 716, attributes := #[] }, { accessFlags := 4120, nameIndex := 445, descriptorIndex := 117, attributes := #[] }])
  fields := #[{ name := "MIN_ARRAY_SORT_GRAN", type := .int, accessFlags := 26, slot := 0, constantValue := 0 }, { name := "INSERTIONSORT_THRESHOLD", type := .int, accessFlags := 26, slot := 1, constantValue := 0 }, { name := "$assertionsDisabled", type := .boolean, accessFlags := 4120, slot := 2, constantValue := 0 }]
  methods := #[k3m0, k3m1]
  instanceTypes := #[]
  staticTypes := #[.int, .int, .boolean]
  resolved := Array.replicate 1029 none
  statics := none }

def pool4 : Array CpInfo := pool [(1, .class_ 2), (0, u "java/lang/Math"), (1, .class_ 6), (1, u "java/lang/Object"), (0, u "<init>"), (0, u "()V"), (89, .class_ 100), (1, u "java/lang/Math$RandomNumberGeneratorHolder"), (71, u "negativeZeroFloatBits"), (0, u "J"), (2, u "negativeZeroDoubleBits"), (24, u "min"), (43, u "$assertionsDisabled"), (0, u "Z"), (88, u "(II)I"), (2, u "twoToTheDoubleScaleDown"), (0, u "D"), (4, u "twoToTheDoubleScaleUp"), (9, u "E"), (3, u "PI"), (2, u "TAU"), (2, u "DEGREES_TO_RADIANS"), (0, u "RADIANS_TO_DEGREES")] 94

def k4m0 : Method := { name := "<init>", desc := "()V", sig := { parameters := [], returnType := none }, accessFlags := 2, code := none }
def k4c1 : Code := { maxStack := 2, maxLocals := 2, code := jdk_29_method_69_code, exceptionTable := #[], attributes := #[] }
def k4m1 : Method := { name := "min", desc := "(II)I", sig := { parameters := [.int, .int], returnType := some .int }, accessFlags := 9, code := some k4c1 }
/-- java/lang/Math -/
def k4 : Class := { plain "java/lang/Math" (some 0) with
  accessFlags := 49
  interfaces := #[]
  cf := some (fileOf pool4 1 #[.nestMembers #[98]] #[{ accessFlags := 2, nameIndex := 7, descriptorIndex := 8, attributes := #[] }, { accessFlags := 9, nameIndex := 201, descriptorIndex := 335, attributes := #[] }] 49 4 #[] #[{ accessFlags := 25, nameIndex := 354, descriptorIndex := 339, attributes := #[] }, { accessFlags := 25, nameIndex := 358, descriptorIndex := 339, attributes := #[] }, { accessFlags := 25, nameIndex := 361, descriptorIndex := 339, attributes := #[] }, { accessFlags := 26, nameIndex := 364, descriptorIndex := 339, attributes := #[] }, { accessFlags := 26, nameIndex := 365, descriptorIndex := 339, attributes := #[] }, { accessFlags := 26, nameIndex := 172, descriptorIndex := 173, attributes := #[] }, { accessFlags := 26, nameIndex := 176, descriptorIndex := 173, attributes := #[] }, { accessFlags := 8, nameIndex := 344, descriptorIndex := 339, attributes := #[] }, { accessFlags := 8, nameIndex := 338, descriptorIndex := 339, attributes := #[] }, { accessFlags := 4120, nameIndex := 245, descriptorIndex := 246, attributes := #[] }])
  fields := #[{ name := "E", type := .double, accessFlags := 25, slot := 0, constantValue := 0 }, { name := "PI", type := .double, accessFlags := 25, slot := 1, constantValue := 0 }, { name := "TAU", type := .double, accessFlags := 25, slot := 2, constantValue := 0 }, { name := "DEGREES_TO_RADIANS", type := .double, accessFlags := 26, slot := 3, constantValue := 0 }, { name := "RADIANS_TO_DEGREES", type := .double, accessFlags := 26, slot := 4, constantValue := 0 }, { name := "negativeZeroFloatBits", type := .long, accessFlags := 26, slot := 5, constantValue := 0 }, { name := "negativeZeroDoubleBits", type := .long, accessFlags := 26, slot := 6, constantValue := 0 }, { name := "twoToTheDoubleScaleUp", type := .double, accessFlags := 8, slot := 7, constantValue := 0 }, { name := "twoToTheDoubleScaleDown", type := .double, accessFlags := 8, slot := 8, constantValue := 0 }, { name := "$assertionsDisabled", type := .boolean, accessFlags := 4120, slot := 9, constantValue := 0 }]
  methods := #[k4m0, k4m1]
  instanceTypes := #[]
  staticTypes := #[.double, .double, .double, .double, .double, .long, .long, .double, .double, .boolean]
  resolved := Array.replicate 460 none
  statics := none }

def pool5 : Array CpInfo := pool [(2, .class_ 4), (1, u "java/lang/Object"), (0, u "<init>"), (0, u "()V"), (1, .class_ 10), (1, u "java/lang/System"), (0, u "allowSecurityManager"), (0, u "I"), (16, u "cons"), (0, u "Ljava/io/Console;"), (77, .class_ 110), (1, u "java/lang/System$CallersHolder"), (43, u "initialErrStream"), (0, u "Ljava/io/PrintStream;"), (19, u "security"), (0, u "Ljava/lang/SecurityManager;"), (31, .class_ 209), (0, u "java/lang/System$1"), (7, u "props"), (0, u "Ljava/util/Properties;"), (2, u "lineSeparator"), (0, u "Ljava/lang/String;"), (96, .class_ 321), (1, u "java/lang/System$LoggerFinder"), (5, .class_ 328), (0, u "java/lang/System$Logger"), (67, u "err"), (2, u "out"), (91, u "notSupportedJnuEncoding"), (15, u "in"), (17, u "initialIn"), (0, u "Ljava/io/InputStream;"), (35, u "bootLayer"), (0, u "Ljava/lang/ModuleLayer;"), (99, .class_ 664), (0, u "java/lang/System$2"), (9, u "NEVER"), (2, u "MAYBE"), (49, u "arraycopy"), (0, u "(Ljava/lang/Object;ILjava/lang/Object;II)V"), (72, .class_ 802), (0, u "java/lang/System$Logger$Level")] 31

def k5m0 : Method := { name := "<init>", desc := "()V", sig := { parameters := [], returnType := none }, accessFlags := 2, code := none }
def k5m1 : Method := { name := "arraycopy", desc := "(Ljava/lang/Object;ILjava/lang/Object;II)V", sig := { parameters := [(.object "java/lang/Object"), .int, (.object "java/lang/Object"), .int, .int], returnType := none }, accessFlags := 265, code := none }
/-- java/lang/System -/
def k5 : Class := { plain "java/lang/System" (some 0) with
  accessFlags := 49
  interfaces := #[]
  cf := some (fileOf pool5 8 #[.nestMembers #[319, 327, 801, 108, 663, 208]] #[{ accessFlags := 2, nameIndex := 5, descriptorIndex := 6, attributes := #[] }, { accessFlags := 265, nameIndex := 727, descriptorIndex := 728, attributes := #[] }] 49 2 #[] #[{ accessFlags := 25, nameIndex := 507, descriptorIndex := 526, attributes := #[] }, { accessFlags := 25, nameIndex := 399, descriptorIndex := 155, attributes := #[] }, { accessFlags := 25, nameIndex := 396, descriptorIndex := 155, attributes := #[] }, { accessFlags := 10, nameIndex := 525, descriptorIndex := 526, attributes := #[] }, { accessFlags := 26, nameIndex := 674, descriptorIndex := 12, attributes := #[] }, { accessFlags := 26, nameIndex := 677, descriptorIndex := 12, attributes := #[] }, { accessFlags := 10, nameIndex := 11, descriptorIndex := 12, attributes := #[] }, { accessFlags := 74, nameIndex := 175, descriptorIndex := 176, attributes := #[] }, { accessFlags := 10, nameIndex := 491, descriptorIndex := 222, attributes := #[] }, { accessFlags := 74, nameIndex := 29, descriptorIndex := 30, attributes := #[] }, { accessFlags := 74, nameIndex := 154, descriptorIndex := 155, attributes := #[] }, { accessFlags := 10, nameIndex := 217, descriptorIndex := 218, attributes := #[] }, { accessFlags := 10, nameIndex := 221, descriptorIndex := 222, attributes := #[] }, { accessFlags := 8, nameIndex := 562, descriptorIndex := 563, attributes := #[] }])
  fields := #[{ name := "in", type := (.object "java/io/InputStream"), accessFlags := 25, slot := 0, constantValue := 0 }, { name := "out", type := (.object "java/io/PrintStream"), accessFlags := 25, slot := 1, constantValue := 0 }, { name := "err", type := (.object "java/io/PrintStream"), accessFlags := 25, slot := 2, constantValue := 0 }, { name := "initialIn", type := (.object "java/io/InputStream"), accessFlags := 10, slot := 3, constantValue := 0 }, { name := "NEVER", type := .int, accessFlags := 26, slot := 4, constantValue := 0 }, { name := "MAYBE", type := .int, accessFlags := 26, slot := 5, constantValue := 0 }, { name := "allowSecurityManager", type := .int, accessFlags := 10, slot := 6, constantValue := 0 }, { name := "security", type := (.object "java/lang/SecurityManager"), accessFlags := 74, slot := 7, constantValue := 0 }, { name := "notSupportedJnuEncoding", type := (.object "java/lang/String"), accessFlags := 10, slot := 8, constantValue := 0 }, { name := "cons", type := (.object "java/io/Console"), accessFlags := 74, slot := 9, constantValue := 0 }, { name := "initialErrStream", type := (.object "java/io/PrintStream"), accessFlags := 74, slot := 10, constantValue := 0 }, { name := "props", type := (.object "java/util/Properties"), accessFlags := 10, slot := 11, constantValue := 0 }, { name := "lineSeparator", type := (.object "java/lang/String"), accessFlags := 10, slot := 12, constantValue := 0 }, { name := "bootLayer", type := (.object "java/lang/ModuleLayer"), accessFlags := 8, slot := 13, constantValue := 0 }]
  methods := #[k5m0, k5m1]
  instanceTypes := #[]
  staticTypes := #[(.object "java/io/InputStream"), (.object "java/io/PrintStream"), (.object "java/io/PrintStream"), (.object "java/io/InputStream"), .int, .int, .int, (.object "java/lang/SecurityManager"), (.object "java/lang/String"), (.object "java/io/Console"), (.object "java/io/PrintStream"), (.object "java/util/Properties"), (.object "java/lang/String"), (.object "java/lang/ModuleLayer")]
  resolved := Array.replicate 834 none
  statics := none }

def pool6 : Array CpInfo := pool [(1, u "java/lang/Cloneable"), (0, .class_ 1), (0, u "java/lang/Object"), (0, .class_ 3)] 3

/-- java/lang/Cloneable -/
def k6 : Class := { plain "java/lang/Cloneable" (some 0) with
  accessFlags := 1537
  interfaces := #[]
  cf := some (fileOf pool6 2 #[] #[] 1537 4 #[] #[])
  fields := #[]
  methods := #[]
  instanceTypes := #[]
  staticTypes := #[]
  resolved := Array.replicate 8 none
  statics := none }

def pool7 : Array CpInfo := pool [(1, u "java/io/Serializable"), (0, .class_ 1), (0, u "java/lang/Object"), (0, .class_ 3)] 3

/-- java/io/Serializable -/
def k7 : Class := { plain "java/io/Serializable" (some 0) with
  accessFlags := 1537
  interfaces := #[]
  cf := some (fileOf pool7 2 #[] #[] 1537 4 #[] #[])
  fields := #[]
  methods := #[]
  instanceTypes := #[]
  staticTypes := #[]
  resolved := Array.replicate 8 none
  statics := none }

/-- the primitive byte -/
def k8 : Class := { plain "byte" none with kind := .primitive 'B', accessFlags := 0x411 }
/-- [B -/
def k9 : Class := { plain "[B" (some 0) with kind := .array 8 .byte, interfaces := #[6, 7], accessFlags := 1041 }

/-- the primitive int -/
def k10 : Class := { plain "int" none with kind := .primitive 'I', accessFlags := 0x411 }
/-- [I -/
def k11 : Class := { plain "[I" (some 0) with kind := .array 10 .int, interfaces := #[6, 7], accessFlags := 1041 }

def heap : Heap := #[]
def classes : Array Class := #[k0, k1, k2, k3, k4, k5, k6, k7, k8, k9, k10, k11]
def interned : List (Array UInt16 × Addr) := []
def slotsUsed : Nat := 0
def theMethod : MethodId := ⟨1, 1⟩
def args0 : Array Value := #[.int 1, .int 2, .int 3, .int 4]
def aboutOver (below : List Frame) : State where
  vm := { classes := classes, interned := interned.toArray }
  heap := heap
  slotsUsed := slotsUsed
  threads := #[{ frames := .invoking theMethod args0 :: below }]
def below0 : List Frame := [.native { method := ⟨0, 0⟩, args := #[] }]
def about1 : State := aboutOver below0
def p0 : Program := .bare "" "" ""
def e0 : Env := launch0.env 0 0 0
theorem w_frames : about1.frames = Frame.invoking theMethod args0 :: below0 := rfl
set_option maxRecDepth 65536 in
theorem w_args : argsFit about1.vm theMethod args0 = true := by decide +kernel
set_option maxRecDepth 65536 in
theorem w_heap : heapFits about1 = true := by decide +kernel
set_option maxRecDepth 65536 in
theorem w_runnable : about1.curStatus? = some .runnable := by decide +kernel
set_option maxRecDepth 65536 in
theorem w_alone : about1.alone = true := by decide +kernel
set_option maxRecDepth 65536 in
theorem w_named : about1.methodNamed? x = some theMethod := by decide +kernel
set_option maxRecDepth 65536 in
theorem w_hears : about1.hears theMethod below0 = true := by decide +kernel
set_option maxRecDepth 65536 in
theorem w_ripe : about1.ripe theMethod args0 below0 = true := by decide +kernel
theorem w_running : about1.status = .running := rfl
set_option maxRecDepth 65536 in
theorem w_room : about1.hasRoom e0.platform room_1 = true :=
  launch0.hasRoom_least _ room_1 (by decide +kernel) (by decide +kernel) (by decide +kernel) (by decide +kernel) (by decide +kernel) (by decide +kernel)
theorem allAtoms_all (ts : List Jvm.Cond) (a : Array Jvm.Value) (st : Jvm.State) : (allAtoms ts).before a st = ts.all (fun c => c.before a st) := by
  induction ts with
  | nil => rfl
  | cons c t ih =>
    show (Jvm.Cond.and c (allAtoms t)).before a st = _
    rw [Jvm.Cond.before_and, ih, List.all_cons]
def words1 : List Jvm.Cond := Jvm.Cond.code x code maxLocals ret :: tables_1
/-- a 'code' word, met by the world's own term for the bytes: nothing is compared byte by byte -/
theorem code_word {y : MethodName} {bytes : ByteArray} {mx : Nat} {rt : Option FieldType} {a : Array Value} {s : State} {m : MethodId} {meth : Method} {c : Code} (h1 : s.methodNamed? y = some m) (h2 : s.vm.method? m = some meth) (h3 : meth.code = some c) (h4 : c.code = bytes)
    (h5 : (c.maxLocals == mx && c.exceptionTable.isEmpty && decide (c.maxStack ≤ mostOperands) && decide (meth.sig.returnType = rt) && !meth.locks && decide (parseMethodDescriptor y.desc = some meth.sig)) = true) : (Jvm.Cond.code y bytes mx rt).before a s = true := by
  simp only [Bool.and_eq_true, beq_iff_eq, Bool.not_eq_true', decide_eq_true_eq] at h5
  obtain ⟨⟨⟨⟨⟨g1, g2⟩, g3⟩, g4⟩, g5⟩, g6⟩ := h5
  simp [Cond.before, Cond.holds, Cond.value, h1, h2, h3, h4, g1, g2, g3, g4, g5, g6]
def isCode : Jvm.Cond → Bool
  | .code _ _ _ _ => true
  | _ => false
theorem all_split {L : List Jvm.Cond} {P : Jvm.Cond → Bool} (h1 : L.all (fun c => isCode c || P c) = true) (h2 : ∀ c ∈ L.filter isCode, P c = true) : L.all P = true := by
  refine List.all_eq_true.mpr fun c hc => ?_
  have h := List.all_eq_true.mp h1 c hc
  rcases Bool.eq_false_or_eq_true (isCode c) with hi | hi
  · exact h2 c (List.mem_filter.mpr ⟨hc, hi⟩)
  · simpa [hi] using h
set_option maxRecDepth 65536 in
theorem w_c0 : (Jvm.Cond.code x code maxLocals ret).before args0 about1 = true := code_word (m := ⟨1, 1⟩) (meth := k1m1) (c := k1c1) (by decide +kernel) rfl rfl rfl (by decide +kernel)
set_option maxRecDepth 65536 in
theorem w_c1 : (Jvm.Cond.code ({ cls := "demitasse/interp/Bytes", name := "<init>", desc := "()V" } : Jvm.MethodName) prog_64_method_1_code (1 : Nat) (Option.none : Option Jvm.ClassFile.FieldType)).before args0 about1 = true := code_word (m := ⟨2, 0⟩) (meth := k2m0) (c := k2c0) (by decide +kernel) rfl rfl rfl (by decide +kernel)
set_option maxRecDepth 65536 in
theorem w_c2 : (Jvm.Cond.code ({ cls := "java/lang/Object", name := "<init>", desc := "()V" } : Jvm.MethodName) object_method_1_code (1 : Nat) (Option.none : Option Jvm.ClassFile.FieldType)).before args0 about1 = true := code_word (m := ⟨0, 0⟩) (meth := k0m0) (c := k0c0) (by decide +kernel) rfl rfl rfl (by decide +kernel)
set_option maxRecDepth 65536 in
theorem w_c3 : (Jvm.Cond.code ({ cls := "demitasse/interp/Bytes", name := "u4", desc := "(I)V" } : Jvm.MethodName) prog_64_method_5_code (2 : Nat) (Option.none : Option Jvm.ClassFile.FieldType)).before args0 about1 = true := code_word (m := ⟨2, 4⟩) (meth := k2m4) (c := k2c4) (by decide +kernel) rfl rfl rfl (by decide +kernel)
set_option maxRecDepth 65536 in
theorem w_c4 : (Jvm.Cond.code ({ cls := "demitasse/interp/Bytes", name := "u2", desc := "(I)V" } : Jvm.MethodName) prog_64_method_4_code (2 : Nat) (Option.none : Option Jvm.ClassFile.FieldType)).before args0 about1 = true := code_word (m := ⟨2, 3⟩) (meth := k2m3) (c := k2c3) (by decide +kernel) rfl rfl rfl (by decide +kernel)
set_option maxRecDepth 65536 in
theorem w_c5 : (Jvm.Cond.code ({ cls := "demitasse/interp/Bytes", name := "u1", desc := "(I)V" } : Jvm.MethodName) prog_64_method_3_code (2 : Nat) (Option.none : Option Jvm.ClassFile.FieldType)).before args0 about1 = true := code_word (m := ⟨2, 2⟩) (meth := k2m2) (c := k2c2) (by decide +kernel) rfl rfl rfl (by decide +kernel)
set_option maxRecDepth 65536 in
theorem w_c6 : (Jvm.Cond.code ({ cls := "demitasse/interp/Bytes", name := "makeRoom", desc := "(I)V" } : Jvm.MethodName) prog_64_method_10_code (2 : Nat) (Option.none : Option Jvm.ClassFile.FieldType)).before args0 about1 = true := code_word (m := ⟨2, 6⟩) (meth := k2m6) (c := k2c6) (by decide +kernel) rfl rfl rfl (by decide +kernel)
set_option maxRecDepth 65536 in
theorem w_c7 : (Jvm.Cond.code ({ cls := "demitasse/interp/Bytes", name := "u2At", desc := "(II)V" } : Jvm.MethodName) prog_64_method_6_code (3 : Nat) (Option.none : Option Jvm.ClassFile.FieldType)).before args0 about1 = true := code_word (m := ⟨2, 5⟩) (meth := k2m5) (c := k2c5) (by decide +kernel) rfl rfl rfl (by decide +kernel)
set_option maxRecDepth 65536 in
theorem w_c8 : (Jvm.Cond.code ({ cls := "demitasse/interp/Bytes", name := "length", desc := "()I" } : Jvm.MethodName) prog_64_method_2_code (1 : Nat) (Option.some Jvm.ClassFile.FieldType.int)).before args0 about1 = true := code_word (m := ⟨2, 1⟩) (meth := k2m1) (c := k2c1) (by decide +kernel) rfl rfl rfl (by decide +kernel)
set_option maxRecDepth 65536 in
theorem w_c9 : (Jvm.Cond.code ({ cls := "demitasse/interp/Bytes", name := "toArray", desc := "()[B" } : Jvm.MethodName) prog_64_method_11_code (1 : Nat) (Option.some (Jvm.ClassFile.FieldType.array Jvm.ClassFile.FieldType.byte))).before args0 about1 = true := code_word (m := ⟨2, 7⟩) (meth := k2m7) (c := k2c7) (by decide +kernel) rfl rfl rfl (by decide +kernel)
set_option maxRecDepth 65536 in
theorem w_c10 : (Jvm.Cond.code ({ cls := "java/util/Arrays", name := "copyOf", desc := "([BI)[B" } : Jvm.MethodName) jdk_65_method_121_code (3 : Nat) (Option.some (Jvm.ClassFile.FieldType.array Jvm.ClassFile.FieldType.byte))).before args0 about1 = true := code_word (m := ⟨3, 1⟩) (meth := k3m1) (c := k3c1) (by decide +kernel) rfl rfl rfl (by decide +kernel)
set_option maxRecDepth 65536 in
theorem w_c11 : (Jvm.Cond.code ({ cls := "java/lang/Math", name := "min", desc := "(II)I" } : Jvm.MethodName) jdk_29_method_69_code (2 : Nat) (Option.some Jvm.ClassFile.FieldType.int)).before args0 about1 = true := code_word (m := ⟨4, 1⟩) (meth := k4m1) (c := k4c1) (by decide +kernel) rfl rfl rfl (by decide +kernel)
def codes1 : List Jvm.Cond := [Jvm.Cond.code x code maxLocals ret, Jvm.Cond.code ({ cls := "demitasse/interp/Bytes", name := "<init>", desc := "()V" } : Jvm.MethodName) prog_64_method_1_code (1 : Nat) (Option.none : Option Jvm.ClassFile.FieldType), Jvm.Cond.code ({ cls := "java/lang/Object", name := "<init>", desc := "()V" } : Jvm.MethodName) object_method_1_code (1 : Nat) (Option.none : Option Jvm.ClassFile.FieldType), Jvm.Cond.code ({ cls := "demitasse/interp/Bytes", name := "u4", desc := "(I)V" } : Jvm.MethodName) prog_64_method_5_code (2 : Nat) (Option.none : Option Jvm.ClassFile.FieldType), Jvm.Cond.code ({ cls := "demitasse/interp/Bytes", name := "u2", desc := "(I)V" } : Jvm.MethodName) prog_64_method_4_code (2 : Nat) (Option.none : Option Jvm.ClassFile.FieldType), Jvm.Cond.code ({ cls := "demitasse/interp/Bytes", name := "u1", desc := "(I)V" } : Jvm.MethodName) prog_64_method_3_code (2 : Nat) (Option.none : Option Jvm.ClassFile.FieldType), Jvm.Cond.code ({ cls := "demitasse/interp/Bytes", name := "makeRoom", desc := "(I)V" } : Jvm.MethodName) prog_64_method_10_code (2 : Nat) (Option.none : Option Jvm.ClassFile.FieldType), Jvm.Cond.code ({ cls := "demitasse/interp/Bytes", name := "u2At", desc := "(II)V" } : Jvm.MethodName) prog_64_method_6_code (3 : Nat) (Option.none : Option Jvm.ClassFile.FieldType), Jvm.Cond.code ({ cls := "demitasse/interp/Bytes", name := "length", desc := "()I" } : Jvm.MethodName) prog_64_method_2_code (1 : Nat) (Option.some Jvm.ClassFile.FieldType.int), Jvm.Cond.code ({ cls := "demitasse/interp/Bytes", name := "toArray", desc := "()[B" } : Jvm.MethodName) prog_64_method_11_code (1 : Nat) (Option.some (Jvm.ClassFile.FieldType.array Jvm.ClassFile.FieldType.byte)), Jvm.Cond.code ({ cls := "java/util/Arrays", name := "copyOf", desc := "([BI)[B" } : Jvm.MethodName) jdk_65_method_121_code (3 : Nat) (Option.some (Jvm.ClassFile.FieldType.array Jvm.ClassFile.FieldType.byte)), Jvm.Cond.code ({ cls := "java/lang/Math", name := "min", desc := "(II)I" } : Jvm.MethodName) jdk_29_method_69_code (2 : Nat) (Option.some Jvm.ClassFile.FieldType.int)]
set_option maxRecDepth 65536 in
theorem codes_eq : words1.filter isCode = codes1 := rfl
theorem w_codes : ∀ c ∈ words1.filter isCode, c.before args0 about1 = true := by
  rw [codes_eq]
  intro c hc
  simp only [codes1, List.mem_cons, List.not_mem_nil, or_false] at hc
  rcases hc with rfl | rfl | rfl | rfl | rfl | rfl | rfl | rfl | rfl | rfl | rfl | rfl
  · exact w_c0
  · exact w_c1
  · exact w_c2
  · exact w_c3
  · exact w_c4
  · exact w_c5
  · exact w_c6
  · exact w_c7
  · exact w_c8
  · exact w_c9
  · exact w_c10
  · exact w_c11
set_option maxRecDepth 65536 in
theorem w_t1 : (words1.take 24).all (fun c => isCode c || c.before args0 about1) = true := by decide +kernel
set_option maxRecDepth 65536 in
theorem w_t2 : ((words1.drop 24).take 24).all (fun c => isCode c || c.before args0 about1) = true := by decide +kernel
set_option maxRecDepth 65536 in
theorem w_t3 : ((words1.drop 24).drop 24).all (fun c => isCode c || c.before args0 about1) = true := by decide +kernel
theorem w_tables : (allAtoms (Jvm.Cond.code x code maxLocals ret :: tables_1)).before args0 about1 = true := by
  rw [allAtoms_all]
  show words1.all (fun c => c.before args0 about1) = true
  refine all_split ?_ w_codes
  rw [← List.take_append_drop 24 words1, List.all_append, w_t1, ← List.take_append_drop 24 (words1.drop 24), List.all_append, w_t2, w_t3]
  rfl
set_option maxRecDepth 65536 in
theorem w_case : (Jvm.Cond.and given_1 narrow_1).before args0 about1 = true := by decide +kernel
theorem w_applies : (headSpec (Jvm.Cond.code x code maxLocals ret :: tables_1) room_1).applies x e0.platform about1 = true :=
  (Spec.applies_iff w_frames).mpr ⟨w_running, w_runnable, w_alone, w_named, w_hears, w_ripe, w_room, w_tables⟩
theorem atStart : AtStart classFile x code maxLocals ret World_1 tables_1 room_1 Calls_1 rest_1 Pre_1 launch0 p0 e0 about1 theMethod args0 below0 :=
  ⟨lists_1, trivial, launch0.admits_env _ _ _, launch0.least_env, fairChoices_fair.cas, fairChoices_fair.clock, w_frames, w_args, w_heap, w_applies, trivial, trivial, w_case⟩
end start1
theorem witness_1 : WitnessClaimed_1 := ⟨start1.p0, start1.e0, start1.about1, start1.theMethod, start1.args0, start1.below0, start1.atStart⟩
end Jvm.Pilot.@@N@@
