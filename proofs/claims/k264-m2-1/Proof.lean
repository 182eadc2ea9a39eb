import JvmDerived
import JvmDerived.Pilot.@@N@@Statement
import JvmDerived.Pilot.@@N@@Code
set_option linter.unusedVariables false
set_option linter.unusedSimpArgs false
namespace Jvm.Pilot.@@N@@
open Jvm Jvm.ClassFile Sem Op Lib Jvm.Free Jvm.Stand Jvm.LawKit Jvm.RoadKit Bundle Jvm.Pilot.@@N@@.Jvm.D
section OwnKit
variable {p : Program} {l : Launch} {e : Env} {R : Room} {s : State} {m : MethodId} {args : Array Value} {below : List Frame} {meth : Method} {c : Code} {T : State} {cells slots : Nat} {P : State → Outcome → Prop}
variable {Z : State} {a0 : Array Value} {h h0 : Heap} {n0 : Nat} {own nm : String} {bytes : ByteArray} {maxL : Nat} {ret : Option FieldType}
variable {pc pc' : Nat} {Ls : Array Slot} {st : List Value}
/-- from the state U the run comes to an end that P allows -/
def own_Go (p : Program) (e : Env) (below : List Frame) (U : State) (P : State → Outcome → Prop) : Prop := ∃ a o, Steps p.tables e below U a ∧ P a o
theorem own_by {U U' : State} (q : ∀ t, Steps p.tables e below U' t → Steps p.tables e below U t) (G : own_Go p e below U' P) : own_Go p e below U P := by
  obtain ⟨a, o, h1, h2⟩ := G
  exact ⟨a, o, q a h1, h2⟩
/-- what stays the same in one body -/
def own_B (p : Program) (s : State) (m : MethodId) (meth : Method) (c : Code) (Z : State) (own nm : String) (bytes : ByteArray) (maxL : Nat) (ret : Option FieldType) : Prop :=
  p.tables.exec = Jvm.exec ∧ Z.Warmed39 s.vm ∧ c.maxLocals = maxL ∧ s.vm.findClass own = some m.cls ∧ meth.sig.returnType = ret ∧ meth.locks = false ∧ meth.name = nm ∧ c.code = bytes
/-- where the run stands: the state T, its heap h; nothing below n0 has been written -/
def own_S (p : Program) (l : Launch) (e : Env) (R : Room) (s : State) (m : MethodId) (args : Array Value) (below : List Frame) (meth : Method) (c : Code) (n0 : Nat) (T : State) (h : Heap) (cells slots : Nat) : Prop :=
  ∃ locs, Stand p l e R s m args below meth c T locs cells slots ∧ T.heap = h ∧ Fr n0 locs
/-- what a body owes at its end -/
def own_P (s : State) (below : List Frame) (n0 : Nat) (Q : Option Value → Heap → Prop) (k n : Nat) (a : State) (o : Outcome) : Prop :=
  a.status = .running ∧ Ended a below o ∧ ∃ v L, o = .returned v ∧ (Fr n0 L ∧ Q v a.heap) ∧ FrameEnd s o a L k n
theorem own_iload (B : own_B p s m meth c Z own nm bytes maxL ret) (X : own_S p l e R s m args below meth c n0 T h cells slots) {k : Nat} {v : Int32} (d : decode bytes pc = .ok (.iload k, 2)) (hp : pc + 2 = pc') (hl : Ls[k]? = some (.val (.int v)))
    (G : own_Go p e below (T.setTop (mkF m pc' Ls (.int v :: st))) P) : own_Go p e below (T.setTop (mkF m pc Ls (st))) P := by
  obtain ⟨locs, X, -, -⟩ := X
  subst hp
  exact own_by (fun _ => XS.iload X.here B.1 rfl (hb B.2.2.2.2.2.2.2 d) hl) G
theorem own_iloadN (B : own_B p s m meth c Z own nm bytes maxL ret) (X : own_S p l e R s m args below meth c n0 T h cells slots) {k : Fin 4} {v : Int32} (d : decode bytes pc = .ok (.iload_n k, 1)) (hp : pc + 1 = pc') (hl : Ls[k.val]? = some (.val (.int v)))
    (G : own_Go p e below (T.setTop (mkF m pc' Ls (.int v :: st))) P) : own_Go p e below (T.setTop (mkF m pc Ls (st))) P := by
  obtain ⟨locs, X, -, -⟩ := X
  subst hp
  exact own_by (fun _ => XS.iloadN X.here B.1 rfl (hb B.2.2.2.2.2.2.2 d) hl) G
theorem own_aload (B : own_B p s m meth c Z own nm bytes maxL ret) (X : own_S p l e R s m args below meth c n0 T h cells slots) {k : Nat} {v : Value} (d : decode bytes pc = .ok (.aload k, 2)) (hp : pc + 2 = pc') (hl : Ls[k]? = some (.val v)) (hv : v.isRef = true)
    (G : own_Go p e below (T.setTop (mkF m pc' Ls (v :: st))) P) : own_Go p e below (T.setTop (mkF m pc Ls (st))) P := by
  obtain ⟨locs, X, -, -⟩ := X
  subst hp
  exact own_by (fun _ => XS.aload X.here B.1 rfl (hb B.2.2.2.2.2.2.2 d) hl hv) G
theorem own_aloadN (B : own_B p s m meth c Z own nm bytes maxL ret) (X : own_S p l e R s m args below meth c n0 T h cells slots) {k : Fin 4} {v : Value} (d : decode bytes pc = .ok (.aload_n k, 1)) (hp : pc + 1 = pc') (hl : Ls[k.val]? = some (.val v)) (hv : v.isRef = true)
    (G : own_Go p e below (T.setTop (mkF m pc' Ls (v :: st))) P) : own_Go p e below (T.setTop (mkF m pc Ls (st))) P := by
  obtain ⟨locs, X, -, -⟩ := X
  subst hp
  exact own_by (fun _ => XS.aloadN X.here B.1 rfl (hb B.2.2.2.2.2.2.2 d) hl hv) G
theorem own_istore (B : own_B p s m meth c Z own nm bytes maxL ret) (X : own_S p l e R s m args below meth c n0 T h cells slots) {k : Nat} {v : Int32} {Ls' : Array Slot} (d : decode bytes pc = .ok (.istore k, 2)) (hp : pc + 2 = pc') (hl : storeLocals Ls k (.int v) = some Ls')
    (G : own_Go p e below (T.setTop (mkF m pc' Ls' st)) P) : own_Go p e below (T.setTop (mkF m pc Ls (.int v :: st))) P := by
  obtain ⟨locs, X, -, -⟩ := X
  subst hp
  exact own_by (fun _ => XS.istore X.here B.1 rfl (hb B.2.2.2.2.2.2.2 d) rfl hl) G
theorem own_istoreN (B : own_B p s m meth c Z own nm bytes maxL ret) (X : own_S p l e R s m args below meth c n0 T h cells slots) {k : Fin 4} {v : Int32} {Ls' : Array Slot} (d : decode bytes pc = .ok (.istore_n k, 1)) (hp : pc + 1 = pc') (hl : storeLocals Ls k.val (.int v) = some Ls')
    (G : own_Go p e below (T.setTop (mkF m pc' Ls' st)) P) : own_Go p e below (T.setTop (mkF m pc Ls (.int v :: st))) P := by
  obtain ⟨locs, X, -, -⟩ := X
  subst hp
  exact own_by (fun _ => XS.istoreN X.here B.1 rfl (hb B.2.2.2.2.2.2.2 d) rfl hl) G
theorem own_astore (B : own_B p s m meth c Z own nm bytes maxL ret) (X : own_S p l e R s m args below meth c n0 T h cells slots) {k : Nat} {v : Value} {Ls' : Array Slot} (d : decode bytes pc = .ok (.astore k, 2)) (hp : pc + 2 = pc') (hv : v.isRef = true) (hl : storeLocals Ls k (v) = some Ls')
    (G : own_Go p e below (T.setTop (mkF m pc' Ls' st)) P) : own_Go p e below (T.setTop (mkF m pc Ls (v :: st))) P := by
  obtain ⟨locs, X, -, -⟩ := X
  subst hp
  exact own_by (fun _ => XS.astore X.here B.1 rfl (hb B.2.2.2.2.2.2.2 d) rfl hv hl) G
theorem own_iconst (B : own_B p s m meth c Z own nm bytes maxL ret) (X : own_S p l e R s m args below meth c n0 T h cells slots) {i : Int} {z : Int32} (d : decode bytes pc = .ok (.iconst i, 1)) (hp : pc + 1 = pc') (hz : Int32.ofInt i = z)
    (G : own_Go p e below (T.setTop (mkF m pc' Ls (.int z :: st))) P) : own_Go p e below (T.setTop (mkF m pc Ls (st))) P := by
  obtain ⟨locs, X, -, -⟩ := X
  subst hp
  subst hz
  exact own_by (fun _ => XS.iconst X.here B.1 rfl (hb B.2.2.2.2.2.2.2 d)) G
theorem own_bipush (B : own_B p s m meth c Z own nm bytes maxL ret) (X : own_S p l e R s m args below meth c n0 T h cells slots) {i : Int} {z : Int32} (d : decode bytes pc = .ok (.bipush i, 2)) (hp : pc + 2 = pc') (hz : (Int8.ofInt i).toInt32 = z)
    (G : own_Go p e below (T.setTop (mkF m pc' Ls (.int z :: st))) P) : own_Go p e below (T.setTop (mkF m pc Ls (st))) P := by
  obtain ⟨locs, X, -, -⟩ := X
  subst hp
  subst hz
  exact own_by (fun _ => XS.bipush X.here B.1 rfl (hb B.2.2.2.2.2.2.2 d)) G
theorem own_sipush (B : own_B p s m meth c Z own nm bytes maxL ret) (X : own_S p l e R s m args below meth c n0 T h cells slots) {i : Int} {z : Int32} (d : decode bytes pc = .ok (.sipush i, 3)) (hp : pc + 3 = pc') (hz : (Int16.ofInt i).toInt32 = z)
    (G : own_Go p e below (T.setTop (mkF m pc' Ls (.int z :: st))) P) : own_Go p e below (T.setTop (mkF m pc Ls (st))) P := by
  obtain ⟨locs, X, -, -⟩ := X
  subst hp
  subst hz
  exact own_by (fun _ => XS.sipush X.here B.1 rfl (hb B.2.2.2.2.2.2.2 d)) G
theorem own_iadd (B : own_B p s m meth c Z own nm bytes maxL ret) (X : own_S p l e R s m args below meth c n0 T h cells slots) {x y z : Int32} (d : decode bytes pc = .ok (.iadd, 1)) (hp : pc + 1 = pc') (hz : x + y = z)
    (G : own_Go p e below (T.setTop (mkF m pc' Ls (.int z :: st))) P) : own_Go p e below (T.setTop (mkF m pc Ls (.int y :: .int x :: st))) P := by
  obtain ⟨locs, X, -, -⟩ := X
  subst hp
  subst hz
  exact own_by (fun _ => XS.iadd X.here B.1 rfl (hb B.2.2.2.2.2.2.2 d) rfl) G
theorem own_isub (B : own_B p s m meth c Z own nm bytes maxL ret) (X : own_S p l e R s m args below meth c n0 T h cells slots) {x y z : Int32} (d : decode bytes pc = .ok (.isub, 1)) (hp : pc + 1 = pc') (hz : x - y = z)
    (G : own_Go p e below (T.setTop (mkF m pc' Ls (.int z :: st))) P) : own_Go p e below (T.setTop (mkF m pc Ls (.int y :: .int x :: st))) P := by
  obtain ⟨locs, X, -, -⟩ := X
  subst hp
  subst hz
  exact own_by (fun _ => XS.isub X.here B.1 rfl (hb B.2.2.2.2.2.2.2 d) rfl) G
theorem own_iand (B : own_B p s m meth c Z own nm bytes maxL ret) (X : own_S p l e R s m args below meth c n0 T h cells slots) {x y z : Int32} (d : decode bytes pc = .ok (.iand, 1)) (hp : pc + 1 = pc') (hz : x &&& y = z)
    (G : own_Go p e below (T.setTop (mkF m pc' Ls (.int z :: st))) P) : own_Go p e below (T.setTop (mkF m pc Ls (.int y :: .int x :: st))) P := by
  obtain ⟨locs, X, -, -⟩ := X
  subst hp
  subst hz
  exact own_by (fun _ => XS.iand X.here B.1 rfl (hb B.2.2.2.2.2.2.2 d) rfl) G
theorem own_ixor (B : own_B p s m meth c Z own nm bytes maxL ret) (X : own_S p l e R s m args below meth c n0 T h cells slots) {x y z : Int32} (d : decode bytes pc = .ok (.ixor, 1)) (hp : pc + 1 = pc') (hz : x ^^^ y = z)
    (G : own_Go p e below (T.setTop (mkF m pc' Ls (.int z :: st))) P) : own_Go p e below (T.setTop (mkF m pc Ls (.int y :: .int x :: st))) P := by
  obtain ⟨locs, X, -, -⟩ := X
  subst hp
  subst hz
  exact own_by (fun _ => XS.ixor X.here B.1 rfl (hb B.2.2.2.2.2.2.2 d) rfl) G
theorem own_i2b (B : own_B p s m meth c Z own nm bytes maxL ret) (X : own_S p l e R s m args below meth c n0 T h cells slots) {x : Int32} {z : Int32} (d : decode bytes pc = .ok (.i2b, 1)) (hp : pc + 1 = pc') (hz : x.toInt8.toInt32 = z)
    (G : own_Go p e below (T.setTop (mkF m pc' Ls (.int z :: st))) P) : own_Go p e below (T.setTop (mkF m pc Ls (.int x :: st))) P := by
  obtain ⟨locs, X, -, -⟩ := X
  subst hp
  subst hz
  exact own_by (fun _ => XS.i2b X.here B.1 rfl (hb B.2.2.2.2.2.2.2 d) rfl) G
theorem own_dup (B : own_B p s m meth c Z own nm bytes maxL ret) (X : own_S p l e R s m args below meth c n0 T h cells slots) {v : Value} (d : decode bytes pc = .ok (.dup, 1)) (hp : pc + 1 = pc') (hv : v.category = 1)
    (G : own_Go p e below (T.setTop (mkF m pc' Ls (v :: v :: st))) P) : own_Go p e below (T.setTop (mkF m pc Ls (v :: st))) P := by
  obtain ⟨locs, X, -, -⟩ := X
  subst hp
  exact own_by (fun _ => XS.dup X.here B.1 rfl (hb B.2.2.2.2.2.2.2 d) rfl hv) G
theorem own_dup_x1 (B : own_B p s m meth c Z own nm bytes maxL ret) (X : own_S p l e R s m args below meth c n0 T h cells slots) {v w : Value} (d : decode bytes pc = .ok (.dup_x1, 1)) (hp : pc + 1 = pc') (hv : v.category = 1) (hw : w.category = 1)
    (G : own_Go p e below (T.setTop (mkF m pc' Ls (v :: w :: v :: st))) P) : own_Go p e below (T.setTop (mkF m pc Ls (v :: w :: st))) P := by
  obtain ⟨locs, X, -, -⟩ := X
  subst hp
  exact own_by (fun _ => XS.dupX1 X.here B.1 rfl (hb B.2.2.2.2.2.2.2 d) rfl hv hw) G
theorem own_goto (B : own_B p s m meth c Z own nm bytes maxL ret) (X : own_S p l e R s m args below meth c n0 T h cells slots) {o : Int} (d : decode bytes pc = .ok (.goto o, 3)) (ho : 0 ≤ (pc : Int) + o) (hp : ((pc : Int) + o).toNat = pc')
    (G : own_Go p e below (T.setTop (mkF m pc' Ls st)) P) : own_Go p e below (T.setTop (mkF m pc Ls st)) P := by
  obtain ⟨locs, X, -, -⟩ := X
  exact own_by (fun _ => XS.goto X.here B.1 rfl (pc0 := pc) rfl (hb B.2.2.2.2.2.2.2 d) ho hp) G
theorem own_ifYes (B : own_B p s m meth c Z own nm bytes maxL ret) (X : own_S p l e R s m args below meth c n0 T h cells slots) {cd : ClassFile.Cond} {o : Int} {x : Int32} (d : decode bytes pc = .ok (.ifCond cd o, 3)) (hc : ifCond.holds cd x = true) (ho : 0 ≤ (pc : Int) + o) (hp : ((pc : Int) + o).toNat = pc')
    (G : own_Go p e below (T.setTop (mkF m pc' Ls st)) P) : own_Go p e below (T.setTop (mkF m pc Ls (.int x :: st))) P := by
  obtain ⟨locs, X, -, -⟩ := X
  exact own_by (fun _ => XS.ifYes X.here B.1 rfl (pc0 := pc) rfl (hb B.2.2.2.2.2.2.2 d) rfl hc ho hp) G
theorem own_ifNo (B : own_B p s m meth c Z own nm bytes maxL ret) (X : own_S p l e R s m args below meth c n0 T h cells slots) {cd : ClassFile.Cond} {o : Int} {x : Int32} (d : decode bytes pc = .ok (.ifCond cd o, 3)) (hc : ifCond.holds cd x = false) (hp : pc + 3 = pc')
    (G : own_Go p e below (T.setTop (mkF m pc' Ls st)) P) : own_Go p e below (T.setTop (mkF m pc Ls (.int x :: st))) P := by
  obtain ⟨locs, X, -, -⟩ := X
  subst hp
  exact own_by (fun _ => XS.ifNo X.here B.1 rfl (hb B.2.2.2.2.2.2.2 d) rfl hc) G
theorem own_icmpYes (B : own_B p s m meth c Z own nm bytes maxL ret) (X : own_S p l e R s m args below meth c n0 T h cells slots) {cd : ClassFile.Cond} {o : Int} {x y : Int32} (d : decode bytes pc = .ok (.if_icmp cd o, 3)) (hc : if_icmp.holds cd x y = true) (ho : 0 ≤ (pc : Int) + o) (hp : ((pc : Int) + o).toNat = pc')
    (G : own_Go p e below (T.setTop (mkF m pc' Ls st)) P) : own_Go p e below (T.setTop (mkF m pc Ls (.int y :: .int x :: st))) P := by
  obtain ⟨locs, X, -, -⟩ := X
  exact own_by (fun _ => XS.icmpYes X.here B.1 rfl (pc0 := pc) rfl (hb B.2.2.2.2.2.2.2 d) rfl hc ho hp) G
theorem own_icmpNo (B : own_B p s m meth c Z own nm bytes maxL ret) (X : own_S p l e R s m args below meth c n0 T h cells slots) {cd : ClassFile.Cond} {o : Int} {x y : Int32} (d : decode bytes pc = .ok (.if_icmp cd o, 3)) (hc : if_icmp.holds cd x y = false) (hp : pc + 3 = pc')
    (G : own_Go p e below (T.setTop (mkF m pc' Ls st)) P) : own_Go p e below (T.setTop (mkF m pc Ls (.int y :: .int x :: st))) P := by
  obtain ⟨locs, X, -, -⟩ := X
  subst hp
  exact own_by (fun _ => XS.icmpNo X.here B.1 rfl (hb B.2.2.2.2.2.2.2 d) rfl hc) G
theorem own_arraylength (B : own_B p s m meth c Z own nm bytes maxL ret) (X : own_S p l e R s m args below meth c n0 T h cells slots) {a : Addr} {k : ClassId} {z : Int32} {vs : List Value} {dv : Value} {ty : FieldType} (V : Arv Z h a k ty z vs dv) (d : decode bytes pc = .ok (.arraylength, 1)) (hp : pc + 1 = pc')
    (G : own_Go p e below (T.setTop (mkF m pc' Ls (.int z :: st))) P) : own_Go p e below (T.setTop (mkF m pc Ls (.ref a :: st))) P := by
  obtain ⟨locs, X, eT, -⟩ := X
  subst hp
  obtain ⟨cl, A, -, S, N, -, -⟩ := V
  refine own_by (fun t ht => ?_) G
  refine X.arraylength B.1 (by rw [eT]; exact A.1) (State.isArrayOf_alike B.2.1.alike A.2.1) (g := mkF m pc Ls (.ref a :: st)) rfl rfl (hb B.2.2.2.2.2.2.2 d) _ ?_
  rw [len_of S N]; exact ht
theorem own_baload (B : own_B p s m meth c Z own nm bytes maxL ret) (X : own_S p l e R s m args below meth c n0 T h cells slots) {a : Addr} {k : ClassId} {z : Int32} {vs : List Value} {dv : Value} {j : Int32} {v : Value} (V : Arv Z h a k .byte z vs dv) (hj : ¬ j < 0 ∧ j < z) (hv : vs.getD j.toNatClampNeg dv = v) (d : decode bytes pc = .ok (.baload, 1)) (hp : pc + 1 = pc')
    (G : own_Go p e below (T.setTop (mkF m pc' Ls (v :: st))) P) : own_Go p e below (T.setTop (mkF m pc Ls (.int j :: .ref a :: st))) P := by
  obtain ⟨locs, X, eT, -⟩ := X
  subst hp
  obtain ⟨cl, A, -, S, N, H, -⟩ := V
  have hin := inb_of S hj
  exact own_by (fun t => X.baloadBytes B.1 (j := j) (v := v) (by rw [eT]; exact A.1) (State.isArrayOf_alike B.2.1.alike A.2.1) A.2.2 hin (H.at hin hv) (g := mkF m pc Ls (.int j :: .ref a :: st)) rfl rfl (hb B.2.2.2.2.2.2.2 d) t) G
theorem own_bastore (B : own_B p s m meth c Z own nm bytes maxL ret) (X : own_S p l e R s m args below meth c n0 T h cells slots) {a : Addr} {k : ClassId} {z : Int32} {vs : List Value} {dv : Value} {j : Int32} {x x' : Int32} (V : Arv Z h a k .byte z vs dv) (ge : n0 ≤ a) (hj : ¬ j < 0 ∧ j < z) (i : Nat) (hi : j.toNatClampNeg = i) (hl : i < vs.length) (hz : x.toInt8.toInt32 = x') (d : decode bytes pc = .ok (.bastore, 1)) (hp : pc + 1 = pc')
    (G : ∀ T' h', own_S p l e R s m args below meth c n0 T' h' cells slots → Wr h h' a i (.int x') → Arv Z h' a k .byte z (vs.set i (.int x')) dv → own_Go p e below (T'.setTop (mkF m pc' Ls st)) P) : own_Go p e below (T.setTop (mkF m pc Ls (.int x :: .int j :: .ref a :: st))) P := by
  obtain ⟨locs, X, eT, N0⟩ := X
  subst hp hi hz
  obtain ⟨cl, A, q, S, N, H, F⟩ := V
  have hin := inb_of S hj
  obtain ⟨T', h', X', e', W, st'⟩ := stB X B.1 B.2.1 eT A (j := j) hin (g := mkF m pc Ls (.int x :: .int j :: .ref a :: st)) rfl rfl (hb B.2.2.2.2.2.2.2 d)
  exact own_by st' (G T' h' ⟨_, X', e', Fr.snoc X' N0 ge⟩ W (Arv.set A q S N H F (fits_nar_byte _) W _ rfl hl))
theorem own_newarray (B : own_B p s m meth c Z own nm bytes maxL ret) (X : own_S p l e R s m args below meth c n0 T h cells slots) {aty : ArrayType} {t : FieldType} (w : (Cond.arrayClass t).before a0 Z = true) (d : decode bytes pc = .ok (.newarray aty, 2)) (hp : pc + 2 = pc') (hty : newarray.typeOf aty = t) {z : Int32} (hz : ¬ z < 0) (cap : Nat) (hcap : z.toNatClampNeg ≤ cap) (hbig : cap * 8 ≤ 536870912) {k' n' : Nat} (hk : cells + 1 = k') (hn : slots + cap = n') (hkR : k' ≤ R.cells) (hnR : n' ≤ R.slots) (ad : String) (had : "[" ++ (newarray.typeOf aty).toString = ad) (dv : Value) (hdv : defaultValue t = dv)
    (G : ∀ T' h' b k, own_S p l e R s m args below meth c n0 T' h' k' n' → b = h.size → Ext h h' → Arv Z h' b k t z [] dv → Exa Z h' b ad → own_Go p e below (T'.setTop (mkF m pc' Ls (.ref b :: st))) P) : own_Go p e below (T.setTop (mkF m pc Ls (.int z :: st))) P := by
  obtain ⟨locs, X, eT, N0⟩ := X
  subst hp hk hn hdv hty
  obtain ⟨T', h', kA, X', e', E, A, A', st'⟩ := newPE X B.1 B.2.1 w eT (g := mkF m pc Ls (.int z :: st)) rfl (hb B.2.2.2.2.2.2.2 d) rfl hz (cap := cap) hcap hbig hkR hnR had
  exact own_by st' (G T' h' _ kA ⟨_, X', e', N0⟩ rfl E (Arv.new A hz) A')
theorem own_new (B : own_B p s m meth c Z own nm bytes maxL ret) (X : own_S p l e R s m args below meth c n0 T h cells slots) {C : String} {i n : Nat} (w : (Cond.classLink own i C).before a0 Z = true) (wi : (Cond.instantiable C n).before a0 Z = true) (wz : (Cond.initialized C).before a0 Z = true) (d : decode bytes pc = .ok (.new i, 3)) (hp : pc + 3 = pc') {k' n' : Nat} (hk : cells + 1 = k') (hn : slots + n = n') (hkR : k' ≤ R.cells) (hnR : n' ≤ R.slots)
    (G : ∀ T' h' b, own_S p l e R s m args below meth c n0 T' h' k' n' → b = h.size → Ext h h' → Exa Z h' b C → (∀ {O f t : String} {ty : FieldType}, Laid Z a0 C O f t → parseFieldDescriptor t = some ty → Fld Z h' b O f t (defaultValue ty)) → own_Go p e below (T'.setTop (mkF m pc' Ls (.ref b :: st))) P) : own_Go p e below (T.setTop (mkF m pc Ls st)) P := by
  obtain ⟨locs, X, eT, N0⟩ := X
  subst hp hk hn
  obtain ⟨T', h', X', e', E, A, D, -, st'⟩ := newO X B.1 B.2.1 B.2.2.2.1 w wi wz eT (g := mkF m pc Ls st) rfl (hb B.2.2.2.2.2.2.2 d) hkR hnR
  exact own_by st' (G T' h' _ ⟨_, X', e', N0⟩ rfl E A D)
theorem own_objinit (B : own_B p s m meth c Z own nm bytes maxL ret) (X : own_S p l e R s m args below meth c n0 T h cells slots) {i : Nat} {a : Addr} (w1 : (Cond.methodLink own i Lib.objectInit).before a0 Z = true) (w2 : (Cond.instanceMethod Lib.objectInit).before a0 Z = true) (w3 : (Cond.code Lib.objectInit ⟨#[0xb1]⟩ 1 none).before a0 Z = true) (d : decode bytes pc = .ok (.invokespecial i, 3)) (hp : pc + 3 = pc') (hsz : Ls.size = maxL) (hf : 1 ≤ R.frames) (W : Nat) (hW : (st.map fun v => v.category).sum ≤ W) (hl : W + 12 ≤ R.locals)
    (G : ∀ T', own_S p l e R s m args below meth c n0 T' h cells slots → own_Go p e below (T'.setTop (mkF m pc' Ls st)) P) : own_Go p e below (T.setTop (mkF m pc Ls (.ref a :: st))) P := by
  obtain ⟨locs, X, eT, N0⟩ := X
  subst hp
  obtain ⟨T', X', e', st'⟩ := initO X B.1 B.2.1 B.2.2.2.1 w1 w2 w3 eT (g := mkF m pc Ls (.ref a :: st)) rfl (by rw [B.2.2.1]; exact hsz) rfl (hb B.2.2.2.2.2.2.2 d) hf (W := W) (by show 2 * 0 + _ ≤ _; omega) hl
  exact own_by st' (G T' ⟨_, X', e', N0⟩)
theorem own_getfield (B : own_B p s m meth c Z own nm bytes maxL ret) (X : own_S p l e R s m args below meth c n0 T h cells slots) {R0 O n t : String} {host : String} {i : Nat} {a : Addr} {v : Value} (w : (Cond.fieldLink own i R0 n t).before a0 Z = true ∨ (Cond.fieldLinkNest own i R0 n t host).before a0 Z = true) (via : Via Z R0 O n t) (F : Fld Z h a O n t v) (d : decode bytes pc = .ok (.getfield i, 3)) (hp : pc + 3 = pc')
    (G : ∀ T', own_S p l e R s m args below meth c n0 T' h cells slots → own_Go p e below (T'.setTop (mkF m pc' Ls (v :: st))) P) : own_Go p e below (T.setTop (mkF m pc Ls (.ref a :: st))) P := by
  obtain ⟨locs, X, eT, N0⟩ := X
  subst hp
  obtain ⟨T', X', e', st'⟩ := getF X B.1 B.2.1 B.2.2.2.1 w via eT F (g := mkF m pc Ls (.ref a :: st)) rfl rfl (hb B.2.2.2.2.2.2.2 d)
  exact own_by st' (G T' ⟨_, X', e', N0⟩)
theorem own_putfield (B : own_B p s m meth c Z own nm bytes maxL ret) (X : own_S p l e R s m args below meth c n0 T h cells slots) {R0 O n t C : String} {host : String} {i kk : Nat} {ty : FieldType} {a : Addr} {v old : Value} (w : (Cond.fieldLink own i R0 n t).before a0 Z = true ∨ (Cond.fieldLinkNest own i R0 n t host).before a0 Z = true) (via : Via Z R0 O n t) (F : Fld Z h a O n t old) (E : Exa Z h a C) (ge : n0 ≤ a) (L : (Cond.lays C O n t).before a0 Z = true ∨ ((Cond.laysFinal C O n t).before a0 Z = true ∧ own = O ∧ nm = "<init>")) (wi : (Cond.instantiable C kk).before a0 Z = true) (hty : parseFieldDescriptor t = some ty) (hn : narrow ty v = v) (hf : fits ty v = true) (d : decode bytes pc = .ok (.putfield i, 3)) (hp : pc + 3 = pc')
    (G : ∀ T' h', own_S p l e R s m args below meth c n0 T' h' cells slots → Wr h h' a (Jvm.RoadKit.slotOf Z O n t) v → Fld Z h' a O n t v → own_Go p e below (T'.setTop (mkF m pc' Ls st)) P) : own_Go p e below (T.setTop (mkF m pc Ls (v :: .ref a :: st))) P := by
  obtain ⟨locs, X, eT, N0⟩ := X
  subst hp
  obtain ⟨T', h', X', e', W, st'⟩ := putF X B.1 B.2.1 B.2.2.2.1 w via eT F E (L.imp id fun q => ⟨q.1, q.2.1, B.2.2.2.2.2.2.1.trans q.2.2⟩) wi hty hn hf (g := mkF m pc Ls (v :: .ref a :: st)) rfl rfl (hb B.2.2.2.2.2.2.2 d)
  exact own_by st' (G T' h' ⟨_, X', e', Fr.snoc X' N0 ge⟩ W (F.same W))
theorem own_retI (B : own_B p s m meth c Z own nm bytes maxL (some .int)) (X : own_S p l e R s m args below meth c n0 T h cells slots) {Q : Option Value → Heap → Prop} {k n : Nat} {z : Int32} (d : decode bytes pc = .ok (.ireturn, 1)) (hk : cells ≤ k) (hn : slots ≤ n) (hq : Q (some (.int z)) h) : own_Go p e below (T.setTop (mkF m pc Ls (.int z :: st))) (own_P s below n0 Q k n) := by
  obtain ⟨locs, X, eT, N0⟩ := X
  obtain ⟨fs, hr, hrun, hended, hW, hsame⟩ := X.leave (v := (some (.int z))) (fun h => by rw [B.2.2.2.2.1] at h; cases h) B.2.2.2.2.2.1
  exact ⟨_, _, retOut X B.1 B.2.2.2.2.1 rfl (Or.inl ⟨rfl, Or.inl rfl, _, rfl⟩) (hb B.2.2.2.2.2.2.2 d) hr, hrun, hended, _, _, rfl, ⟨N0, by show Q _ T.heap; rw [eT]; exact hq⟩, ⟨_, rfl⟩, hW, hsame.mono hk hn⟩
theorem own_retN {t : FieldType} (B : own_B p s m meth c Z own nm bytes maxL (some t)) (X : own_S p l e R s m args below meth c n0 T h cells slots) {Q : Option Value → Heap → Prop} {k n : Nat} {z z' : Int32} (ht : t = .boolean ∨ t = .byte ∨ t = .char ∨ t = .short) (hz : nar t z = z') (d : decode bytes pc = .ok (.ireturn, 1)) (hk : cells ≤ k) (hn : slots ≤ n) (hq : Q (some (.int z')) h) : own_Go p e below (T.setTop (mkF m pc Ls (.int z :: st))) (own_P s below n0 Q k n) := by
  subst hz
  obtain ⟨locs, X, eT, N0⟩ := X
  obtain ⟨fs, hr, hrun, hended, hW, hsame⟩ := X.leave (v := (some (.int (nar t z)))) (fun h => by rw [B.2.2.2.2.1] at h; cases h) B.2.2.2.2.2.1
  exact ⟨_, _, retN X B.1 B.2.2.2.2.1 ht (hb B.2.2.2.2.2.2.2 d) hr, hrun, hended, _, _, rfl, ⟨N0, by show Q _ T.heap; rw [eT]; exact hq⟩, ⟨_, rfl⟩, hW, hsame.mono hk hn⟩
theorem own_ret (B : own_B p s m meth c Z own nm bytes maxL none) (X : own_S p l e R s m args below meth c n0 T h cells slots) {Q : Option Value → Heap → Prop} {k n : Nat} (d : decode bytes pc = .ok (.return_, 1)) (hk : cells ≤ k) (hn : slots ≤ n) (hq : Q none h) : own_Go p e below (T.setTop (mkF m pc Ls [])) (own_P s below n0 Q k n) := by
  obtain ⟨locs, X, eT, N0⟩ := X
  obtain ⟨fs, hr, hrun, hended, hW, hsame⟩ := X.leave (v := none) (fun _ => rfl) B.2.2.2.2.2.1
  exact ⟨_, _, X.returnOut B.1 B.2.2.2.2.1 (hb B.2.2.2.2.2.2.2 d) hr, hrun, hended, _, _, rfl, ⟨N0, by show Q _ T.heap; rw [eT]; exact hq⟩, ⟨_, rfl⟩, hW, hsame.mono hk hn⟩
theorem own_enter {y : MethodName} {rm : Room} {ws : List Jvm.Cond} {as' : Array Value} {Q : Option Value → Heap → Prop} {F : MethodId → JFrame} (hpl : plainFor y = true) (hF : ∀ m, entryFrame m as' maxL = F m)
    (body : ∀ p e s m below meth c s₁, own_B p s m meth c Z y.cls y.name bytes maxL ret → own_S p l e rm s m as' below meth c n0 s₁ h0 0 0 → own_Go p e below (s₁.setTop (F m)) (own_P s below n0 Q rm.cells rm.slots)) :
    MetFree l y (head1 (Jvm.Cond.code y bytes maxL ret :: ws) rm) (fun a U => a = as' ∧ Z.Warmed39 U.vm ∧ U.heap = h0) (fun _ _ _ _ _ => True) (fun _ U o U' => ∃ v L, o = .returned v ∧ (Fr n0 L ∧ Q v U'.heap) ∧ FrameEnd U o U' L rm.cells rm.slots) := by
  refine MetFree.of_bodySF hpl hisR ?_
  intro p e s m args below meth c s₁ Bd hml0 hP hK
  obtain ⟨rfl, hZ, hh⟩ := hP
  have e0 : s₁.heap = h0 := by rw [← hh, Bd.state]; rfl
  have nm := (name_of_methodNamed Bd.named Bd.method).1
  obtain ⟨a, o, h1, h2⟩ := body p e s m below meth c s₁ ⟨Bd.exec, hZ, hml0, findClass_of_methodNamed Bd.named, Bd.returns, Bd.notSynchronized, nm, Bd.bytes⟩ ⟨[], Stand.of_body Bd, e0, Fr.nil n0⟩
  exact ⟨a, o, castTop (hF m) h1, h2⟩
theorem own_callS (B : own_B p s m meth c Z own nm bytes maxL ret) (X : own_S p l e R s m args below meth c n0 T h cells slots) {i : Nat} {y : MethodName} {yb : ByteArray} {yl : Nat} {yr : Option FieldType} (w1 : (Cond.methodLink own i y).before a0 Z = true) (w2 : (Cond.static y).before a0 Z = true) (w3 : (Cond.initialized y.cls).before a0 Z = true) (w4 : (Cond.code y yb yl yr).before a0 Z = true) (hy : y.cls ≠ "java/lang/invoke/MethodHandle" ∧ y.cls ≠ "java/lang/invoke/VarHandle") {rm : Room} {Q : Option Value → Heap → Prop} (argsL rest : List Value)
    (hM : MetFree l y (head1 [Jvm.Cond.code y yb yl yr] rm) (fun b U => b = argsL.toArray ∧ Z.Warmed39 U.vm ∧ U.heap = h) (fun _ _ _ _ _ => True) (fun _ U o U' => ∃ v L, o = .returned v ∧ (Fr n0 L ∧ Q v U'.heap) ∧ FrameEnd U o U' L rm.cells rm.slots))
    (W : Nat) (hf : rm.frames + 1 ≤ R.frames) (hl : W + (yl + 11) + rm.locals ≤ R.locals) (hsz : Ls.size = maxL) {ps : List FieldType} {rt : Option FieldType} (hpd : parseMethodDescriptor y.desc = some ⟨ps, rt⟩) (hln : argsL.length = ps.length) (hst : st = argsL.reverse ++ rest) (hW : (rest.map fun v => v.category).sum ≤ W) (d : decode bytes pc = .ok (.invokestatic i, 3)) (hp : pc + 3 = pc') {k' n' : Nat} (hk : cells + rm.cells = k') (hn : slots + rm.slots = n') (hkR : k' ≤ R.cells) (hnR : n' ≤ R.slots)
    (G : ∀ T' v h', own_S p l e R s m args below meth c n0 T' h' k' n' → Q v h' → own_Go p e below (T'.setTop (mkF m pc' Ls (v.toList ++ rest))) P) : own_Go p e below (T.setTop (mkF m pc Ls st)) P := by
  obtain ⟨locs, X, eT, N0⟩ := X
  subst hp hk hn
  have bk := backOf (p := p) (e := e) (below := below) (args := args) (len := 3) (W := W) (Q := fun v h' L => Fr n0 L ∧ Q v h') hM B.2.1 w4 w3 hf hl
  obtain ⟨v, vm₁, ⟨T', L', k1, n1⟩, hW1, X', ⟨Lc, hQ, l1, y1, z1⟩, stp⟩ := Jvm.LawKit.callS X B.1 (y := y) B.2.2.2.1 (mvT B.2.1 w1) (mvT B.2.1 w2) (mvT B.2.1 w3) (mvT B.2.1 w4) hy bk (g := mkF m pc Ls st) rfl (by rw [B.2.2.1]; exact hsz) (argsL := argsL) (rest := rest) (lenOf hpd hln) hst (by show 2 * 0 + _ ≤ _; omega) (hb B.2.2.2.2.2.2.2 d) (fun _ _ => ⟨rfl, eT, hkR, hnR⟩)
  dsimp only [Pt.U, Pt.locs, Pt.cells, Pt.slots] at X' l1 y1 z1 stp hQ
  subst l1 y1 z1
  exact own_by stp (G T' v _ ⟨_, X', rfl, N0.app hQ.1⟩ hQ.2)
theorem own_callI (B : own_B p s m meth c Z own nm bytes maxL ret) (X : own_S p l e R s m args below meth c n0 T h cells slots) {i : Nat} {y : MethodName} {yb : ByteArray} {yl : Nat} {yr : Option FieldType} (hyn : y.name = "<init>") (hyr : yr = none) (w1 : (Cond.methodLink own i y).before a0 Z = true) (w2 : (Cond.instanceMethod y).before a0 Z = true) (w3 : (Cond.initialized y.cls).before a0 Z = true) (w4 : (Cond.code y yb yl yr).before a0 Z = true) (hy : y.cls ≠ "java/lang/invoke/MethodHandle" ∧ y.cls ≠ "java/lang/invoke/VarHandle") {rm : Room} {Q : Option Value → Heap → Prop} {a : Addr} (argsL rest : List Value)
    (hM : MetFree l y (head1 [Jvm.Cond.code y yb yl yr] rm) (fun b U => b = (Value.ref a :: argsL).toArray ∧ Z.Warmed39 U.vm ∧ U.heap = h) (fun _ _ _ _ _ => True) (fun _ U o U' => ∃ v L, o = .returned v ∧ (Fr n0 L ∧ Q v U'.heap) ∧ FrameEnd U o U' L rm.cells rm.slots))
    (W : Nat) (hf : rm.frames + 1 ≤ R.frames) (hl : W + (yl + 11) + rm.locals ≤ R.locals) (hsz : Ls.size = maxL) {ps : List FieldType} {rt : Option FieldType} (hpd : parseMethodDescriptor y.desc = some ⟨ps, rt⟩) (hln : argsL.length = ps.length) (hst : st = argsL.reverse ++ .ref a :: rest) (hW : (rest.map fun v => v.category).sum ≤ W) (d : decode bytes pc = .ok (.invokespecial i, 3)) (hp : pc + 3 = pc') {k' n' : Nat} (hk : cells + rm.cells = k') (hn : slots + rm.slots = n') (hkR : k' ≤ R.cells) (hnR : n' ≤ R.slots)
    (G : ∀ T' v h', own_S p l e R s m args below meth c n0 T' h' k' n' → Q v h' → own_Go p e below (T'.setTop (mkF m pc' Ls (v.toList ++ rest))) P) : own_Go p e below (T.setTop (mkF m pc Ls st)) P := by
  obtain ⟨locs, X, eT, N0⟩ := X
  subst hp hk hn
  have bk := backOf (p := p) (e := e) (below := below) (args := args) (len := 3) (W := W) (Q := fun v h' L => Fr n0 L ∧ Q v h') hM B.2.1 w4 w3 hf hl
  subst hyr
  obtain ⟨v, vm₁, ⟨T', L', k1, n1⟩, hW1, X', ⟨Lc, hQ, l1, y1, z1⟩, stp⟩ := X.specialBack B.1 (y := y) hyn B.2.2.2.1 (mvT B.2.1 w1) (mvT B.2.1 w2) (mvT B.2.1 w4) hy bk (g := mkF m pc Ls st) rfl (by rw [B.2.2.1]; exact hsz) (Steps.refl _) (a := a) (argsL := argsL) (rest := rest) (lenOf hpd hln) hst (by show 2 * 0 + _ ≤ _; omega) (hb B.2.2.2.2.2.2.2 d) (fun _ _ => ⟨rfl, eT, hkR, hnR⟩)
  dsimp only [Pt.U, Pt.locs, Pt.cells, Pt.slots] at X' l1 y1 z1 stp hQ
  subst l1 y1 z1
  exact own_by (fun _ k => stp.trans k) (G T' v _ ⟨_, X', rfl, N0.app hQ.1⟩ hQ.2)
theorem own_callV (B : own_B p s m meth c Z own nm bytes maxL ret) (X : own_S p l e R s m args below meth c n0 T h cells slots) {i : Nat} {a : Addr} {y : MethodName} {yb : ByteArray} {yl : Nat} {yr : Option FieldType} {C : String} (w1 : (Cond.methodLink own i y).before a0 Z = true) (w2 : (Cond.declares y).before a0 Z = true) (w5 : (Cond.selects C y y).before a0 Z = true) (w6 : (Cond.instanceMethod y).before a0 Z = true) (w3 : (Cond.initialized y.cls).before a0 Z = true) (w4 : (Cond.code y yb yl yr).before a0 Z = true) (E : Exa Z h a C) (hy : y.cls ≠ "java/lang/invoke/MethodHandle" ∧ y.cls ≠ "java/lang/invoke/VarHandle") {rm : Room} {Q : Option Value → Heap → Prop} (argsL rest : List Value)
    (hM : MetFree l y (head1 [Jvm.Cond.code y yb yl yr] rm) (fun b U => b = (Value.ref a :: argsL).toArray ∧ Z.Warmed39 U.vm ∧ U.heap = h) (fun _ _ _ _ _ => True) (fun _ U o U' => ∃ v L, o = .returned v ∧ (Fr n0 L ∧ Q v U'.heap) ∧ FrameEnd U o U' L rm.cells rm.slots))
    (W : Nat) (hf : rm.frames + 1 ≤ R.frames) (hl : W + (yl + 11) + rm.locals ≤ R.locals) (hsz : Ls.size = maxL) {ps : List FieldType} {rt : Option FieldType} (hpd : parseMethodDescriptor y.desc = some ⟨ps, rt⟩) (hln : argsL.length = ps.length) (hst : st = argsL.reverse ++ .ref a :: rest) (hW : (rest.map fun v => v.category).sum ≤ W) (d : decode bytes pc = .ok (.invokevirtual i, 3)) (hp : pc + 3 = pc') {k' n' : Nat} (hk : cells + rm.cells = k') (hn : slots + rm.slots = n') (hkR : k' ≤ R.cells) (hnR : n' ≤ R.slots)
    (G : ∀ T' v h', own_S p l e R s m args below meth c n0 T' h' k' n' → Q v h' → own_Go p e below (T'.setTop (mkF m pc' Ls (v.toList ++ rest))) P) : own_Go p e below (T.setTop (mkF m pc Ls st)) P := by
  obtain ⟨locs, X, eT, N0⟩ := X
  subst hp hk hn
  have bk := backOf (p := p) (e := e) (below := below) (args := args) (len := 3) (W := W) (Q := fun v h' L => Fr n0 L ∧ Q v h') hM B.2.1 w4 w3 hf hl
  obtain ⟨cq, kq, qa, qb, qc⟩ := isOf B.2.1 eT E
  obtain ⟨v, vm₁, ⟨T', L', k1, n1⟩, hW1, X', ⟨Lc, hQ, l1, y1, z1⟩, stp⟩ := X.virtualBack B.1 (y := y) (z := y) B.2.2.2.1 (mvT B.2.1 w1) (mvT B.2.1 w2) (notFace_of_selects (args := #[]) (mvT B.2.1 w5)) (mvT B.2.1 w5) (mvT B.2.1 w6) hy bk qa qc (g := mkF m pc Ls st) rfl (by rw [B.2.2.1]; exact hsz) (Steps.refl _) (argsL := argsL) (rest := rest) (lenOf hpd hln) hst (by show 2 * 0 + _ ≤ _; omega) (hb B.2.2.2.2.2.2.2 d) (fun _ _ => ⟨rfl, eT, hkR, hnR⟩)
  dsimp only [Pt.U, Pt.locs, Pt.cells, Pt.slots] at X' l1 y1 z1 stp hQ
  subst l1 y1 z1
  exact own_by (fun _ k => stp.trans k) (G T' v _ ⟨_, X', rfl, N0.app hQ.1⟩ hQ.2)
theorem own_sz {h1 : Heap} {ws : List Addr} {b : Addr} (K : Keep h0 h1 ws) (g : b = h1.size) : h0.size ≤ b := g ▸ K.1
theorem own_ne {h1 : Heap} {x b : Addr} (q : x < h1.size) (g : b = h1.size) : x ≠ b := fun u => by rw [u, g] at q; exact Nat.lt_irrefl _ q
end OwnKit
section OwnNum
theorem own_xor0 (x : Int32) : x ^^^ (0 : Int32) = x := Int32.toBitVec_inj.mp (by simp)
theorem own_idem_i2b {x y : Int32} (h : x.toInt8.toInt32 = y) : y.toInt8.toInt32 = y := by subst h; simp
theorem own_w {a0 : Array Value} {Z : State} (hw : ∀ d ∈ tables_1, d.before a0 Z = true) (i : Nat) {d : Jvm.Cond} (hd : tables_1[i]? = some d) : d.before a0 Z = true := hw _ (List.mem_of_getElem? hd)
theorem own_eqI {x y : Int32} (h : x.toInt = y.toInt) : x = y := Int32.toInt_inj.mp h
theorem own_o_isub {x y z : Int32} (h : x - y = z) : (z.toInt - (x.toInt - y.toInt)) % 4294967296 = 0 := h ▸ c_isub x y
theorem own_o_mask {x m z : Int32} (h : x &&& m = z) (k : Nat) (hk : k ≤ 31) (hm : m.toBitVec.toNat = 2 ^ k - 1) : z.toInt = x.toInt % (2 ^ k : Nat) := h ▸ c_mask x m k hk hm
theorem own_o_i2b {x z : Int32} (h : x.toInt8.toInt32 = z) : (z.toInt - x.toInt) % 256 = 0 ∧ -128 ≤ z.toInt ∧ z.toInt < 128 := h ▸ c_i2b x
theorem own_nat (x : Int32) : (x.toInt - (x.toBitVec.toNat : Int)) % 4294967296 = 0 := by
  rw [Int32.toInt, BitVec.toInt_eq_toNat_bmod]
  have := Int.bmod_emod (x := (x.toBitVec.toNat : Int)) (m := 2 ^ 32)
  omega
theorem own_xor255 (x : Int32) : (x ^^^ (255 : Int32)).toInt % 256 = 255 - x.toInt % 256 := by
  have h1 := own_nat x
  have h3 := own_nat (x ^^^ 255)
  have e : (x ^^^ (255 : Int32)).toBitVec.toNat = x.toBitVec.toNat ^^^ 255 := by simp
  rw [e] at h3
  have hr : ∀ r : Fin 256, r.1 ^^^ 255 = 255 - r.1 := by decide +kernel
  have h := hr ⟨x.toBitVec.toNat % 256, Nat.mod_lt _ (by decide)⟩
  have q : (x.toBitVec.toNat ^^^ 255) % 256 = x.toBitVec.toNat % 256 ^^^ 255 := Nat.xor_mod_two_pow (n := 8) (a := x.toBitVec.toNat) (b := 255)
  simp only at h
  omega
theorem own_o_xor255 {x z : Int32} (h : x ^^^ (255 : Int32) = z) : z.toInt % 256 = 255 - x.toInt % 256 := h ▸ own_xor255 x
end OwnNum

theorem d1_0 : decode prog_12_method_1_code 0 = .ok (.aload_n 0, 1) := by decide +kernel
theorem d1_1 : decode prog_12_method_1_code 1 = .ok (.invokespecial 1, 3) := by decide +kernel
theorem d1_4 : decode prog_12_method_1_code 4 = .ok (.aload_n 0, 1) := by decide +kernel
theorem d1_5 : decode prog_12_method_1_code 5 = .ok (.aload_n 1, 1) := by decide +kernel
theorem d1_6 : decode prog_12_method_1_code 6 = .ok (.putfield 7, 3) := by decide +kernel
theorem d1_9 : decode prog_12_method_1_code 9 = .ok (.return_, 1) := by decide +kernel
theorem pn_0 : plainName "com/example/keyer/keyer/KeyReader" = true := by first | (simp [plainName, overriddenIn]; done) | decide +kernel
theorem pd_0 : parseMethodDescriptor "([B)V" = some ⟨[(.array .byte)], none⟩ := by decide +kernel
theorem d3_0 : decode prog_12_method_5_code 0 = .ok (.aload_n 0, 1) := by decide +kernel
theorem d3_1 : decode prog_12_method_5_code 1 = .ok (.getfield 17, 3) := by decide +kernel
theorem d3_4 : decode prog_12_method_5_code 4 = .ok (.aload_n 0, 1) := by decide +kernel
theorem d3_5 : decode prog_12_method_5_code 5 = .ok (.getfield 7, 3) := by decide +kernel
theorem d3_8 : decode prog_12_method_5_code 8 = .ok (.arraylength, 1) := by decide +kernel
theorem d3_9 : decode prog_12_method_5_code 9 = .ok (.if_icmp .ne 8, 3) := by decide +kernel
theorem d3_17 : decode prog_12_method_5_code 17 = .ok (.aload_n 0, 1) := by decide +kernel
theorem d3_18 : decode prog_12_method_5_code 18 = .ok (.getfield 7, 3) := by decide +kernel
theorem d3_21 : decode prog_12_method_5_code 21 = .ok (.aload_n 0, 1) := by decide +kernel
theorem d3_22 : decode prog_12_method_5_code 22 = .ok (.dup, 1) := by decide +kernel
theorem d3_23 : decode prog_12_method_5_code 23 = .ok (.getfield 17, 3) := by decide +kernel
theorem d3_26 : decode prog_12_method_5_code 26 = .ok (.dup_x1, 1) := by decide +kernel
theorem d3_27 : decode prog_12_method_5_code 27 = .ok (.iconst 1, 1) := by decide +kernel
theorem d3_28 : decode prog_12_method_5_code 28 = .ok (.iadd, 1) := by decide +kernel
theorem d3_29 : decode prog_12_method_5_code 29 = .ok (.putfield 17, 3) := by decide +kernel
theorem d3_32 : decode prog_12_method_5_code 32 = .ok (.baload, 1) := by decide +kernel
theorem d3_33 : decode prog_12_method_5_code 33 = .ok (.aload_n 0, 1) := by decide +kernel
theorem d3_34 : decode prog_12_method_5_code 34 = .ok (.getfield 13, 3) := by decide +kernel
theorem d3_37 : decode prog_12_method_5_code 37 = .ok (.ixor, 1) := by decide +kernel
theorem d3_38 : decode prog_12_method_5_code 38 = .ok (.sipush 255, 3) := by decide +kernel
theorem d3_41 : decode prog_12_method_5_code 41 = .ok (.iand, 1) := by decide +kernel
theorem d3_42 : decode prog_12_method_5_code 42 = .ok (.ireturn, 1) := by decide +kernel
theorem pd_1 : parseMethodDescriptor "()I" = some ⟨[], some .int⟩ := by decide +kernel
theorem d4_0 : decode prog_12_method_2_code 0 = .ok (.aload_n 0, 1) := by decide +kernel
theorem d4_1 : decode prog_12_method_2_code 1 = .ok (.iload_n 1, 1) := by decide +kernel
theorem d4_2 : decode prog_12_method_2_code 2 = .ok (.ifCond .eq 9, 3) := by decide +kernel
theorem d4_11 : decode prog_12_method_2_code 11 = .ok (.iconst 0, 1) := by decide +kernel
theorem d4_12 : decode prog_12_method_2_code 12 = .ok (.putfield 13, 3) := by decide +kernel
theorem d4_15 : decode prog_12_method_2_code 15 = .ok (.return_, 1) := by decide +kernel
theorem pd_2 : parseMethodDescriptor "(Z)V" = some ⟨[.boolean], none⟩ := by decide +kernel
theorem d5_0 : decode method_2_code 0 = .ok (.iload_n 0, 1) := by decide +kernel
theorem d5_1 : decode method_2_code 1 = .ok (.sipush 255, 3) := by decide +kernel
theorem d5_4 : decode method_2_code 4 = .ok (.iand, 1) := by decide +kernel
theorem d5_5 : decode method_2_code 5 = .ok (.istore_n 2, 1) := by decide +kernel
theorem d5_6 : decode method_2_code 6 = .ok (.iload_n 1, 1) := by decide +kernel
theorem d5_7 : decode method_2_code 7 = .ok (.ifCond .eq 9, 3) := by decide +kernel
theorem d5_16 : decode method_2_code 16 = .ok (.iload_n 2, 1) := by decide +kernel
theorem d5_17 : decode method_2_code 17 = .ok (.ireturn, 1) := by decide +kernel
theorem pn_1 : plainName "com/example/keyer/keyer/KeyReaderInvertPinLaw" = true := by first | (simp [plainName, overriddenIn]; done) | decide +kernel
theorem pd_3 : parseMethodDescriptor "(IZ)I" = some ⟨[.int, .boolean], some .int⟩ := by decide +kernel
theorem d6_0 : decode prog_12_method_3_code 0 = .ok (.aload_n 0, 1) := by decide +kernel
theorem d6_1 : decode prog_12_method_3_code 1 = .ok (.getfield 17, 3) := by decide +kernel
theorem d6_4 : decode prog_12_method_3_code 4 = .ok (.ireturn, 1) := by decide +kernel
theorem d4_5 : decode prog_12_method_2_code 5 = .ok (.sipush 255, 3) := by decide +kernel
theorem d4_8 : decode prog_12_method_2_code 8 = .ok (.goto 4, 3) := by decide +kernel
theorem d5_10 : decode method_2_code 10 = .ok (.sipush 255, 3) := by decide +kernel
theorem d5_13 : decode method_2_code 13 = .ok (.iload_n 2, 1) := by decide +kernel
theorem d5_14 : decode method_2_code 14 = .ok (.isub, 1) := by decide +kernel
theorem d5_15 : decode method_2_code 15 = .ok (.ireturn, 1) := by decide +kernel
def Q_1 (Z : State) (w0 : Addr) (w1 : Addr) (kw1 : ClassId) (p3 : Int32) (p4 : Int32) (p5 : Int32) (p6 : Int32) (h0 : Heap) (n0 : Nat) (v : Option Value) (h : Heap) : Prop :=
  (v = none ∧ Keep h0 h [w0] ∧ Exa Z h w0 "com/example/keyer/keyer/KeyReader" ∧ Fld Z h w0 "com/example/keyer/keyer/KeyReader" "key" "[B" (.ref w1) ∧ Fld Z h w0 "com/example/keyer/keyer/KeyReader" "position" "I" (.int (0 : Int32)) ∧ Fld Z h w0 "com/example/keyer/keyer/KeyReader" "mask" "I" (.int (0 : Int32)))
set_option maxRecDepth 65536 in
set_option maxHeartbeats 40000000 in
theorem rm_1 (l : Launch) (Z : State) (a0 : Array Value) (hw : ∀ d ∈ tables_1, d.before a0 Z = true) (ws : List Jvm.Cond) (w0 : Addr) (w1 : Addr) (kw1 : ClassId) (p3 : Int32) (p4 : Int32) (p5 : Int32) (p6 : Int32) (h0 : Heap) (n0 : Nat) (Z0 : n0 ≤ h0.size) (E_w0 : Exa Z h0 w0 "com/example/keyer/keyer/KeyReader") (F_w0_key : Fld Z h0 w0 "com/example/keyer/keyer/KeyReader" "key" "[B" .null) (F_w0_position : Fld Z h0 w0 "com/example/keyer/keyer/KeyReader" "position" "I" (.int (0 : Int32))) (F_w0_mask : Fld Z h0 w0 "com/example/keyer/keyer/KeyReader" "mask" "I" (.int (0 : Int32))) (g_w0 : n0 ≤ w0) (E_w1 : Exa Z h0 w1 "[B") (V_w1 : Arv Z h0 w1 kw1 .byte (4 : Int32) [(.int p3), (.int p4), (.int p5), (.int p6)] (.int (0 : Int32))) (g_w1 : n0 ≤ w1) (ne_w0_w1 : w0 ≠ w1) :
    MetFree l (⟨"com/example/keyer/keyer/KeyReader", "<init>", "([B)V"⟩ : MethodName) (head1 (Jvm.Cond.code (⟨"com/example/keyer/keyer/KeyReader", "<init>", "([B)V"⟩ : MethodName) prog_12_method_1_code 2 none :: ws) ({ frames := 1, cells := 0, slots := 0, locals := 12 } : Room)) (fun a U => a = #[(.ref w0), (.ref w1)] ∧ Z.Warmed39 U.vm ∧ U.heap = h0) (fun _ _ _ _ _ => True) (fun _ U o U' => ∃ v L, o = .returned v ∧ (Fr n0 L ∧ Q_1 Z w0 w1 kw1 p3 p4 p5 p6 h0 n0 v U'.heap) ∧ FrameEnd U o U' L ({ frames := 1, cells := 0, slots := 0, locals := 12 } : Room).cells ({ frames := 1, cells := 0, slots := 0, locals := 12 } : Room).slots) := by
  refine own_enter (Q := Q_1 Z w0 w1 kw1 p3 p4 p5 p6 h0 n0) (F := fun m => mkF m 0 #[.val (.ref w0), .val (.ref w1)] []) (plainFor_of_name pn_0) (fun m => by first | (simp [entryFrame, mkF, argsToLocals, Value.category]; done) | rfl) ?_
  intro p e s m below meth c s₁ B X0
  have K : Keep h0 h0 [w0] := Keep.refl h0 _
  refine own_aloadN (pc' := 1) B X0 d1_0 rfl rfl rfl ?_
  refine own_objinit (pc' := 4) B X0 (own_w hw 7 rfl) (own_w hw 8 rfl) (own_w hw 9 rfl) d1_1 rfl rfl (by decide) 0 (Nat.le_of_eq rfl) (by decide) ?_
  intro T1 X1
  refine own_aloadN (pc' := 5) B X1 d1_4 rfl rfl rfl ?_
  refine own_aloadN (pc' := 6) B X1 d1_5 rfl rfl rfl ?_
  refine own_putfield (pc' := 9) B X1 (host := "") (Or.inl (own_w hw 10 rfl)) Via.refl F_w0_key E_w0 g_w0 (Or.inr ⟨(own_w hw 11 rfl), rfl, rfl⟩) (own_w hw 2 rfl) (ty := (.array .byte)) (by decide) rfl rfl d1_6 rfl ?_
  intro T2 h2 X2 W2 F_w0_key
  replace E_w0 := E_w0.wr W2
  replace F_w0_position := F_w0_position.other W2 (Or.inr (slot_ne (Or.inl (own_w hw 18 rfl)) (Or.inr (own_w hw 11 rfl)) (by decide) (t := .int) (t' := (.array .byte)) (by decide) (by decide)))
  replace F_w0_mask := F_w0_mask.other W2 (Or.inr (slot_ne (Or.inl (own_w hw 20 rfl)) (Or.inr (own_w hw 11 rfl)) (by decide) (t := .int) (t' := (.array .byte)) (by decide) (by decide)))
  replace E_w1 := E_w1.wr W2
  replace V_w1 := V_w1.other W2 (Ne.symm ne_w0_w1)
  replace K := K.wr W2 (Or.inl (List.mem_of_getElem? (i := 0) rfl))
  exact own_ret B X2 d1_9 (by decide) (by decide) (⟨rfl, K, E_w0, F_w0_key, F_w0_position, F_w0_mask⟩)
def Q_2 (Z : State) (w0 : Addr) (w1 : Addr) (kw1 : ClassId) (p3 : Int32) (p4 : Int32) (p5 : Int32) (p6 : Int32) (h0 : Heap) (n0 : Nat) (v : Option Value) (h : Heap) : Prop :=
  (∃ (y7 : Int32), p3 &&& (255 : Int32) = y7 ∧ v = some (.int y7) ∧ Keep h0 h [w0] ∧ Exa Z h w0 "com/example/keyer/keyer/KeyReader" ∧ Fld Z h w0 "com/example/keyer/keyer/KeyReader" "key" "[B" (.ref w1) ∧ Fld Z h w0 "com/example/keyer/keyer/KeyReader" "position" "I" (.int (1 : Int32)) ∧ Fld Z h w0 "com/example/keyer/keyer/KeyReader" "mask" "I" (.int (0 : Int32)))
set_option maxRecDepth 65536 in
set_option maxHeartbeats 40000000 in
theorem rm_2 (l : Launch) (Z : State) (a0 : Array Value) (hw : ∀ d ∈ tables_1, d.before a0 Z = true) (ws : List Jvm.Cond) (w0 : Addr) (w1 : Addr) (kw1 : ClassId) (p3 : Int32) (p4 : Int32) (p5 : Int32) (p6 : Int32) (h0 : Heap) (n0 : Nat) (Z0 : n0 ≤ h0.size) (E_w0 : Exa Z h0 w0 "com/example/keyer/keyer/KeyReader") (F_w0_key : Fld Z h0 w0 "com/example/keyer/keyer/KeyReader" "key" "[B" (.ref w1)) (F_w0_position : Fld Z h0 w0 "com/example/keyer/keyer/KeyReader" "position" "I" (.int (0 : Int32))) (F_w0_mask : Fld Z h0 w0 "com/example/keyer/keyer/KeyReader" "mask" "I" (.int (0 : Int32))) (g_w0 : n0 ≤ w0) (E_w1 : Exa Z h0 w1 "[B") (V_w1 : Arv Z h0 w1 kw1 .byte (4 : Int32) [(.int p3), (.int p4), (.int p5), (.int p6)] (.int (0 : Int32))) (g_w1 : n0 ≤ w1) (ne_w0_w1 : w0 ≠ w1) :
    MetFree l (⟨"com/example/keyer/keyer/KeyReader", "next", "()I"⟩ : MethodName) (head1 (Jvm.Cond.code (⟨"com/example/keyer/keyer/KeyReader", "next", "()I"⟩ : MethodName) prog_12_method_5_code 1 (some .int) :: ws) ({ frames := 0, cells := 0, slots := 0, locals := 0 } : Room)) (fun a U => a = #[(.ref w0)] ∧ Z.Warmed39 U.vm ∧ U.heap = h0) (fun _ _ _ _ _ => True) (fun _ U o U' => ∃ v L, o = .returned v ∧ (Fr n0 L ∧ Q_2 Z w0 w1 kw1 p3 p4 p5 p6 h0 n0 v U'.heap) ∧ FrameEnd U o U' L ({ frames := 0, cells := 0, slots := 0, locals := 0 } : Room).cells ({ frames := 0, cells := 0, slots := 0, locals := 0 } : Room).slots) := by
  refine own_enter (Q := Q_2 Z w0 w1 kw1 p3 p4 p5 p6 h0 n0) (F := fun m => mkF m 0 #[.val (.ref w0)] []) (plainFor_of_name pn_0) (fun m => by first | (simp [entryFrame, mkF, argsToLocals, Value.category]; done) | rfl) ?_
  intro p e s m below meth c s₁ B X0
  have K : Keep h0 h0 [w0] := Keep.refl h0 _
  refine own_aloadN (pc' := 1) B X0 d3_0 rfl rfl rfl ?_
  refine own_getfield (pc' := 4) B X0 (host := "") (Or.inl (own_w hw 17 rfl)) Via.refl F_w0_position d3_1 rfl ?_
  intro T1 X1
  refine own_aloadN (pc' := 5) B X1 d3_4 rfl rfl rfl ?_
  refine own_getfield (pc' := 8) B X1 (host := "") (Or.inl (own_w hw 10 rfl)) Via.refl F_w0_key d3_5 rfl ?_
  intro T2 X2
  refine own_arraylength (pc' := 9) B X2 V_w1 d3_8 rfl ?_
  refine own_icmpYes (pc' := 17) B X2 d3_9 (feq (by decide : ¬ ((0 : Int32) = (4 : Int32)))).2 (by decide) rfl ?_
  refine own_aloadN (pc' := 18) B X2 d3_17 rfl rfl rfl ?_
  refine own_getfield (pc' := 21) B X2 (host := "") (Or.inl (own_w hw 10 rfl)) Via.refl F_w0_key d3_18 rfl ?_
  intro T3 X3
  refine own_aloadN (pc' := 22) B X3 d3_21 rfl rfl rfl ?_
  refine own_dup (pc' := 23) B X3 d3_22 rfl rfl ?_
  refine own_getfield (pc' := 26) B X3 (host := "") (Or.inl (own_w hw 17 rfl)) Via.refl F_w0_position d3_23 rfl ?_
  intro T4 X4
  refine own_dup_x1 (pc' := 27) B X4 d3_26 rfl rfl rfl ?_
  refine own_iconst (pc' := 28) B X4 (z := (1 : Int32)) d3_27 rfl rfl ?_
  refine own_iadd (pc' := 29) B X4 (z := (1 : Int32)) d3_28 rfl (by decide) ?_
  refine own_putfield (pc' := 32) B X4 (host := "") (Or.inl (own_w hw 17 rfl)) Via.refl F_w0_position E_w0 g_w0 (Or.inl (own_w hw 18 rfl)) (own_w hw 2 rfl) (ty := .int) (by decide) rfl rfl d3_29 rfl ?_
  intro T5 h5 X5 W5 F_w0_position
  replace E_w0 := E_w0.wr W5
  replace F_w0_key := F_w0_key.other W5 (Or.inr (slot_ne (Or.inr (own_w hw 11 rfl)) (Or.inl (own_w hw 18 rfl)) (by decide) (t := (.array .byte)) (t' := .int) (by decide) (by decide)))
  replace F_w0_mask := F_w0_mask.other W5 (Or.inr (slot_ne (Or.inl (own_w hw 20 rfl)) (Or.inl (own_w hw 18 rfl)) (by decide) (t := .int) (t' := .int) (by decide) (by decide)))
  replace E_w1 := E_w1.wr W5
  replace V_w1 := V_w1.other W5 (Ne.symm ne_w0_w1)
  replace K := K.wr W5 (Or.inl (List.mem_of_getElem? (i := 0) rfl))
  refine own_baload (pc' := 33) B X5 V_w1 (v := (.int p3)) ⟨by decide, by decide⟩ rfl d3_32 rfl ?_
  refine own_aloadN (pc' := 34) B X5 d3_33 rfl rfl rfl ?_
  refine own_getfield (pc' := 37) B X5 (host := "") (Or.inl (own_w hw 19 rfl)) Via.refl F_w0_mask d3_34 rfl ?_
  intro T6 X6
  refine own_ixor (pc' := 38) B X6 d3_37 rfl (own_xor0 _) ?_
  refine own_sipush (pc' := 41) B X6 (z := (255 : Int32)) d3_38 rfl (by decide) ?_
  obtain ⟨y7, hy7⟩ : ∃ z : Int32, p3 &&& (255 : Int32) = z := ⟨_, rfl⟩
  refine own_iand (pc' := 42) B X6 d3_41 rfl hy7 ?_
  exact own_retI B X6 d3_42 (by decide) (by decide) (⟨y7, hy7, rfl, K, E_w0, F_w0_key, F_w0_position, F_w0_mask⟩)
def Q_3 (Z : State) (w0 : Addr) (w1 : Addr) (kw1 : ClassId) (p3 : Int32) (p4 : Int32) (p5 : Int32) (p6 : Int32) (h0 : Heap) (n0 : Nat) (v : Option Value) (h : Heap) : Prop :=
  (v = none ∧ Keep h0 h [w0] ∧ Exa Z h w0 "com/example/keyer/keyer/KeyReader" ∧ Fld Z h w0 "com/example/keyer/keyer/KeyReader" "key" "[B" (.ref w1) ∧ Fld Z h w0 "com/example/keyer/keyer/KeyReader" "position" "I" (.int (1 : Int32)) ∧ Fld Z h w0 "com/example/keyer/keyer/KeyReader" "mask" "I" (.int (0 : Int32)))
set_option maxRecDepth 65536 in
set_option maxHeartbeats 40000000 in
theorem rm_3 (l : Launch) (Z : State) (a0 : Array Value) (hw : ∀ d ∈ tables_1, d.before a0 Z = true) (ws : List Jvm.Cond) (w0 : Addr) (w1 : Addr) (kw1 : ClassId) (p3 : Int32) (p4 : Int32) (p5 : Int32) (p6 : Int32) (h0 : Heap) (n0 : Nat) (Z0 : n0 ≤ h0.size) (E_w0 : Exa Z h0 w0 "com/example/keyer/keyer/KeyReader") (F_w0_key : Fld Z h0 w0 "com/example/keyer/keyer/KeyReader" "key" "[B" (.ref w1)) (F_w0_position : Fld Z h0 w0 "com/example/keyer/keyer/KeyReader" "position" "I" (.int (1 : Int32))) (F_w0_mask : Fld Z h0 w0 "com/example/keyer/keyer/KeyReader" "mask" "I" (.int (0 : Int32))) (g_w0 : n0 ≤ w0) (E_w1 : Exa Z h0 w1 "[B") (V_w1 : Arv Z h0 w1 kw1 .byte (4 : Int32) [(.int p3), (.int p4), (.int p5), (.int p6)] (.int (0 : Int32))) (g_w1 : n0 ≤ w1) (ne_w0_w1 : w0 ≠ w1) :
    MetFree l (⟨"com/example/keyer/keyer/KeyReader", "invert", "(Z)V"⟩ : MethodName) (head1 (Jvm.Cond.code (⟨"com/example/keyer/keyer/KeyReader", "invert", "(Z)V"⟩ : MethodName) prog_12_method_2_code 2 none :: ws) ({ frames := 0, cells := 0, slots := 0, locals := 0 } : Room)) (fun a U => a = #[(.ref w0), (.int (0 : Int32))] ∧ Z.Warmed39 U.vm ∧ U.heap = h0) (fun _ _ _ _ _ => True) (fun _ U o U' => ∃ v L, o = .returned v ∧ (Fr n0 L ∧ Q_3 Z w0 w1 kw1 p3 p4 p5 p6 h0 n0 v U'.heap) ∧ FrameEnd U o U' L ({ frames := 0, cells := 0, slots := 0, locals := 0 } : Room).cells ({ frames := 0, cells := 0, slots := 0, locals := 0 } : Room).slots) := by
  refine own_enter (Q := Q_3 Z w0 w1 kw1 p3 p4 p5 p6 h0 n0) (F := fun m => mkF m 0 #[.val (.ref w0), .val (.int (0 : Int32))] []) (plainFor_of_name pn_0) (fun m => by first | (simp [entryFrame, mkF, argsToLocals, Value.category]; done) | rfl) ?_
  intro p e s m below meth c s₁ B X0
  have K : Keep h0 h0 [w0] := Keep.refl h0 _
  refine own_aloadN (pc' := 1) B X0 d4_0 rfl rfl rfl ?_
  refine own_iloadN (pc' := 2) B X0 d4_1 rfl rfl ?_
  refine own_ifYes (pc' := 11) B X0 d4_2 ((if0 _ _).trans (teq (by decide : (0 : Int32) = (0 : Int32))).1) (by decide) rfl ?_
  refine own_iconst (pc' := 12) B X0 (z := (0 : Int32)) d4_11 rfl rfl ?_
  refine own_putfield (pc' := 15) B X0 (host := "") (Or.inl (own_w hw 19 rfl)) Via.refl F_w0_mask E_w0 g_w0 (Or.inl (own_w hw 20 rfl)) (own_w hw 2 rfl) (ty := .int) (by decide) rfl rfl d4_12 rfl ?_
  intro T1 h1 X1 W1 F_w0_mask
  replace E_w0 := E_w0.wr W1
  replace F_w0_key := F_w0_key.other W1 (Or.inr (slot_ne (Or.inr (own_w hw 11 rfl)) (Or.inl (own_w hw 20 rfl)) (by decide) (t := (.array .byte)) (t' := .int) (by decide) (by decide)))
  replace F_w0_position := F_w0_position.other W1 (Or.inr (slot_ne (Or.inl (own_w hw 18 rfl)) (Or.inl (own_w hw 20 rfl)) (by decide) (t := .int) (t' := .int) (by decide) (by decide)))
  replace E_w1 := E_w1.wr W1
  replace V_w1 := V_w1.other W1 (Ne.symm ne_w0_w1)
  replace K := K.wr W1 (Or.inl (List.mem_of_getElem? (i := 0) rfl))
  exact own_ret B X1 d4_15 (by decide) (by decide) (⟨rfl, K, E_w0, F_w0_key, F_w0_position, F_w0_mask⟩)
def Q_4 (Z : State) (w0 : Addr) (w1 : Addr) (kw1 : ClassId) (p3 : Int32) (p4 : Int32) (p5 : Int32) (p6 : Int32) (h0 : Heap) (n0 : Nat) (v : Option Value) (h : Heap) : Prop :=
  (∃ (y7 : Int32), p4 &&& (255 : Int32) = y7 ∧ v = some (.int y7) ∧ Keep h0 h [w0] ∧ Exa Z h w0 "com/example/keyer/keyer/KeyReader" ∧ Fld Z h w0 "com/example/keyer/keyer/KeyReader" "key" "[B" (.ref w1) ∧ Fld Z h w0 "com/example/keyer/keyer/KeyReader" "position" "I" (.int (2 : Int32)) ∧ Fld Z h w0 "com/example/keyer/keyer/KeyReader" "mask" "I" (.int (0 : Int32)))
set_option maxRecDepth 65536 in
set_option maxHeartbeats 40000000 in
theorem rm_4 (l : Launch) (Z : State) (a0 : Array Value) (hw : ∀ d ∈ tables_1, d.before a0 Z = true) (ws : List Jvm.Cond) (w0 : Addr) (w1 : Addr) (kw1 : ClassId) (p3 : Int32) (p4 : Int32) (p5 : Int32) (p6 : Int32) (h0 : Heap) (n0 : Nat) (Z0 : n0 ≤ h0.size) (E_w0 : Exa Z h0 w0 "com/example/keyer/keyer/KeyReader") (F_w0_key : Fld Z h0 w0 "com/example/keyer/keyer/KeyReader" "key" "[B" (.ref w1)) (F_w0_position : Fld Z h0 w0 "com/example/keyer/keyer/KeyReader" "position" "I" (.int (1 : Int32))) (F_w0_mask : Fld Z h0 w0 "com/example/keyer/keyer/KeyReader" "mask" "I" (.int (0 : Int32))) (g_w0 : n0 ≤ w0) (E_w1 : Exa Z h0 w1 "[B") (V_w1 : Arv Z h0 w1 kw1 .byte (4 : Int32) [(.int p3), (.int p4), (.int p5), (.int p6)] (.int (0 : Int32))) (g_w1 : n0 ≤ w1) (ne_w0_w1 : w0 ≠ w1) :
    MetFree l (⟨"com/example/keyer/keyer/KeyReader", "next", "()I"⟩ : MethodName) (head1 (Jvm.Cond.code (⟨"com/example/keyer/keyer/KeyReader", "next", "()I"⟩ : MethodName) prog_12_method_5_code 1 (some .int) :: ws) ({ frames := 0, cells := 0, slots := 0, locals := 0 } : Room)) (fun a U => a = #[(.ref w0)] ∧ Z.Warmed39 U.vm ∧ U.heap = h0) (fun _ _ _ _ _ => True) (fun _ U o U' => ∃ v L, o = .returned v ∧ (Fr n0 L ∧ Q_4 Z w0 w1 kw1 p3 p4 p5 p6 h0 n0 v U'.heap) ∧ FrameEnd U o U' L ({ frames := 0, cells := 0, slots := 0, locals := 0 } : Room).cells ({ frames := 0, cells := 0, slots := 0, locals := 0 } : Room).slots) := by
  refine own_enter (Q := Q_4 Z w0 w1 kw1 p3 p4 p5 p6 h0 n0) (F := fun m => mkF m 0 #[.val (.ref w0)] []) (plainFor_of_name pn_0) (fun m => by first | (simp [entryFrame, mkF, argsToLocals, Value.category]; done) | rfl) ?_
  intro p e s m below meth c s₁ B X0
  have K : Keep h0 h0 [w0] := Keep.refl h0 _
  refine own_aloadN (pc' := 1) B X0 d3_0 rfl rfl rfl ?_
  refine own_getfield (pc' := 4) B X0 (host := "") (Or.inl (own_w hw 17 rfl)) Via.refl F_w0_position d3_1 rfl ?_
  intro T1 X1
  refine own_aloadN (pc' := 5) B X1 d3_4 rfl rfl rfl ?_
  refine own_getfield (pc' := 8) B X1 (host := "") (Or.inl (own_w hw 10 rfl)) Via.refl F_w0_key d3_5 rfl ?_
  intro T2 X2
  refine own_arraylength (pc' := 9) B X2 V_w1 d3_8 rfl ?_
  refine own_icmpYes (pc' := 17) B X2 d3_9 (feq (by decide : ¬ ((1 : Int32) = (4 : Int32)))).2 (by decide) rfl ?_
  refine own_aloadN (pc' := 18) B X2 d3_17 rfl rfl rfl ?_
  refine own_getfield (pc' := 21) B X2 (host := "") (Or.inl (own_w hw 10 rfl)) Via.refl F_w0_key d3_18 rfl ?_
  intro T3 X3
  refine own_aloadN (pc' := 22) B X3 d3_21 rfl rfl rfl ?_
  refine own_dup (pc' := 23) B X3 d3_22 rfl rfl ?_
  refine own_getfield (pc' := 26) B X3 (host := "") (Or.inl (own_w hw 17 rfl)) Via.refl F_w0_position d3_23 rfl ?_
  intro T4 X4
  refine own_dup_x1 (pc' := 27) B X4 d3_26 rfl rfl rfl ?_
  refine own_iconst (pc' := 28) B X4 (z := (1 : Int32)) d3_27 rfl rfl ?_
  refine own_iadd (pc' := 29) B X4 (z := (2 : Int32)) d3_28 rfl (by decide) ?_
  refine own_putfield (pc' := 32) B X4 (host := "") (Or.inl (own_w hw 17 rfl)) Via.refl F_w0_position E_w0 g_w0 (Or.inl (own_w hw 18 rfl)) (own_w hw 2 rfl) (ty := .int) (by decide) rfl rfl d3_29 rfl ?_
  intro T5 h5 X5 W5 F_w0_position
  replace E_w0 := E_w0.wr W5
  replace F_w0_key := F_w0_key.other W5 (Or.inr (slot_ne (Or.inr (own_w hw 11 rfl)) (Or.inl (own_w hw 18 rfl)) (by decide) (t := (.array .byte)) (t' := .int) (by decide) (by decide)))
  replace F_w0_mask := F_w0_mask.other W5 (Or.inr (slot_ne (Or.inl (own_w hw 20 rfl)) (Or.inl (own_w hw 18 rfl)) (by decide) (t := .int) (t' := .int) (by decide) (by decide)))
  replace E_w1 := E_w1.wr W5
  replace V_w1 := V_w1.other W5 (Ne.symm ne_w0_w1)
  replace K := K.wr W5 (Or.inl (List.mem_of_getElem? (i := 0) rfl))
  refine own_baload (pc' := 33) B X5 V_w1 (v := (.int p4)) ⟨by decide, by decide⟩ rfl d3_32 rfl ?_
  refine own_aloadN (pc' := 34) B X5 d3_33 rfl rfl rfl ?_
  refine own_getfield (pc' := 37) B X5 (host := "") (Or.inl (own_w hw 19 rfl)) Via.refl F_w0_mask d3_34 rfl ?_
  intro T6 X6
  refine own_ixor (pc' := 38) B X6 d3_37 rfl (own_xor0 _) ?_
  refine own_sipush (pc' := 41) B X6 (z := (255 : Int32)) d3_38 rfl (by decide) ?_
  obtain ⟨y7, hy7⟩ : ∃ z : Int32, p4 &&& (255 : Int32) = z := ⟨_, rfl⟩
  refine own_iand (pc' := 42) B X6 d3_41 rfl hy7 ?_
  exact own_retI B X6 d3_42 (by decide) (by decide) (⟨y7, hy7, rfl, K, E_w0, F_w0_key, F_w0_position, F_w0_mask⟩)
def Q_5 (Z : State) (w0 : Addr) (w1 : Addr) (kw1 : ClassId) (p3 : Int32) (p4 : Int32) (p5 : Int32) (p6 : Int32) (h0 : Heap) (n0 : Nat) (v : Option Value) (h : Heap) : Prop :=
  (v = none ∧ Keep h0 h [w0] ∧ Exa Z h w0 "com/example/keyer/keyer/KeyReader" ∧ Fld Z h w0 "com/example/keyer/keyer/KeyReader" "key" "[B" (.ref w1) ∧ Fld Z h w0 "com/example/keyer/keyer/KeyReader" "position" "I" (.int (2 : Int32)) ∧ Fld Z h w0 "com/example/keyer/keyer/KeyReader" "mask" "I" (.int (0 : Int32)))
set_option maxRecDepth 65536 in
set_option maxHeartbeats 40000000 in
theorem rm_5 (l : Launch) (Z : State) (a0 : Array Value) (hw : ∀ d ∈ tables_1, d.before a0 Z = true) (ws : List Jvm.Cond) (w0 : Addr) (w1 : Addr) (kw1 : ClassId) (p3 : Int32) (p4 : Int32) (p5 : Int32) (p6 : Int32) (h0 : Heap) (n0 : Nat) (Z0 : n0 ≤ h0.size) (E_w0 : Exa Z h0 w0 "com/example/keyer/keyer/KeyReader") (F_w0_key : Fld Z h0 w0 "com/example/keyer/keyer/KeyReader" "key" "[B" (.ref w1)) (F_w0_position : Fld Z h0 w0 "com/example/keyer/keyer/KeyReader" "position" "I" (.int (2 : Int32))) (F_w0_mask : Fld Z h0 w0 "com/example/keyer/keyer/KeyReader" "mask" "I" (.int (0 : Int32))) (g_w0 : n0 ≤ w0) (E_w1 : Exa Z h0 w1 "[B") (V_w1 : Arv Z h0 w1 kw1 .byte (4 : Int32) [(.int p3), (.int p4), (.int p5), (.int p6)] (.int (0 : Int32))) (g_w1 : n0 ≤ w1) (ne_w0_w1 : w0 ≠ w1) :
    MetFree l (⟨"com/example/keyer/keyer/KeyReader", "invert", "(Z)V"⟩ : MethodName) (head1 (Jvm.Cond.code (⟨"com/example/keyer/keyer/KeyReader", "invert", "(Z)V"⟩ : MethodName) prog_12_method_2_code 2 none :: ws) ({ frames := 0, cells := 0, slots := 0, locals := 0 } : Room)) (fun a U => a = #[(.ref w0), (.int (0 : Int32))] ∧ Z.Warmed39 U.vm ∧ U.heap = h0) (fun _ _ _ _ _ => True) (fun _ U o U' => ∃ v L, o = .returned v ∧ (Fr n0 L ∧ Q_5 Z w0 w1 kw1 p3 p4 p5 p6 h0 n0 v U'.heap) ∧ FrameEnd U o U' L ({ frames := 0, cells := 0, slots := 0, locals := 0 } : Room).cells ({ frames := 0, cells := 0, slots := 0, locals := 0 } : Room).slots) := by
  refine own_enter (Q := Q_5 Z w0 w1 kw1 p3 p4 p5 p6 h0 n0) (F := fun m => mkF m 0 #[.val (.ref w0), .val (.int (0 : Int32))] []) (plainFor_of_name pn_0) (fun m => by first | (simp [entryFrame, mkF, argsToLocals, Value.category]; done) | rfl) ?_
  intro p e s m below meth c s₁ B X0
  have K : Keep h0 h0 [w0] := Keep.refl h0 _
  refine own_aloadN (pc' := 1) B X0 d4_0 rfl rfl rfl ?_
  refine own_iloadN (pc' := 2) B X0 d4_1 rfl rfl ?_
  refine own_ifYes (pc' := 11) B X0 d4_2 ((if0 _ _).trans (teq (by decide : (0 : Int32) = (0 : Int32))).1) (by decide) rfl ?_
  refine own_iconst (pc' := 12) B X0 (z := (0 : Int32)) d4_11 rfl rfl ?_
  refine own_putfield (pc' := 15) B X0 (host := "") (Or.inl (own_w hw 19 rfl)) Via.refl F_w0_mask E_w0 g_w0 (Or.inl (own_w hw 20 rfl)) (own_w hw 2 rfl) (ty := .int) (by decide) rfl rfl d4_12 rfl ?_
  intro T1 h1 X1 W1 F_w0_mask
  replace E_w0 := E_w0.wr W1
  replace F_w0_key := F_w0_key.other W1 (Or.inr (slot_ne (Or.inr (own_w hw 11 rfl)) (Or.inl (own_w hw 20 rfl)) (by decide) (t := (.array .byte)) (t' := .int) (by decide) (by decide)))
  replace F_w0_position := F_w0_position.other W1 (Or.inr (slot_ne (Or.inl (own_w hw 18 rfl)) (Or.inl (own_w hw 20 rfl)) (by decide) (t := .int) (t' := .int) (by decide) (by decide)))
  replace E_w1 := E_w1.wr W1
  replace V_w1 := V_w1.other W1 (Ne.symm ne_w0_w1)
  replace K := K.wr W1 (Or.inl (List.mem_of_getElem? (i := 0) rfl))
  exact own_ret B X1 d4_15 (by decide) (by decide) (⟨rfl, K, E_w0, F_w0_key, F_w0_position, F_w0_mask⟩)
def Q_6 (Z : State) (w0 : Addr) (w1 : Addr) (kw1 : ClassId) (p3 : Int32) (p4 : Int32) (p5 : Int32) (p6 : Int32) (h0 : Heap) (n0 : Nat) (v : Option Value) (h : Heap) : Prop :=
  (∃ (y7 : Int32), p5 &&& (255 : Int32) = y7 ∧ v = some (.int y7) ∧ Keep h0 h [w0] ∧ Exa Z h w0 "com/example/keyer/keyer/KeyReader" ∧ Fld Z h w0 "com/example/keyer/keyer/KeyReader" "key" "[B" (.ref w1) ∧ Fld Z h w0 "com/example/keyer/keyer/KeyReader" "position" "I" (.int (3 : Int32)) ∧ Fld Z h w0 "com/example/keyer/keyer/KeyReader" "mask" "I" (.int (0 : Int32)))
set_option maxRecDepth 65536 in
set_option maxHeartbeats 40000000 in
theorem rm_6 (l : Launch) (Z : State) (a0 : Array Value) (hw : ∀ d ∈ tables_1, d.before a0 Z = true) (ws : List Jvm.Cond) (w0 : Addr) (w1 : Addr) (kw1 : ClassId) (p3 : Int32) (p4 : Int32) (p5 : Int32) (p6 : Int32) (h0 : Heap) (n0 : Nat) (Z0 : n0 ≤ h0.size) (E_w0 : Exa Z h0 w0 "com/example/keyer/keyer/KeyReader") (F_w0_key : Fld Z h0 w0 "com/example/keyer/keyer/KeyReader" "key" "[B" (.ref w1)) (F_w0_position : Fld Z h0 w0 "com/example/keyer/keyer/KeyReader" "position" "I" (.int (2 : Int32))) (F_w0_mask : Fld Z h0 w0 "com/example/keyer/keyer/KeyReader" "mask" "I" (.int (0 : Int32))) (g_w0 : n0 ≤ w0) (E_w1 : Exa Z h0 w1 "[B") (V_w1 : Arv Z h0 w1 kw1 .byte (4 : Int32) [(.int p3), (.int p4), (.int p5), (.int p6)] (.int (0 : Int32))) (g_w1 : n0 ≤ w1) (ne_w0_w1 : w0 ≠ w1) :
    MetFree l (⟨"com/example/keyer/keyer/KeyReader", "next", "()I"⟩ : MethodName) (head1 (Jvm.Cond.code (⟨"com/example/keyer/keyer/KeyReader", "next", "()I"⟩ : MethodName) prog_12_method_5_code 1 (some .int) :: ws) ({ frames := 0, cells := 0, slots := 0, locals := 0 } : Room)) (fun a U => a = #[(.ref w0)] ∧ Z.Warmed39 U.vm ∧ U.heap = h0) (fun _ _ _ _ _ => True) (fun _ U o U' => ∃ v L, o = .returned v ∧ (Fr n0 L ∧ Q_6 Z w0 w1 kw1 p3 p4 p5 p6 h0 n0 v U'.heap) ∧ FrameEnd U o U' L ({ frames := 0, cells := 0, slots := 0, locals := 0 } : Room).cells ({ frames := 0, cells := 0, slots := 0, locals := 0 } : Room).slots) := by
  refine own_enter (Q := Q_6 Z w0 w1 kw1 p3 p4 p5 p6 h0 n0) (F := fun m => mkF m 0 #[.val (.ref w0)] []) (plainFor_of_name pn_0) (fun m => by first | (simp [entryFrame, mkF, argsToLocals, Value.category]; done) | rfl) ?_
  intro p e s m below meth c s₁ B X0
  have K : Keep h0 h0 [w0] := Keep.refl h0 _
  refine own_aloadN (pc' := 1) B X0 d3_0 rfl rfl rfl ?_
  refine own_getfield (pc' := 4) B X0 (host := "") (Or.inl (own_w hw 17 rfl)) Via.refl F_w0_position d3_1 rfl ?_
  intro T1 X1
  refine own_aloadN (pc' := 5) B X1 d3_4 rfl rfl rfl ?_
  refine own_getfield (pc' := 8) B X1 (host := "") (Or.inl (own_w hw 10 rfl)) Via.refl F_w0_key d3_5 rfl ?_
  intro T2 X2
  refine own_arraylength (pc' := 9) B X2 V_w1 d3_8 rfl ?_
  refine own_icmpYes (pc' := 17) B X2 d3_9 (feq (by decide : ¬ ((2 : Int32) = (4 : Int32)))).2 (by decide) rfl ?_
  refine own_aloadN (pc' := 18) B X2 d3_17 rfl rfl rfl ?_
  refine own_getfield (pc' := 21) B X2 (host := "") (Or.inl (own_w hw 10 rfl)) Via.refl F_w0_key d3_18 rfl ?_
  intro T3 X3
  refine own_aloadN (pc' := 22) B X3 d3_21 rfl rfl rfl ?_
  refine own_dup (pc' := 23) B X3 d3_22 rfl rfl ?_
  refine own_getfield (pc' := 26) B X3 (host := "") (Or.inl (own_w hw 17 rfl)) Via.refl F_w0_position d3_23 rfl ?_
  intro T4 X4
  refine own_dup_x1 (pc' := 27) B X4 d3_26 rfl rfl rfl ?_
  refine own_iconst (pc' := 28) B X4 (z := (1 : Int32)) d3_27 rfl rfl ?_
  refine own_iadd (pc' := 29) B X4 (z := (3 : Int32)) d3_28 rfl (by decide) ?_
  refine own_putfield (pc' := 32) B X4 (host := "") (Or.inl (own_w hw 17 rfl)) Via.refl F_w0_position E_w0 g_w0 (Or.inl (own_w hw 18 rfl)) (own_w hw 2 rfl) (ty := .int) (by decide) rfl rfl d3_29 rfl ?_
  intro T5 h5 X5 W5 F_w0_position
  replace E_w0 := E_w0.wr W5
  replace F_w0_key := F_w0_key.other W5 (Or.inr (slot_ne (Or.inr (own_w hw 11 rfl)) (Or.inl (own_w hw 18 rfl)) (by decide) (t := (.array .byte)) (t' := .int) (by decide) (by decide)))
  replace F_w0_mask := F_w0_mask.other W5 (Or.inr (slot_ne (Or.inl (own_w hw 20 rfl)) (Or.inl (own_w hw 18 rfl)) (by decide) (t := .int) (t' := .int) (by decide) (by decide)))
  replace E_w1 := E_w1.wr W5
  replace V_w1 := V_w1.other W5 (Ne.symm ne_w0_w1)
  replace K := K.wr W5 (Or.inl (List.mem_of_getElem? (i := 0) rfl))
  refine own_baload (pc' := 33) B X5 V_w1 (v := (.int p5)) ⟨by decide, by decide⟩ rfl d3_32 rfl ?_
  refine own_aloadN (pc' := 34) B X5 d3_33 rfl rfl rfl ?_
  refine own_getfield (pc' := 37) B X5 (host := "") (Or.inl (own_w hw 19 rfl)) Via.refl F_w0_mask d3_34 rfl ?_
  intro T6 X6
  refine own_ixor (pc' := 38) B X6 d3_37 rfl (own_xor0 _) ?_
  refine own_sipush (pc' := 41) B X6 (z := (255 : Int32)) d3_38 rfl (by decide) ?_
  obtain ⟨y7, hy7⟩ : ∃ z : Int32, p5 &&& (255 : Int32) = z := ⟨_, rfl⟩
  refine own_iand (pc' := 42) B X6 d3_41 rfl hy7 ?_
  exact own_retI B X6 d3_42 (by decide) (by decide) (⟨y7, hy7, rfl, K, E_w0, F_w0_key, F_w0_position, F_w0_mask⟩)
def Q_7 (Z : State) (w0 : Addr) (w1 : Addr) (kw1 : ClassId) (p3 : Int32) (p4 : Int32) (p5 : Int32) (p6 : Int32) (h0 : Heap) (n0 : Nat) (v : Option Value) (h : Heap) : Prop :=
  (v = none ∧ Keep h0 h [w0] ∧ Exa Z h w0 "com/example/keyer/keyer/KeyReader" ∧ Fld Z h w0 "com/example/keyer/keyer/KeyReader" "key" "[B" (.ref w1) ∧ Fld Z h w0 "com/example/keyer/keyer/KeyReader" "position" "I" (.int (3 : Int32)) ∧ Fld Z h w0 "com/example/keyer/keyer/KeyReader" "mask" "I" (.int (0 : Int32)))
set_option maxRecDepth 65536 in
set_option maxHeartbeats 40000000 in
theorem rm_7 (l : Launch) (Z : State) (a0 : Array Value) (hw : ∀ d ∈ tables_1, d.before a0 Z = true) (ws : List Jvm.Cond) (w0 : Addr) (w1 : Addr) (kw1 : ClassId) (p3 : Int32) (p4 : Int32) (p5 : Int32) (p6 : Int32) (h0 : Heap) (n0 : Nat) (Z0 : n0 ≤ h0.size) (E_w0 : Exa Z h0 w0 "com/example/keyer/keyer/KeyReader") (F_w0_key : Fld Z h0 w0 "com/example/keyer/keyer/KeyReader" "key" "[B" (.ref w1)) (F_w0_position : Fld Z h0 w0 "com/example/keyer/keyer/KeyReader" "position" "I" (.int (3 : Int32))) (F_w0_mask : Fld Z h0 w0 "com/example/keyer/keyer/KeyReader" "mask" "I" (.int (0 : Int32))) (g_w0 : n0 ≤ w0) (E_w1 : Exa Z h0 w1 "[B") (V_w1 : Arv Z h0 w1 kw1 .byte (4 : Int32) [(.int p3), (.int p4), (.int p5), (.int p6)] (.int (0 : Int32))) (g_w1 : n0 ≤ w1) (ne_w0_w1 : w0 ≠ w1) :
    MetFree l (⟨"com/example/keyer/keyer/KeyReader", "invert", "(Z)V"⟩ : MethodName) (head1 (Jvm.Cond.code (⟨"com/example/keyer/keyer/KeyReader", "invert", "(Z)V"⟩ : MethodName) prog_12_method_2_code 2 none :: ws) ({ frames := 0, cells := 0, slots := 0, locals := 0 } : Room)) (fun a U => a = #[(.ref w0), (.int (0 : Int32))] ∧ Z.Warmed39 U.vm ∧ U.heap = h0) (fun _ _ _ _ _ => True) (fun _ U o U' => ∃ v L, o = .returned v ∧ (Fr n0 L ∧ Q_7 Z w0 w1 kw1 p3 p4 p5 p6 h0 n0 v U'.heap) ∧ FrameEnd U o U' L ({ frames := 0, cells := 0, slots := 0, locals := 0 } : Room).cells ({ frames := 0, cells := 0, slots := 0, locals := 0 } : Room).slots) := by
  refine own_enter (Q := Q_7 Z w0 w1 kw1 p3 p4 p5 p6 h0 n0) (F := fun m => mkF m 0 #[.val (.ref w0), .val (.int (0 : Int32))] []) (plainFor_of_name pn_0) (fun m => by first | (simp [entryFrame, mkF, argsToLocals, Value.category]; done) | rfl) ?_
  intro p e s m below meth c s₁ B X0
  have K : Keep h0 h0 [w0] := Keep.refl h0 _
  refine own_aloadN (pc' := 1) B X0 d4_0 rfl rfl rfl ?_
  refine own_iloadN (pc' := 2) B X0 d4_1 rfl rfl ?_
  refine own_ifYes (pc' := 11) B X0 d4_2 ((if0 _ _).trans (teq (by decide : (0 : Int32) = (0 : Int32))).1) (by decide) rfl ?_
  refine own_iconst (pc' := 12) B X0 (z := (0 : Int32)) d4_11 rfl rfl ?_
  refine own_putfield (pc' := 15) B X0 (host := "") (Or.inl (own_w hw 19 rfl)) Via.refl F_w0_mask E_w0 g_w0 (Or.inl (own_w hw 20 rfl)) (own_w hw 2 rfl) (ty := .int) (by decide) rfl rfl d4_12 rfl ?_
  intro T1 h1 X1 W1 F_w0_mask
  replace E_w0 := E_w0.wr W1
  replace F_w0_key := F_w0_key.other W1 (Or.inr (slot_ne (Or.inr (own_w hw 11 rfl)) (Or.inl (own_w hw 20 rfl)) (by decide) (t := (.array .byte)) (t' := .int) (by decide) (by decide)))
  replace F_w0_position := F_w0_position.other W1 (Or.inr (slot_ne (Or.inl (own_w hw 18 rfl)) (Or.inl (own_w hw 20 rfl)) (by decide) (t := .int) (t' := .int) (by decide) (by decide)))
  replace E_w1 := E_w1.wr W1
  replace V_w1 := V_w1.other W1 (Ne.symm ne_w0_w1)
  replace K := K.wr W1 (Or.inl (List.mem_of_getElem? (i := 0) rfl))
  exact own_ret B X1 d4_15 (by decide) (by decide) (⟨rfl, K, E_w0, F_w0_key, F_w0_position, F_w0_mask⟩)
def Q_8 (Z : State) (w0 : Addr) (w1 : Addr) (kw1 : ClassId) (p3 : Int32) (p4 : Int32) (p5 : Int32) (p6 : Int32) (h0 : Heap) (n0 : Nat) (v : Option Value) (h : Heap) : Prop :=
  (∃ (y7 : Int32), p6 &&& (255 : Int32) = y7 ∧ v = some (.int y7) ∧ Keep h0 h [w0] ∧ Exa Z h w0 "com/example/keyer/keyer/KeyReader" ∧ Fld Z h w0 "com/example/keyer/keyer/KeyReader" "key" "[B" (.ref w1) ∧ Fld Z h w0 "com/example/keyer/keyer/KeyReader" "position" "I" (.int (4 : Int32)) ∧ Fld Z h w0 "com/example/keyer/keyer/KeyReader" "mask" "I" (.int (0 : Int32)))
set_option maxRecDepth 65536 in
set_option maxHeartbeats 40000000 in
theorem rm_8 (l : Launch) (Z : State) (a0 : Array Value) (hw : ∀ d ∈ tables_1, d.before a0 Z = true) (ws : List Jvm.Cond) (w0 : Addr) (w1 : Addr) (kw1 : ClassId) (p3 : Int32) (p4 : Int32) (p5 : Int32) (p6 : Int32) (h0 : Heap) (n0 : Nat) (Z0 : n0 ≤ h0.size) (E_w0 : Exa Z h0 w0 "com/example/keyer/keyer/KeyReader") (F_w0_key : Fld Z h0 w0 "com/example/keyer/keyer/KeyReader" "key" "[B" (.ref w1)) (F_w0_position : Fld Z h0 w0 "com/example/keyer/keyer/KeyReader" "position" "I" (.int (3 : Int32))) (F_w0_mask : Fld Z h0 w0 "com/example/keyer/keyer/KeyReader" "mask" "I" (.int (0 : Int32))) (g_w0 : n0 ≤ w0) (E_w1 : Exa Z h0 w1 "[B") (V_w1 : Arv Z h0 w1 kw1 .byte (4 : Int32) [(.int p3), (.int p4), (.int p5), (.int p6)] (.int (0 : Int32))) (g_w1 : n0 ≤ w1) (ne_w0_w1 : w0 ≠ w1) :
    MetFree l (⟨"com/example/keyer/keyer/KeyReader", "next", "()I"⟩ : MethodName) (head1 (Jvm.Cond.code (⟨"com/example/keyer/keyer/KeyReader", "next", "()I"⟩ : MethodName) prog_12_method_5_code 1 (some .int) :: ws) ({ frames := 0, cells := 0, slots := 0, locals := 0 } : Room)) (fun a U => a = #[(.ref w0)] ∧ Z.Warmed39 U.vm ∧ U.heap = h0) (fun _ _ _ _ _ => True) (fun _ U o U' => ∃ v L, o = .returned v ∧ (Fr n0 L ∧ Q_8 Z w0 w1 kw1 p3 p4 p5 p6 h0 n0 v U'.heap) ∧ FrameEnd U o U' L ({ frames := 0, cells := 0, slots := 0, locals := 0 } : Room).cells ({ frames := 0, cells := 0, slots := 0, locals := 0 } : Room).slots) := by
  refine own_enter (Q := Q_8 Z w0 w1 kw1 p3 p4 p5 p6 h0 n0) (F := fun m => mkF m 0 #[.val (.ref w0)] []) (plainFor_of_name pn_0) (fun m => by first | (simp [entryFrame, mkF, argsToLocals, Value.category]; done) | rfl) ?_
  intro p e s m below meth c s₁ B X0
  have K : Keep h0 h0 [w0] := Keep.refl h0 _
  refine own_aloadN (pc' := 1) B X0 d3_0 rfl rfl rfl ?_
  refine own_getfield (pc' := 4) B X0 (host := "") (Or.inl (own_w hw 17 rfl)) Via.refl F_w0_position d3_1 rfl ?_
  intro T1 X1
  refine own_aloadN (pc' := 5) B X1 d3_4 rfl rfl rfl ?_
  refine own_getfield (pc' := 8) B X1 (host := "") (Or.inl (own_w hw 10 rfl)) Via.refl F_w0_key d3_5 rfl ?_
  intro T2 X2
  refine own_arraylength (pc' := 9) B X2 V_w1 d3_8 rfl ?_
  refine own_icmpYes (pc' := 17) B X2 d3_9 (feq (by decide : ¬ ((3 : Int32) = (4 : Int32)))).2 (by decide) rfl ?_
  refine own_aloadN (pc' := 18) B X2 d3_17 rfl rfl rfl ?_
  refine own_getfield (pc' := 21) B X2 (host := "") (Or.inl (own_w hw 10 rfl)) Via.refl F_w0_key d3_18 rfl ?_
  intro T3 X3
  refine own_aloadN (pc' := 22) B X3 d3_21 rfl rfl rfl ?_
  refine own_dup (pc' := 23) B X3 d3_22 rfl rfl ?_
  refine own_getfield (pc' := 26) B X3 (host := "") (Or.inl (own_w hw 17 rfl)) Via.refl F_w0_position d3_23 rfl ?_
  intro T4 X4
  refine own_dup_x1 (pc' := 27) B X4 d3_26 rfl rfl rfl ?_
  refine own_iconst (pc' := 28) B X4 (z := (1 : Int32)) d3_27 rfl rfl ?_
  refine own_iadd (pc' := 29) B X4 (z := (4 : Int32)) d3_28 rfl (by decide) ?_
  refine own_putfield (pc' := 32) B X4 (host := "") (Or.inl (own_w hw 17 rfl)) Via.refl F_w0_position E_w0 g_w0 (Or.inl (own_w hw 18 rfl)) (own_w hw 2 rfl) (ty := .int) (by decide) rfl rfl d3_29 rfl ?_
  intro T5 h5 X5 W5 F_w0_position
  replace E_w0 := E_w0.wr W5
  replace F_w0_key := F_w0_key.other W5 (Or.inr (slot_ne (Or.inr (own_w hw 11 rfl)) (Or.inl (own_w hw 18 rfl)) (by decide) (t := (.array .byte)) (t' := .int) (by decide) (by decide)))
  replace F_w0_mask := F_w0_mask.other W5 (Or.inr (slot_ne (Or.inl (own_w hw 20 rfl)) (Or.inl (own_w hw 18 rfl)) (by decide) (t := .int) (t' := .int) (by decide) (by decide)))
  replace E_w1 := E_w1.wr W5
  replace V_w1 := V_w1.other W5 (Ne.symm ne_w0_w1)
  replace K := K.wr W5 (Or.inl (List.mem_of_getElem? (i := 0) rfl))
  refine own_baload (pc' := 33) B X5 V_w1 (v := (.int p6)) ⟨by decide, by decide⟩ rfl d3_32 rfl ?_
  refine own_aloadN (pc' := 34) B X5 d3_33 rfl rfl rfl ?_
  refine own_getfield (pc' := 37) B X5 (host := "") (Or.inl (own_w hw 19 rfl)) Via.refl F_w0_mask d3_34 rfl ?_
  intro T6 X6
  refine own_ixor (pc' := 38) B X6 d3_37 rfl (own_xor0 _) ?_
  refine own_sipush (pc' := 41) B X6 (z := (255 : Int32)) d3_38 rfl (by decide) ?_
  obtain ⟨y7, hy7⟩ : ∃ z : Int32, p6 &&& (255 : Int32) = z := ⟨_, rfl⟩
  refine own_iand (pc' := 42) B X6 d3_41 rfl hy7 ?_
  exact own_retI B X6 d3_42 (by decide) (by decide) (⟨y7, hy7, rfl, K, E_w0, F_w0_key, F_w0_position, F_w0_mask⟩)
def Q_9 (Z : State) (p0 : Int32) (h0 : Heap) (n0 : Nat) (v : Option Value) (h : Heap) : Prop :=
  (∃ (y1 : Int32), p0 &&& (255 : Int32) = y1 ∧ v = some (.int y1) ∧ h0 = h)
set_option maxRecDepth 65536 in
set_option maxHeartbeats 40000000 in
theorem rm_9 (l : Launch) (Z : State) (a0 : Array Value) (hw : ∀ d ∈ tables_1, d.before a0 Z = true) (ws : List Jvm.Cond) (p0 : Int32) (h0 : Heap) (n0 : Nat) (Z0 : n0 ≤ h0.size)  :
    MetFree l (⟨"com/example/keyer/keyer/KeyReaderInvertPinLaw", "expect", "(IZ)I"⟩ : MethodName) (head1 (Jvm.Cond.code (⟨"com/example/keyer/keyer/KeyReaderInvertPinLaw", "expect", "(IZ)I"⟩ : MethodName) method_2_code 3 (some .int) :: ws) ({ frames := 0, cells := 0, slots := 0, locals := 0 } : Room)) (fun a U => a = #[(.int p0), (.int (0 : Int32))] ∧ Z.Warmed39 U.vm ∧ U.heap = h0) (fun _ _ _ _ _ => True) (fun _ U o U' => ∃ v L, o = .returned v ∧ (Fr n0 L ∧ Q_9 Z p0 h0 n0 v U'.heap) ∧ FrameEnd U o U' L ({ frames := 0, cells := 0, slots := 0, locals := 0 } : Room).cells ({ frames := 0, cells := 0, slots := 0, locals := 0 } : Room).slots) := by
  refine own_enter (Q := Q_9 Z p0 h0 n0) (F := fun m => mkF m 0 #[.val (.int p0), .val (.int (0 : Int32)), .unset] []) (plainFor_of_name pn_1) (fun m => by first | (simp [entryFrame, mkF, argsToLocals, Value.category]; done) | rfl) ?_
  intro p e s m below meth c s₁ B X0
  have K : Keep h0 h0 [] := Keep.refl h0 _
  refine own_iloadN (pc' := 1) B X0 d5_0 rfl rfl ?_
  refine own_sipush (pc' := 4) B X0 (z := (255 : Int32)) d5_1 rfl (by decide) ?_
  obtain ⟨y1, hy1⟩ : ∃ z : Int32, p0 &&& (255 : Int32) = z := ⟨_, rfl⟩
  refine own_iand (pc' := 5) B X0 d5_4 rfl hy1 ?_
  refine own_istoreN (pc' := 6) B X0 (Ls' := #[.val (.int p0), .val (.int (0 : Int32)), .val (.int y1)]) d5_5 rfl rfl ?_
  refine own_iloadN (pc' := 7) B X0 d5_6 rfl rfl ?_
  refine own_ifYes (pc' := 16) B X0 d5_7 ((if0 _ _).trans (teq (by decide : (0 : Int32) = (0 : Int32))).1) (by decide) rfl ?_
  refine own_iloadN (pc' := 17) B X0 d5_16 rfl rfl ?_
  exact own_retI B X0 d5_17 (by decide) (by decide) (⟨y1, hy1, rfl, rfl⟩)
def Q_10 (Z : State) (w0 : Addr) (w1 : Addr) (kw1 : ClassId) (p3 : Int32) (p4 : Int32) (p5 : Int32) (p6 : Int32) (h0 : Heap) (n0 : Nat) (v : Option Value) (h : Heap) : Prop :=
  (v = some (.int (4 : Int32)) ∧ h0 = h)
set_option maxRecDepth 65536 in
set_option maxHeartbeats 40000000 in
theorem rm_10 (l : Launch) (Z : State) (a0 : Array Value) (hw : ∀ d ∈ tables_1, d.before a0 Z = true) (ws : List Jvm.Cond) (w0 : Addr) (w1 : Addr) (kw1 : ClassId) (p3 : Int32) (p4 : Int32) (p5 : Int32) (p6 : Int32) (h0 : Heap) (n0 : Nat) (Z0 : n0 ≤ h0.size) (E_w0 : Exa Z h0 w0 "com/example/keyer/keyer/KeyReader") (F_w0_key : Fld Z h0 w0 "com/example/keyer/keyer/KeyReader" "key" "[B" (.ref w1)) (F_w0_position : Fld Z h0 w0 "com/example/keyer/keyer/KeyReader" "position" "I" (.int (4 : Int32))) (F_w0_mask : Fld Z h0 w0 "com/example/keyer/keyer/KeyReader" "mask" "I" (.int (0 : Int32))) (g_w0 : n0 ≤ w0) (E_w1 : Exa Z h0 w1 "[B") (V_w1 : Arv Z h0 w1 kw1 .byte (4 : Int32) [(.int p3), (.int p4), (.int p5), (.int p6)] (.int (0 : Int32))) (g_w1 : n0 ≤ w1) (ne_w0_w1 : w0 ≠ w1) :
    MetFree l (⟨"com/example/keyer/keyer/KeyReader", "position", "()I"⟩ : MethodName) (head1 (Jvm.Cond.code (⟨"com/example/keyer/keyer/KeyReader", "position", "()I"⟩ : MethodName) prog_12_method_3_code 1 (some .int) :: ws) ({ frames := 0, cells := 0, slots := 0, locals := 0 } : Room)) (fun a U => a = #[(.ref w0)] ∧ Z.Warmed39 U.vm ∧ U.heap = h0) (fun _ _ _ _ _ => True) (fun _ U o U' => ∃ v L, o = .returned v ∧ (Fr n0 L ∧ Q_10 Z w0 w1 kw1 p3 p4 p5 p6 h0 n0 v U'.heap) ∧ FrameEnd U o U' L ({ frames := 0, cells := 0, slots := 0, locals := 0 } : Room).cells ({ frames := 0, cells := 0, slots := 0, locals := 0 } : Room).slots) := by
  refine own_enter (Q := Q_10 Z w0 w1 kw1 p3 p4 p5 p6 h0 n0) (F := fun m => mkF m 0 #[.val (.ref w0)] []) (plainFor_of_name pn_0) (fun m => by first | (simp [entryFrame, mkF, argsToLocals, Value.category]; done) | rfl) ?_
  intro p e s m below meth c s₁ B X0
  have K : Keep h0 h0 [] := Keep.refl h0 _
  refine own_aloadN (pc' := 1) B X0 d6_0 rfl rfl rfl ?_
  refine own_getfield (pc' := 4) B X0 (host := "") (Or.inl (own_w hw 17 rfl)) Via.refl F_w0_position d6_1 rfl ?_
  intro T1 X1
  exact own_retI B X1 d6_4 (by decide) (by decide) (⟨rfl, rfl⟩)
def Q_11 (Z : State) (w0 : Addr) (w1 : Addr) (kw1 : ClassId) (p3 : Int32) (p4 : Int32) (p5 : Int32) (p6 : Int32) (h0 : Heap) (n0 : Nat) (v : Option Value) (h : Heap) : Prop :=
  (v = none ∧ Keep h0 h [w0] ∧ Exa Z h w0 "com/example/keyer/keyer/KeyReader" ∧ Fld Z h w0 "com/example/keyer/keyer/KeyReader" "key" "[B" (.ref w1) ∧ Fld Z h w0 "com/example/keyer/keyer/KeyReader" "position" "I" (.int (3 : Int32)) ∧ Fld Z h w0 "com/example/keyer/keyer/KeyReader" "mask" "I" (.int (255 : Int32)))
set_option maxRecDepth 65536 in
set_option maxHeartbeats 40000000 in
theorem rm_11 (l : Launch) (Z : State) (a0 : Array Value) (hw : ∀ d ∈ tables_1, d.before a0 Z = true) (ws : List Jvm.Cond) (w0 : Addr) (w1 : Addr) (kw1 : ClassId) (p3 : Int32) (p4 : Int32) (p5 : Int32) (p6 : Int32) (h0 : Heap) (n0 : Nat) (Z0 : n0 ≤ h0.size) (E_w0 : Exa Z h0 w0 "com/example/keyer/keyer/KeyReader") (F_w0_key : Fld Z h0 w0 "com/example/keyer/keyer/KeyReader" "key" "[B" (.ref w1)) (F_w0_position : Fld Z h0 w0 "com/example/keyer/keyer/KeyReader" "position" "I" (.int (3 : Int32))) (F_w0_mask : Fld Z h0 w0 "com/example/keyer/keyer/KeyReader" "mask" "I" (.int (0 : Int32))) (g_w0 : n0 ≤ w0) (E_w1 : Exa Z h0 w1 "[B") (V_w1 : Arv Z h0 w1 kw1 .byte (4 : Int32) [(.int p3), (.int p4), (.int p5), (.int p6)] (.int (0 : Int32))) (g_w1 : n0 ≤ w1) (ne_w0_w1 : w0 ≠ w1) :
    MetFree l (⟨"com/example/keyer/keyer/KeyReader", "invert", "(Z)V"⟩ : MethodName) (head1 (Jvm.Cond.code (⟨"com/example/keyer/keyer/KeyReader", "invert", "(Z)V"⟩ : MethodName) prog_12_method_2_code 2 none :: ws) ({ frames := 0, cells := 0, slots := 0, locals := 0 } : Room)) (fun a U => a = #[(.ref w0), (.int (1 : Int32))] ∧ Z.Warmed39 U.vm ∧ U.heap = h0) (fun _ _ _ _ _ => True) (fun _ U o U' => ∃ v L, o = .returned v ∧ (Fr n0 L ∧ Q_11 Z w0 w1 kw1 p3 p4 p5 p6 h0 n0 v U'.heap) ∧ FrameEnd U o U' L ({ frames := 0, cells := 0, slots := 0, locals := 0 } : Room).cells ({ frames := 0, cells := 0, slots := 0, locals := 0 } : Room).slots) := by
  refine own_enter (Q := Q_11 Z w0 w1 kw1 p3 p4 p5 p6 h0 n0) (F := fun m => mkF m 0 #[.val (.ref w0), .val (.int (1 : Int32))] []) (plainFor_of_name pn_0) (fun m => by first | (simp [entryFrame, mkF, argsToLocals, Value.category]; done) | rfl) ?_
  intro p e s m below meth c s₁ B X0
  have K : Keep h0 h0 [w0] := Keep.refl h0 _
  refine own_aloadN (pc' := 1) B X0 d4_0 rfl rfl rfl ?_
  refine own_iloadN (pc' := 2) B X0 d4_1 rfl rfl ?_
  refine own_ifNo (pc' := 5) B X0 d4_2 ((if0 _ _).trans (feq (by decide : ¬ ((1 : Int32) = (0 : Int32)))).1) rfl ?_
  refine own_sipush (pc' := 8) B X0 (z := (255 : Int32)) d4_5 rfl (by decide) ?_
  refine own_goto (pc' := 12) B X0 d4_8 (by decide) rfl ?_
  refine own_putfield (pc' := 15) B X0 (host := "") (Or.inl (own_w hw 19 rfl)) Via.refl F_w0_mask E_w0 g_w0 (Or.inl (own_w hw 20 rfl)) (own_w hw 2 rfl) (ty := .int) (by decide) rfl rfl d4_12 rfl ?_
  intro T1 h1 X1 W1 F_w0_mask
  replace E_w0 := E_w0.wr W1
  replace F_w0_key := F_w0_key.other W1 (Or.inr (slot_ne (Or.inr (own_w hw 11 rfl)) (Or.inl (own_w hw 20 rfl)) (by decide) (t := (.array .byte)) (t' := .int) (by decide) (by decide)))
  replace F_w0_position := F_w0_position.other W1 (Or.inr (slot_ne (Or.inl (own_w hw 18 rfl)) (Or.inl (own_w hw 20 rfl)) (by decide) (t := .int) (t' := .int) (by decide) (by decide)))
  replace E_w1 := E_w1.wr W1
  replace V_w1 := V_w1.other W1 (Ne.symm ne_w0_w1)
  replace K := K.wr W1 (Or.inl (List.mem_of_getElem? (i := 0) rfl))
  exact own_ret B X1 d4_15 (by decide) (by decide) (⟨rfl, K, E_w0, F_w0_key, F_w0_position, F_w0_mask⟩)
def Q_12 (Z : State) (w0 : Addr) (w1 : Addr) (kw1 : ClassId) (p3 : Int32) (p4 : Int32) (p5 : Int32) (p6 : Int32) (h0 : Heap) (n0 : Nat) (v : Option Value) (h : Heap) : Prop :=
  (∃ (y7 : Int32) (y8 : Int32), p6 ^^^ (255 : Int32) = y7 ∧ y7 &&& (255 : Int32) = y8 ∧ v = some (.int y8) ∧ Keep h0 h [w0] ∧ Exa Z h w0 "com/example/keyer/keyer/KeyReader" ∧ Fld Z h w0 "com/example/keyer/keyer/KeyReader" "key" "[B" (.ref w1) ∧ Fld Z h w0 "com/example/keyer/keyer/KeyReader" "position" "I" (.int (4 : Int32)) ∧ Fld Z h w0 "com/example/keyer/keyer/KeyReader" "mask" "I" (.int (255 : Int32)))
set_option maxRecDepth 65536 in
set_option maxHeartbeats 40000000 in
theorem rm_12 (l : Launch) (Z : State) (a0 : Array Value) (hw : ∀ d ∈ tables_1, d.before a0 Z = true) (ws : List Jvm.Cond) (w0 : Addr) (w1 : Addr) (kw1 : ClassId) (p3 : Int32) (p4 : Int32) (p5 : Int32) (p6 : Int32) (h0 : Heap) (n0 : Nat) (Z0 : n0 ≤ h0.size) (E_w0 : Exa Z h0 w0 "com/example/keyer/keyer/KeyReader") (F_w0_key : Fld Z h0 w0 "com/example/keyer/keyer/KeyReader" "key" "[B" (.ref w1)) (F_w0_position : Fld Z h0 w0 "com/example/keyer/keyer/KeyReader" "position" "I" (.int (3 : Int32))) (F_w0_mask : Fld Z h0 w0 "com/example/keyer/keyer/KeyReader" "mask" "I" (.int (255 : Int32))) (g_w0 : n0 ≤ w0) (E_w1 : Exa Z h0 w1 "[B") (V_w1 : Arv Z h0 w1 kw1 .byte (4 : Int32) [(.int p3), (.int p4), (.int p5), (.int p6)] (.int (0 : Int32))) (g_w1 : n0 ≤ w1) (ne_w0_w1 : w0 ≠ w1) :
    MetFree l (⟨"com/example/keyer/keyer/KeyReader", "next", "()I"⟩ : MethodName) (head1 (Jvm.Cond.code (⟨"com/example/keyer/keyer/KeyReader", "next", "()I"⟩ : MethodName) prog_12_method_5_code 1 (some .int) :: ws) ({ frames := 0, cells := 0, slots := 0, locals := 0 } : Room)) (fun a U => a = #[(.ref w0)] ∧ Z.Warmed39 U.vm ∧ U.heap = h0) (fun _ _ _ _ _ => True) (fun _ U o U' => ∃ v L, o = .returned v ∧ (Fr n0 L ∧ Q_12 Z w0 w1 kw1 p3 p4 p5 p6 h0 n0 v U'.heap) ∧ FrameEnd U o U' L ({ frames := 0, cells := 0, slots := 0, locals := 0 } : Room).cells ({ frames := 0, cells := 0, slots := 0, locals := 0 } : Room).slots) := by
  refine own_enter (Q := Q_12 Z w0 w1 kw1 p3 p4 p5 p6 h0 n0) (F := fun m => mkF m 0 #[.val (.ref w0)] []) (plainFor_of_name pn_0) (fun m => by first | (simp [entryFrame, mkF, argsToLocals, Value.category]; done) | rfl) ?_
  intro p e s m below meth c s₁ B X0
  have K : Keep h0 h0 [w0] := Keep.refl h0 _
  refine own_aloadN (pc' := 1) B X0 d3_0 rfl rfl rfl ?_
  refine own_getfield (pc' := 4) B X0 (host := "") (Or.inl (own_w hw 17 rfl)) Via.refl F_w0_position d3_1 rfl ?_
  intro T1 X1
  refine own_aloadN (pc' := 5) B X1 d3_4 rfl rfl rfl ?_
  refine own_getfield (pc' := 8) B X1 (host := "") (Or.inl (own_w hw 10 rfl)) Via.refl F_w0_key d3_5 rfl ?_
  intro T2 X2
  refine own_arraylength (pc' := 9) B X2 V_w1 d3_8 rfl ?_
  refine own_icmpYes (pc' := 17) B X2 d3_9 (feq (by decide : ¬ ((3 : Int32) = (4 : Int32)))).2 (by decide) rfl ?_
  refine own_aloadN (pc' := 18) B X2 d3_17 rfl rfl rfl ?_
  refine own_getfield (pc' := 21) B X2 (host := "") (Or.inl (own_w hw 10 rfl)) Via.refl F_w0_key d3_18 rfl ?_
  intro T3 X3
  refine own_aloadN (pc' := 22) B X3 d3_21 rfl rfl rfl ?_
  refine own_dup (pc' := 23) B X3 d3_22 rfl rfl ?_
  refine own_getfield (pc' := 26) B X3 (host := "") (Or.inl (own_w hw 17 rfl)) Via.refl F_w0_position d3_23 rfl ?_
  intro T4 X4
  refine own_dup_x1 (pc' := 27) B X4 d3_26 rfl rfl rfl ?_
  refine own_iconst (pc' := 28) B X4 (z := (1 : Int32)) d3_27 rfl rfl ?_
  refine own_iadd (pc' := 29) B X4 (z := (4 : Int32)) d3_28 rfl (by decide) ?_
  refine own_putfield (pc' := 32) B X4 (host := "") (Or.inl (own_w hw 17 rfl)) Via.refl F_w0_position E_w0 g_w0 (Or.inl (own_w hw 18 rfl)) (own_w hw 2 rfl) (ty := .int) (by decide) rfl rfl d3_29 rfl ?_
  intro T5 h5 X5 W5 F_w0_position
  replace E_w0 := E_w0.wr W5
  replace F_w0_key := F_w0_key.other W5 (Or.inr (slot_ne (Or.inr (own_w hw 11 rfl)) (Or.inl (own_w hw 18 rfl)) (by decide) (t := (.array .byte)) (t' := .int) (by decide) (by decide)))
  replace F_w0_mask := F_w0_mask.other W5 (Or.inr (slot_ne (Or.inl (own_w hw 20 rfl)) (Or.inl (own_w hw 18 rfl)) (by decide) (t := .int) (t' := .int) (by decide) (by decide)))
  replace E_w1 := E_w1.wr W5
  replace V_w1 := V_w1.other W5 (Ne.symm ne_w0_w1)
  replace K := K.wr W5 (Or.inl (List.mem_of_getElem? (i := 0) rfl))
  refine own_baload (pc' := 33) B X5 V_w1 (v := (.int p6)) ⟨by decide, by decide⟩ rfl d3_32 rfl ?_
  refine own_aloadN (pc' := 34) B X5 d3_33 rfl rfl rfl ?_
  refine own_getfield (pc' := 37) B X5 (host := "") (Or.inl (own_w hw 19 rfl)) Via.refl F_w0_mask d3_34 rfl ?_
  intro T6 X6
  obtain ⟨y7, hy7⟩ : ∃ z : Int32, p6 ^^^ (255 : Int32) = z := ⟨_, rfl⟩
  refine own_ixor (pc' := 38) B X6 d3_37 rfl hy7 ?_
  refine own_sipush (pc' := 41) B X6 (z := (255 : Int32)) d3_38 rfl (by decide) ?_
  obtain ⟨y8, hy8⟩ : ∃ z : Int32, y7 &&& (255 : Int32) = z := ⟨_, rfl⟩
  refine own_iand (pc' := 42) B X6 d3_41 rfl hy8 ?_
  exact own_retI B X6 d3_42 (by decide) (by decide) (⟨y7, y8, hy7, hy8, rfl, K, E_w0, F_w0_key, F_w0_position, F_w0_mask⟩)
def Q_13 (Z : State) (p0 : Int32) (h0 : Heap) (n0 : Nat) (v : Option Value) (h : Heap) : Prop :=
  (∃ (y1 : Int32) (y2 : Int32), p0 &&& (255 : Int32) = y1 ∧ (255 : Int32) - y1 = y2 ∧ v = some (.int y2) ∧ h0 = h)
set_option maxRecDepth 65536 in
set_option maxHeartbeats 40000000 in
theorem rm_13 (l : Launch) (Z : State) (a0 : Array Value) (hw : ∀ d ∈ tables_1, d.before a0 Z = true) (ws : List Jvm.Cond) (p0 : Int32) (h0 : Heap) (n0 : Nat) (Z0 : n0 ≤ h0.size)  :
    MetFree l (⟨"com/example/keyer/keyer/KeyReaderInvertPinLaw", "expect", "(IZ)I"⟩ : MethodName) (head1 (Jvm.Cond.code (⟨"com/example/keyer/keyer/KeyReaderInvertPinLaw", "expect", "(IZ)I"⟩ : MethodName) method_2_code 3 (some .int) :: ws) ({ frames := 0, cells := 0, slots := 0, locals := 0 } : Room)) (fun a U => a = #[(.int p0), (.int (1 : Int32))] ∧ Z.Warmed39 U.vm ∧ U.heap = h0) (fun _ _ _ _ _ => True) (fun _ U o U' => ∃ v L, o = .returned v ∧ (Fr n0 L ∧ Q_13 Z p0 h0 n0 v U'.heap) ∧ FrameEnd U o U' L ({ frames := 0, cells := 0, slots := 0, locals := 0 } : Room).cells ({ frames := 0, cells := 0, slots := 0, locals := 0 } : Room).slots) := by
  refine own_enter (Q := Q_13 Z p0 h0 n0) (F := fun m => mkF m 0 #[.val (.int p0), .val (.int (1 : Int32)), .unset] []) (plainFor_of_name pn_1) (fun m => by first | (simp [entryFrame, mkF, argsToLocals, Value.category]; done) | rfl) ?_
  intro p e s m below meth c s₁ B X0
  have K : Keep h0 h0 [] := Keep.refl h0 _
  refine own_iloadN (pc' := 1) B X0 d5_0 rfl rfl ?_
  refine own_sipush (pc' := 4) B X0 (z := (255 : Int32)) d5_1 rfl (by decide) ?_
  obtain ⟨y1, hy1⟩ : ∃ z : Int32, p0 &&& (255 : Int32) = z := ⟨_, rfl⟩
  refine own_iand (pc' := 5) B X0 d5_4 rfl hy1 ?_
  refine own_istoreN (pc' := 6) B X0 (Ls' := #[.val (.int p0), .val (.int (1 : Int32)), .val (.int y1)]) d5_5 rfl rfl ?_
  refine own_iloadN (pc' := 7) B X0 d5_6 rfl rfl ?_
  refine own_ifNo (pc' := 10) B X0 d5_7 ((if0 _ _).trans (feq (by decide : ¬ ((1 : Int32) = (0 : Int32)))).1) rfl ?_
  refine own_sipush (pc' := 13) B X0 (z := (255 : Int32)) d5_10 rfl (by decide) ?_
  refine own_iloadN (pc' := 14) B X0 d5_13 rfl rfl ?_
  obtain ⟨y2, hy2⟩ : ∃ z : Int32, (255 : Int32) - y1 = z := ⟨_, rfl⟩
  refine own_isub (pc' := 15) B X0 d5_14 rfl hy2 ?_
  exact own_retI B X0 d5_15 (by decide) (by decide) (⟨y1, y2, hy1, hy2, rfl, rfl⟩)
def Q_14 (Z : State) (w0 : Addr) (w1 : Addr) (kw1 : ClassId) (p3 : Int32) (p4 : Int32) (p5 : Int32) (p6 : Int32) (h0 : Heap) (n0 : Nat) (v : Option Value) (h : Heap) : Prop :=
  (v = some (.int (4 : Int32)) ∧ h0 = h)
set_option maxRecDepth 65536 in
set_option maxHeartbeats 40000000 in
theorem rm_14 (l : Launch) (Z : State) (a0 : Array Value) (hw : ∀ d ∈ tables_1, d.before a0 Z = true) (ws : List Jvm.Cond) (w0 : Addr) (w1 : Addr) (kw1 : ClassId) (p3 : Int32) (p4 : Int32) (p5 : Int32) (p6 : Int32) (h0 : Heap) (n0 : Nat) (Z0 : n0 ≤ h0.size) (E_w0 : Exa Z h0 w0 "com/example/keyer/keyer/KeyReader") (F_w0_key : Fld Z h0 w0 "com/example/keyer/keyer/KeyReader" "key" "[B" (.ref w1)) (F_w0_position : Fld Z h0 w0 "com/example/keyer/keyer/KeyReader" "position" "I" (.int (4 : Int32))) (F_w0_mask : Fld Z h0 w0 "com/example/keyer/keyer/KeyReader" "mask" "I" (.int (255 : Int32))) (g_w0 : n0 ≤ w0) (E_w1 : Exa Z h0 w1 "[B") (V_w1 : Arv Z h0 w1 kw1 .byte (4 : Int32) [(.int p3), (.int p4), (.int p5), (.int p6)] (.int (0 : Int32))) (g_w1 : n0 ≤ w1) (ne_w0_w1 : w0 ≠ w1) :
    MetFree l (⟨"com/example/keyer/keyer/KeyReader", "position", "()I"⟩ : MethodName) (head1 (Jvm.Cond.code (⟨"com/example/keyer/keyer/KeyReader", "position", "()I"⟩ : MethodName) prog_12_method_3_code 1 (some .int) :: ws) ({ frames := 0, cells := 0, slots := 0, locals := 0 } : Room)) (fun a U => a = #[(.ref w0)] ∧ Z.Warmed39 U.vm ∧ U.heap = h0) (fun _ _ _ _ _ => True) (fun _ U o U' => ∃ v L, o = .returned v ∧ (Fr n0 L ∧ Q_14 Z w0 w1 kw1 p3 p4 p5 p6 h0 n0 v U'.heap) ∧ FrameEnd U o U' L ({ frames := 0, cells := 0, slots := 0, locals := 0 } : Room).cells ({ frames := 0, cells := 0, slots := 0, locals := 0 } : Room).slots) := by
  refine own_enter (Q := Q_14 Z w0 w1 kw1 p3 p4 p5 p6 h0 n0) (F := fun m => mkF m 0 #[.val (.ref w0)] []) (plainFor_of_name pn_0) (fun m => by first | (simp [entryFrame, mkF, argsToLocals, Value.category]; done) | rfl) ?_
  intro p e s m below meth c s₁ B X0
  have K : Keep h0 h0 [] := Keep.refl h0 _
  refine own_aloadN (pc' := 1) B X0 d6_0 rfl rfl rfl ?_
  refine own_getfield (pc' := 4) B X0 (host := "") (Or.inl (own_w hw 17 rfl)) Via.refl F_w0_position d6_1 rfl ?_
  intro T1 X1
  exact own_retI B X1 d6_4 (by decide) (by decide) (⟨rfl, rfl⟩)
def Q_15 (Z : State) (w0 : Addr) (w1 : Addr) (kw1 : ClassId) (p3 : Int32) (p4 : Int32) (p5 : Int32) (p6 : Int32) (h0 : Heap) (n0 : Nat) (v : Option Value) (h : Heap) : Prop :=
  (v = none ∧ Keep h0 h [w0] ∧ Exa Z h w0 "com/example/keyer/keyer/KeyReader" ∧ Fld Z h w0 "com/example/keyer/keyer/KeyReader" "key" "[B" (.ref w1) ∧ Fld Z h w0 "com/example/keyer/keyer/KeyReader" "position" "I" (.int (3 : Int32)) ∧ Fld Z h w0 "com/example/keyer/keyer/KeyReader" "mask" "I" (.int (0 : Int32)))
set_option maxRecDepth 65536 in
set_option maxHeartbeats 40000000 in
theorem rm_15 (l : Launch) (Z : State) (a0 : Array Value) (hw : ∀ d ∈ tables_1, d.before a0 Z = true) (ws : List Jvm.Cond) (w0 : Addr) (w1 : Addr) (kw1 : ClassId) (p3 : Int32) (p4 : Int32) (p5 : Int32) (p6 : Int32) (h0 : Heap) (n0 : Nat) (Z0 : n0 ≤ h0.size) (E_w0 : Exa Z h0 w0 "com/example/keyer/keyer/KeyReader") (F_w0_key : Fld Z h0 w0 "com/example/keyer/keyer/KeyReader" "key" "[B" (.ref w1)) (F_w0_position : Fld Z h0 w0 "com/example/keyer/keyer/KeyReader" "position" "I" (.int (3 : Int32))) (F_w0_mask : Fld Z h0 w0 "com/example/keyer/keyer/KeyReader" "mask" "I" (.int (255 : Int32))) (g_w0 : n0 ≤ w0) (E_w1 : Exa Z h0 w1 "[B") (V_w1 : Arv Z h0 w1 kw1 .byte (4 : Int32) [(.int p3), (.int p4), (.int p5), (.int p6)] (.int (0 : Int32))) (g_w1 : n0 ≤ w1) (ne_w0_w1 : w0 ≠ w1) :
    MetFree l (⟨"com/example/keyer/keyer/KeyReader", "invert", "(Z)V"⟩ : MethodName) (head1 (Jvm.Cond.code (⟨"com/example/keyer/keyer/KeyReader", "invert", "(Z)V"⟩ : MethodName) prog_12_method_2_code 2 none :: ws) ({ frames := 0, cells := 0, slots := 0, locals := 0 } : Room)) (fun a U => a = #[(.ref w0), (.int (0 : Int32))] ∧ Z.Warmed39 U.vm ∧ U.heap = h0) (fun _ _ _ _ _ => True) (fun _ U o U' => ∃ v L, o = .returned v ∧ (Fr n0 L ∧ Q_15 Z w0 w1 kw1 p3 p4 p5 p6 h0 n0 v U'.heap) ∧ FrameEnd U o U' L ({ frames := 0, cells := 0, slots := 0, locals := 0 } : Room).cells ({ frames := 0, cells := 0, slots := 0, locals := 0 } : Room).slots) := by
  refine own_enter (Q := Q_15 Z w0 w1 kw1 p3 p4 p5 p6 h0 n0) (F := fun m => mkF m 0 #[.val (.ref w0), .val (.int (0 : Int32))] []) (plainFor_of_name pn_0) (fun m => by first | (simp [entryFrame, mkF, argsToLocals, Value.category]; done) | rfl) ?_
  intro p e s m below meth c s₁ B X0
  have K : Keep h0 h0 [w0] := Keep.refl h0 _
  refine own_aloadN (pc' := 1) B X0 d4_0 rfl rfl rfl ?_
  refine own_iloadN (pc' := 2) B X0 d4_1 rfl rfl ?_
  refine own_ifYes (pc' := 11) B X0 d4_2 ((if0 _ _).trans (teq (by decide : (0 : Int32) = (0 : Int32))).1) (by decide) rfl ?_
  refine own_iconst (pc' := 12) B X0 (z := (0 : Int32)) d4_11 rfl rfl ?_
  refine own_putfield (pc' := 15) B X0 (host := "") (Or.inl (own_w hw 19 rfl)) Via.refl F_w0_mask E_w0 g_w0 (Or.inl (own_w hw 20 rfl)) (own_w hw 2 rfl) (ty := .int) (by decide) rfl rfl d4_12 rfl ?_
  intro T1 h1 X1 W1 F_w0_mask
  replace E_w0 := E_w0.wr W1
  replace F_w0_key := F_w0_key.other W1 (Or.inr (slot_ne (Or.inr (own_w hw 11 rfl)) (Or.inl (own_w hw 20 rfl)) (by decide) (t := (.array .byte)) (t' := .int) (by decide) (by decide)))
  replace F_w0_position := F_w0_position.other W1 (Or.inr (slot_ne (Or.inl (own_w hw 18 rfl)) (Or.inl (own_w hw 20 rfl)) (by decide) (t := .int) (t' := .int) (by decide) (by decide)))
  replace E_w1 := E_w1.wr W1
  replace V_w1 := V_w1.other W1 (Ne.symm ne_w0_w1)
  replace K := K.wr W1 (Or.inl (List.mem_of_getElem? (i := 0) rfl))
  exact own_ret B X1 d4_15 (by decide) (by decide) (⟨rfl, K, E_w0, F_w0_key, F_w0_position, F_w0_mask⟩)
def Q_16 (Z : State) (w0 : Addr) (w1 : Addr) (kw1 : ClassId) (p3 : Int32) (p4 : Int32) (p5 : Int32) (p6 : Int32) (h0 : Heap) (n0 : Nat) (v : Option Value) (h : Heap) : Prop :=
  (v = none ∧ Keep h0 h [w0] ∧ Exa Z h w0 "com/example/keyer/keyer/KeyReader" ∧ Fld Z h w0 "com/example/keyer/keyer/KeyReader" "key" "[B" (.ref w1) ∧ Fld Z h w0 "com/example/keyer/keyer/KeyReader" "position" "I" (.int (3 : Int32)) ∧ Fld Z h w0 "com/example/keyer/keyer/KeyReader" "mask" "I" (.int (255 : Int32)))
set_option maxRecDepth 65536 in
set_option maxHeartbeats 40000000 in
theorem rm_16 (l : Launch) (Z : State) (a0 : Array Value) (hw : ∀ d ∈ tables_1, d.before a0 Z = true) (ws : List Jvm.Cond) (w0 : Addr) (w1 : Addr) (kw1 : ClassId) (p3 : Int32) (p4 : Int32) (p5 : Int32) (p6 : Int32) (h0 : Heap) (n0 : Nat) (Z0 : n0 ≤ h0.size) (E_w0 : Exa Z h0 w0 "com/example/keyer/keyer/KeyReader") (F_w0_key : Fld Z h0 w0 "com/example/keyer/keyer/KeyReader" "key" "[B" (.ref w1)) (F_w0_position : Fld Z h0 w0 "com/example/keyer/keyer/KeyReader" "position" "I" (.int (3 : Int32))) (F_w0_mask : Fld Z h0 w0 "com/example/keyer/keyer/KeyReader" "mask" "I" (.int (255 : Int32))) (g_w0 : n0 ≤ w0) (E_w1 : Exa Z h0 w1 "[B") (V_w1 : Arv Z h0 w1 kw1 .byte (4 : Int32) [(.int p3), (.int p4), (.int p5), (.int p6)] (.int (0 : Int32))) (g_w1 : n0 ≤ w1) (ne_w0_w1 : w0 ≠ w1) :
    MetFree l (⟨"com/example/keyer/keyer/KeyReader", "invert", "(Z)V"⟩ : MethodName) (head1 (Jvm.Cond.code (⟨"com/example/keyer/keyer/KeyReader", "invert", "(Z)V"⟩ : MethodName) prog_12_method_2_code 2 none :: ws) ({ frames := 0, cells := 0, slots := 0, locals := 0 } : Room)) (fun a U => a = #[(.ref w0), (.int (1 : Int32))] ∧ Z.Warmed39 U.vm ∧ U.heap = h0) (fun _ _ _ _ _ => True) (fun _ U o U' => ∃ v L, o = .returned v ∧ (Fr n0 L ∧ Q_16 Z w0 w1 kw1 p3 p4 p5 p6 h0 n0 v U'.heap) ∧ FrameEnd U o U' L ({ frames := 0, cells := 0, slots := 0, locals := 0 } : Room).cells ({ frames := 0, cells := 0, slots := 0, locals := 0 } : Room).slots) := by
  refine own_enter (Q := Q_16 Z w0 w1 kw1 p3 p4 p5 p6 h0 n0) (F := fun m => mkF m 0 #[.val (.ref w0), .val (.int (1 : Int32))] []) (plainFor_of_name pn_0) (fun m => by first | (simp [entryFrame, mkF, argsToLocals, Value.category]; done) | rfl) ?_
  intro p e s m below meth c s₁ B X0
  have K : Keep h0 h0 [w0] := Keep.refl h0 _
  refine own_aloadN (pc' := 1) B X0 d4_0 rfl rfl rfl ?_
  refine own_iloadN (pc' := 2) B X0 d4_1 rfl rfl ?_
  refine own_ifNo (pc' := 5) B X0 d4_2 ((if0 _ _).trans (feq (by decide : ¬ ((1 : Int32) = (0 : Int32)))).1) rfl ?_
  refine own_sipush (pc' := 8) B X0 (z := (255 : Int32)) d4_5 rfl (by decide) ?_
  refine own_goto (pc' := 12) B X0 d4_8 (by decide) rfl ?_
  refine own_putfield (pc' := 15) B X0 (host := "") (Or.inl (own_w hw 19 rfl)) Via.refl F_w0_mask E_w0 g_w0 (Or.inl (own_w hw 20 rfl)) (own_w hw 2 rfl) (ty := .int) (by decide) rfl rfl d4_12 rfl ?_
  intro T1 h1 X1 W1 F_w0_mask
  replace E_w0 := E_w0.wr W1
  replace F_w0_key := F_w0_key.other W1 (Or.inr (slot_ne (Or.inr (own_w hw 11 rfl)) (Or.inl (own_w hw 20 rfl)) (by decide) (t := (.array .byte)) (t' := .int) (by decide) (by decide)))
  replace F_w0_position := F_w0_position.other W1 (Or.inr (slot_ne (Or.inl (own_w hw 18 rfl)) (Or.inl (own_w hw 20 rfl)) (by decide) (t := .int) (t' := .int) (by decide) (by decide)))
  replace E_w1 := E_w1.wr W1
  replace V_w1 := V_w1.other W1 (Ne.symm ne_w0_w1)
  replace K := K.wr W1 (Or.inl (List.mem_of_getElem? (i := 0) rfl))
  exact own_ret B X1 d4_15 (by decide) (by decide) (⟨rfl, K, E_w0, F_w0_key, F_w0_position, F_w0_mask⟩)
def Q_17 (Z : State) (w0 : Addr) (w1 : Addr) (kw1 : ClassId) (p3 : Int32) (p4 : Int32) (p5 : Int32) (p6 : Int32) (h0 : Heap) (n0 : Nat) (v : Option Value) (h : Heap) : Prop :=
  (v = none ∧ Keep h0 h [w0] ∧ Exa Z h w0 "com/example/keyer/keyer/KeyReader" ∧ Fld Z h w0 "com/example/keyer/keyer/KeyReader" "key" "[B" (.ref w1) ∧ Fld Z h w0 "com/example/keyer/keyer/KeyReader" "position" "I" (.int (2 : Int32)) ∧ Fld Z h w0 "com/example/keyer/keyer/KeyReader" "mask" "I" (.int (255 : Int32)))
set_option maxRecDepth 65536 in
set_option maxHeartbeats 40000000 in
theorem rm_17 (l : Launch) (Z : State) (a0 : Array Value) (hw : ∀ d ∈ tables_1, d.before a0 Z = true) (ws : List Jvm.Cond) (w0 : Addr) (w1 : Addr) (kw1 : ClassId) (p3 : Int32) (p4 : Int32) (p5 : Int32) (p6 : Int32) (h0 : Heap) (n0 : Nat) (Z0 : n0 ≤ h0.size) (E_w0 : Exa Z h0 w0 "com/example/keyer/keyer/KeyReader") (F_w0_key : Fld Z h0 w0 "com/example/keyer/keyer/KeyReader" "key" "[B" (.ref w1)) (F_w0_position : Fld Z h0 w0 "com/example/keyer/keyer/KeyReader" "position" "I" (.int (2 : Int32))) (F_w0_mask : Fld Z h0 w0 "com/example/keyer/keyer/KeyReader" "mask" "I" (.int (0 : Int32))) (g_w0 : n0 ≤ w0) (E_w1 : Exa Z h0 w1 "[B") (V_w1 : Arv Z h0 w1 kw1 .byte (4 : Int32) [(.int p3), (.int p4), (.int p5), (.int p6)] (.int (0 : Int32))) (g_w1 : n0 ≤ w1) (ne_w0_w1 : w0 ≠ w1) :
    MetFree l (⟨"com/example/keyer/keyer/KeyReader", "invert", "(Z)V"⟩ : MethodName) (head1 (Jvm.Cond.code (⟨"com/example/keyer/keyer/KeyReader", "invert", "(Z)V"⟩ : MethodName) prog_12_method_2_code 2 none :: ws) ({ frames := 0, cells := 0, slots := 0, locals := 0 } : Room)) (fun a U => a = #[(.ref w0), (.int (1 : Int32))] ∧ Z.Warmed39 U.vm ∧ U.heap = h0) (fun _ _ _ _ _ => True) (fun _ U o U' => ∃ v L, o = .returned v ∧ (Fr n0 L ∧ Q_17 Z w0 w1 kw1 p3 p4 p5 p6 h0 n0 v U'.heap) ∧ FrameEnd U o U' L ({ frames := 0, cells := 0, slots := 0, locals := 0 } : Room).cells ({ frames := 0, cells := 0, slots := 0, locals := 0 } : Room).slots) := by
  refine own_enter (Q := Q_17 Z w0 w1 kw1 p3 p4 p5 p6 h0 n0) (F := fun m => mkF m 0 #[.val (.ref w0), .val (.int (1 : Int32))] []) (plainFor_of_name pn_0) (fun m => by first | (simp [entryFrame, mkF, argsToLocals, Value.category]; done) | rfl) ?_
  intro p e s m below meth c s₁ B X0
  have K : Keep h0 h0 [w0] := Keep.refl h0 _
  refine own_aloadN (pc' := 1) B X0 d4_0 rfl rfl rfl ?_
  refine own_iloadN (pc' := 2) B X0 d4_1 rfl rfl ?_
  refine own_ifNo (pc' := 5) B X0 d4_2 ((if0 _ _).trans (feq (by decide : ¬ ((1 : Int32) = (0 : Int32)))).1) rfl ?_
  refine own_sipush (pc' := 8) B X0 (z := (255 : Int32)) d4_5 rfl (by decide) ?_
  refine own_goto (pc' := 12) B X0 d4_8 (by decide) rfl ?_
  refine own_putfield (pc' := 15) B X0 (host := "") (Or.inl (own_w hw 19 rfl)) Via.refl F_w0_mask E_w0 g_w0 (Or.inl (own_w hw 20 rfl)) (own_w hw 2 rfl) (ty := .int) (by decide) rfl rfl d4_12 rfl ?_
  intro T1 h1 X1 W1 F_w0_mask
  replace E_w0 := E_w0.wr W1
  replace F_w0_key := F_w0_key.other W1 (Or.inr (slot_ne (Or.inr (own_w hw 11 rfl)) (Or.inl (own_w hw 20 rfl)) (by decide) (t := (.array .byte)) (t' := .int) (by decide) (by decide)))
  replace F_w0_position := F_w0_position.other W1 (Or.inr (slot_ne (Or.inl (own_w hw 18 rfl)) (Or.inl (own_w hw 20 rfl)) (by decide) (t := .int) (t' := .int) (by decide) (by decide)))
  replace E_w1 := E_w1.wr W1
  replace V_w1 := V_w1.other W1 (Ne.symm ne_w0_w1)
  replace K := K.wr W1 (Or.inl (List.mem_of_getElem? (i := 0) rfl))
  exact own_ret B X1 d4_15 (by decide) (by decide) (⟨rfl, K, E_w0, F_w0_key, F_w0_position, F_w0_mask⟩)
def Q_18 (Z : State) (w0 : Addr) (w1 : Addr) (kw1 : ClassId) (p3 : Int32) (p4 : Int32) (p5 : Int32) (p6 : Int32) (h0 : Heap) (n0 : Nat) (v : Option Value) (h : Heap) : Prop :=
  (∃ (y7 : Int32) (y8 : Int32), p5 ^^^ (255 : Int32) = y7 ∧ y7 &&& (255 : Int32) = y8 ∧ v = some (.int y8) ∧ Keep h0 h [w0] ∧ Exa Z h w0 "com/example/keyer/keyer/KeyReader" ∧ Fld Z h w0 "com/example/keyer/keyer/KeyReader" "key" "[B" (.ref w1) ∧ Fld Z h w0 "com/example/keyer/keyer/KeyReader" "position" "I" (.int (3 : Int32)) ∧ Fld Z h w0 "com/example/keyer/keyer/KeyReader" "mask" "I" (.int (255 : Int32)))
set_option maxRecDepth 65536 in
set_option maxHeartbeats 40000000 in
theorem rm_18 (l : Launch) (Z : State) (a0 : Array Value) (hw : ∀ d ∈ tables_1, d.before a0 Z = true) (ws : List Jvm.Cond) (w0 : Addr) (w1 : Addr) (kw1 : ClassId) (p3 : Int32) (p4 : Int32) (p5 : Int32) (p6 : Int32) (h0 : Heap) (n0 : Nat) (Z0 : n0 ≤ h0.size) (E_w0 : Exa Z h0 w0 "com/example/keyer/keyer/KeyReader") (F_w0_key : Fld Z h0 w0 "com/example/keyer/keyer/KeyReader" "key" "[B" (.ref w1)) (F_w0_position : Fld Z h0 w0 "com/example/keyer/keyer/KeyReader" "position" "I" (.int (2 : Int32))) (F_w0_mask : Fld Z h0 w0 "com/example/keyer/keyer/KeyReader" "mask" "I" (.int (255 : Int32))) (g_w0 : n0 ≤ w0) (E_w1 : Exa Z h0 w1 "[B") (V_w1 : Arv Z h0 w1 kw1 .byte (4 : Int32) [(.int p3), (.int p4), (.int p5), (.int p6)] (.int (0 : Int32))) (g_w1 : n0 ≤ w1) (ne_w0_w1 : w0 ≠ w1) :
    MetFree l (⟨"com/example/keyer/keyer/KeyReader", "next", "()I"⟩ : MethodName) (head1 (Jvm.Cond.code (⟨"com/example/keyer/keyer/KeyReader", "next", "()I"⟩ : MethodName) prog_12_method_5_code 1 (some .int) :: ws) ({ frames := 0, cells := 0, slots := 0, locals := 0 } : Room)) (fun a U => a = #[(.ref w0)] ∧ Z.Warmed39 U.vm ∧ U.heap = h0) (fun _ _ _ _ _ => True) (fun _ U o U' => ∃ v L, o = .returned v ∧ (Fr n0 L ∧ Q_18 Z w0 w1 kw1 p3 p4 p5 p6 h0 n0 v U'.heap) ∧ FrameEnd U o U' L ({ frames := 0, cells := 0, slots := 0, locals := 0 } : Room).cells ({ frames := 0, cells := 0, slots := 0, locals := 0 } : Room).slots) := by
  refine own_enter (Q := Q_18 Z w0 w1 kw1 p3 p4 p5 p6 h0 n0) (F := fun m => mkF m 0 #[.val (.ref w0)] []) (plainFor_of_name pn_0) (fun m => by first | (simp [entryFrame, mkF, argsToLocals, Value.category]; done) | rfl) ?_
  intro p e s m below meth c s₁ B X0
  have K : Keep h0 h0 [w0] := Keep.refl h0 _
  refine own_aloadN (pc' := 1) B X0 d3_0 rfl rfl rfl ?_
  refine own_getfield (pc' := 4) B X0 (host := "") (Or.inl (own_w hw 17 rfl)) Via.refl F_w0_position d3_1 rfl ?_
  intro T1 X1
  refine own_aloadN (pc' := 5) B X1 d3_4 rfl rfl rfl ?_
  refine own_getfield (pc' := 8) B X1 (host := "") (Or.inl (own_w hw 10 rfl)) Via.refl F_w0_key d3_5 rfl ?_
  intro T2 X2
  refine own_arraylength (pc' := 9) B X2 V_w1 d3_8 rfl ?_
  refine own_icmpYes (pc' := 17) B X2 d3_9 (feq (by decide : ¬ ((2 : Int32) = (4 : Int32)))).2 (by decide) rfl ?_
  refine own_aloadN (pc' := 18) B X2 d3_17 rfl rfl rfl ?_
  refine own_getfield (pc' := 21) B X2 (host := "") (Or.inl (own_w hw 10 rfl)) Via.refl F_w0_key d3_18 rfl ?_
  intro T3 X3
  refine own_aloadN (pc' := 22) B X3 d3_21 rfl rfl rfl ?_
  refine own_dup (pc' := 23) B X3 d3_22 rfl rfl ?_
  refine own_getfield (pc' := 26) B X3 (host := "") (Or.inl (own_w hw 17 rfl)) Via.refl F_w0_position d3_23 rfl ?_
  intro T4 X4
  refine own_dup_x1 (pc' := 27) B X4 d3_26 rfl rfl rfl ?_
  refine own_iconst (pc' := 28) B X4 (z := (1 : Int32)) d3_27 rfl rfl ?_
  refine own_iadd (pc' := 29) B X4 (z := (3 : Int32)) d3_28 rfl (by decide) ?_
  refine own_putfield (pc' := 32) B X4 (host := "") (Or.inl (own_w hw 17 rfl)) Via.refl F_w0_position E_w0 g_w0 (Or.inl (own_w hw 18 rfl)) (own_w hw 2 rfl) (ty := .int) (by decide) rfl rfl d3_29 rfl ?_
  intro T5 h5 X5 W5 F_w0_position
  replace E_w0 := E_w0.wr W5
  replace F_w0_key := F_w0_key.other W5 (Or.inr (slot_ne (Or.inr (own_w hw 11 rfl)) (Or.inl (own_w hw 18 rfl)) (by decide) (t := (.array .byte)) (t' := .int) (by decide) (by decide)))
  replace F_w0_mask := F_w0_mask.other W5 (Or.inr (slot_ne (Or.inl (own_w hw 20 rfl)) (Or.inl (own_w hw 18 rfl)) (by decide) (t := .int) (t' := .int) (by decide) (by decide)))
  replace E_w1 := E_w1.wr W5
  replace V_w1 := V_w1.other W5 (Ne.symm ne_w0_w1)
  replace K := K.wr W5 (Or.inl (List.mem_of_getElem? (i := 0) rfl))
  refine own_baload (pc' := 33) B X5 V_w1 (v := (.int p5)) ⟨by decide, by decide⟩ rfl d3_32 rfl ?_
  refine own_aloadN (pc' := 34) B X5 d3_33 rfl rfl rfl ?_
  refine own_getfield (pc' := 37) B X5 (host := "") (Or.inl (own_w hw 19 rfl)) Via.refl F_w0_mask d3_34 rfl ?_
  intro T6 X6
  obtain ⟨y7, hy7⟩ : ∃ z : Int32, p5 ^^^ (255 : Int32) = z := ⟨_, rfl⟩
  refine own_ixor (pc' := 38) B X6 d3_37 rfl hy7 ?_
  refine own_sipush (pc' := 41) B X6 (z := (255 : Int32)) d3_38 rfl (by decide) ?_
  obtain ⟨y8, hy8⟩ : ∃ z : Int32, y7 &&& (255 : Int32) = z := ⟨_, rfl⟩
  refine own_iand (pc' := 42) B X6 d3_41 rfl hy8 ?_
  exact own_retI B X6 d3_42 (by decide) (by decide) (⟨y7, y8, hy7, hy8, rfl, K, E_w0, F_w0_key, F_w0_position, F_w0_mask⟩)
def Q_19 (Z : State) (w0 : Addr) (w1 : Addr) (kw1 : ClassId) (p3 : Int32) (p4 : Int32) (p5 : Int32) (p6 : Int32) (h0 : Heap) (n0 : Nat) (v : Option Value) (h : Heap) : Prop :=
  (v = none ∧ Keep h0 h [w0] ∧ Exa Z h w0 "com/example/keyer/keyer/KeyReader" ∧ Fld Z h w0 "com/example/keyer/keyer/KeyReader" "key" "[B" (.ref w1) ∧ Fld Z h w0 "com/example/keyer/keyer/KeyReader" "position" "I" (.int (1 : Int32)) ∧ Fld Z h w0 "com/example/keyer/keyer/KeyReader" "mask" "I" (.int (255 : Int32)))
set_option maxRecDepth 65536 in
set_option maxHeartbeats 40000000 in
theorem rm_19 (l : Launch) (Z : State) (a0 : Array Value) (hw : ∀ d ∈ tables_1, d.before a0 Z = true) (ws : List Jvm.Cond) (w0 : Addr) (w1 : Addr) (kw1 : ClassId) (p3 : Int32) (p4 : Int32) (p5 : Int32) (p6 : Int32) (h0 : Heap) (n0 : Nat) (Z0 : n0 ≤ h0.size) (E_w0 : Exa Z h0 w0 "com/example/keyer/keyer/KeyReader") (F_w0_key : Fld Z h0 w0 "com/example/keyer/keyer/KeyReader" "key" "[B" (.ref w1)) (F_w0_position : Fld Z h0 w0 "com/example/keyer/keyer/KeyReader" "position" "I" (.int (1 : Int32))) (F_w0_mask : Fld Z h0 w0 "com/example/keyer/keyer/KeyReader" "mask" "I" (.int (0 : Int32))) (g_w0 : n0 ≤ w0) (E_w1 : Exa Z h0 w1 "[B") (V_w1 : Arv Z h0 w1 kw1 .byte (4 : Int32) [(.int p3), (.int p4), (.int p5), (.int p6)] (.int (0 : Int32))) (g_w1 : n0 ≤ w1) (ne_w0_w1 : w0 ≠ w1) :
    MetFree l (⟨"com/example/keyer/keyer/KeyReader", "invert", "(Z)V"⟩ : MethodName) (head1 (Jvm.Cond.code (⟨"com/example/keyer/keyer/KeyReader", "invert", "(Z)V"⟩ : MethodName) prog_12_method_2_code 2 none :: ws) ({ frames := 0, cells := 0, slots := 0, locals := 0 } : Room)) (fun a U => a = #[(.ref w0), (.int (1 : Int32))] ∧ Z.Warmed39 U.vm ∧ U.heap = h0) (fun _ _ _ _ _ => True) (fun _ U o U' => ∃ v L, o = .returned v ∧ (Fr n0 L ∧ Q_19 Z w0 w1 kw1 p3 p4 p5 p6 h0 n0 v U'.heap) ∧ FrameEnd U o U' L ({ frames := 0, cells := 0, slots := 0, locals := 0 } : Room).cells ({ frames := 0, cells := 0, slots := 0, locals := 0 } : Room).slots) := by
  refine own_enter (Q := Q_19 Z w0 w1 kw1 p3 p4 p5 p6 h0 n0) (F := fun m => mkF m 0 #[.val (.ref w0), .val (.int (1 : Int32))] []) (plainFor_of_name pn_0) (fun m => by first | (simp [entryFrame, mkF, argsToLocals, Value.category]; done) | rfl) ?_
  intro p e s m below meth c s₁ B X0
  have K : Keep h0 h0 [w0] := Keep.refl h0 _
  refine own_aloadN (pc' := 1) B X0 d4_0 rfl rfl rfl ?_
  refine own_iloadN (pc' := 2) B X0 d4_1 rfl rfl ?_
  refine own_ifNo (pc' := 5) B X0 d4_2 ((if0 _ _).trans (feq (by decide : ¬ ((1 : Int32) = (0 : Int32)))).1) rfl ?_
  refine own_sipush (pc' := 8) B X0 (z := (255 : Int32)) d4_5 rfl (by decide) ?_
  refine own_goto (pc' := 12) B X0 d4_8 (by decide) rfl ?_
  refine own_putfield (pc' := 15) B X0 (host := "") (Or.inl (own_w hw 19 rfl)) Via.refl F_w0_mask E_w0 g_w0 (Or.inl (own_w hw 20 rfl)) (own_w hw 2 rfl) (ty := .int) (by decide) rfl rfl d4_12 rfl ?_
  intro T1 h1 X1 W1 F_w0_mask
  replace E_w0 := E_w0.wr W1
  replace F_w0_key := F_w0_key.other W1 (Or.inr (slot_ne (Or.inr (own_w hw 11 rfl)) (Or.inl (own_w hw 20 rfl)) (by decide) (t := (.array .byte)) (t' := .int) (by decide) (by decide)))
  replace F_w0_position := F_w0_position.other W1 (Or.inr (slot_ne (Or.inl (own_w hw 18 rfl)) (Or.inl (own_w hw 20 rfl)) (by decide) (t := .int) (t' := .int) (by decide) (by decide)))
  replace E_w1 := E_w1.wr W1
  replace V_w1 := V_w1.other W1 (Ne.symm ne_w0_w1)
  replace K := K.wr W1 (Or.inl (List.mem_of_getElem? (i := 0) rfl))
  exact own_ret B X1 d4_15 (by decide) (by decide) (⟨rfl, K, E_w0, F_w0_key, F_w0_position, F_w0_mask⟩)
def Q_20 (Z : State) (w0 : Addr) (w1 : Addr) (kw1 : ClassId) (p3 : Int32) (p4 : Int32) (p5 : Int32) (p6 : Int32) (h0 : Heap) (n0 : Nat) (v : Option Value) (h : Heap) : Prop :=
  (∃ (y7 : Int32) (y8 : Int32), p4 ^^^ (255 : Int32) = y7 ∧ y7 &&& (255 : Int32) = y8 ∧ v = some (.int y8) ∧ Keep h0 h [w0] ∧ Exa Z h w0 "com/example/keyer/keyer/KeyReader" ∧ Fld Z h w0 "com/example/keyer/keyer/KeyReader" "key" "[B" (.ref w1) ∧ Fld Z h w0 "com/example/keyer/keyer/KeyReader" "position" "I" (.int (2 : Int32)) ∧ Fld Z h w0 "com/example/keyer/keyer/KeyReader" "mask" "I" (.int (255 : Int32)))
set_option maxRecDepth 65536 in
set_option maxHeartbeats 40000000 in
theorem rm_20 (l : Launch) (Z : State) (a0 : Array Value) (hw : ∀ d ∈ tables_1, d.before a0 Z = true) (ws : List Jvm.Cond) (w0 : Addr) (w1 : Addr) (kw1 : ClassId) (p3 : Int32) (p4 : Int32) (p5 : Int32) (p6 : Int32) (h0 : Heap) (n0 : Nat) (Z0 : n0 ≤ h0.size) (E_w0 : Exa Z h0 w0 "com/example/keyer/keyer/KeyReader") (F_w0_key : Fld Z h0 w0 "com/example/keyer/keyer/KeyReader" "key" "[B" (.ref w1)) (F_w0_position : Fld Z h0 w0 "com/example/keyer/keyer/KeyReader" "position" "I" (.int (1 : Int32))) (F_w0_mask : Fld Z h0 w0 "com/example/keyer/keyer/KeyReader" "mask" "I" (.int (255 : Int32))) (g_w0 : n0 ≤ w0) (E_w1 : Exa Z h0 w1 "[B") (V_w1 : Arv Z h0 w1 kw1 .byte (4 : Int32) [(.int p3), (.int p4), (.int p5), (.int p6)] (.int (0 : Int32))) (g_w1 : n0 ≤ w1) (ne_w0_w1 : w0 ≠ w1) :
    MetFree l (⟨"com/example/keyer/keyer/KeyReader", "next", "()I"⟩ : MethodName) (head1 (Jvm.Cond.code (⟨"com/example/keyer/keyer/KeyReader", "next", "()I"⟩ : MethodName) prog_12_method_5_code 1 (some .int) :: ws) ({ frames := 0, cells := 0, slots := 0, locals := 0 } : Room)) (fun a U => a = #[(.ref w0)] ∧ Z.Warmed39 U.vm ∧ U.heap = h0) (fun _ _ _ _ _ => True) (fun _ U o U' => ∃ v L, o = .returned v ∧ (Fr n0 L ∧ Q_20 Z w0 w1 kw1 p3 p4 p5 p6 h0 n0 v U'.heap) ∧ FrameEnd U o U' L ({ frames := 0, cells := 0, slots := 0, locals := 0 } : Room).cells ({ frames := 0, cells := 0, slots := 0, locals := 0 } : Room).slots) := by
  refine own_enter (Q := Q_20 Z w0 w1 kw1 p3 p4 p5 p6 h0 n0) (F := fun m => mkF m 0 #[.val (.ref w0)] []) (plainFor_of_name pn_0) (fun m => by first | (simp [entryFrame, mkF, argsToLocals, Value.category]; done) | rfl) ?_
  intro p e s m below meth c s₁ B X0
  have K : Keep h0 h0 [w0] := Keep.refl h0 _
  refine own_aloadN (pc' := 1) B X0 d3_0 rfl rfl rfl ?_
  refine own_getfield (pc' := 4) B X0 (host := "") (Or.inl (own_w hw 17 rfl)) Via.refl F_w0_position d3_1 rfl ?_
  intro T1 X1
  refine own_aloadN (pc' := 5) B X1 d3_4 rfl rfl rfl ?_
  refine own_getfield (pc' := 8) B X1 (host := "") (Or.inl (own_w hw 10 rfl)) Via.refl F_w0_key d3_5 rfl ?_
  intro T2 X2
  refine own_arraylength (pc' := 9) B X2 V_w1 d3_8 rfl ?_
  refine own_icmpYes (pc' := 17) B X2 d3_9 (feq (by decide : ¬ ((1 : Int32) = (4 : Int32)))).2 (by decide) rfl ?_
  refine own_aloadN (pc' := 18) B X2 d3_17 rfl rfl rfl ?_
  refine own_getfield (pc' := 21) B X2 (host := "") (Or.inl (own_w hw 10 rfl)) Via.refl F_w0_key d3_18 rfl ?_
  intro T3 X3
  refine own_aloadN (pc' := 22) B X3 d3_21 rfl rfl rfl ?_
  refine own_dup (pc' := 23) B X3 d3_22 rfl rfl ?_
  refine own_getfield (pc' := 26) B X3 (host := "") (Or.inl (own_w hw 17 rfl)) Via.refl F_w0_position d3_23 rfl ?_
  intro T4 X4
  refine own_dup_x1 (pc' := 27) B X4 d3_26 rfl rfl rfl ?_
  refine own_iconst (pc' := 28) B X4 (z := (1 : Int32)) d3_27 rfl rfl ?_
  refine own_iadd (pc' := 29) B X4 (z := (2 : Int32)) d3_28 rfl (by decide) ?_
  refine own_putfield (pc' := 32) B X4 (host := "") (Or.inl (own_w hw 17 rfl)) Via.refl F_w0_position E_w0 g_w0 (Or.inl (own_w hw 18 rfl)) (own_w hw 2 rfl) (ty := .int) (by decide) rfl rfl d3_29 rfl ?_
  intro T5 h5 X5 W5 F_w0_position
  replace E_w0 := E_w0.wr W5
  replace F_w0_key := F_w0_key.other W5 (Or.inr (slot_ne (Or.inr (own_w hw 11 rfl)) (Or.inl (own_w hw 18 rfl)) (by decide) (t := (.array .byte)) (t' := .int) (by decide) (by decide)))
  replace F_w0_mask := F_w0_mask.other W5 (Or.inr (slot_ne (Or.inl (own_w hw 20 rfl)) (Or.inl (own_w hw 18 rfl)) (by decide) (t := .int) (t' := .int) (by decide) (by decide)))
  replace E_w1 := E_w1.wr W5
  replace V_w1 := V_w1.other W5 (Ne.symm ne_w0_w1)
  replace K := K.wr W5 (Or.inl (List.mem_of_getElem? (i := 0) rfl))
  refine own_baload (pc' := 33) B X5 V_w1 (v := (.int p4)) ⟨by decide, by decide⟩ rfl d3_32 rfl ?_
  refine own_aloadN (pc' := 34) B X5 d3_33 rfl rfl rfl ?_
  refine own_getfield (pc' := 37) B X5 (host := "") (Or.inl (own_w hw 19 rfl)) Via.refl F_w0_mask d3_34 rfl ?_
  intro T6 X6
  obtain ⟨y7, hy7⟩ : ∃ z : Int32, p4 ^^^ (255 : Int32) = z := ⟨_, rfl⟩
  refine own_ixor (pc' := 38) B X6 d3_37 rfl hy7 ?_
  refine own_sipush (pc' := 41) B X6 (z := (255 : Int32)) d3_38 rfl (by decide) ?_
  obtain ⟨y8, hy8⟩ : ∃ z : Int32, y7 &&& (255 : Int32) = z := ⟨_, rfl⟩
  refine own_iand (pc' := 42) B X6 d3_41 rfl hy8 ?_
  exact own_retI B X6 d3_42 (by decide) (by decide) (⟨y7, y8, hy7, hy8, rfl, K, E_w0, F_w0_key, F_w0_position, F_w0_mask⟩)
def Q_21 (Z : State) (w0 : Addr) (w1 : Addr) (kw1 : ClassId) (p3 : Int32) (p4 : Int32) (p5 : Int32) (p6 : Int32) (h0 : Heap) (n0 : Nat) (v : Option Value) (h : Heap) : Prop :=
  (v = none ∧ Keep h0 h [w0] ∧ Exa Z h w0 "com/example/keyer/keyer/KeyReader" ∧ Fld Z h w0 "com/example/keyer/keyer/KeyReader" "key" "[B" (.ref w1) ∧ Fld Z h w0 "com/example/keyer/keyer/KeyReader" "position" "I" (.int (2 : Int32)) ∧ Fld Z h w0 "com/example/keyer/keyer/KeyReader" "mask" "I" (.int (0 : Int32)))
set_option maxRecDepth 65536 in
set_option maxHeartbeats 40000000 in
theorem rm_21 (l : Launch) (Z : State) (a0 : Array Value) (hw : ∀ d ∈ tables_1, d.before a0 Z = true) (ws : List Jvm.Cond) (w0 : Addr) (w1 : Addr) (kw1 : ClassId) (p3 : Int32) (p4 : Int32) (p5 : Int32) (p6 : Int32) (h0 : Heap) (n0 : Nat) (Z0 : n0 ≤ h0.size) (E_w0 : Exa Z h0 w0 "com/example/keyer/keyer/KeyReader") (F_w0_key : Fld Z h0 w0 "com/example/keyer/keyer/KeyReader" "key" "[B" (.ref w1)) (F_w0_position : Fld Z h0 w0 "com/example/keyer/keyer/KeyReader" "position" "I" (.int (2 : Int32))) (F_w0_mask : Fld Z h0 w0 "com/example/keyer/keyer/KeyReader" "mask" "I" (.int (255 : Int32))) (g_w0 : n0 ≤ w0) (E_w1 : Exa Z h0 w1 "[B") (V_w1 : Arv Z h0 w1 kw1 .byte (4 : Int32) [(.int p3), (.int p4), (.int p5), (.int p6)] (.int (0 : Int32))) (g_w1 : n0 ≤ w1) (ne_w0_w1 : w0 ≠ w1) :
    MetFree l (⟨"com/example/keyer/keyer/KeyReader", "invert", "(Z)V"⟩ : MethodName) (head1 (Jvm.Cond.code (⟨"com/example/keyer/keyer/KeyReader", "invert", "(Z)V"⟩ : MethodName) prog_12_method_2_code 2 none :: ws) ({ frames := 0, cells := 0, slots := 0, locals := 0 } : Room)) (fun a U => a = #[(.ref w0), (.int (0 : Int32))] ∧ Z.Warmed39 U.vm ∧ U.heap = h0) (fun _ _ _ _ _ => True) (fun _ U o U' => ∃ v L, o = .returned v ∧ (Fr n0 L ∧ Q_21 Z w0 w1 kw1 p3 p4 p5 p6 h0 n0 v U'.heap) ∧ FrameEnd U o U' L ({ frames := 0, cells := 0, slots := 0, locals := 0 } : Room).cells ({ frames := 0, cells := 0, slots := 0, locals := 0 } : Room).slots) := by
  refine own_enter (Q := Q_21 Z w0 w1 kw1 p3 p4 p5 p6 h0 n0) (F := fun m => mkF m 0 #[.val (.ref w0), .val (.int (0 : Int32))] []) (plainFor_of_name pn_0) (fun m => by first | (simp [entryFrame, mkF, argsToLocals, Value.category]; done) | rfl) ?_
  intro p e s m below meth c s₁ B X0
  have K : Keep h0 h0 [w0] := Keep.refl h0 _
  refine own_aloadN (pc' := 1) B X0 d4_0 rfl rfl rfl ?_
  refine own_iloadN (pc' := 2) B X0 d4_1 rfl rfl ?_
  refine own_ifYes (pc' := 11) B X0 d4_2 ((if0 _ _).trans (teq (by decide : (0 : Int32) = (0 : Int32))).1) (by decide) rfl ?_
  refine own_iconst (pc' := 12) B X0 (z := (0 : Int32)) d4_11 rfl rfl ?_
  refine own_putfield (pc' := 15) B X0 (host := "") (Or.inl (own_w hw 19 rfl)) Via.refl F_w0_mask E_w0 g_w0 (Or.inl (own_w hw 20 rfl)) (own_w hw 2 rfl) (ty := .int) (by decide) rfl rfl d4_12 rfl ?_
  intro T1 h1 X1 W1 F_w0_mask
  replace E_w0 := E_w0.wr W1
  replace F_w0_key := F_w0_key.other W1 (Or.inr (slot_ne (Or.inr (own_w hw 11 rfl)) (Or.inl (own_w hw 20 rfl)) (by decide) (t := (.array .byte)) (t' := .int) (by decide) (by decide)))
  replace F_w0_position := F_w0_position.other W1 (Or.inr (slot_ne (Or.inl (own_w hw 18 rfl)) (Or.inl (own_w hw 20 rfl)) (by decide) (t := .int) (t' := .int) (by decide) (by decide)))
  replace E_w1 := E_w1.wr W1
  replace V_w1 := V_w1.other W1 (Ne.symm ne_w0_w1)
  replace K := K.wr W1 (Or.inl (List.mem_of_getElem? (i := 0) rfl))
  exact own_ret B X1 d4_15 (by decide) (by decide) (⟨rfl, K, E_w0, F_w0_key, F_w0_position, F_w0_mask⟩)
def Q_22 (Z : State) (w0 : Addr) (w1 : Addr) (kw1 : ClassId) (p3 : Int32) (p4 : Int32) (p5 : Int32) (p6 : Int32) (h0 : Heap) (n0 : Nat) (v : Option Value) (h : Heap) : Prop :=
  (v = none ∧ Keep h0 h [w0] ∧ Exa Z h w0 "com/example/keyer/keyer/KeyReader" ∧ Fld Z h w0 "com/example/keyer/keyer/KeyReader" "key" "[B" (.ref w1) ∧ Fld Z h w0 "com/example/keyer/keyer/KeyReader" "position" "I" (.int (2 : Int32)) ∧ Fld Z h w0 "com/example/keyer/keyer/KeyReader" "mask" "I" (.int (255 : Int32)))
set_option maxRecDepth 65536 in
set_option maxHeartbeats 40000000 in
theorem rm_22 (l : Launch) (Z : State) (a0 : Array Value) (hw : ∀ d ∈ tables_1, d.before a0 Z = true) (ws : List Jvm.Cond) (w0 : Addr) (w1 : Addr) (kw1 : ClassId) (p3 : Int32) (p4 : Int32) (p5 : Int32) (p6 : Int32) (h0 : Heap) (n0 : Nat) (Z0 : n0 ≤ h0.size) (E_w0 : Exa Z h0 w0 "com/example/keyer/keyer/KeyReader") (F_w0_key : Fld Z h0 w0 "com/example/keyer/keyer/KeyReader" "key" "[B" (.ref w1)) (F_w0_position : Fld Z h0 w0 "com/example/keyer/keyer/KeyReader" "position" "I" (.int (2 : Int32))) (F_w0_mask : Fld Z h0 w0 "com/example/keyer/keyer/KeyReader" "mask" "I" (.int (255 : Int32))) (g_w0 : n0 ≤ w0) (E_w1 : Exa Z h0 w1 "[B") (V_w1 : Arv Z h0 w1 kw1 .byte (4 : Int32) [(.int p3), (.int p4), (.int p5), (.int p6)] (.int (0 : Int32))) (g_w1 : n0 ≤ w1) (ne_w0_w1 : w0 ≠ w1) :
    MetFree l (⟨"com/example/keyer/keyer/KeyReader", "invert", "(Z)V"⟩ : MethodName) (head1 (Jvm.Cond.code (⟨"com/example/keyer/keyer/KeyReader", "invert", "(Z)V"⟩ : MethodName) prog_12_method_2_code 2 none :: ws) ({ frames := 0, cells := 0, slots := 0, locals := 0 } : Room)) (fun a U => a = #[(.ref w0), (.int (1 : Int32))] ∧ Z.Warmed39 U.vm ∧ U.heap = h0) (fun _ _ _ _ _ => True) (fun _ U o U' => ∃ v L, o = .returned v ∧ (Fr n0 L ∧ Q_22 Z w0 w1 kw1 p3 p4 p5 p6 h0 n0 v U'.heap) ∧ FrameEnd U o U' L ({ frames := 0, cells := 0, slots := 0, locals := 0 } : Room).cells ({ frames := 0, cells := 0, slots := 0, locals := 0 } : Room).slots) := by
  refine own_enter (Q := Q_22 Z w0 w1 kw1 p3 p4 p5 p6 h0 n0) (F := fun m => mkF m 0 #[.val (.ref w0), .val (.int (1 : Int32))] []) (plainFor_of_name pn_0) (fun m => by first | (simp [entryFrame, mkF, argsToLocals, Value.category]; done) | rfl) ?_
  intro p e s m below meth c s₁ B X0
  have K : Keep h0 h0 [w0] := Keep.refl h0 _
  refine own_aloadN (pc' := 1) B X0 d4_0 rfl rfl rfl ?_
  refine own_iloadN (pc' := 2) B X0 d4_1 rfl rfl ?_
  refine own_ifNo (pc' := 5) B X0 d4_2 ((if0 _ _).trans (feq (by decide : ¬ ((1 : Int32) = (0 : Int32)))).1) rfl ?_
  refine own_sipush (pc' := 8) B X0 (z := (255 : Int32)) d4_5 rfl (by decide) ?_
  refine own_goto (pc' := 12) B X0 d4_8 (by decide) rfl ?_
  refine own_putfield (pc' := 15) B X0 (host := "") (Or.inl (own_w hw 19 rfl)) Via.refl F_w0_mask E_w0 g_w0 (Or.inl (own_w hw 20 rfl)) (own_w hw 2 rfl) (ty := .int) (by decide) rfl rfl d4_12 rfl ?_
  intro T1 h1 X1 W1 F_w0_mask
  replace E_w0 := E_w0.wr W1
  replace F_w0_key := F_w0_key.other W1 (Or.inr (slot_ne (Or.inr (own_w hw 11 rfl)) (Or.inl (own_w hw 20 rfl)) (by decide) (t := (.array .byte)) (t' := .int) (by decide) (by decide)))
  replace F_w0_position := F_w0_position.other W1 (Or.inr (slot_ne (Or.inl (own_w hw 18 rfl)) (Or.inl (own_w hw 20 rfl)) (by decide) (t := .int) (t' := .int) (by decide) (by decide)))
  replace E_w1 := E_w1.wr W1
  replace V_w1 := V_w1.other W1 (Ne.symm ne_w0_w1)
  replace K := K.wr W1 (Or.inl (List.mem_of_getElem? (i := 0) rfl))
  exact own_ret B X1 d4_15 (by decide) (by decide) (⟨rfl, K, E_w0, F_w0_key, F_w0_position, F_w0_mask⟩)
def Q_0 (Z : State) (i0 : Int32) (i1 : Int32) (i2 : Int32) (i3 : Int32) (i4 : Int32) (h0 : Heap) (n0 : Nat) (v : Option Value) (h : Heap) : Prop :=
  (v = some (.int (1 : Int32)))
set_option maxRecDepth 65536 in
set_option maxHeartbeats 40000000 in
theorem rm_0 (l : Launch) (Z : State) (a0 : Array Value) (hw : ∀ d ∈ tables_1, d.before a0 Z = true) (ws : List Jvm.Cond) (i0 : Int32) (i1 : Int32) (i2 : Int32) (i3 : Int32) (i4 : Int32) (h0 : Heap) (n0 : Nat) (Z0 : n0 ≤ h0.size)  :
    MetFree l x (head1 (Jvm.Cond.code x code maxLocals ret :: ws) room_1) (fun a U => a = #[(.int i0), (.int i1), (.int i2), (.int i3), (.int i4)] ∧ Z.Warmed39 U.vm ∧ U.heap = h0) (fun _ _ _ _ _ => True) (fun _ U o U' => ∃ v L, o = .returned v ∧ (Fr n0 L ∧ Q_0 Z i0 i1 i2 i3 i4 h0 n0 v U'.heap) ∧ FrameEnd U o U' L room_1.cells room_1.slots) := by
  refine own_enter (Q := Q_0 Z i0 i1 i2 i3 i4 h0 n0) (F := fun m => mkF m 0 #[.val (.int i0), .val (.int i1), .val (.int i2), .val (.int i3), .val (.int i4), .unset, .unset, .unset, .unset, .unset, .unset, .unset, .unset, .unset, .unset] []) (plainFor_of_name pn_1) (fun m => by first | (simp [entryFrame, mkF, argsToLocals, Value.category, maxLocals]; done) | rfl) ?_
  intro p e s m below meth c s₁ B X0
  have K : Keep h0 h0 [] := Keep.refl h0 _
  refine own_iconst (pc' := 1) B X0 (z := (4 : Int32)) at_0 rfl rfl ?_
  refine own_newarray (pc' := 3) B X0 (own_w hw 0 rfl) at_1 rfl rfl (by decide) 4 (by decide) (by decide) (k' := 1) (n' := 4) rfl rfl (by decide) (by decide) "[B" (by decide) (.int (0 : Int32)) rfl ?_
  intro T1 h1 b1 kb1 X1 g1 E1 V_b1 E_b1
  have sz_b1 : h0.size ≤ b1 := own_sz K g1
  have g_b1 : n0 ≤ b1 := Nat.le_trans Z0 sz_b1
  replace K := K.ext E1
  replace V_b1 : Arv Z h1 b1 kb1 .byte (4 : Int32) [(.int (0 : Int32)), (.int (0 : Int32)), (.int (0 : Int32)), (.int (0 : Int32))] (.int (0 : Int32)) := V_b1.pad (pad_rep [] (.int (0 : Int32)) 4)
  refine own_dup (pc' := 4) B X1 at_3 rfl rfl ?_
  refine own_iconst (pc' := 5) B X1 (z := (0 : Int32)) at_4 rfl rfl ?_
  refine own_iloadN (pc' := 6) B X1 at_5 rfl rfl ?_
  obtain ⟨y2, hy2⟩ : ∃ z : Int32, i0.toInt8.toInt32 = z := ⟨_, rfl⟩
  refine own_i2b (pc' := 7) B X1 at_6 rfl hy2 ?_
  refine own_bastore (pc' := 8) B X1 (x' := y2) V_b1 g_b1 ⟨by decide, by decide⟩ 0 (by decide) (Nat.le_of_ble_eq_true rfl) (own_idem_i2b hy2) at_7 rfl ?_
  intro T3 h3 X3 W3 V_b1
  replace V_b1 : Arv Z h3 b1 kb1 .byte (4 : Int32) [(.int y2), (.int (0 : Int32)), (.int (0 : Int32)), (.int (0 : Int32))] (.int (0 : Int32)) := V_b1
  replace E_b1 := E_b1.wr W3
  replace K := K.wr W3 (Or.inr sz_b1)
  refine own_dup (pc' := 9) B X3 at_8 rfl rfl ?_
  refine own_iconst (pc' := 10) B X3 (z := (1 : Int32)) at_9 rfl rfl ?_
  refine own_iloadN (pc' := 11) B X3 at_10 rfl rfl ?_
  obtain ⟨y4, hy4⟩ : ∃ z : Int32, i1.toInt8.toInt32 = z := ⟨_, rfl⟩
  refine own_i2b (pc' := 12) B X3 at_11 rfl hy4 ?_
  refine own_bastore (pc' := 13) B X3 (x' := y4) V_b1 g_b1 ⟨by decide, by decide⟩ 1 (by decide) (Nat.le_of_ble_eq_true rfl) (own_idem_i2b hy4) at_12 rfl ?_
  intro T5 h5 X5 W5 V_b1
  replace V_b1 : Arv Z h5 b1 kb1 .byte (4 : Int32) [(.int y2), (.int y4), (.int (0 : Int32)), (.int (0 : Int32))] (.int (0 : Int32)) := V_b1
  replace E_b1 := E_b1.wr W5
  replace K := K.wr W5 (Or.inr sz_b1)
  refine own_dup (pc' := 14) B X5 at_13 rfl rfl ?_
  refine own_iconst (pc' := 15) B X5 (z := (2 : Int32)) at_14 rfl rfl ?_
  refine own_iloadN (pc' := 16) B X5 at_15 rfl rfl ?_
  obtain ⟨y6, hy6⟩ : ∃ z : Int32, i2.toInt8.toInt32 = z := ⟨_, rfl⟩
  refine own_i2b (pc' := 17) B X5 at_16 rfl hy6 ?_
  refine own_bastore (pc' := 18) B X5 (x' := y6) V_b1 g_b1 ⟨by decide, by decide⟩ 2 (by decide) (Nat.le_of_ble_eq_true rfl) (own_idem_i2b hy6) at_17 rfl ?_
  intro T7 h7 X7 W7 V_b1
  replace V_b1 : Arv Z h7 b1 kb1 .byte (4 : Int32) [(.int y2), (.int y4), (.int y6), (.int (0 : Int32))] (.int (0 : Int32)) := V_b1
  replace E_b1 := E_b1.wr W7
  replace K := K.wr W7 (Or.inr sz_b1)
  refine own_dup (pc' := 19) B X7 at_18 rfl rfl ?_
  refine own_iconst (pc' := 20) B X7 (z := (3 : Int32)) at_19 rfl rfl ?_
  refine own_iloadN (pc' := 21) B X7 at_20 rfl rfl ?_
  obtain ⟨y8, hy8⟩ : ∃ z : Int32, i3.toInt8.toInt32 = z := ⟨_, rfl⟩
  refine own_i2b (pc' := 22) B X7 at_21 rfl hy8 ?_
  refine own_bastore (pc' := 23) B X7 (x' := y8) V_b1 g_b1 ⟨by decide, by decide⟩ 3 (by decide) (Nat.le_of_ble_eq_true rfl) (own_idem_i2b hy8) at_22 rfl ?_
  intro T9 h9 X9 W9 V_b1
  replace V_b1 : Arv Z h9 b1 kb1 .byte (4 : Int32) [(.int y2), (.int y4), (.int y6), (.int y8)] (.int (0 : Int32)) := V_b1
  replace E_b1 := E_b1.wr W9
  replace K := K.wr W9 (Or.inr sz_b1)
  refine own_astore (pc' := 25) B X9 (Ls' := #[.val (.int i0), .val (.int i1), .val (.int i2), .val (.int i3), .val (.int i4), .val (.ref b1), .unset, .unset, .unset, .unset, .unset, .unset, .unset, .unset, .unset]) at_23 rfl rfl rfl ?_
  refine own_iload (pc' := 27) B X9 at_25 rfl rfl ?_
  refine own_iconst (pc' := 28) B X9 (z := (1 : Int32)) at_27 rfl rfl ?_
  obtain ⟨y10, hy10⟩ : ∃ z : Int32, i4 &&& (1 : Int32) = z := ⟨_, rfl⟩
  refine own_iand (pc' := 29) B X9 at_28 rfl hy10 ?_
  by_cases c11 : y10 = (0 : Int32)
  · refine own_ifYes (pc' := 36) B X9 at_29 ((if0 _ _).trans (teq c11).1) (by decide) rfl ?_
    refine own_iconst (pc' := 37) B X9 (z := (0 : Int32)) at_36 rfl rfl ?_
    refine own_istore (pc' := 39) B X9 (Ls' := #[.val (.int i0), .val (.int i1), .val (.int i2), .val (.int i3), .val (.int i4), .val (.ref b1), .val (.int (0 : Int32)), .unset, .unset, .unset, .unset, .unset, .unset, .unset, .unset]) at_37 rfl rfl ?_
    refine own_iload (pc' := 41) B X9 at_39 rfl rfl ?_
    refine own_iconst (pc' := 42) B X9 (z := (2 : Int32)) at_41 rfl rfl ?_
    obtain ⟨y12, hy12⟩ : ∃ z : Int32, i4 &&& (2 : Int32) = z := ⟨_, rfl⟩
    refine own_iand (pc' := 43) B X9 at_42 rfl hy12 ?_
    by_cases c13 : y12 = (0 : Int32)
    · refine own_ifYes (pc' := 50) B X9 at_43 ((if0 _ _).trans (teq c13).1) (by decide) rfl ?_
      refine own_iconst (pc' := 51) B X9 (z := (0 : Int32)) at_50 rfl rfl ?_
      refine own_istore (pc' := 53) B X9 (Ls' := #[.val (.int i0), .val (.int i1), .val (.int i2), .val (.int i3), .val (.int i4), .val (.ref b1), .val (.int (0 : Int32)), .val (.int (0 : Int32)), .unset, .unset, .unset, .unset, .unset, .unset, .unset]) at_51 rfl rfl ?_
      refine own_iload (pc' := 55) B X9 at_53 rfl rfl ?_
      refine own_iconst (pc' := 56) B X9 (z := (4 : Int32)) at_55 rfl rfl ?_
      obtain ⟨y14, hy14⟩ : ∃ z : Int32, i4 &&& (4 : Int32) = z := ⟨_, rfl⟩
      refine own_iand (pc' := 57) B X9 at_56 rfl hy14 ?_
      by_cases c15 : y14 = (0 : Int32)
      · refine own_ifYes (pc' := 64) B X9 at_57 ((if0 _ _).trans (teq c15).1) (by decide) rfl ?_
        refine own_iconst (pc' := 65) B X9 (z := (0 : Int32)) at_64 rfl rfl ?_
        refine own_istore (pc' := 67) B X9 (Ls' := #[.val (.int i0), .val (.int i1), .val (.int i2), .val (.int i3), .val (.int i4), .val (.ref b1), .val (.int (0 : Int32)), .val (.int (0 : Int32)), .val (.int (0 : Int32)), .unset, .unset, .unset, .unset, .unset, .unset]) at_65 rfl rfl ?_
        refine own_iload (pc' := 69) B X9 at_67 rfl rfl ?_
        refine own_bipush (pc' := 71) B X9 (z := (8 : Int32)) at_69 rfl (by decide) ?_
        obtain ⟨y16, hy16⟩ : ∃ z : Int32, i4 &&& (8 : Int32) = z := ⟨_, rfl⟩
        refine own_iand (pc' := 72) B X9 at_71 rfl hy16 ?_
        by_cases c17 : y16 = (0 : Int32)
        · refine own_ifYes (pc' := 79) B X9 at_72 ((if0 _ _).trans (teq c17).1) (by decide) rfl ?_
          refine own_iconst (pc' := 80) B X9 (z := (0 : Int32)) at_79 rfl rfl ?_
          refine own_istore (pc' := 82) B X9 (Ls' := #[.val (.int i0), .val (.int i1), .val (.int i2), .val (.int i3), .val (.int i4), .val (.ref b1), .val (.int (0 : Int32)), .val (.int (0 : Int32)), .val (.int (0 : Int32)), .val (.int (0 : Int32)), .unset, .unset, .unset, .unset, .unset]) at_80 rfl rfl ?_
          refine own_new (pc' := 85) B X9 (own_w hw 1 rfl) (own_w hw 2 rfl) (own_w hw 3 rfl) at_82 rfl (k' := 2) (n' := 7) rfl rfl (by decide) (by decide) ?_
          intro T18 h18 b18 X18 g18 E18 E_b18 D18
          have ne_b1_b18 : b1 ≠ b18 := own_ne E_b1.lt g18
          have sz_b18 : h0.size ≤ b18 := own_sz K g18
          have g_b18 : n0 ≤ b18 := Nat.le_trans Z0 sz_b18
          replace K := K.ext E18
          replace E_b1 := E_b1.ext E18
          replace V_b1 := V_b1.ext E18
          have F_b18_key : Fld Z h18 b18 "com/example/keyer/keyer/KeyReader" "key" "[B" .null := D18 (Or.inr (own_w hw 11 rfl)) (ty := (.array .byte)) (by decide)
          have F_b18_position : Fld Z h18 b18 "com/example/keyer/keyer/KeyReader" "position" "I" (.int (0 : Int32)) := D18 (Or.inl (own_w hw 18 rfl)) (ty := .int) (by decide)
          have F_b18_mask : Fld Z h18 b18 "com/example/keyer/keyer/KeyReader" "mask" "I" (.int (0 : Int32)) := D18 (Or.inl (own_w hw 20 rfl)) (ty := .int) (by decide)
          clear D18
          refine own_dup (pc' := 86) B X18 at_85 rfl rfl ?_
          refine own_aload (pc' := 88) B X18 at_86 rfl rfl rfl ?_
          refine own_callI (pc' := 91) B X18 rfl rfl (own_w hw 4 rfl) (own_w hw 5 rfl) (own_w hw 3 rfl) (own_w hw 6 rfl) (by decide) [(.ref b1)] [(.ref b18)] (rm_1 l Z a0 hw [] b18 b1 kb1 (y2) (y4) (y6) (y8) h18 n0 (Nat.le_trans Z0 K.1) E_b18 F_b18_key F_b18_position F_b18_mask g_b18 E_b1 V_b1 g_b1 (Ne.symm ne_b1_b18)) 1 (by decide) (by decide) rfl pd_0 rfl rfl (Nat.le_of_eq rfl) at_88 rfl (k' := 2) (n' := 7) rfl rfl (by decide) (by decide) ?_
          intro T19 v19 h19 X19 q19
          obtain ⟨rfl, K19, E_b18, F_b18_key, F_b18_position, F_b18_mask⟩ := q19
          replace K := K.trans K19 (allS (Or.inr sz_b18) all0)
          replace E_b1 := E_b1.keep K19
          replace V_b1 := V_b1.keep K19 (ninS ne_b1_b18 nin0)
          show own_Go p e below (T19.setTop (mkF m 91 #[.val (.int i0), .val (.int i1), .val (.int i2), .val (.int i3), .val (.int i4), .val (.ref b1), .val (.int (0 : Int32)), .val (.int (0 : Int32)), .val (.int (0 : Int32)), .val (.int (0 : Int32)), .unset, .unset, .unset, .unset, .unset] [(.ref b18)])) _
          refine own_astore (pc' := 93) B X19 (Ls' := #[.val (.int i0), .val (.int i1), .val (.int i2), .val (.int i3), .val (.int i4), .val (.ref b1), .val (.int (0 : Int32)), .val (.int (0 : Int32)), .val (.int (0 : Int32)), .val (.int (0 : Int32)), .val (.ref b18), .unset, .unset, .unset, .unset]) at_91 rfl rfl rfl ?_
          refine own_aload (pc' := 95) B X19 at_93 rfl rfl rfl ?_
          refine own_callV (pc' := 98) B X19 (own_w hw 12 rfl) (own_w hw 13 rfl) (own_w hw 15 rfl) (own_w hw 14 rfl) (own_w hw 3 rfl) (own_w hw 16 rfl) E_b18 (by decide) [] [] (rm_2 l Z a0 hw [] b18 b1 kb1 (y2) (y4) (y6) (y8) h19 n0 (Nat.le_trans Z0 K.1) E_b18 F_b18_key F_b18_position F_b18_mask g_b18 E_b1 V_b1 g_b1 (Ne.symm ne_b1_b18)) 0 (by decide) (by decide) rfl pd_1 rfl rfl (Nat.le_of_eq rfl) at_95 rfl (k' := 2) (n' := 7) rfl rfl (by decide) (by decide) ?_
          intro T20 v20 h20 X20 q20
          obtain ⟨y21, hy22, rfl, K20, E_b18, F_b18_key, F_b18_position, F_b18_mask⟩ := q20
          replace K := K.trans K20 (allS (Or.inr sz_b18) all0)
          replace E_b1 := E_b1.keep K20
          replace V_b1 := V_b1.keep K20 (ninS ne_b1_b18 nin0)
          show own_Go p e below (T20.setTop (mkF m 98 #[.val (.int i0), .val (.int i1), .val (.int i2), .val (.int i3), .val (.int i4), .val (.ref b1), .val (.int (0 : Int32)), .val (.int (0 : Int32)), .val (.int (0 : Int32)), .val (.int (0 : Int32)), .val (.ref b18), .unset, .unset, .unset, .unset] [(.int y21)])) _
          refine own_istore (pc' := 100) B X20 (Ls' := #[.val (.int i0), .val (.int i1), .val (.int i2), .val (.int i3), .val (.int i4), .val (.ref b1), .val (.int (0 : Int32)), .val (.int (0 : Int32)), .val (.int (0 : Int32)), .val (.int (0 : Int32)), .val (.ref b18), .val (.int y21), .unset, .unset, .unset]) at_98 rfl rfl ?_
          refine own_aload (pc' := 102) B X20 at_100 rfl rfl rfl ?_
          refine own_iload (pc' := 104) B X20 at_102 rfl rfl ?_
          refine own_callV (pc' := 107) B X20 (own_w hw 21 rfl) (own_w hw 22 rfl) (own_w hw 24 rfl) (own_w hw 23 rfl) (own_w hw 3 rfl) (own_w hw 25 rfl) E_b18 (by decide) [(.int (0 : Int32))] [] (rm_3 l Z a0 hw [] b18 b1 kb1 (y2) (y4) (y6) (y8) h20 n0 (Nat.le_trans Z0 K.1) E_b18 F_b18_key F_b18_position F_b18_mask g_b18 E_b1 V_b1 g_b1 (Ne.symm ne_b1_b18)) 0 (by decide) (by decide) rfl pd_2 rfl rfl (Nat.le_of_eq rfl) at_104 rfl (k' := 2) (n' := 7) rfl rfl (by decide) (by decide) ?_
          intro T23 v23 h23 X23 q23
          obtain ⟨rfl, K23, E_b18, F_b18_key, F_b18_position, F_b18_mask⟩ := q23
          replace K := K.trans K23 (allS (Or.inr sz_b18) all0)
          replace E_b1 := E_b1.keep K23
          replace V_b1 := V_b1.keep K23 (ninS ne_b1_b18 nin0)
          show own_Go p e below (T23.setTop (mkF m 107 #[.val (.int i0), .val (.int i1), .val (.int i2), .val (.int i3), .val (.int i4), .val (.ref b1), .val (.int (0 : Int32)), .val (.int (0 : Int32)), .val (.int (0 : Int32)), .val (.int (0 : Int32)), .val (.ref b18), .val (.int y21), .unset, .unset, .unset] [])) _
          refine own_aload (pc' := 109) B X23 at_107 rfl rfl rfl ?_
          refine own_callV (pc' := 112) B X23 (own_w hw 12 rfl) (own_w hw 13 rfl) (own_w hw 15 rfl) (own_w hw 14 rfl) (own_w hw 3 rfl) (own_w hw 16 rfl) E_b18 (by decide) [] [] (rm_4 l Z a0 hw [] b18 b1 kb1 (y2) (y4) (y6) (y8) h23 n0 (Nat.le_trans Z0 K.1) E_b18 F_b18_key F_b18_position F_b18_mask g_b18 E_b1 V_b1 g_b1 (Ne.symm ne_b1_b18)) 0 (by decide) (by decide) rfl pd_1 rfl rfl (Nat.le_of_eq rfl) at_109 rfl (k' := 2) (n' := 7) rfl rfl (by decide) (by decide) ?_
          intro T24 v24 h24 X24 q24
          obtain ⟨y25, hy26, rfl, K24, E_b18, F_b18_key, F_b18_position, F_b18_mask⟩ := q24
          replace K := K.trans K24 (allS (Or.inr sz_b18) all0)
          replace E_b1 := E_b1.keep K24
          replace V_b1 := V_b1.keep K24 (ninS ne_b1_b18 nin0)
          show own_Go p e below (T24.setTop (mkF m 112 #[.val (.int i0), .val (.int i1), .val (.int i2), .val (.int i3), .val (.int i4), .val (.ref b1), .val (.int (0 : Int32)), .val (.int (0 : Int32)), .val (.int (0 : Int32)), .val (.int (0 : Int32)), .val (.ref b18), .val (.int y21), .unset, .unset, .unset] [(.int y25)])) _
          refine own_istore (pc' := 114) B X24 (Ls' := #[.val (.int i0), .val (.int i1), .val (.int i2), .val (.int i3), .val (.int i4), .val (.ref b1), .val (.int (0 : Int32)), .val (.int (0 : Int32)), .val (.int (0 : Int32)), .val (.int (0 : Int32)), .val (.ref b18), .val (.int y21), .val (.int y25), .unset, .unset]) at_112 rfl rfl ?_
          refine own_aload (pc' := 116) B X24 at_114 rfl rfl rfl ?_
          refine own_iload (pc' := 118) B X24 at_116 rfl rfl ?_
          refine own_callV (pc' := 121) B X24 (own_w hw 21 rfl) (own_w hw 22 rfl) (own_w hw 24 rfl) (own_w hw 23 rfl) (own_w hw 3 rfl) (own_w hw 25 rfl) E_b18 (by decide) [(.int (0 : Int32))] [] (rm_5 l Z a0 hw [] b18 b1 kb1 (y2) (y4) (y6) (y8) h24 n0 (Nat.le_trans Z0 K.1) E_b18 F_b18_key F_b18_position F_b18_mask g_b18 E_b1 V_b1 g_b1 (Ne.symm ne_b1_b18)) 0 (by decide) (by decide) rfl pd_2 rfl rfl (Nat.le_of_eq rfl) at_118 rfl (k' := 2) (n' := 7) rfl rfl (by decide) (by decide) ?_
          intro T27 v27 h27 X27 q27
          obtain ⟨rfl, K27, E_b18, F_b18_key, F_b18_position, F_b18_mask⟩ := q27
          replace K := K.trans K27 (allS (Or.inr sz_b18) all0)
          replace E_b1 := E_b1.keep K27
          replace V_b1 := V_b1.keep K27 (ninS ne_b1_b18 nin0)
          show own_Go p e below (T27.setTop (mkF m 121 #[.val (.int i0), .val (.int i1), .val (.int i2), .val (.int i3), .val (.int i4), .val (.ref b1), .val (.int (0 : Int32)), .val (.int (0 : Int32)), .val (.int (0 : Int32)), .val (.int (0 : Int32)), .val (.ref b18), .val (.int y21), .val (.int y25), .unset, .unset] [])) _
          refine own_aload (pc' := 123) B X27 at_121 rfl rfl rfl ?_
          refine own_callV (pc' := 126) B X27 (own_w hw 12 rfl) (own_w hw 13 rfl) (own_w hw 15 rfl) (own_w hw 14 rfl) (own_w hw 3 rfl) (own_w hw 16 rfl) E_b18 (by decide) [] [] (rm_6 l Z a0 hw [] b18 b1 kb1 (y2) (y4) (y6) (y8) h27 n0 (Nat.le_trans Z0 K.1) E_b18 F_b18_key F_b18_position F_b18_mask g_b18 E_b1 V_b1 g_b1 (Ne.symm ne_b1_b18)) 0 (by decide) (by decide) rfl pd_1 rfl rfl (Nat.le_of_eq rfl) at_123 rfl (k' := 2) (n' := 7) rfl rfl (by decide) (by decide) ?_
          intro T28 v28 h28 X28 q28
          obtain ⟨y29, hy30, rfl, K28, E_b18, F_b18_key, F_b18_position, F_b18_mask⟩ := q28
          replace K := K.trans K28 (allS (Or.inr sz_b18) all0)
          replace E_b1 := E_b1.keep K28
          replace V_b1 := V_b1.keep K28 (ninS ne_b1_b18 nin0)
          show own_Go p e below (T28.setTop (mkF m 126 #[.val (.int i0), .val (.int i1), .val (.int i2), .val (.int i3), .val (.int i4), .val (.ref b1), .val (.int (0 : Int32)), .val (.int (0 : Int32)), .val (.int (0 : Int32)), .val (.int (0 : Int32)), .val (.ref b18), .val (.int y21), .val (.int y25), .unset, .unset] [(.int y29)])) _
          refine own_istore (pc' := 128) B X28 (Ls' := #[.val (.int i0), .val (.int i1), .val (.int i2), .val (.int i3), .val (.int i4), .val (.ref b1), .val (.int (0 : Int32)), .val (.int (0 : Int32)), .val (.int (0 : Int32)), .val (.int (0 : Int32)), .val (.ref b18), .val (.int y21), .val (.int y25), .val (.int y29), .unset]) at_126 rfl rfl ?_
          refine own_aload (pc' := 130) B X28 at_128 rfl rfl rfl ?_
          refine own_iload (pc' := 132) B X28 at_130 rfl rfl ?_
          refine own_callV (pc' := 135) B X28 (own_w hw 21 rfl) (own_w hw 22 rfl) (own_w hw 24 rfl) (own_w hw 23 rfl) (own_w hw 3 rfl) (own_w hw 25 rfl) E_b18 (by decide) [(.int (0 : Int32))] [] (rm_7 l Z a0 hw [] b18 b1 kb1 (y2) (y4) (y6) (y8) h28 n0 (Nat.le_trans Z0 K.1) E_b18 F_b18_key F_b18_position F_b18_mask g_b18 E_b1 V_b1 g_b1 (Ne.symm ne_b1_b18)) 0 (by decide) (by decide) rfl pd_2 rfl rfl (Nat.le_of_eq rfl) at_132 rfl (k' := 2) (n' := 7) rfl rfl (by decide) (by decide) ?_
          intro T31 v31 h31 X31 q31
          obtain ⟨rfl, K31, E_b18, F_b18_key, F_b18_position, F_b18_mask⟩ := q31
          replace K := K.trans K31 (allS (Or.inr sz_b18) all0)
          replace E_b1 := E_b1.keep K31
          replace V_b1 := V_b1.keep K31 (ninS ne_b1_b18 nin0)
          show own_Go p e below (T31.setTop (mkF m 135 #[.val (.int i0), .val (.int i1), .val (.int i2), .val (.int i3), .val (.int i4), .val (.ref b1), .val (.int (0 : Int32)), .val (.int (0 : Int32)), .val (.int (0 : Int32)), .val (.int (0 : Int32)), .val (.ref b18), .val (.int y21), .val (.int y25), .val (.int y29), .unset] [])) _
          refine own_aload (pc' := 137) B X31 at_135 rfl rfl rfl ?_
          refine own_iload (pc' := 139) B X31 at_137 rfl rfl ?_
          refine own_callV (pc' := 142) B X31 (own_w hw 21 rfl) (own_w hw 22 rfl) (own_w hw 24 rfl) (own_w hw 23 rfl) (own_w hw 3 rfl) (own_w hw 25 rfl) E_b18 (by decide) [(.int (0 : Int32))] [] (rm_7 l Z a0 hw [] b18 b1 kb1 (y2) (y4) (y6) (y8) h31 n0 (Nat.le_trans Z0 K.1) E_b18 F_b18_key F_b18_position F_b18_mask g_b18 E_b1 V_b1 g_b1 (Ne.symm ne_b1_b18)) 0 (by decide) (by decide) rfl pd_2 rfl rfl (Nat.le_of_eq rfl) at_139 rfl (k' := 2) (n' := 7) rfl rfl (by decide) (by decide) ?_
          intro T32 v32 h32 X32 q32
          obtain ⟨rfl, K32, E_b18, F_b18_key, F_b18_position, F_b18_mask⟩ := q32
          replace K := K.trans K32 (allS (Or.inr sz_b18) all0)
          replace E_b1 := E_b1.keep K32
          replace V_b1 := V_b1.keep K32 (ninS ne_b1_b18 nin0)
          show own_Go p e below (T32.setTop (mkF m 142 #[.val (.int i0), .val (.int i1), .val (.int i2), .val (.int i3), .val (.int i4), .val (.ref b1), .val (.int (0 : Int32)), .val (.int (0 : Int32)), .val (.int (0 : Int32)), .val (.int (0 : Int32)), .val (.ref b18), .val (.int y21), .val (.int y25), .val (.int y29), .unset] [])) _
          refine own_aload (pc' := 144) B X32 at_142 rfl rfl rfl ?_
          refine own_callV (pc' := 147) B X32 (own_w hw 12 rfl) (own_w hw 13 rfl) (own_w hw 15 rfl) (own_w hw 14 rfl) (own_w hw 3 rfl) (own_w hw 16 rfl) E_b18 (by decide) [] [] (rm_8 l Z a0 hw [] b18 b1 kb1 (y2) (y4) (y6) (y8) h32 n0 (Nat.le_trans Z0 K.1) E_b18 F_b18_key F_b18_position F_b18_mask g_b18 E_b1 V_b1 g_b1 (Ne.symm ne_b1_b18)) 0 (by decide) (by decide) rfl pd_1 rfl rfl (Nat.le_of_eq rfl) at_144 rfl (k' := 2) (n' := 7) rfl rfl (by decide) (by decide) ?_
          intro T33 v33 h33 X33 q33
          obtain ⟨y34, hy35, rfl, K33, E_b18, F_b18_key, F_b18_position, F_b18_mask⟩ := q33
          replace K := K.trans K33 (allS (Or.inr sz_b18) all0)
          replace E_b1 := E_b1.keep K33
          replace V_b1 := V_b1.keep K33 (ninS ne_b1_b18 nin0)
          show own_Go p e below (T33.setTop (mkF m 147 #[.val (.int i0), .val (.int i1), .val (.int i2), .val (.int i3), .val (.int i4), .val (.ref b1), .val (.int (0 : Int32)), .val (.int (0 : Int32)), .val (.int (0 : Int32)), .val (.int (0 : Int32)), .val (.ref b18), .val (.int y21), .val (.int y25), .val (.int y29), .unset] [(.int y34)])) _
          refine own_istore (pc' := 149) B X33 (Ls' := #[.val (.int i0), .val (.int i1), .val (.int i2), .val (.int i3), .val (.int i4), .val (.ref b1), .val (.int (0 : Int32)), .val (.int (0 : Int32)), .val (.int (0 : Int32)), .val (.int (0 : Int32)), .val (.ref b18), .val (.int y21), .val (.int y25), .val (.int y29), .val (.int y34)]) at_147 rfl rfl ?_
          refine own_iload (pc' := 151) B X33 at_149 rfl rfl ?_
          refine own_iloadN (pc' := 152) B X33 at_151 rfl rfl ?_
          refine own_iconst (pc' := 153) B X33 (z := (0 : Int32)) at_152 rfl rfl ?_
          refine own_callS (pc' := 156) B X33 (own_w hw 26 rfl) (own_w hw 27 rfl) (own_w hw 28 rfl) (own_w hw 29 rfl) (by decide) [(.int i0), (.int (0 : Int32))] [(.int y21)] (rm_9 l Z a0 hw [] (i0) h33 n0 (Nat.le_trans Z0 K.1) ) 1 (by decide) (by decide) rfl pd_3 rfl rfl (Nat.le_of_eq rfl) at_153 rfl (k' := 2) (n' := 7) rfl rfl (by decide) (by decide) ?_
          intro T36 v36 h36 X36 q36
          obtain ⟨y37, hy38, rfl, rfl⟩ := q36
          show own_Go p e below (T36.setTop (mkF m 156 #[.val (.int i0), .val (.int i1), .val (.int i2), .val (.int i3), .val (.int i4), .val (.ref b1), .val (.int (0 : Int32)), .val (.int (0 : Int32)), .val (.int (0 : Int32)), .val (.int (0 : Int32)), .val (.ref b18), .val (.int y21), .val (.int y25), .val (.int y29), .val (.int y34)] [(.int y37), (.int y21)])) _
          have c39 : y21 = y37 := by
            have o0 := own_o_i2b hy2
            have o1 := own_o_mask hy22 8 (by decide) (by decide)
            have o2 := own_o_mask hy38 8 (by decide) (by decide)
            have o3 := rng32 i0
            have o4 := rng32 y2
            have o5 := rng32 y21
            have o6 := rng32 y37
            have o7 : (255 : Int32).toInt = 255 := by decide
            refine own_eqI ?_
            omega
          refine own_icmpNo (pc' := 159) B X36 at_156 (teq c39).2 rfl ?_
          refine own_iload (pc' := 161) B X36 at_159 rfl rfl ?_
          refine own_iloadN (pc' := 162) B X36 at_161 rfl rfl ?_
          refine own_iload (pc' := 164) B X36 at_162 rfl rfl ?_
          refine own_callS (pc' := 167) B X36 (own_w hw 26 rfl) (own_w hw 27 rfl) (own_w hw 28 rfl) (own_w hw 29 rfl) (by decide) [(.int i1), (.int (0 : Int32))] [(.int y25)] (rm_9 l Z a0 hw [] (i1) h33 n0 (Nat.le_trans Z0 K.1) ) 1 (by decide) (by decide) rfl pd_3 rfl rfl (Nat.le_of_eq rfl) at_164 rfl (k' := 2) (n' := 7) rfl rfl (by decide) (by decide) ?_
          intro T40 v40 h40 X40 q40
          obtain ⟨y41, hy42, rfl, rfl⟩ := q40
          show own_Go p e below (T40.setTop (mkF m 167 #[.val (.int i0), .val (.int i1), .val (.int i2), .val (.int i3), .val (.int i4), .val (.ref b1), .val (.int (0 : Int32)), .val (.int (0 : Int32)), .val (.int (0 : Int32)), .val (.int (0 : Int32)), .val (.ref b18), .val (.int y21), .val (.int y25), .val (.int y29), .val (.int y34)] [(.int y41), (.int y25)])) _
          have c43 : y25 = y41 := by
            have o0 := own_o_i2b hy4
            have o1 := own_o_mask hy26 8 (by decide) (by decide)
            have o2 := own_o_mask hy42 8 (by decide) (by decide)
            have o3 := rng32 i1
            have o4 := rng32 y25
            have o5 := rng32 y4
            have o6 := rng32 y41
            have o7 : (255 : Int32).toInt = 255 := by decide
            refine own_eqI ?_
            omega
          refine own_icmpNo (pc' := 170) B X40 at_167 (teq c43).2 rfl ?_
          refine own_iload (pc' := 172) B X40 at_170 rfl rfl ?_
          refine own_iloadN (pc' := 173) B X40 at_172 rfl rfl ?_
          refine own_iload (pc' := 175) B X40 at_173 rfl rfl ?_
          refine own_callS (pc' := 178) B X40 (own_w hw 26 rfl) (own_w hw 27 rfl) (own_w hw 28 rfl) (own_w hw 29 rfl) (by decide) [(.int i2), (.int (0 : Int32))] [(.int y29)] (rm_9 l Z a0 hw [] (i2) h33 n0 (Nat.le_trans Z0 K.1) ) 1 (by decide) (by decide) rfl pd_3 rfl rfl (Nat.le_of_eq rfl) at_175 rfl (k' := 2) (n' := 7) rfl rfl (by decide) (by decide) ?_
          intro T44 v44 h44 X44 q44
          obtain ⟨y45, hy46, rfl, rfl⟩ := q44
          show own_Go p e below (T44.setTop (mkF m 178 #[.val (.int i0), .val (.int i1), .val (.int i2), .val (.int i3), .val (.int i4), .val (.ref b1), .val (.int (0 : Int32)), .val (.int (0 : Int32)), .val (.int (0 : Int32)), .val (.int (0 : Int32)), .val (.ref b18), .val (.int y21), .val (.int y25), .val (.int y29), .val (.int y34)] [(.int y45), (.int y29)])) _
          have c47 : y29 = y45 := by
            have o0 := own_o_i2b hy6
            have o1 := own_o_mask hy30 8 (by decide) (by decide)
            have o2 := own_o_mask hy46 8 (by decide) (by decide)
            have o3 := rng32 i2
            have o4 := rng32 y29
            have o5 := rng32 y45
            have o6 := rng32 y6
            have o7 : (255 : Int32).toInt = 255 := by decide
            refine own_eqI ?_
            omega
          refine own_icmpNo (pc' := 181) B X44 at_178 (teq c47).2 rfl ?_
          refine own_iload (pc' := 183) B X44 at_181 rfl rfl ?_
          refine own_iloadN (pc' := 184) B X44 at_183 rfl rfl ?_
          refine own_iload (pc' := 186) B X44 at_184 rfl rfl ?_
          refine own_callS (pc' := 189) B X44 (own_w hw 26 rfl) (own_w hw 27 rfl) (own_w hw 28 rfl) (own_w hw 29 rfl) (by decide) [(.int i3), (.int (0 : Int32))] [(.int y34)] (rm_9 l Z a0 hw [] (i3) h33 n0 (Nat.le_trans Z0 K.1) ) 1 (by decide) (by decide) rfl pd_3 rfl rfl (Nat.le_of_eq rfl) at_186 rfl (k' := 2) (n' := 7) rfl rfl (by decide) (by decide) ?_
          intro T48 v48 h48 X48 q48
          obtain ⟨y49, hy50, rfl, rfl⟩ := q48
          show own_Go p e below (T48.setTop (mkF m 189 #[.val (.int i0), .val (.int i1), .val (.int i2), .val (.int i3), .val (.int i4), .val (.ref b1), .val (.int (0 : Int32)), .val (.int (0 : Int32)), .val (.int (0 : Int32)), .val (.int (0 : Int32)), .val (.ref b18), .val (.int y21), .val (.int y25), .val (.int y29), .val (.int y34)] [(.int y49), (.int y34)])) _
          have c51 : y34 = y49 := by
            have o0 := own_o_i2b hy8
            have o1 := own_o_mask hy35 8 (by decide) (by decide)
            have o2 := own_o_mask hy50 8 (by decide) (by decide)
            have o3 := rng32 i3
            have o4 := rng32 y34
            have o5 := rng32 y49
            have o6 := rng32 y8
            have o7 : (255 : Int32).toInt = 255 := by decide
            refine own_eqI ?_
            omega
          refine own_icmpNo (pc' := 192) B X48 at_189 (teq c51).2 rfl ?_
          refine own_aload (pc' := 194) B X48 at_192 rfl rfl rfl ?_
          refine own_callV (pc' := 197) B X48 (own_w hw 30 rfl) (own_w hw 31 rfl) (own_w hw 33 rfl) (own_w hw 32 rfl) (own_w hw 3 rfl) (own_w hw 34 rfl) E_b18 (by decide) [] [] (rm_10 l Z a0 hw [] b18 b1 kb1 (y2) (y4) (y6) (y8) h33 n0 (Nat.le_trans Z0 K.1) E_b18 F_b18_key F_b18_position F_b18_mask g_b18 E_b1 V_b1 g_b1 (Ne.symm ne_b1_b18)) 0 (by decide) (by decide) rfl pd_1 rfl rfl (Nat.le_of_eq rfl) at_194 rfl (k' := 2) (n' := 7) rfl rfl (by decide) (by decide) ?_
          intro T52 v52 h52 X52 q52
          obtain ⟨rfl, rfl⟩ := q52
          show own_Go p e below (T52.setTop (mkF m 197 #[.val (.int i0), .val (.int i1), .val (.int i2), .val (.int i3), .val (.int i4), .val (.ref b1), .val (.int (0 : Int32)), .val (.int (0 : Int32)), .val (.int (0 : Int32)), .val (.int (0 : Int32)), .val (.ref b18), .val (.int y21), .val (.int y25), .val (.int y29), .val (.int y34)] [(.int (4 : Int32))])) _
          refine own_iconst (pc' := 198) B X52 (z := (4 : Int32)) at_197 rfl rfl ?_
          refine own_icmpNo (pc' := 201) B X52 at_198 (teq (by decide : (4 : Int32) = (4 : Int32))).2 rfl ?_
          refine own_iconst (pc' := 202) B X52 (z := (1 : Int32)) at_201 rfl rfl ?_
          refine own_goto (pc' := 206) B X52 at_202 (by decide) rfl ?_
          exact own_retN B X52 (t := .boolean) (z' := (1 : Int32)) (by simp) (by decide) at_206 (by decide) (by decide) rfl
        · refine own_ifNo (pc' := 75) B X9 at_72 ((if0 _ _).trans (feq c17).1) rfl ?_
          refine own_iconst (pc' := 76) B X9 (z := (1 : Int32)) at_75 rfl rfl ?_
          refine own_goto (pc' := 80) B X9 at_76 (by decide) rfl ?_
          refine own_istore (pc' := 82) B X9 (Ls' := #[.val (.int i0), .val (.int i1), .val (.int i2), .val (.int i3), .val (.int i4), .val (.ref b1), .val (.int (0 : Int32)), .val (.int (0 : Int32)), .val (.int (0 : Int32)), .val (.int (1 : Int32)), .unset, .unset, .unset, .unset, .unset]) at_80 rfl rfl ?_
          refine own_new (pc' := 85) B X9 (own_w hw 1 rfl) (own_w hw 2 rfl) (own_w hw 3 rfl) at_82 rfl (k' := 2) (n' := 7) rfl rfl (by decide) (by decide) ?_
          intro T53 h53 b53 X53 g53 E53 E_b53 D53
          have ne_b1_b53 : b1 ≠ b53 := own_ne E_b1.lt g53
          have sz_b53 : h0.size ≤ b53 := own_sz K g53
          have g_b53 : n0 ≤ b53 := Nat.le_trans Z0 sz_b53
          replace K := K.ext E53
          replace E_b1 := E_b1.ext E53
          replace V_b1 := V_b1.ext E53
          have F_b53_key : Fld Z h53 b53 "com/example/keyer/keyer/KeyReader" "key" "[B" .null := D53 (Or.inr (own_w hw 11 rfl)) (ty := (.array .byte)) (by decide)
          have F_b53_position : Fld Z h53 b53 "com/example/keyer/keyer/KeyReader" "position" "I" (.int (0 : Int32)) := D53 (Or.inl (own_w hw 18 rfl)) (ty := .int) (by decide)
          have F_b53_mask : Fld Z h53 b53 "com/example/keyer/keyer/KeyReader" "mask" "I" (.int (0 : Int32)) := D53 (Or.inl (own_w hw 20 rfl)) (ty := .int) (by decide)
          clear D53
          refine own_dup (pc' := 86) B X53 at_85 rfl rfl ?_
          refine own_aload (pc' := 88) B X53 at_86 rfl rfl rfl ?_
          refine own_callI (pc' := 91) B X53 rfl rfl (own_w hw 4 rfl) (own_w hw 5 rfl) (own_w hw 3 rfl) (own_w hw 6 rfl) (by decide) [(.ref b1)] [(.ref b53)] (rm_1 l Z a0 hw [] b53 b1 kb1 (y2) (y4) (y6) (y8) h53 n0 (Nat.le_trans Z0 K.1) E_b53 F_b53_key F_b53_position F_b53_mask g_b53 E_b1 V_b1 g_b1 (Ne.symm ne_b1_b53)) 1 (by decide) (by decide) rfl pd_0 rfl rfl (Nat.le_of_eq rfl) at_88 rfl (k' := 2) (n' := 7) rfl rfl (by decide) (by decide) ?_
          intro T54 v54 h54 X54 q54
          obtain ⟨rfl, K54, E_b53, F_b53_key, F_b53_position, F_b53_mask⟩ := q54
          replace K := K.trans K54 (allS (Or.inr sz_b53) all0)
          replace E_b1 := E_b1.keep K54
          replace V_b1 := V_b1.keep K54 (ninS ne_b1_b53 nin0)
          show own_Go p e below (T54.setTop (mkF m 91 #[.val (.int i0), .val (.int i1), .val (.int i2), .val (.int i3), .val (.int i4), .val (.ref b1), .val (.int (0 : Int32)), .val (.int (0 : Int32)), .val (.int (0 : Int32)), .val (.int (1 : Int32)), .unset, .unset, .unset, .unset, .unset] [(.ref b53)])) _
          refine own_astore (pc' := 93) B X54 (Ls' := #[.val (.int i0), .val (.int i1), .val (.int i2), .val (.int i3), .val (.int i4), .val (.ref b1), .val (.int (0 : Int32)), .val (.int (0 : Int32)), .val (.int (0 : Int32)), .val (.int (1 : Int32)), .val (.ref b53), .unset, .unset, .unset, .unset]) at_91 rfl rfl rfl ?_
          refine own_aload (pc' := 95) B X54 at_93 rfl rfl rfl ?_
          refine own_callV (pc' := 98) B X54 (own_w hw 12 rfl) (own_w hw 13 rfl) (own_w hw 15 rfl) (own_w hw 14 rfl) (own_w hw 3 rfl) (own_w hw 16 rfl) E_b53 (by decide) [] [] (rm_2 l Z a0 hw [] b53 b1 kb1 (y2) (y4) (y6) (y8) h54 n0 (Nat.le_trans Z0 K.1) E_b53 F_b53_key F_b53_position F_b53_mask g_b53 E_b1 V_b1 g_b1 (Ne.symm ne_b1_b53)) 0 (by decide) (by decide) rfl pd_1 rfl rfl (Nat.le_of_eq rfl) at_95 rfl (k' := 2) (n' := 7) rfl rfl (by decide) (by decide) ?_
          intro T55 v55 h55 X55 q55
          obtain ⟨y56, hy57, rfl, K55, E_b53, F_b53_key, F_b53_position, F_b53_mask⟩ := q55
          replace K := K.trans K55 (allS (Or.inr sz_b53) all0)
          replace E_b1 := E_b1.keep K55
          replace V_b1 := V_b1.keep K55 (ninS ne_b1_b53 nin0)
          show own_Go p e below (T55.setTop (mkF m 98 #[.val (.int i0), .val (.int i1), .val (.int i2), .val (.int i3), .val (.int i4), .val (.ref b1), .val (.int (0 : Int32)), .val (.int (0 : Int32)), .val (.int (0 : Int32)), .val (.int (1 : Int32)), .val (.ref b53), .unset, .unset, .unset, .unset] [(.int y56)])) _
          refine own_istore (pc' := 100) B X55 (Ls' := #[.val (.int i0), .val (.int i1), .val (.int i2), .val (.int i3), .val (.int i4), .val (.ref b1), .val (.int (0 : Int32)), .val (.int (0 : Int32)), .val (.int (0 : Int32)), .val (.int (1 : Int32)), .val (.ref b53), .val (.int y56), .unset, .unset, .unset]) at_98 rfl rfl ?_
          refine own_aload (pc' := 102) B X55 at_100 rfl rfl rfl ?_
          refine own_iload (pc' := 104) B X55 at_102 rfl rfl ?_
          refine own_callV (pc' := 107) B X55 (own_w hw 21 rfl) (own_w hw 22 rfl) (own_w hw 24 rfl) (own_w hw 23 rfl) (own_w hw 3 rfl) (own_w hw 25 rfl) E_b53 (by decide) [(.int (0 : Int32))] [] (rm_3 l Z a0 hw [] b53 b1 kb1 (y2) (y4) (y6) (y8) h55 n0 (Nat.le_trans Z0 K.1) E_b53 F_b53_key F_b53_position F_b53_mask g_b53 E_b1 V_b1 g_b1 (Ne.symm ne_b1_b53)) 0 (by decide) (by decide) rfl pd_2 rfl rfl (Nat.le_of_eq rfl) at_104 rfl (k' := 2) (n' := 7) rfl rfl (by decide) (by decide) ?_
          intro T58 v58 h58 X58 q58
          obtain ⟨rfl, K58, E_b53, F_b53_key, F_b53_position, F_b53_mask⟩ := q58
          replace K := K.trans K58 (allS (Or.inr sz_b53) all0)
          replace E_b1 := E_b1.keep K58
          replace V_b1 := V_b1.keep K58 (ninS ne_b1_b53 nin0)
          show own_Go p e below (T58.setTop (mkF m 107 #[.val (.int i0), .val (.int i1), .val (.int i2), .val (.int i3), .val (.int i4), .val (.ref b1), .val (.int (0 : Int32)), .val (.int (0 : Int32)), .val (.int (0 : Int32)), .val (.int (1 : Int32)), .val (.ref b53), .val (.int y56), .unset, .unset, .unset] [])) _
          refine own_aload (pc' := 109) B X58 at_107 rfl rfl rfl ?_
          refine own_callV (pc' := 112) B X58 (own_w hw 12 rfl) (own_w hw 13 rfl) (own_w hw 15 rfl) (own_w hw 14 rfl) (own_w hw 3 rfl) (own_w hw 16 rfl) E_b53 (by decide) [] [] (rm_4 l Z a0 hw [] b53 b1 kb1 (y2) (y4) (y6) (y8) h58 n0 (Nat.le_trans Z0 K.1) E_b53 F_b53_key F_b53_position F_b53_mask g_b53 E_b1 V_b1 g_b1 (Ne.symm ne_b1_b53)) 0 (by decide) (by decide) rfl pd_1 rfl rfl (Nat.le_of_eq rfl) at_109 rfl (k' := 2) (n' := 7) rfl rfl (by decide) (by decide) ?_
          intro T59 v59 h59 X59 q59
          obtain ⟨y60, hy61, rfl, K59, E_b53, F_b53_key, F_b53_position, F_b53_mask⟩ := q59
          replace K := K.trans K59 (allS (Or.inr sz_b53) all0)
          replace E_b1 := E_b1.keep K59
          replace V_b1 := V_b1.keep K59 (ninS ne_b1_b53 nin0)
          show own_Go p e below (T59.setTop (mkF m 112 #[.val (.int i0), .val (.int i1), .val (.int i2), .val (.int i3), .val (.int i4), .val (.ref b1), .val (.int (0 : Int32)), .val (.int (0 : Int32)), .val (.int (0 : Int32)), .val (.int (1 : Int32)), .val (.ref b53), .val (.int y56), .unset, .unset, .unset] [(.int y60)])) _
          refine own_istore (pc' := 114) B X59 (Ls' := #[.val (.int i0), .val (.int i1), .val (.int i2), .val (.int i3), .val (.int i4), .val (.ref b1), .val (.int (0 : Int32)), .val (.int (0 : Int32)), .val (.int (0 : Int32)), .val (.int (1 : Int32)), .val (.ref b53), .val (.int y56), .val (.int y60), .unset, .unset]) at_112 rfl rfl ?_
          refine own_aload (pc' := 116) B X59 at_114 rfl rfl rfl ?_
          refine own_iload (pc' := 118) B X59 at_116 rfl rfl ?_
          refine own_callV (pc' := 121) B X59 (own_w hw 21 rfl) (own_w hw 22 rfl) (own_w hw 24 rfl) (own_w hw 23 rfl) (own_w hw 3 rfl) (own_w hw 25 rfl) E_b53 (by decide) [(.int (0 : Int32))] [] (rm_5 l Z a0 hw [] b53 b1 kb1 (y2) (y4) (y6) (y8) h59 n0 (Nat.le_trans Z0 K.1) E_b53 F_b53_key F_b53_position F_b53_mask g_b53 E_b1 V_b1 g_b1 (Ne.symm ne_b1_b53)) 0 (by decide) (by decide) rfl pd_2 rfl rfl (Nat.le_of_eq rfl) at_118 rfl (k' := 2) (n' := 7) rfl rfl (by decide) (by decide) ?_
          intro T62 v62 h62 X62 q62
          obtain ⟨rfl, K62, E_b53, F_b53_key, F_b53_position, F_b53_mask⟩ := q62
          replace K := K.trans K62 (allS (Or.inr sz_b53) all0)
          replace E_b1 := E_b1.keep K62
          replace V_b1 := V_b1.keep K62 (ninS ne_b1_b53 nin0)
          show own_Go p e below (T62.setTop (mkF m 121 #[.val (.int i0), .val (.int i1), .val (.int i2), .val (.int i3), .val (.int i4), .val (.ref b1), .val (.int (0 : Int32)), .val (.int (0 : Int32)), .val (.int (0 : Int32)), .val (.int (1 : Int32)), .val (.ref b53), .val (.int y56), .val (.int y60), .unset, .unset] [])) _
          refine own_aload (pc' := 123) B X62 at_121 rfl rfl rfl ?_
          refine own_callV (pc' := 126) B X62 (own_w hw 12 rfl) (own_w hw 13 rfl) (own_w hw 15 rfl) (own_w hw 14 rfl) (own_w hw 3 rfl) (own_w hw 16 rfl) E_b53 (by decide) [] [] (rm_6 l Z a0 hw [] b53 b1 kb1 (y2) (y4) (y6) (y8) h62 n0 (Nat.le_trans Z0 K.1) E_b53 F_b53_key F_b53_position F_b53_mask g_b53 E_b1 V_b1 g_b1 (Ne.symm ne_b1_b53)) 0 (by decide) (by decide) rfl pd_1 rfl rfl (Nat.le_of_eq rfl) at_123 rfl (k' := 2) (n' := 7) rfl rfl (by decide) (by decide) ?_
          intro T63 v63 h63 X63 q63
          obtain ⟨y64, hy65, rfl, K63, E_b53, F_b53_key, F_b53_position, F_b53_mask⟩ := q63
          replace K := K.trans K63 (allS (Or.inr sz_b53) all0)
          replace E_b1 := E_b1.keep K63
          replace V_b1 := V_b1.keep K63 (ninS ne_b1_b53 nin0)
          show own_Go p e below (T63.setTop (mkF m 126 #[.val (.int i0), .val (.int i1), .val (.int i2), .val (.int i3), .val (.int i4), .val (.ref b1), .val (.int (0 : Int32)), .val (.int (0 : Int32)), .val (.int (0 : Int32)), .val (.int (1 : Int32)), .val (.ref b53), .val (.int y56), .val (.int y60), .unset, .unset] [(.int y64)])) _
          refine own_istore (pc' := 128) B X63 (Ls' := #[.val (.int i0), .val (.int i1), .val (.int i2), .val (.int i3), .val (.int i4), .val (.ref b1), .val (.int (0 : Int32)), .val (.int (0 : Int32)), .val (.int (0 : Int32)), .val (.int (1 : Int32)), .val (.ref b53), .val (.int y56), .val (.int y60), .val (.int y64), .unset]) at_126 rfl rfl ?_
          refine own_aload (pc' := 130) B X63 at_128 rfl rfl rfl ?_
          refine own_iload (pc' := 132) B X63 at_130 rfl rfl ?_
          refine own_callV (pc' := 135) B X63 (own_w hw 21 rfl) (own_w hw 22 rfl) (own_w hw 24 rfl) (own_w hw 23 rfl) (own_w hw 3 rfl) (own_w hw 25 rfl) E_b53 (by decide) [(.int (0 : Int32))] [] (rm_7 l Z a0 hw [] b53 b1 kb1 (y2) (y4) (y6) (y8) h63 n0 (Nat.le_trans Z0 K.1) E_b53 F_b53_key F_b53_position F_b53_mask g_b53 E_b1 V_b1 g_b1 (Ne.symm ne_b1_b53)) 0 (by decide) (by decide) rfl pd_2 rfl rfl (Nat.le_of_eq rfl) at_132 rfl (k' := 2) (n' := 7) rfl rfl (by decide) (by decide) ?_
          intro T66 v66 h66 X66 q66
          obtain ⟨rfl, K66, E_b53, F_b53_key, F_b53_position, F_b53_mask⟩ := q66
          replace K := K.trans K66 (allS (Or.inr sz_b53) all0)
          replace E_b1 := E_b1.keep K66
          replace V_b1 := V_b1.keep K66 (ninS ne_b1_b53 nin0)
          show own_Go p e below (T66.setTop (mkF m 135 #[.val (.int i0), .val (.int i1), .val (.int i2), .val (.int i3), .val (.int i4), .val (.ref b1), .val (.int (0 : Int32)), .val (.int (0 : Int32)), .val (.int (0 : Int32)), .val (.int (1 : Int32)), .val (.ref b53), .val (.int y56), .val (.int y60), .val (.int y64), .unset] [])) _
          refine own_aload (pc' := 137) B X66 at_135 rfl rfl rfl ?_
          refine own_iload (pc' := 139) B X66 at_137 rfl rfl ?_
          refine own_callV (pc' := 142) B X66 (own_w hw 21 rfl) (own_w hw 22 rfl) (own_w hw 24 rfl) (own_w hw 23 rfl) (own_w hw 3 rfl) (own_w hw 25 rfl) E_b53 (by decide) [(.int (1 : Int32))] [] (rm_11 l Z a0 hw [] b53 b1 kb1 (y2) (y4) (y6) (y8) h66 n0 (Nat.le_trans Z0 K.1) E_b53 F_b53_key F_b53_position F_b53_mask g_b53 E_b1 V_b1 g_b1 (Ne.symm ne_b1_b53)) 0 (by decide) (by decide) rfl pd_2 rfl rfl (Nat.le_of_eq rfl) at_139 rfl (k' := 2) (n' := 7) rfl rfl (by decide) (by decide) ?_
          intro T67 v67 h67 X67 q67
          obtain ⟨rfl, K67, E_b53, F_b53_key, F_b53_position, F_b53_mask⟩ := q67
          replace K := K.trans K67 (allS (Or.inr sz_b53) all0)
          replace E_b1 := E_b1.keep K67
          replace V_b1 := V_b1.keep K67 (ninS ne_b1_b53 nin0)
          show own_Go p e below (T67.setTop (mkF m 142 #[.val (.int i0), .val (.int i1), .val (.int i2), .val (.int i3), .val (.int i4), .val (.ref b1), .val (.int (0 : Int32)), .val (.int (0 : Int32)), .val (.int (0 : Int32)), .val (.int (1 : Int32)), .val (.ref b53), .val (.int y56), .val (.int y60), .val (.int y64), .unset] [])) _
          refine own_aload (pc' := 144) B X67 at_142 rfl rfl rfl ?_
          refine own_callV (pc' := 147) B X67 (own_w hw 12 rfl) (own_w hw 13 rfl) (own_w hw 15 rfl) (own_w hw 14 rfl) (own_w hw 3 rfl) (own_w hw 16 rfl) E_b53 (by decide) [] [] (rm_12 l Z a0 hw [] b53 b1 kb1 (y2) (y4) (y6) (y8) h67 n0 (Nat.le_trans Z0 K.1) E_b53 F_b53_key F_b53_position F_b53_mask g_b53 E_b1 V_b1 g_b1 (Ne.symm ne_b1_b53)) 0 (by decide) (by decide) rfl pd_1 rfl rfl (Nat.le_of_eq rfl) at_144 rfl (k' := 2) (n' := 7) rfl rfl (by decide) (by decide) ?_
          intro T68 v68 h68 X68 q68
          obtain ⟨y69, y70, hy71, hy72, rfl, K68, E_b53, F_b53_key, F_b53_position, F_b53_mask⟩ := q68
          replace K := K.trans K68 (allS (Or.inr sz_b53) all0)
          replace E_b1 := E_b1.keep K68
          replace V_b1 := V_b1.keep K68 (ninS ne_b1_b53 nin0)
          show own_Go p e below (T68.setTop (mkF m 147 #[.val (.int i0), .val (.int i1), .val (.int i2), .val (.int i3), .val (.int i4), .val (.ref b1), .val (.int (0 : Int32)), .val (.int (0 : Int32)), .val (.int (0 : Int32)), .val (.int (1 : Int32)), .val (.ref b53), .val (.int y56), .val (.int y60), .val (.int y64), .unset] [(.int y70)])) _
          refine own_istore (pc' := 149) B X68 (Ls' := #[.val (.int i0), .val (.int i1), .val (.int i2), .val (.int i3), .val (.int i4), .val (.ref b1), .val (.int (0 : Int32)), .val (.int (0 : Int32)), .val (.int (0 : Int32)), .val (.int (1 : Int32)), .val (.ref b53), .val (.int y56), .val (.int y60), .val (.int y64), .val (.int y70)]) at_147 rfl rfl ?_
          refine own_iload (pc' := 151) B X68 at_149 rfl rfl ?_
          refine own_iloadN (pc' := 152) B X68 at_151 rfl rfl ?_
          refine own_iconst (pc' := 153) B X68 (z := (0 : Int32)) at_152 rfl rfl ?_
          refine own_callS (pc' := 156) B X68 (own_w hw 26 rfl) (own_w hw 27 rfl) (own_w hw 28 rfl) (own_w hw 29 rfl) (by decide) [(.int i0), (.int (0 : Int32))] [(.int y56)] (rm_9 l Z a0 hw [] (i0) h68 n0 (Nat.le_trans Z0 K.1) ) 1 (by decide) (by decide) rfl pd_3 rfl rfl (Nat.le_of_eq rfl) at_153 rfl (k' := 2) (n' := 7) rfl rfl (by decide) (by decide) ?_
          intro T73 v73 h73 X73 q73
          obtain ⟨y74, hy75, rfl, rfl⟩ := q73
          show own_Go p e below (T73.setTop (mkF m 156 #[.val (.int i0), .val (.int i1), .val (.int i2), .val (.int i3), .val (.int i4), .val (.ref b1), .val (.int (0 : Int32)), .val (.int (0 : Int32)), .val (.int (0 : Int32)), .val (.int (1 : Int32)), .val (.ref b53), .val (.int y56), .val (.int y60), .val (.int y64), .val (.int y70)] [(.int y74), (.int y56)])) _
          have c76 : y56 = y74 := by
            have o0 := own_o_i2b hy2
            have o1 := own_o_mask hy57 8 (by decide) (by decide)
            have o2 := own_o_mask hy75 8 (by decide) (by decide)
            have o3 := rng32 i0
            have o4 := rng32 y2
            have o5 := rng32 y56
            have o6 := rng32 y74
            have o7 : (255 : Int32).toInt = 255 := by decide
            refine own_eqI ?_
            omega
          refine own_icmpNo (pc' := 159) B X73 at_156 (teq c76).2 rfl ?_
          refine own_iload (pc' := 161) B X73 at_159 rfl rfl ?_
          refine own_iloadN (pc' := 162) B X73 at_161 rfl rfl ?_
          refine own_iload (pc' := 164) B X73 at_162 rfl rfl ?_
          refine own_callS (pc' := 167) B X73 (own_w hw 26 rfl) (own_w hw 27 rfl) (own_w hw 28 rfl) (own_w hw 29 rfl) (by decide) [(.int i1), (.int (0 : Int32))] [(.int y60)] (rm_9 l Z a0 hw [] (i1) h68 n0 (Nat.le_trans Z0 K.1) ) 1 (by decide) (by decide) rfl pd_3 rfl rfl (Nat.le_of_eq rfl) at_164 rfl (k' := 2) (n' := 7) rfl rfl (by decide) (by decide) ?_
          intro T77 v77 h77 X77 q77
          obtain ⟨y78, hy79, rfl, rfl⟩ := q77
          show own_Go p e below (T77.setTop (mkF m 167 #[.val (.int i0), .val (.int i1), .val (.int i2), .val (.int i3), .val (.int i4), .val (.ref b1), .val (.int (0 : Int32)), .val (.int (0 : Int32)), .val (.int (0 : Int32)), .val (.int (1 : Int32)), .val (.ref b53), .val (.int y56), .val (.int y60), .val (.int y64), .val (.int y70)] [(.int y78), (.int y60)])) _
          have c80 : y60 = y78 := by
            have o0 := own_o_i2b hy4
            have o1 := own_o_mask hy61 8 (by decide) (by decide)
            have o2 := own_o_mask hy79 8 (by decide) (by decide)
            have o3 := rng32 i1
            have o4 := rng32 y4
            have o5 := rng32 y60
            have o6 := rng32 y78
            have o7 : (255 : Int32).toInt = 255 := by decide
            refine own_eqI ?_
            omega
          refine own_icmpNo (pc' := 170) B X77 at_167 (teq c80).2 rfl ?_
          refine own_iload (pc' := 172) B X77 at_170 rfl rfl ?_
          refine own_iloadN (pc' := 173) B X77 at_172 rfl rfl ?_
          refine own_iload (pc' := 175) B X77 at_173 rfl rfl ?_
          refine own_callS (pc' := 178) B X77 (own_w hw 26 rfl) (own_w hw 27 rfl) (own_w hw 28 rfl) (own_w hw 29 rfl) (by decide) [(.int i2), (.int (0 : Int32))] [(.int y64)] (rm_9 l Z a0 hw [] (i2) h68 n0 (Nat.le_trans Z0 K.1) ) 1 (by decide) (by decide) rfl pd_3 rfl rfl (Nat.le_of_eq rfl) at_175 rfl (k' := 2) (n' := 7) rfl rfl (by decide) (by decide) ?_
          intro T81 v81 h81 X81 q81
          obtain ⟨y82, hy83, rfl, rfl⟩ := q81
          show own_Go p e below (T81.setTop (mkF m 178 #[.val (.int i0), .val (.int i1), .val (.int i2), .val (.int i3), .val (.int i4), .val (.ref b1), .val (.int (0 : Int32)), .val (.int (0 : Int32)), .val (.int (0 : Int32)), .val (.int (1 : Int32)), .val (.ref b53), .val (.int y56), .val (.int y60), .val (.int y64), .val (.int y70)] [(.int y82), (.int y64)])) _
          have c84 : y64 = y82 := by
            have o0 := own_o_i2b hy6
            have o1 := own_o_mask hy65 8 (by decide) (by decide)
            have o2 := own_o_mask hy83 8 (by decide) (by decide)
            have o3 := rng32 i2
            have o4 := rng32 y6
            have o5 := rng32 y64
            have o6 := rng32 y82
            have o7 : (255 : Int32).toInt = 255 := by decide
            refine own_eqI ?_
            omega
          refine own_icmpNo (pc' := 181) B X81 at_178 (teq c84).2 rfl ?_
          refine own_iload (pc' := 183) B X81 at_181 rfl rfl ?_
          refine own_iloadN (pc' := 184) B X81 at_183 rfl rfl ?_
          refine own_iload (pc' := 186) B X81 at_184 rfl rfl ?_
          refine own_callS (pc' := 189) B X81 (own_w hw 26 rfl) (own_w hw 27 rfl) (own_w hw 28 rfl) (own_w hw 29 rfl) (by decide) [(.int i3), (.int (1 : Int32))] [(.int y70)] (rm_13 l Z a0 hw [] (i3) h68 n0 (Nat.le_trans Z0 K.1) ) 1 (by decide) (by decide) rfl pd_3 rfl rfl (Nat.le_of_eq rfl) at_186 rfl (k' := 2) (n' := 7) rfl rfl (by decide) (by decide) ?_
          intro T85 v85 h85 X85 q85
          obtain ⟨y86, y87, hy88, hy89, rfl, rfl⟩ := q85
          show own_Go p e below (T85.setTop (mkF m 189 #[.val (.int i0), .val (.int i1), .val (.int i2), .val (.int i3), .val (.int i4), .val (.ref b1), .val (.int (0 : Int32)), .val (.int (0 : Int32)), .val (.int (0 : Int32)), .val (.int (1 : Int32)), .val (.ref b53), .val (.int y56), .val (.int y60), .val (.int y64), .val (.int y70)] [(.int y87), (.int y70)])) _
          have c90 : y70 = y87 := by
            have o0 := own_o_i2b hy8
            have o1 := own_o_xor255 hy71
            have o2 := own_o_mask hy72 8 (by decide) (by decide)
            have o3 := own_o_mask hy88 8 (by decide) (by decide)
            have o4 := own_o_isub hy89
            have o5 := rng32 i3
            have o6 := rng32 y69
            have o7 := rng32 y70
            have o8 := rng32 y8
            have o9 := rng32 y86
            have o10 := rng32 y87
            have o11 : (255 : Int32).toInt = 255 := by decide
            refine own_eqI ?_
            omega
          refine own_icmpNo (pc' := 192) B X85 at_189 (teq c90).2 rfl ?_
          refine own_aload (pc' := 194) B X85 at_192 rfl rfl rfl ?_
          refine own_callV (pc' := 197) B X85 (own_w hw 30 rfl) (own_w hw 31 rfl) (own_w hw 33 rfl) (own_w hw 32 rfl) (own_w hw 3 rfl) (own_w hw 34 rfl) E_b53 (by decide) [] [] (rm_14 l Z a0 hw [] b53 b1 kb1 (y2) (y4) (y6) (y8) h68 n0 (Nat.le_trans Z0 K.1) E_b53 F_b53_key F_b53_position F_b53_mask g_b53 E_b1 V_b1 g_b1 (Ne.symm ne_b1_b53)) 0 (by decide) (by decide) rfl pd_1 rfl rfl (Nat.le_of_eq rfl) at_194 rfl (k' := 2) (n' := 7) rfl rfl (by decide) (by decide) ?_
          intro T91 v91 h91 X91 q91
          obtain ⟨rfl, rfl⟩ := q91
          show own_Go p e below (T91.setTop (mkF m 197 #[.val (.int i0), .val (.int i1), .val (.int i2), .val (.int i3), .val (.int i4), .val (.ref b1), .val (.int (0 : Int32)), .val (.int (0 : Int32)), .val (.int (0 : Int32)), .val (.int (1 : Int32)), .val (.ref b53), .val (.int y56), .val (.int y60), .val (.int y64), .val (.int y70)] [(.int (4 : Int32))])) _
          refine own_iconst (pc' := 198) B X91 (z := (4 : Int32)) at_197 rfl rfl ?_
          refine own_icmpNo (pc' := 201) B X91 at_198 (teq (by decide : (4 : Int32) = (4 : Int32))).2 rfl ?_
          refine own_iconst (pc' := 202) B X91 (z := (1 : Int32)) at_201 rfl rfl ?_
          refine own_goto (pc' := 206) B X91 at_202 (by decide) rfl ?_
          exact own_retN B X91 (t := .boolean) (z' := (1 : Int32)) (by simp) (by decide) at_206 (by decide) (by decide) rfl
      · refine own_ifNo (pc' := 60) B X9 at_57 ((if0 _ _).trans (feq c15).1) rfl ?_
        refine own_iconst (pc' := 61) B X9 (z := (1 : Int32)) at_60 rfl rfl ?_
        refine own_goto (pc' := 65) B X9 at_61 (by decide) rfl ?_
        refine own_istore (pc' := 67) B X9 (Ls' := #[.val (.int i0), .val (.int i1), .val (.int i2), .val (.int i3), .val (.int i4), .val (.ref b1), .val (.int (0 : Int32)), .val (.int (0 : Int32)), .val (.int (1 : Int32)), .unset, .unset, .unset, .unset, .unset, .unset]) at_65 rfl rfl ?_
        refine own_iload (pc' := 69) B X9 at_67 rfl rfl ?_
        refine own_bipush (pc' := 71) B X9 (z := (8 : Int32)) at_69 rfl (by decide) ?_
        obtain ⟨y92, hy92⟩ : ∃ z : Int32, i4 &&& (8 : Int32) = z := ⟨_, rfl⟩
        refine own_iand (pc' := 72) B X9 at_71 rfl hy92 ?_
        by_cases c93 : y92 = (0 : Int32)
        · refine own_ifYes (pc' := 79) B X9 at_72 ((if0 _ _).trans (teq c93).1) (by decide) rfl ?_
          refine own_iconst (pc' := 80) B X9 (z := (0 : Int32)) at_79 rfl rfl ?_
          refine own_istore (pc' := 82) B X9 (Ls' := #[.val (.int i0), .val (.int i1), .val (.int i2), .val (.int i3), .val (.int i4), .val (.ref b1), .val (.int (0 : Int32)), .val (.int (0 : Int32)), .val (.int (1 : Int32)), .val (.int (0 : Int32)), .unset, .unset, .unset, .unset, .unset]) at_80 rfl rfl ?_
          refine own_new (pc' := 85) B X9 (own_w hw 1 rfl) (own_w hw 2 rfl) (own_w hw 3 rfl) at_82 rfl (k' := 2) (n' := 7) rfl rfl (by decide) (by decide) ?_
          intro T94 h94 b94 X94 g94 E94 E_b94 D94
          have ne_b1_b94 : b1 ≠ b94 := own_ne E_b1.lt g94
          have sz_b94 : h0.size ≤ b94 := own_sz K g94
          have g_b94 : n0 ≤ b94 := Nat.le_trans Z0 sz_b94
          replace K := K.ext E94
          replace E_b1 := E_b1.ext E94
          replace V_b1 := V_b1.ext E94
          have F_b94_key : Fld Z h94 b94 "com/example/keyer/keyer/KeyReader" "key" "[B" .null := D94 (Or.inr (own_w hw 11 rfl)) (ty := (.array .byte)) (by decide)
          have F_b94_position : Fld Z h94 b94 "com/example/keyer/keyer/KeyReader" "position" "I" (.int (0 : Int32)) := D94 (Or.inl (own_w hw 18 rfl)) (ty := .int) (by decide)
          have F_b94_mask : Fld Z h94 b94 "com/example/keyer/keyer/KeyReader" "mask" "I" (.int (0 : Int32)) := D94 (Or.inl (own_w hw 20 rfl)) (ty := .int) (by decide)
          clear D94
          refine own_dup (pc' := 86) B X94 at_85 rfl rfl ?_
          refine own_aload (pc' := 88) B X94 at_86 rfl rfl rfl ?_
          refine own_callI (pc' := 91) B X94 rfl rfl (own_w hw 4 rfl) (own_w hw 5 rfl) (own_w hw 3 rfl) (own_w hw 6 rfl) (by decide) [(.ref b1)] [(.ref b94)] (rm_1 l Z a0 hw [] b94 b1 kb1 (y2) (y4) (y6) (y8) h94 n0 (Nat.le_trans Z0 K.1) E_b94 F_b94_key F_b94_position F_b94_mask g_b94 E_b1 V_b1 g_b1 (Ne.symm ne_b1_b94)) 1 (by decide) (by decide) rfl pd_0 rfl rfl (Nat.le_of_eq rfl) at_88 rfl (k' := 2) (n' := 7) rfl rfl (by decide) (by decide) ?_
          intro T95 v95 h95 X95 q95
          obtain ⟨rfl, K95, E_b94, F_b94_key, F_b94_position, F_b94_mask⟩ := q95
          replace K := K.trans K95 (allS (Or.inr sz_b94) all0)
          replace E_b1 := E_b1.keep K95
          replace V_b1 := V_b1.keep K95 (ninS ne_b1_b94 nin0)
          show own_Go p e below (T95.setTop (mkF m 91 #[.val (.int i0), .val (.int i1), .val (.int i2), .val (.int i3), .val (.int i4), .val (.ref b1), .val (.int (0 : Int32)), .val (.int (0 : Int32)), .val (.int (1 : Int32)), .val (.int (0 : Int32)), .unset, .unset, .unset, .unset, .unset] [(.ref b94)])) _
          refine own_astore (pc' := 93) B X95 (Ls' := #[.val (.int i0), .val (.int i1), .val (.int i2), .val (.int i3), .val (.int i4), .val (.ref b1), .val (.int (0 : Int32)), .val (.int (0 : Int32)), .val (.int (1 : Int32)), .val (.int (0 : Int32)), .val (.ref b94), .unset, .unset, .unset, .unset]) at_91 rfl rfl rfl ?_
          refine own_aload (pc' := 95) B X95 at_93 rfl rfl rfl ?_
          refine own_callV (pc' := 98) B X95 (own_w hw 12 rfl) (own_w hw 13 rfl) (own_w hw 15 rfl) (own_w hw 14 rfl) (own_w hw 3 rfl) (own_w hw 16 rfl) E_b94 (by decide) [] [] (rm_2 l Z a0 hw [] b94 b1 kb1 (y2) (y4) (y6) (y8) h95 n0 (Nat.le_trans Z0 K.1) E_b94 F_b94_key F_b94_position F_b94_mask g_b94 E_b1 V_b1 g_b1 (Ne.symm ne_b1_b94)) 0 (by decide) (by decide) rfl pd_1 rfl rfl (Nat.le_of_eq rfl) at_95 rfl (k' := 2) (n' := 7) rfl rfl (by decide) (by decide) ?_
          intro T96 v96 h96 X96 q96
          obtain ⟨y97, hy98, rfl, K96, E_b94, F_b94_key, F_b94_position, F_b94_mask⟩ := q96
          replace K := K.trans K96 (allS (Or.inr sz_b94) all0)
          replace E_b1 := E_b1.keep K96
          replace V_b1 := V_b1.keep K96 (ninS ne_b1_b94 nin0)
          show own_Go p e below (T96.setTop (mkF m 98 #[.val (.int i0), .val (.int i1), .val (.int i2), .val (.int i3), .val (.int i4), .val (.ref b1), .val (.int (0 : Int32)), .val (.int (0 : Int32)), .val (.int (1 : Int32)), .val (.int (0 : Int32)), .val (.ref b94), .unset, .unset, .unset, .unset] [(.int y97)])) _
          refine own_istore (pc' := 100) B X96 (Ls' := #[.val (.int i0), .val (.int i1), .val (.int i2), .val (.int i3), .val (.int i4), .val (.ref b1), .val (.int (0 : Int32)), .val (.int (0 : Int32)), .val (.int (1 : Int32)), .val (.int (0 : Int32)), .val (.ref b94), .val (.int y97), .unset, .unset, .unset]) at_98 rfl rfl ?_
          refine own_aload (pc' := 102) B X96 at_100 rfl rfl rfl ?_
          refine own_iload (pc' := 104) B X96 at_102 rfl rfl ?_
          refine own_callV (pc' := 107) B X96 (own_w hw 21 rfl) (own_w hw 22 rfl) (own_w hw 24 rfl) (own_w hw 23 rfl) (own_w hw 3 rfl) (own_w hw 25 rfl) E_b94 (by decide) [(.int (0 : Int32))] [] (rm_3 l Z a0 hw [] b94 b1 kb1 (y2) (y4) (y6) (y8) h96 n0 (Nat.le_trans Z0 K.1) E_b94 F_b94_key F_b94_position F_b94_mask g_b94 E_b1 V_b1 g_b1 (Ne.symm ne_b1_b94)) 0 (by decide) (by decide) rfl pd_2 rfl rfl (Nat.le_of_eq rfl) at_104 rfl (k' := 2) (n' := 7) rfl rfl (by decide) (by decide) ?_
          intro T99 v99 h99 X99 q99
          obtain ⟨rfl, K99, E_b94, F_b94_key, F_b94_position, F_b94_mask⟩ := q99
          replace K := K.trans K99 (allS (Or.inr sz_b94) all0)
          replace E_b1 := E_b1.keep K99
          replace V_b1 := V_b1.keep K99 (ninS ne_b1_b94 nin0)
          show own_Go p e below (T99.setTop (mkF m 107 #[.val (.int i0), .val (.int i1), .val (.int i2), .val (.int i3), .val (.int i4), .val (.ref b1), .val (.int (0 : Int32)), .val (.int (0 : Int32)), .val (.int (1 : Int32)), .val (.int (0 : Int32)), .val (.ref b94), .val (.int y97), .unset, .unset, .unset] [])) _
          refine own_aload (pc' := 109) B X99 at_107 rfl rfl rfl ?_
          refine own_callV (pc' := 112) B X99 (own_w hw 12 rfl) (own_w hw 13 rfl) (own_w hw 15 rfl) (own_w hw 14 rfl) (own_w hw 3 rfl) (own_w hw 16 rfl) E_b94 (by decide) [] [] (rm_4 l Z a0 hw [] b94 b1 kb1 (y2) (y4) (y6) (y8) h99 n0 (Nat.le_trans Z0 K.1) E_b94 F_b94_key F_b94_position F_b94_mask g_b94 E_b1 V_b1 g_b1 (Ne.symm ne_b1_b94)) 0 (by decide) (by decide) rfl pd_1 rfl rfl (Nat.le_of_eq rfl) at_109 rfl (k' := 2) (n' := 7) rfl rfl (by decide) (by decide) ?_
          intro T100 v100 h100 X100 q100
          obtain ⟨y101, hy102, rfl, K100, E_b94, F_b94_key, F_b94_position, F_b94_mask⟩ := q100
          replace K := K.trans K100 (allS (Or.inr sz_b94) all0)
          replace E_b1 := E_b1.keep K100
          replace V_b1 := V_b1.keep K100 (ninS ne_b1_b94 nin0)
          show own_Go p e below (T100.setTop (mkF m 112 #[.val (.int i0), .val (.int i1), .val (.int i2), .val (.int i3), .val (.int i4), .val (.ref b1), .val (.int (0 : Int32)), .val (.int (0 : Int32)), .val (.int (1 : Int32)), .val (.int (0 : Int32)), .val (.ref b94), .val (.int y97), .unset, .unset, .unset] [(.int y101)])) _
          refine own_istore (pc' := 114) B X100 (Ls' := #[.val (.int i0), .val (.int i1), .val (.int i2), .val (.int i3), .val (.int i4), .val (.ref b1), .val (.int (0 : Int32)), .val (.int (0 : Int32)), .val (.int (1 : Int32)), .val (.int (0 : Int32)), .val (.ref b94), .val (.int y97), .val (.int y101), .unset, .unset]) at_112 rfl rfl ?_
          refine own_aload (pc' := 116) B X100 at_114 rfl rfl rfl ?_
          refine own_iload (pc' := 118) B X100 at_116 rfl rfl ?_
          refine own_callV (pc' := 121) B X100 (own_w hw 21 rfl) (own_w hw 22 rfl) (own_w hw 24 rfl) (own_w hw 23 rfl) (own_w hw 3 rfl) (own_w hw 25 rfl) E_b94 (by decide) [(.int (0 : Int32))] [] (rm_5 l Z a0 hw [] b94 b1 kb1 (y2) (y4) (y6) (y8) h100 n0 (Nat.le_trans Z0 K.1) E_b94 F_b94_key F_b94_position F_b94_mask g_b94 E_b1 V_b1 g_b1 (Ne.symm ne_b1_b94)) 0 (by decide) (by decide) rfl pd_2 rfl rfl (Nat.le_of_eq rfl) at_118 rfl (k' := 2) (n' := 7) rfl rfl (by decide) (by decide) ?_
          intro T103 v103 h103 X103 q103
          obtain ⟨rfl, K103, E_b94, F_b94_key, F_b94_position, F_b94_mask⟩ := q103
          replace K := K.trans K103 (allS (Or.inr sz_b94) all0)
          replace E_b1 := E_b1.keep K103
          replace V_b1 := V_b1.keep K103 (ninS ne_b1_b94 nin0)
          show own_Go p e below (T103.setTop (mkF m 121 #[.val (.int i0), .val (.int i1), .val (.int i2), .val (.int i3), .val (.int i4), .val (.ref b1), .val (.int (0 : Int32)), .val (.int (0 : Int32)), .val (.int (1 : Int32)), .val (.int (0 : Int32)), .val (.ref b94), .val (.int y97), .val (.int y101), .unset, .unset] [])) _
          refine own_aload (pc' := 123) B X103 at_121 rfl rfl rfl ?_
          refine own_callV (pc' := 126) B X103 (own_w hw 12 rfl) (own_w hw 13 rfl) (own_w hw 15 rfl) (own_w hw 14 rfl) (own_w hw 3 rfl) (own_w hw 16 rfl) E_b94 (by decide) [] [] (rm_6 l Z a0 hw [] b94 b1 kb1 (y2) (y4) (y6) (y8) h103 n0 (Nat.le_trans Z0 K.1) E_b94 F_b94_key F_b94_position F_b94_mask g_b94 E_b1 V_b1 g_b1 (Ne.symm ne_b1_b94)) 0 (by decide) (by decide) rfl pd_1 rfl rfl (Nat.le_of_eq rfl) at_123 rfl (k' := 2) (n' := 7) rfl rfl (by decide) (by decide) ?_
          intro T104 v104 h104 X104 q104
          obtain ⟨y105, hy106, rfl, K104, E_b94, F_b94_key, F_b94_position, F_b94_mask⟩ := q104
          replace K := K.trans K104 (allS (Or.inr sz_b94) all0)
          replace E_b1 := E_b1.keep K104
          replace V_b1 := V_b1.keep K104 (ninS ne_b1_b94 nin0)
          show own_Go p e below (T104.setTop (mkF m 126 #[.val (.int i0), .val (.int i1), .val (.int i2), .val (.int i3), .val (.int i4), .val (.ref b1), .val (.int (0 : Int32)), .val (.int (0 : Int32)), .val (.int (1 : Int32)), .val (.int (0 : Int32)), .val (.ref b94), .val (.int y97), .val (.int y101), .unset, .unset] [(.int y105)])) _
          refine own_istore (pc' := 128) B X104 (Ls' := #[.val (.int i0), .val (.int i1), .val (.int i2), .val (.int i3), .val (.int i4), .val (.ref b1), .val (.int (0 : Int32)), .val (.int (0 : Int32)), .val (.int (1 : Int32)), .val (.int (0 : Int32)), .val (.ref b94), .val (.int y97), .val (.int y101), .val (.int y105), .unset]) at_126 rfl rfl ?_
          refine own_aload (pc' := 130) B X104 at_128 rfl rfl rfl ?_
          refine own_iload (pc' := 132) B X104 at_130 rfl rfl ?_
          refine own_callV (pc' := 135) B X104 (own_w hw 21 rfl) (own_w hw 22 rfl) (own_w hw 24 rfl) (own_w hw 23 rfl) (own_w hw 3 rfl) (own_w hw 25 rfl) E_b94 (by decide) [(.int (1 : Int32))] [] (rm_11 l Z a0 hw [] b94 b1 kb1 (y2) (y4) (y6) (y8) h104 n0 (Nat.le_trans Z0 K.1) E_b94 F_b94_key F_b94_position F_b94_mask g_b94 E_b1 V_b1 g_b1 (Ne.symm ne_b1_b94)) 0 (by decide) (by decide) rfl pd_2 rfl rfl (Nat.le_of_eq rfl) at_132 rfl (k' := 2) (n' := 7) rfl rfl (by decide) (by decide) ?_
          intro T107 v107 h107 X107 q107
          obtain ⟨rfl, K107, E_b94, F_b94_key, F_b94_position, F_b94_mask⟩ := q107
          replace K := K.trans K107 (allS (Or.inr sz_b94) all0)
          replace E_b1 := E_b1.keep K107
          replace V_b1 := V_b1.keep K107 (ninS ne_b1_b94 nin0)
          show own_Go p e below (T107.setTop (mkF m 135 #[.val (.int i0), .val (.int i1), .val (.int i2), .val (.int i3), .val (.int i4), .val (.ref b1), .val (.int (0 : Int32)), .val (.int (0 : Int32)), .val (.int (1 : Int32)), .val (.int (0 : Int32)), .val (.ref b94), .val (.int y97), .val (.int y101), .val (.int y105), .unset] [])) _
          refine own_aload (pc' := 137) B X107 at_135 rfl rfl rfl ?_
          refine own_iload (pc' := 139) B X107 at_137 rfl rfl ?_
          refine own_callV (pc' := 142) B X107 (own_w hw 21 rfl) (own_w hw 22 rfl) (own_w hw 24 rfl) (own_w hw 23 rfl) (own_w hw 3 rfl) (own_w hw 25 rfl) E_b94 (by decide) [(.int (0 : Int32))] [] (rm_15 l Z a0 hw [] b94 b1 kb1 (y2) (y4) (y6) (y8) h107 n0 (Nat.le_trans Z0 K.1) E_b94 F_b94_key F_b94_position F_b94_mask g_b94 E_b1 V_b1 g_b1 (Ne.symm ne_b1_b94)) 0 (by decide) (by decide) rfl pd_2 rfl rfl (Nat.le_of_eq rfl) at_139 rfl (k' := 2) (n' := 7) rfl rfl (by decide) (by decide) ?_
          intro T108 v108 h108 X108 q108
          obtain ⟨rfl, K108, E_b94, F_b94_key, F_b94_position, F_b94_mask⟩ := q108
          replace K := K.trans K108 (allS (Or.inr sz_b94) all0)
          replace E_b1 := E_b1.keep K108
          replace V_b1 := V_b1.keep K108 (ninS ne_b1_b94 nin0)
          show own_Go p e below (T108.setTop (mkF m 142 #[.val (.int i0), .val (.int i1), .val (.int i2), .val (.int i3), .val (.int i4), .val (.ref b1), .val (.int (0 : Int32)), .val (.int (0 : Int32)), .val (.int (1 : Int32)), .val (.int (0 : Int32)), .val (.ref b94), .val (.int y97), .val (.int y101), .val (.int y105), .unset] [])) _
          refine own_aload (pc' := 144) B X108 at_142 rfl rfl rfl ?_
          refine own_callV (pc' := 147) B X108 (own_w hw 12 rfl) (own_w hw 13 rfl) (own_w hw 15 rfl) (own_w hw 14 rfl) (own_w hw 3 rfl) (own_w hw 16 rfl) E_b94 (by decide) [] [] (rm_8 l Z a0 hw [] b94 b1 kb1 (y2) (y4) (y6) (y8) h108 n0 (Nat.le_trans Z0 K.1) E_b94 F_b94_key F_b94_position F_b94_mask g_b94 E_b1 V_b1 g_b1 (Ne.symm ne_b1_b94)) 0 (by decide) (by decide) rfl pd_1 rfl rfl (Nat.le_of_eq rfl) at_144 rfl (k' := 2) (n' := 7) rfl rfl (by decide) (by decide) ?_
          intro T109 v109 h109 X109 q109
          obtain ⟨y110, hy111, rfl, K109, E_b94, F_b94_key, F_b94_position, F_b94_mask⟩ := q109
          replace K := K.trans K109 (allS (Or.inr sz_b94) all0)
          replace E_b1 := E_b1.keep K109
          replace V_b1 := V_b1.keep K109 (ninS ne_b1_b94 nin0)
          show own_Go p e below (T109.setTop (mkF m 147 #[.val (.int i0), .val (.int i1), .val (.int i2), .val (.int i3), .val (.int i4), .val (.ref b1), .val (.int (0 : Int32)), .val (.int (0 : Int32)), .val (.int (1 : Int32)), .val (.int (0 : Int32)), .val (.ref b94), .val (.int y97), .val (.int y101), .val (.int y105), .unset] [(.int y110)])) _
          refine own_istore (pc' := 149) B X109 (Ls' := #[.val (.int i0), .val (.int i1), .val (.int i2), .val (.int i3), .val (.int i4), .val (.ref b1), .val (.int (0 : Int32)), .val (.int (0 : Int32)), .val (.int (1 : Int32)), .val (.int (0 : Int32)), .val (.ref b94), .val (.int y97), .val (.int y101), .val (.int y105), .val (.int y110)]) at_147 rfl rfl ?_
          refine own_iload (pc' := 151) B X109 at_149 rfl rfl ?_
          refine own_iloadN (pc' := 152) B X109 at_151 rfl rfl ?_
          refine own_iconst (pc' := 153) B X109 (z := (0 : Int32)) at_152 rfl rfl ?_
          refine own_callS (pc' := 156) B X109 (own_w hw 26 rfl) (own_w hw 27 rfl) (own_w hw 28 rfl) (own_w hw 29 rfl) (by decide) [(.int i0), (.int (0 : Int32))] [(.int y97)] (rm_9 l Z a0 hw [] (i0) h109 n0 (Nat.le_trans Z0 K.1) ) 1 (by decide) (by decide) rfl pd_3 rfl rfl (Nat.le_of_eq rfl) at_153 rfl (k' := 2) (n' := 7) rfl rfl (by decide) (by decide) ?_
          intro T112 v112 h112 X112 q112
          obtain ⟨y113, hy114, rfl, rfl⟩ := q112
          show own_Go p e below (T112.setTop (mkF m 156 #[.val (.int i0), .val (.int i1), .val (.int i2), .val (.int i3), .val (.int i4), .val (.ref b1), .val (.int (0 : Int32)), .val (.int (0 : Int32)), .val (.int (1 : Int32)), .val (.int (0 : Int32)), .val (.ref b94), .val (.int y97), .val (.int y101), .val (.int y105), .val (.int y110)] [(.int y113), (.int y97)])) _
          have c115 : y97 = y113 := by
            have o0 := own_o_i2b hy2
            have o1 := own_o_mask hy98 8 (by decide) (by decide)
            have o2 := own_o_mask hy114 8 (by decide) (by decide)
            have o3 := rng32 i0
            have o4 := rng32 y113
            have o5 := rng32 y2
            have o6 := rng32 y97
            have o7 : (255 : Int32).toInt = 255 := by decide
            refine own_eqI ?_
            omega
          refine own_icmpNo (pc' := 159) B X112 at_156 (teq c115).2 rfl ?_
          refine own_iload (pc' := 161) B X112 at_159 rfl rfl ?_
          refine own_iloadN (pc' := 162) B X112 at_161 rfl rfl ?_
          refine own_iload (pc' := 164) B X112 at_162 rfl rfl ?_
          refine own_callS (pc' := 167) B X112 (own_w hw 26 rfl) (own_w hw 27 rfl) (own_w hw 28 rfl) (own_w hw 29 rfl) (by decide) [(.int i1), (.int (0 : Int32))] [(.int y101)] (rm_9 l Z a0 hw [] (i1) h109 n0 (Nat.le_trans Z0 K.1) ) 1 (by decide) (by decide) rfl pd_3 rfl rfl (Nat.le_of_eq rfl) at_164 rfl (k' := 2) (n' := 7) rfl rfl (by decide) (by decide) ?_
          intro T116 v116 h116 X116 q116
          obtain ⟨y117, hy118, rfl, rfl⟩ := q116
          show own_Go p e below (T116.setTop (mkF m 167 #[.val (.int i0), .val (.int i1), .val (.int i2), .val (.int i3), .val (.int i4), .val (.ref b1), .val (.int (0 : Int32)), .val (.int (0 : Int32)), .val (.int (1 : Int32)), .val (.int (0 : Int32)), .val (.ref b94), .val (.int y97), .val (.int y101), .val (.int y105), .val (.int y110)] [(.int y117), (.int y101)])) _
          have c119 : y101 = y117 := by
            have o0 := own_o_i2b hy4
            have o1 := own_o_mask hy102 8 (by decide) (by decide)
            have o2 := own_o_mask hy118 8 (by decide) (by decide)
            have o3 := rng32 i1
            have o4 := rng32 y101
            have o5 := rng32 y117
            have o6 := rng32 y4
            have o7 : (255 : Int32).toInt = 255 := by decide
            refine own_eqI ?_
            omega
          refine own_icmpNo (pc' := 170) B X116 at_167 (teq c119).2 rfl ?_
          refine own_iload (pc' := 172) B X116 at_170 rfl rfl ?_
          refine own_iloadN (pc' := 173) B X116 at_172 rfl rfl ?_
          refine own_iload (pc' := 175) B X116 at_173 rfl rfl ?_
          refine own_callS (pc' := 178) B X116 (own_w hw 26 rfl) (own_w hw 27 rfl) (own_w hw 28 rfl) (own_w hw 29 rfl) (by decide) [(.int i2), (.int (0 : Int32))] [(.int y105)] (rm_9 l Z a0 hw [] (i2) h109 n0 (Nat.le_trans Z0 K.1) ) 1 (by decide) (by decide) rfl pd_3 rfl rfl (Nat.le_of_eq rfl) at_175 rfl (k' := 2) (n' := 7) rfl rfl (by decide) (by decide) ?_
          intro T120 v120 h120 X120 q120
          obtain ⟨y121, hy122, rfl, rfl⟩ := q120
          show own_Go p e below (T120.setTop (mkF m 178 #[.val (.int i0), .val (.int i1), .val (.int i2), .val (.int i3), .val (.int i4), .val (.ref b1), .val (.int (0 : Int32)), .val (.int (0 : Int32)), .val (.int (1 : Int32)), .val (.int (0 : Int32)), .val (.ref b94), .val (.int y97), .val (.int y101), .val (.int y105), .val (.int y110)] [(.int y121), (.int y105)])) _
          have c123 : y105 = y121 := by
            have o0 := own_o_i2b hy6
            have o1 := own_o_mask hy106 8 (by decide) (by decide)
            have o2 := own_o_mask hy122 8 (by decide) (by decide)
            have o3 := rng32 i2
            have o4 := rng32 y105
            have o5 := rng32 y121
            have o6 := rng32 y6
            have o7 : (255 : Int32).toInt = 255 := by decide
            refine own_eqI ?_
            omega
          refine own_icmpNo (pc' := 181) B X120 at_178 (teq c123).2 rfl ?_
          refine own_iload (pc' := 183) B X120 at_181 rfl rfl ?_
          refine own_iloadN (pc' := 184) B X120 at_183 rfl rfl ?_
          refine own_iload (pc' := 186) B X120 at_184 rfl rfl ?_
          refine own_callS (pc' := 189) B X120 (own_w hw 26 rfl) (own_w hw 27 rfl) (own_w hw 28 rfl) (own_w hw 29 rfl) (by decide) [(.int i3), (.int (0 : Int32))] [(.int y110)] (rm_9 l Z a0 hw [] (i3) h109 n0 (Nat.le_trans Z0 K.1) ) 1 (by decide) (by decide) rfl pd_3 rfl rfl (Nat.le_of_eq rfl) at_186 rfl (k' := 2) (n' := 7) rfl rfl (by decide) (by decide) ?_
          intro T124 v124 h124 X124 q124
          obtain ⟨y125, hy126, rfl, rfl⟩ := q124
          show own_Go p e below (T124.setTop (mkF m 189 #[.val (.int i0), .val (.int i1), .val (.int i2), .val (.int i3), .val (.int i4), .val (.ref b1), .val (.int (0 : Int32)), .val (.int (0 : Int32)), .val (.int (1 : Int32)), .val (.int (0 : Int32)), .val (.ref b94), .val (.int y97), .val (.int y101), .val (.int y105), .val (.int y110)] [(.int y125), (.int y110)])) _
          have c127 : y110 = y125 := by
            have o0 := own_o_i2b hy8
            have o1 := own_o_mask hy111 8 (by decide) (by decide)
            have o2 := own_o_mask hy126 8 (by decide) (by decide)
            have o3 := rng32 i3
            have o4 := rng32 y110
            have o5 := rng32 y125
            have o6 := rng32 y8
            have o7 : (255 : Int32).toInt = 255 := by decide
            refine own_eqI ?_
            omega
          refine own_icmpNo (pc' := 192) B X124 at_189 (teq c127).2 rfl ?_
          refine own_aload (pc' := 194) B X124 at_192 rfl rfl rfl ?_
          refine own_callV (pc' := 197) B X124 (own_w hw 30 rfl) (own_w hw 31 rfl) (own_w hw 33 rfl) (own_w hw 32 rfl) (own_w hw 3 rfl) (own_w hw 34 rfl) E_b94 (by decide) [] [] (rm_10 l Z a0 hw [] b94 b1 kb1 (y2) (y4) (y6) (y8) h109 n0 (Nat.le_trans Z0 K.1) E_b94 F_b94_key F_b94_position F_b94_mask g_b94 E_b1 V_b1 g_b1 (Ne.symm ne_b1_b94)) 0 (by decide) (by decide) rfl pd_1 rfl rfl (Nat.le_of_eq rfl) at_194 rfl (k' := 2) (n' := 7) rfl rfl (by decide) (by decide) ?_
          intro T128 v128 h128 X128 q128
          obtain ⟨rfl, rfl⟩ := q128
          show own_Go p e below (T128.setTop (mkF m 197 #[.val (.int i0), .val (.int i1), .val (.int i2), .val (.int i3), .val (.int i4), .val (.ref b1), .val (.int (0 : Int32)), .val (.int (0 : Int32)), .val (.int (1 : Int32)), .val (.int (0 : Int32)), .val (.ref b94), .val (.int y97), .val (.int y101), .val (.int y105), .val (.int y110)] [(.int (4 : Int32))])) _
          refine own_iconst (pc' := 198) B X128 (z := (4 : Int32)) at_197 rfl rfl ?_
          refine own_icmpNo (pc' := 201) B X128 at_198 (teq (by decide : (4 : Int32) = (4 : Int32))).2 rfl ?_
          refine own_iconst (pc' := 202) B X128 (z := (1 : Int32)) at_201 rfl rfl ?_
          refine own_goto (pc' := 206) B X128 at_202 (by decide) rfl ?_
          exact own_retN B X128 (t := .boolean) (z' := (1 : Int32)) (by simp) (by decide) at_206 (by decide) (by decide) rfl
        · refine own_ifNo (pc' := 75) B X9 at_72 ((if0 _ _).trans (feq c93).1) rfl ?_
          refine own_iconst (pc' := 76) B X9 (z := (1 : Int32)) at_75 rfl rfl ?_
          refine own_goto (pc' := 80) B X9 at_76 (by decide) rfl ?_
          refine own_istore (pc' := 82) B X9 (Ls' := #[.val (.int i0), .val (.int i1), .val (.int i2), .val (.int i3), .val (.int i4), .val (.ref b1), .val (.int (0 : Int32)), .val (.int (0 : Int32)), .val (.int (1 : Int32)), .val (.int (1 : Int32)), .unset, .unset, .unset, .unset, .unset]) at_80 rfl rfl ?_
          refine own_new (pc' := 85) B X9 (own_w hw 1 rfl) (own_w hw 2 rfl) (own_w hw 3 rfl) at_82 rfl (k' := 2) (n' := 7) rfl rfl (by decide) (by decide) ?_
          intro T129 h129 b129 X129 g129 E129 E_b129 D129
          have ne_b1_b129 : b1 ≠ b129 := own_ne E_b1.lt g129
          have sz_b129 : h0.size ≤ b129 := own_sz K g129
          have g_b129 : n0 ≤ b129 := Nat.le_trans Z0 sz_b129
          replace K := K.ext E129
          replace E_b1 := E_b1.ext E129
          replace V_b1 := V_b1.ext E129
          have F_b129_key : Fld Z h129 b129 "com/example/keyer/keyer/KeyReader" "key" "[B" .null := D129 (Or.inr (own_w hw 11 rfl)) (ty := (.array .byte)) (by decide)
          have F_b129_position : Fld Z h129 b129 "com/example/keyer/keyer/KeyReader" "position" "I" (.int (0 : Int32)) := D129 (Or.inl (own_w hw 18 rfl)) (ty := .int) (by decide)
          have F_b129_mask : Fld Z h129 b129 "com/example/keyer/keyer/KeyReader" "mask" "I" (.int (0 : Int32)) := D129 (Or.inl (own_w hw 20 rfl)) (ty := .int) (by decide)
          clear D129
          refine own_dup (pc' := 86) B X129 at_85 rfl rfl ?_
          refine own_aload (pc' := 88) B X129 at_86 rfl rfl rfl ?_
          refine own_callI (pc' := 91) B X129 rfl rfl (own_w hw 4 rfl) (own_w hw 5 rfl) (own_w hw 3 rfl) (own_w hw 6 rfl) (by decide) [(.ref b1)] [(.ref b129)] (rm_1 l Z a0 hw [] b129 b1 kb1 (y2) (y4) (y6) (y8) h129 n0 (Nat.le_trans Z0 K.1) E_b129 F_b129_key F_b129_position F_b129_mask g_b129 E_b1 V_b1 g_b1 (Ne.symm ne_b1_b129)) 1 (by decide) (by decide) rfl pd_0 rfl rfl (Nat.le_of_eq rfl) at_88 rfl (k' := 2) (n' := 7) rfl rfl (by decide) (by decide) ?_
          intro T130 v130 h130 X130 q130
          obtain ⟨rfl, K130, E_b129, F_b129_key, F_b129_position, F_b129_mask⟩ := q130
          replace K := K.trans K130 (allS (Or.inr sz_b129) all0)
          replace E_b1 := E_b1.keep K130
          replace V_b1 := V_b1.keep K130 (ninS ne_b1_b129 nin0)
          show own_Go p e below (T130.setTop (mkF m 91 #[.val (.int i0), .val (.int i1), .val (.int i2), .val (.int i3), .val (.int i4), .val (.ref b1), .val (.int (0 : Int32)), .val (.int (0 : Int32)), .val (.int (1 : Int32)), .val (.int (1 : Int32)), .unset, .unset, .unset, .unset, .unset] [(.ref b129)])) _
          refine own_astore (pc' := 93) B X130 (Ls' := #[.val (.int i0), .val (.int i1), .val (.int i2), .val (.int i3), .val (.int i4), .val (.ref b1), .val (.int (0 : Int32)), .val (.int (0 : Int32)), .val (.int (1 : Int32)), .val (.int (1 : Int32)), .val (.ref b129), .unset, .unset, .unset, .unset]) at_91 rfl rfl rfl ?_
          refine own_aload (pc' := 95) B X130 at_93 rfl rfl rfl ?_
          refine own_callV (pc' := 98) B X130 (own_w hw 12 rfl) (own_w hw 13 rfl) (own_w hw 15 rfl) (own_w hw 14 rfl) (own_w hw 3 rfl) (own_w hw 16 rfl) E_b129 (by decide) [] [] (rm_2 l Z a0 hw [] b129 b1 kb1 (y2) (y4) (y6) (y8) h130 n0 (Nat.le_trans Z0 K.1) E_b129 F_b129_key F_b129_position F_b129_mask g_b129 E_b1 V_b1 g_b1 (Ne.symm ne_b1_b129)) 0 (by decide) (by decide) rfl pd_1 rfl rfl (Nat.le_of_eq rfl) at_95 rfl (k' := 2) (n' := 7) rfl rfl (by decide) (by decide) ?_
          intro T131 v131 h131 X131 q131
          obtain ⟨y132, hy133, rfl, K131, E_b129, F_b129_key, F_b129_position, F_b129_mask⟩ := q131
          replace K := K.trans K131 (allS (Or.inr sz_b129) all0)
          replace E_b1 := E_b1.keep K131
          replace V_b1 := V_b1.keep K131 (ninS ne_b1_b129 nin0)
          show own_Go p e below (T131.setTop (mkF m 98 #[.val (.int i0), .val (.int i1), .val (.int i2), .val (.int i3), .val (.int i4), .val (.ref b1), .val (.int (0 : Int32)), .val (.int (0 : Int32)), .val (.int (1 : Int32)), .val (.int (1 : Int32)), .val (.ref b129), .unset, .unset, .unset, .unset] [(.int y132)])) _
          refine own_istore (pc' := 100) B X131 (Ls' := #[.val (.int i0), .val (.int i1), .val (.int i2), .val (.int i3), .val (.int i4), .val (.ref b1), .val (.int (0 : Int32)), .val (.int (0 : Int32)), .val (.int (1 : Int32)), .val (.int (1 : Int32)), .val (.ref b129), .val (.int y132), .unset, .unset, .unset]) at_98 rfl rfl ?_
          refine own_aload (pc' := 102) B X131 at_100 rfl rfl rfl ?_
          refine own_iload (pc' := 104) B X131 at_102 rfl rfl ?_
          refine own_callV (pc' := 107) B X131 (own_w hw 21 rfl) (own_w hw 22 rfl) (own_w hw 24 rfl) (own_w hw 23 rfl) (own_w hw 3 rfl) (own_w hw 25 rfl) E_b129 (by decide) [(.int (0 : Int32))] [] (rm_3 l Z a0 hw [] b129 b1 kb1 (y2) (y4) (y6) (y8) h131 n0 (Nat.le_trans Z0 K.1) E_b129 F_b129_key F_b129_position F_b129_mask g_b129 E_b1 V_b1 g_b1 (Ne.symm ne_b1_b129)) 0 (by decide) (by decide) rfl pd_2 rfl rfl (Nat.le_of_eq rfl) at_104 rfl (k' := 2) (n' := 7) rfl rfl (by decide) (by decide) ?_
          intro T134 v134 h134 X134 q134
          obtain ⟨rfl, K134, E_b129, F_b129_key, F_b129_position, F_b129_mask⟩ := q134
          replace K := K.trans K134 (allS (Or.inr sz_b129) all0)
          replace E_b1 := E_b1.keep K134
          replace V_b1 := V_b1.keep K134 (ninS ne_b1_b129 nin0)
          show own_Go p e below (T134.setTop (mkF m 107 #[.val (.int i0), .val (.int i1), .val (.int i2), .val (.int i3), .val (.int i4), .val (.ref b1), .val (.int (0 : Int32)), .val (.int (0 : Int32)), .val (.int (1 : Int32)), .val (.int (1 : Int32)), .val (.ref b129), .val (.int y132), .unset, .unset, .unset] [])) _
          refine own_aload (pc' := 109) B X134 at_107 rfl rfl rfl ?_
          refine own_callV (pc' := 112) B X134 (own_w hw 12 rfl) (own_w hw 13 rfl) (own_w hw 15 rfl) (own_w hw 14 rfl) (own_w hw 3 rfl) (own_w hw 16 rfl) E_b129 (by decide) [] [] (rm_4 l Z a0 hw [] b129 b1 kb1 (y2) (y4) (y6) (y8) h134 n0 (Nat.le_trans Z0 K.1) E_b129 F_b129_key F_b129_position F_b129_mask g_b129 E_b1 V_b1 g_b1 (Ne.symm ne_b1_b129)) 0 (by decide) (by decide) rfl pd_1 rfl rfl (Nat.le_of_eq rfl) at_109 rfl (k' := 2) (n' := 7) rfl rfl (by decide) (by decide) ?_
          intro T135 v135 h135 X135 q135
          obtain ⟨y136, hy137, rfl, K135, E_b129, F_b129_key, F_b129_position, F_b129_mask⟩ := q135
          replace K := K.trans K135 (allS (Or.inr sz_b129) all0)
          replace E_b1 := E_b1.keep K135
          replace V_b1 := V_b1.keep K135 (ninS ne_b1_b129 nin0)
          show own_Go p e below (T135.setTop (mkF m 112 #[.val (.int i0), .val (.int i1), .val (.int i2), .val (.int i3), .val (.int i4), .val (.ref b1), .val (.int (0 : Int32)), .val (.int (0 : Int32)), .val (.int (1 : Int32)), .val (.int (1 : Int32)), .val (.ref b129), .val (.int y132), .unset, .unset, .unset] [(.int y136)])) _
          refine own_istore (pc' := 114) B X135 (Ls' := #[.val (.int i0), .val (.int i1), .val (.int i2), .val (.int i3), .val (.int i4), .val (.ref b1), .val (.int (0 : Int32)), .val (.int (0 : Int32)), .val (.int (1 : Int32)), .val (.int (1 : Int32)), .val (.ref b129), .val (.int y132), .val (.int y136), .unset, .unset]) at_112 rfl rfl ?_
          refine own_aload (pc' := 116) B X135 at_114 rfl rfl rfl ?_
          refine own_iload (pc' := 118) B X135 at_116 rfl rfl ?_
          refine own_callV (pc' := 121) B X135 (own_w hw 21 rfl) (own_w hw 22 rfl) (own_w hw 24 rfl) (own_w hw 23 rfl) (own_w hw 3 rfl) (own_w hw 25 rfl) E_b129 (by decide) [(.int (0 : Int32))] [] (rm_5 l Z a0 hw [] b129 b1 kb1 (y2) (y4) (y6) (y8) h135 n0 (Nat.le_trans Z0 K.1) E_b129 F_b129_key F_b129_position F_b129_mask g_b129 E_b1 V_b1 g_b1 (Ne.symm ne_b1_b129)) 0 (by decide) (by decide) rfl pd_2 rfl rfl (Nat.le_of_eq rfl) at_118 rfl (k' := 2) (n' := 7) rfl rfl (by decide) (by decide) ?_
          intro T138 v138 h138 X138 q138
          obtain ⟨rfl, K138, E_b129, F_b129_key, F_b129_position, F_b129_mask⟩ := q138
          replace K := K.trans K138 (allS (Or.inr sz_b129) all0)
          replace E_b1 := E_b1.keep K138
          replace V_b1 := V_b1.keep K138 (ninS ne_b1_b129 nin0)
          show own_Go p e below (T138.setTop (mkF m 121 #[.val (.int i0), .val (.int i1), .val (.int i2), .val (.int i3), .val (.int i4), .val (.ref b1), .val (.int (0 : Int32)), .val (.int (0 : Int32)), .val (.int (1 : Int32)), .val (.int (1 : Int32)), .val (.ref b129), .val (.int y132), .val (.int y136), .unset, .unset] [])) _
          refine own_aload (pc' := 123) B X138 at_121 rfl rfl rfl ?_
          refine own_callV (pc' := 126) B X138 (own_w hw 12 rfl) (own_w hw 13 rfl) (own_w hw 15 rfl) (own_w hw 14 rfl) (own_w hw 3 rfl) (own_w hw 16 rfl) E_b129 (by decide) [] [] (rm_6 l Z a0 hw [] b129 b1 kb1 (y2) (y4) (y6) (y8) h138 n0 (Nat.le_trans Z0 K.1) E_b129 F_b129_key F_b129_position F_b129_mask g_b129 E_b1 V_b1 g_b1 (Ne.symm ne_b1_b129)) 0 (by decide) (by decide) rfl pd_1 rfl rfl (Nat.le_of_eq rfl) at_123 rfl (k' := 2) (n' := 7) rfl rfl (by decide) (by decide) ?_
          intro T139 v139 h139 X139 q139
          obtain ⟨y140, hy141, rfl, K139, E_b129, F_b129_key, F_b129_position, F_b129_mask⟩ := q139
          replace K := K.trans K139 (allS (Or.inr sz_b129) all0)
          replace E_b1 := E_b1.keep K139
          replace V_b1 := V_b1.keep K139 (ninS ne_b1_b129 nin0)
          show own_Go p e below (T139.setTop (mkF m 126 #[.val (.int i0), .val (.int i1), .val (.int i2), .val (.int i3), .val (.int i4), .val (.ref b1), .val (.int (0 : Int32)), .val (.int (0 : Int32)), .val (.int (1 : Int32)), .val (.int (1 : Int32)), .val (.ref b129), .val (.int y132), .val (.int y136), .unset, .unset] [(.int y140)])) _
          refine own_istore (pc' := 128) B X139 (Ls' := #[.val (.int i0), .val (.int i1), .val (.int i2), .val (.int i3), .val (.int i4), .val (.ref b1), .val (.int (0 : Int32)), .val (.int (0 : Int32)), .val (.int (1 : Int32)), .val (.int (1 : Int32)), .val (.ref b129), .val (.int y132), .val (.int y136), .val (.int y140), .unset]) at_126 rfl rfl ?_
          refine own_aload (pc' := 130) B X139 at_128 rfl rfl rfl ?_
          refine own_iload (pc' := 132) B X139 at_130 rfl rfl ?_
          refine own_callV (pc' := 135) B X139 (own_w hw 21 rfl) (own_w hw 22 rfl) (own_w hw 24 rfl) (own_w hw 23 rfl) (own_w hw 3 rfl) (own_w hw 25 rfl) E_b129 (by decide) [(.int (1 : Int32))] [] (rm_11 l Z a0 hw [] b129 b1 kb1 (y2) (y4) (y6) (y8) h139 n0 (Nat.le_trans Z0 K.1) E_b129 F_b129_key F_b129_position F_b129_mask g_b129 E_b1 V_b1 g_b1 (Ne.symm ne_b1_b129)) 0 (by decide) (by decide) rfl pd_2 rfl rfl (Nat.le_of_eq rfl) at_132 rfl (k' := 2) (n' := 7) rfl rfl (by decide) (by decide) ?_
          intro T142 v142 h142 X142 q142
          obtain ⟨rfl, K142, E_b129, F_b129_key, F_b129_position, F_b129_mask⟩ := q142
          replace K := K.trans K142 (allS (Or.inr sz_b129) all0)
          replace E_b1 := E_b1.keep K142
          replace V_b1 := V_b1.keep K142 (ninS ne_b1_b129 nin0)
          show own_Go p e below (T142.setTop (mkF m 135 #[.val (.int i0), .val (.int i1), .val (.int i2), .val (.int i3), .val (.int i4), .val (.ref b1), .val (.int (0 : Int32)), .val (.int (0 : Int32)), .val (.int (1 : Int32)), .val (.int (1 : Int32)), .val (.ref b129), .val (.int y132), .val (.int y136), .val (.int y140), .unset] [])) _
          refine own_aload (pc' := 137) B X142 at_135 rfl rfl rfl ?_
          refine own_iload (pc' := 139) B X142 at_137 rfl rfl ?_
          refine own_callV (pc' := 142) B X142 (own_w hw 21 rfl) (own_w hw 22 rfl) (own_w hw 24 rfl) (own_w hw 23 rfl) (own_w hw 3 rfl) (own_w hw 25 rfl) E_b129 (by decide) [(.int (1 : Int32))] [] (rm_16 l Z a0 hw [] b129 b1 kb1 (y2) (y4) (y6) (y8) h142 n0 (Nat.le_trans Z0 K.1) E_b129 F_b129_key F_b129_position F_b129_mask g_b129 E_b1 V_b1 g_b1 (Ne.symm ne_b1_b129)) 0 (by decide) (by decide) rfl pd_2 rfl rfl (Nat.le_of_eq rfl) at_139 rfl (k' := 2) (n' := 7) rfl rfl (by decide) (by decide) ?_
          intro T143 v143 h143 X143 q143
          obtain ⟨rfl, K143, E_b129, F_b129_key, F_b129_position, F_b129_mask⟩ := q143
          replace K := K.trans K143 (allS (Or.inr sz_b129) all0)
          replace E_b1 := E_b1.keep K143
          replace V_b1 := V_b1.keep K143 (ninS ne_b1_b129 nin0)
          show own_Go p e below (T143.setTop (mkF m 142 #[.val (.int i0), .val (.int i1), .val (.int i2), .val (.int i3), .val (.int i4), .val (.ref b1), .val (.int (0 : Int32)), .val (.int (0 : Int32)), .val (.int (1 : Int32)), .val (.int (1 : Int32)), .val (.ref b129), .val (.int y132), .val (.int y136), .val (.int y140), .unset] [])) _
          refine own_aload (pc' := 144) B X143 at_142 rfl rfl rfl ?_
          refine own_callV (pc' := 147) B X143 (own_w hw 12 rfl) (own_w hw 13 rfl) (own_w hw 15 rfl) (own_w hw 14 rfl) (own_w hw 3 rfl) (own_w hw 16 rfl) E_b129 (by decide) [] [] (rm_12 l Z a0 hw [] b129 b1 kb1 (y2) (y4) (y6) (y8) h143 n0 (Nat.le_trans Z0 K.1) E_b129 F_b129_key F_b129_position F_b129_mask g_b129 E_b1 V_b1 g_b1 (Ne.symm ne_b1_b129)) 0 (by decide) (by decide) rfl pd_1 rfl rfl (Nat.le_of_eq rfl) at_144 rfl (k' := 2) (n' := 7) rfl rfl (by decide) (by decide) ?_
          intro T144 v144 h144 X144 q144
          obtain ⟨y145, y146, hy147, hy148, rfl, K144, E_b129, F_b129_key, F_b129_position, F_b129_mask⟩ := q144
          replace K := K.trans K144 (allS (Or.inr sz_b129) all0)
          replace E_b1 := E_b1.keep K144
          replace V_b1 := V_b1.keep K144 (ninS ne_b1_b129 nin0)
          show own_Go p e below (T144.setTop (mkF m 147 #[.val (.int i0), .val (.int i1), .val (.int i2), .val (.int i3), .val (.int i4), .val (.ref b1), .val (.int (0 : Int32)), .val (.int (0 : Int32)), .val (.int (1 : Int32)), .val (.int (1 : Int32)), .val (.ref b129), .val (.int y132), .val (.int y136), .val (.int y140), .unset] [(.int y146)])) _
          refine own_istore (pc' := 149) B X144 (Ls' := #[.val (.int i0), .val (.int i1), .val (.int i2), .val (.int i3), .val (.int i4), .val (.ref b1), .val (.int (0 : Int32)), .val (.int (0 : Int32)), .val (.int (1 : Int32)), .val (.int (1 : Int32)), .val (.ref b129), .val (.int y132), .val (.int y136), .val (.int y140), .val (.int y146)]) at_147 rfl rfl ?_
          refine own_iload (pc' := 151) B X144 at_149 rfl rfl ?_
          refine own_iloadN (pc' := 152) B X144 at_151 rfl rfl ?_
          refine own_iconst (pc' := 153) B X144 (z := (0 : Int32)) at_152 rfl rfl ?_
          refine own_callS (pc' := 156) B X144 (own_w hw 26 rfl) (own_w hw 27 rfl) (own_w hw 28 rfl) (own_w hw 29 rfl) (by decide) [(.int i0), (.int (0 : Int32))] [(.int y132)] (rm_9 l Z a0 hw [] (i0) h144 n0 (Nat.le_trans Z0 K.1) ) 1 (by decide) (by decide) rfl pd_3 rfl rfl (Nat.le_of_eq rfl) at_153 rfl (k' := 2) (n' := 7) rfl rfl (by decide) (by decide) ?_
          intro T149 v149 h149 X149 q149
          obtain ⟨y150, hy151, rfl, rfl⟩ := q149
          show own_Go p e below (T149.setTop (mkF m 156 #[.val (.int i0), .val (.int i1), .val (.int i2), .val (.int i3), .val (.int i4), .val (.ref b1), .val (.int (0 : Int32)), .val (.int (0 : Int32)), .val (.int (1 : Int32)), .val (.int (1 : Int32)), .val (.ref b129), .val (.int y132), .val (.int y136), .val (.int y140), .val (.int y146)] [(.int y150), (.int y132)])) _
          have c152 : y132 = y150 := by
            have o0 := own_o_i2b hy2
            have o1 := own_o_mask hy133 8 (by decide) (by decide)
            have o2 := own_o_mask hy151 8 (by decide) (by decide)
            have o3 := rng32 i0
            have o4 := rng32 y132
            have o5 := rng32 y150
            have o6 := rng32 y2
            have o7 : (255 : Int32).toInt = 255 := by decide
            refine own_eqI ?_
            omega
          refine own_icmpNo (pc' := 159) B X149 at_156 (teq c152).2 rfl ?_
          refine own_iload (pc' := 161) B X149 at_159 rfl rfl ?_
          refine own_iloadN (pc' := 162) B X149 at_161 rfl rfl ?_
          refine own_iload (pc' := 164) B X149 at_162 rfl rfl ?_
          refine own_callS (pc' := 167) B X149 (own_w hw 26 rfl) (own_w hw 27 rfl) (own_w hw 28 rfl) (own_w hw 29 rfl) (by decide) [(.int i1), (.int (0 : Int32))] [(.int y136)] (rm_9 l Z a0 hw [] (i1) h144 n0 (Nat.le_trans Z0 K.1) ) 1 (by decide) (by decide) rfl pd_3 rfl rfl (Nat.le_of_eq rfl) at_164 rfl (k' := 2) (n' := 7) rfl rfl (by decide) (by decide) ?_
          intro T153 v153 h153 X153 q153
          obtain ⟨y154, hy155, rfl, rfl⟩ := q153
          show own_Go p e below (T153.setTop (mkF m 167 #[.val (.int i0), .val (.int i1), .val (.int i2), .val (.int i3), .val (.int i4), .val (.ref b1), .val (.int (0 : Int32)), .val (.int (0 : Int32)), .val (.int (1 : Int32)), .val (.int (1 : Int32)), .val (.ref b129), .val (.int y132), .val (.int y136), .val (.int y140), .val (.int y146)] [(.int y154), (.int y136)])) _
          have c156 : y136 = y154 := by
            have o0 := own_o_i2b hy4
            have o1 := own_o_mask hy137 8 (by decide) (by decide)
            have o2 := own_o_mask hy155 8 (by decide) (by decide)
            have o3 := rng32 i1
            have o4 := rng32 y136
            have o5 := rng32 y154
            have o6 := rng32 y4
            have o7 : (255 : Int32).toInt = 255 := by decide
            refine own_eqI ?_
            omega
          refine own_icmpNo (pc' := 170) B X153 at_167 (teq c156).2 rfl ?_
          refine own_iload (pc' := 172) B X153 at_170 rfl rfl ?_
          refine own_iloadN (pc' := 173) B X153 at_172 rfl rfl ?_
          refine own_iload (pc' := 175) B X153 at_173 rfl rfl ?_
          refine own_callS (pc' := 178) B X153 (own_w hw 26 rfl) (own_w hw 27 rfl) (own_w hw 28 rfl) (own_w hw 29 rfl) (by decide) [(.int i2), (.int (0 : Int32))] [(.int y140)] (rm_9 l Z a0 hw [] (i2) h144 n0 (Nat.le_trans Z0 K.1) ) 1 (by decide) (by decide) rfl pd_3 rfl rfl (Nat.le_of_eq rfl) at_175 rfl (k' := 2) (n' := 7) rfl rfl (by decide) (by decide) ?_
          intro T157 v157 h157 X157 q157
          obtain ⟨y158, hy159, rfl, rfl⟩ := q157
          show own_Go p e below (T157.setTop (mkF m 178 #[.val (.int i0), .val (.int i1), .val (.int i2), .val (.int i3), .val (.int i4), .val (.ref b1), .val (.int (0 : Int32)), .val (.int (0 : Int32)), .val (.int (1 : Int32)), .val (.int (1 : Int32)), .val (.ref b129), .val (.int y132), .val (.int y136), .val (.int y140), .val (.int y146)] [(.int y158), (.int y140)])) _
          have c160 : y140 = y158 := by
            have o0 := own_o_i2b hy6
            have o1 := own_o_mask hy141 8 (by decide) (by decide)
            have o2 := own_o_mask hy159 8 (by decide) (by decide)
            have o3 := rng32 i2
            have o4 := rng32 y140
            have o5 := rng32 y158
            have o6 := rng32 y6
            have o7 : (255 : Int32).toInt = 255 := by decide
            refine own_eqI ?_
            omega
          refine own_icmpNo (pc' := 181) B X157 at_178 (teq c160).2 rfl ?_
          refine own_iload (pc' := 183) B X157 at_181 rfl rfl ?_
          refine own_iloadN (pc' := 184) B X157 at_183 rfl rfl ?_
          refine own_iload (pc' := 186) B X157 at_184 rfl rfl ?_
          refine own_callS (pc' := 189) B X157 (own_w hw 26 rfl) (own_w hw 27 rfl) (own_w hw 28 rfl) (own_w hw 29 rfl) (by decide) [(.int i3), (.int (1 : Int32))] [(.int y146)] (rm_13 l Z a0 hw [] (i3) h144 n0 (Nat.le_trans Z0 K.1) ) 1 (by decide) (by decide) rfl pd_3 rfl rfl (Nat.le_of_eq rfl) at_186 rfl (k' := 2) (n' := 7) rfl rfl (by decide) (by decide) ?_
          intro T161 v161 h161 X161 q161
          obtain ⟨y162, y163, hy164, hy165, rfl, rfl⟩ := q161
          show own_Go p e below (T161.setTop (mkF m 189 #[.val (.int i0), .val (.int i1), .val (.int i2), .val (.int i3), .val (.int i4), .val (.ref b1), .val (.int (0 : Int32)), .val (.int (0 : Int32)), .val (.int (1 : Int32)), .val (.int (1 : Int32)), .val (.ref b129), .val (.int y132), .val (.int y136), .val (.int y140), .val (.int y146)] [(.int y163), (.int y146)])) _
          have c166 : y146 = y163 := by
            have o0 := own_o_i2b hy8
            have o1 := own_o_xor255 hy147
            have o2 := own_o_mask hy148 8 (by decide) (by decide)
            have o3 := own_o_mask hy164 8 (by decide) (by decide)
            have o4 := own_o_isub hy165
            have o5 := rng32 i3
            have o6 := rng32 y145
            have o7 := rng32 y146
            have o8 := rng32 y162
            have o9 := rng32 y163
            have o10 := rng32 y8
            have o11 : (255 : Int32).toInt = 255 := by decide
            refine own_eqI ?_
            omega
          refine own_icmpNo (pc' := 192) B X161 at_189 (teq c166).2 rfl ?_
          refine own_aload (pc' := 194) B X161 at_192 rfl rfl rfl ?_
          refine own_callV (pc' := 197) B X161 (own_w hw 30 rfl) (own_w hw 31 rfl) (own_w hw 33 rfl) (own_w hw 32 rfl) (own_w hw 3 rfl) (own_w hw 34 rfl) E_b129 (by decide) [] [] (rm_14 l Z a0 hw [] b129 b1 kb1 (y2) (y4) (y6) (y8) h144 n0 (Nat.le_trans Z0 K.1) E_b129 F_b129_key F_b129_position F_b129_mask g_b129 E_b1 V_b1 g_b1 (Ne.symm ne_b1_b129)) 0 (by decide) (by decide) rfl pd_1 rfl rfl (Nat.le_of_eq rfl) at_194 rfl (k' := 2) (n' := 7) rfl rfl (by decide) (by decide) ?_
          intro T167 v167 h167 X167 q167
          obtain ⟨rfl, rfl⟩ := q167
          show own_Go p e below (T167.setTop (mkF m 197 #[.val (.int i0), .val (.int i1), .val (.int i2), .val (.int i3), .val (.int i4), .val (.ref b1), .val (.int (0 : Int32)), .val (.int (0 : Int32)), .val (.int (1 : Int32)), .val (.int (1 : Int32)), .val (.ref b129), .val (.int y132), .val (.int y136), .val (.int y140), .val (.int y146)] [(.int (4 : Int32))])) _
          refine own_iconst (pc' := 198) B X167 (z := (4 : Int32)) at_197 rfl rfl ?_
          refine own_icmpNo (pc' := 201) B X167 at_198 (teq (by decide : (4 : Int32) = (4 : Int32))).2 rfl ?_
          refine own_iconst (pc' := 202) B X167 (z := (1 : Int32)) at_201 rfl rfl ?_
          refine own_goto (pc' := 206) B X167 at_202 (by decide) rfl ?_
          exact own_retN B X167 (t := .boolean) (z' := (1 : Int32)) (by simp) (by decide) at_206 (by decide) (by decide) rfl
    · refine own_ifNo (pc' := 46) B X9 at_43 ((if0 _ _).trans (feq c13).1) rfl ?_
      refine own_iconst (pc' := 47) B X9 (z := (1 : Int32)) at_46 rfl rfl ?_
      refine own_goto (pc' := 51) B X9 at_47 (by decide) rfl ?_
      refine own_istore (pc' := 53) B X9 (Ls' := #[.val (.int i0), .val (.int i1), .val (.int i2), .val (.int i3), .val (.int i4), .val (.ref b1), .val (.int (0 : Int32)), .val (.int (1 : Int32)), .unset, .unset, .unset, .unset, .unset, .unset, .unset]) at_51 rfl rfl ?_
      refine own_iload (pc' := 55) B X9 at_53 rfl rfl ?_
      refine own_iconst (pc' := 56) B X9 (z := (4 : Int32)) at_55 rfl rfl ?_
      obtain ⟨y168, hy168⟩ : ∃ z : Int32, i4 &&& (4 : Int32) = z := ⟨_, rfl⟩
      refine own_iand (pc' := 57) B X9 at_56 rfl hy168 ?_
      by_cases c169 : y168 = (0 : Int32)
      · refine own_ifYes (pc' := 64) B X9 at_57 ((if0 _ _).trans (teq c169).1) (by decide) rfl ?_
        refine own_iconst (pc' := 65) B X9 (z := (0 : Int32)) at_64 rfl rfl ?_
        refine own_istore (pc' := 67) B X9 (Ls' := #[.val (.int i0), .val (.int i1), .val (.int i2), .val (.int i3), .val (.int i4), .val (.ref b1), .val (.int (0 : Int32)), .val (.int (1 : Int32)), .val (.int (0 : Int32)), .unset, .unset, .unset, .unset, .unset, .unset]) at_65 rfl rfl ?_
        refine own_iload (pc' := 69) B X9 at_67 rfl rfl ?_
        refine own_bipush (pc' := 71) B X9 (z := (8 : Int32)) at_69 rfl (by decide) ?_
        obtain ⟨y170, hy170⟩ : ∃ z : Int32, i4 &&& (8 : Int32) = z := ⟨_, rfl⟩
        refine own_iand (pc' := 72) B X9 at_71 rfl hy170 ?_
        by_cases c171 : y170 = (0 : Int32)
        · refine own_ifYes (pc' := 79) B X9 at_72 ((if0 _ _).trans (teq c171).1) (by decide) rfl ?_
          refine own_iconst (pc' := 80) B X9 (z := (0 : Int32)) at_79 rfl rfl ?_
          refine own_istore (pc' := 82) B X9 (Ls' := #[.val (.int i0), .val (.int i1), .val (.int i2), .val (.int i3), .val (.int i4), .val (.ref b1), .val (.int (0 : Int32)), .val (.int (1 : Int32)), .val (.int (0 : Int32)), .val (.int (0 : Int32)), .unset, .unset, .unset, .unset, .unset]) at_80 rfl rfl ?_
          refine own_new (pc' := 85) B X9 (own_w hw 1 rfl) (own_w hw 2 rfl) (own_w hw 3 rfl) at_82 rfl (k' := 2) (n' := 7) rfl rfl (by decide) (by decide) ?_
          intro T172 h172 b172 X172 g172 E172 E_b172 D172
          have ne_b1_b172 : b1 ≠ b172 := own_ne E_b1.lt g172
          have sz_b172 : h0.size ≤ b172 := own_sz K g172
          have g_b172 : n0 ≤ b172 := Nat.le_trans Z0 sz_b172
          replace K := K.ext E172
          replace E_b1 := E_b1.ext E172
          replace V_b1 := V_b1.ext E172
          have F_b172_key : Fld Z h172 b172 "com/example/keyer/keyer/KeyReader" "key" "[B" .null := D172 (Or.inr (own_w hw 11 rfl)) (ty := (.array .byte)) (by decide)
          have F_b172_position : Fld Z h172 b172 "com/example/keyer/keyer/KeyReader" "position" "I" (.int (0 : Int32)) := D172 (Or.inl (own_w hw 18 rfl)) (ty := .int) (by decide)
          have F_b172_mask : Fld Z h172 b172 "com/example/keyer/keyer/KeyReader" "mask" "I" (.int (0 : Int32)) := D172 (Or.inl (own_w hw 20 rfl)) (ty := .int) (by decide)
          clear D172
          refine own_dup (pc' := 86) B X172 at_85 rfl rfl ?_
          refine own_aload (pc' := 88) B X172 at_86 rfl rfl rfl ?_
          refine own_callI (pc' := 91) B X172 rfl rfl (own_w hw 4 rfl) (own_w hw 5 rfl) (own_w hw 3 rfl) (own_w hw 6 rfl) (by decide) [(.ref b1)] [(.ref b172)] (rm_1 l Z a0 hw [] b172 b1 kb1 (y2) (y4) (y6) (y8) h172 n0 (Nat.le_trans Z0 K.1) E_b172 F_b172_key F_b172_position F_b172_mask g_b172 E_b1 V_b1 g_b1 (Ne.symm ne_b1_b172)) 1 (by decide) (by decide) rfl pd_0 rfl rfl (Nat.le_of_eq rfl) at_88 rfl (k' := 2) (n' := 7) rfl rfl (by decide) (by decide) ?_
          intro T173 v173 h173 X173 q173
          obtain ⟨rfl, K173, E_b172, F_b172_key, F_b172_position, F_b172_mask⟩ := q173
          replace K := K.trans K173 (allS (Or.inr sz_b172) all0)
          replace E_b1 := E_b1.keep K173
          replace V_b1 := V_b1.keep K173 (ninS ne_b1_b172 nin0)
          show own_Go p e below (T173.setTop (mkF m 91 #[.val (.int i0), .val (.int i1), .val (.int i2), .val (.int i3), .val (.int i4), .val (.ref b1), .val (.int (0 : Int32)), .val (.int (1 : Int32)), .val (.int (0 : Int32)), .val (.int (0 : Int32)), .unset, .unset, .unset, .unset, .unset] [(.ref b172)])) _
          refine own_astore (pc' := 93) B X173 (Ls' := #[.val (.int i0), .val (.int i1), .val (.int i2), .val (.int i3), .val (.int i4), .val (.ref b1), .val (.int (0 : Int32)), .val (.int (1 : Int32)), .val (.int (0 : Int32)), .val (.int (0 : Int32)), .val (.ref b172), .unset, .unset, .unset, .unset]) at_91 rfl rfl rfl ?_
          refine own_aload (pc' := 95) B X173 at_93 rfl rfl rfl ?_
          refine own_callV (pc' := 98) B X173 (own_w hw 12 rfl) (own_w hw 13 rfl) (own_w hw 15 rfl) (own_w hw 14 rfl) (own_w hw 3 rfl) (own_w hw 16 rfl) E_b172 (by decide) [] [] (rm_2 l Z a0 hw [] b172 b1 kb1 (y2) (y4) (y6) (y8) h173 n0 (Nat.le_trans Z0 K.1) E_b172 F_b172_key F_b172_position F_b172_mask g_b172 E_b1 V_b1 g_b1 (Ne.symm ne_b1_b172)) 0 (by decide) (by decide) rfl pd_1 rfl rfl (Nat.le_of_eq rfl) at_95 rfl (k' := 2) (n' := 7) rfl rfl (by decide) (by decide) ?_
          intro T174 v174 h174 X174 q174
          obtain ⟨y175, hy176, rfl, K174, E_b172, F_b172_key, F_b172_position, F_b172_mask⟩ := q174
          replace K := K.trans K174 (allS (Or.inr sz_b172) all0)
          replace E_b1 := E_b1.keep K174
          replace V_b1 := V_b1.keep K174 (ninS ne_b1_b172 nin0)
          show own_Go p e below (T174.setTop (mkF m 98 #[.val (.int i0), .val (.int i1), .val (.int i2), .val (.int i3), .val (.int i4), .val (.ref b1), .val (.int (0 : Int32)), .val (.int (1 : Int32)), .val (.int (0 : Int32)), .val (.int (0 : Int32)), .val (.ref b172), .unset, .unset, .unset, .unset] [(.int y175)])) _
          refine own_istore (pc' := 100) B X174 (Ls' := #[.val (.int i0), .val (.int i1), .val (.int i2), .val (.int i3), .val (.int i4), .val (.ref b1), .val (.int (0 : Int32)), .val (.int (1 : Int32)), .val (.int (0 : Int32)), .val (.int (0 : Int32)), .val (.ref b172), .val (.int y175), .unset, .unset, .unset]) at_98 rfl rfl ?_
          refine own_aload (pc' := 102) B X174 at_100 rfl rfl rfl ?_
          refine own_iload (pc' := 104) B X174 at_102 rfl rfl ?_
          refine own_callV (pc' := 107) B X174 (own_w hw 21 rfl) (own_w hw 22 rfl) (own_w hw 24 rfl) (own_w hw 23 rfl) (own_w hw 3 rfl) (own_w hw 25 rfl) E_b172 (by decide) [(.int (0 : Int32))] [] (rm_3 l Z a0 hw [] b172 b1 kb1 (y2) (y4) (y6) (y8) h174 n0 (Nat.le_trans Z0 K.1) E_b172 F_b172_key F_b172_position F_b172_mask g_b172 E_b1 V_b1 g_b1 (Ne.symm ne_b1_b172)) 0 (by decide) (by decide) rfl pd_2 rfl rfl (Nat.le_of_eq rfl) at_104 rfl (k' := 2) (n' := 7) rfl rfl (by decide) (by decide) ?_
          intro T177 v177 h177 X177 q177
          obtain ⟨rfl, K177, E_b172, F_b172_key, F_b172_position, F_b172_mask⟩ := q177
          replace K := K.trans K177 (allS (Or.inr sz_b172) all0)
          replace E_b1 := E_b1.keep K177
          replace V_b1 := V_b1.keep K177 (ninS ne_b1_b172 nin0)
          show own_Go p e below (T177.setTop (mkF m 107 #[.val (.int i0), .val (.int i1), .val (.int i2), .val (.int i3), .val (.int i4), .val (.ref b1), .val (.int (0 : Int32)), .val (.int (1 : Int32)), .val (.int (0 : Int32)), .val (.int (0 : Int32)), .val (.ref b172), .val (.int y175), .unset, .unset, .unset] [])) _
          refine own_aload (pc' := 109) B X177 at_107 rfl rfl rfl ?_
          refine own_callV (pc' := 112) B X177 (own_w hw 12 rfl) (own_w hw 13 rfl) (own_w hw 15 rfl) (own_w hw 14 rfl) (own_w hw 3 rfl) (own_w hw 16 rfl) E_b172 (by decide) [] [] (rm_4 l Z a0 hw [] b172 b1 kb1 (y2) (y4) (y6) (y8) h177 n0 (Nat.le_trans Z0 K.1) E_b172 F_b172_key F_b172_position F_b172_mask g_b172 E_b1 V_b1 g_b1 (Ne.symm ne_b1_b172)) 0 (by decide) (by decide) rfl pd_1 rfl rfl (Nat.le_of_eq rfl) at_109 rfl (k' := 2) (n' := 7) rfl rfl (by decide) (by decide) ?_
          intro T178 v178 h178 X178 q178
          obtain ⟨y179, hy180, rfl, K178, E_b172, F_b172_key, F_b172_position, F_b172_mask⟩ := q178
          replace K := K.trans K178 (allS (Or.inr sz_b172) all0)
          replace E_b1 := E_b1.keep K178
          replace V_b1 := V_b1.keep K178 (ninS ne_b1_b172 nin0)
          show own_Go p e below (T178.setTop (mkF m 112 #[.val (.int i0), .val (.int i1), .val (.int i2), .val (.int i3), .val (.int i4), .val (.ref b1), .val (.int (0 : Int32)), .val (.int (1 : Int32)), .val (.int (0 : Int32)), .val (.int (0 : Int32)), .val (.ref b172), .val (.int y175), .unset, .unset, .unset] [(.int y179)])) _
          refine own_istore (pc' := 114) B X178 (Ls' := #[.val (.int i0), .val (.int i1), .val (.int i2), .val (.int i3), .val (.int i4), .val (.ref b1), .val (.int (0 : Int32)), .val (.int (1 : Int32)), .val (.int (0 : Int32)), .val (.int (0 : Int32)), .val (.ref b172), .val (.int y175), .val (.int y179), .unset, .unset]) at_112 rfl rfl ?_
          refine own_aload (pc' := 116) B X178 at_114 rfl rfl rfl ?_
          refine own_iload (pc' := 118) B X178 at_116 rfl rfl ?_
          refine own_callV (pc' := 121) B X178 (own_w hw 21 rfl) (own_w hw 22 rfl) (own_w hw 24 rfl) (own_w hw 23 rfl) (own_w hw 3 rfl) (own_w hw 25 rfl) E_b172 (by decide) [(.int (1 : Int32))] [] (rm_17 l Z a0 hw [] b172 b1 kb1 (y2) (y4) (y6) (y8) h178 n0 (Nat.le_trans Z0 K.1) E_b172 F_b172_key F_b172_position F_b172_mask g_b172 E_b1 V_b1 g_b1 (Ne.symm ne_b1_b172)) 0 (by decide) (by decide) rfl pd_2 rfl rfl (Nat.le_of_eq rfl) at_118 rfl (k' := 2) (n' := 7) rfl rfl (by decide) (by decide) ?_
          intro T181 v181 h181 X181 q181
          obtain ⟨rfl, K181, E_b172, F_b172_key, F_b172_position, F_b172_mask⟩ := q181
          replace K := K.trans K181 (allS (Or.inr sz_b172) all0)
          replace E_b1 := E_b1.keep K181
          replace V_b1 := V_b1.keep K181 (ninS ne_b1_b172 nin0)
          show own_Go p e below (T181.setTop (mkF m 121 #[.val (.int i0), .val (.int i1), .val (.int i2), .val (.int i3), .val (.int i4), .val (.ref b1), .val (.int (0 : Int32)), .val (.int (1 : Int32)), .val (.int (0 : Int32)), .val (.int (0 : Int32)), .val (.ref b172), .val (.int y175), .val (.int y179), .unset, .unset] [])) _
          refine own_aload (pc' := 123) B X181 at_121 rfl rfl rfl ?_
          refine own_callV (pc' := 126) B X181 (own_w hw 12 rfl) (own_w hw 13 rfl) (own_w hw 15 rfl) (own_w hw 14 rfl) (own_w hw 3 rfl) (own_w hw 16 rfl) E_b172 (by decide) [] [] (rm_18 l Z a0 hw [] b172 b1 kb1 (y2) (y4) (y6) (y8) h181 n0 (Nat.le_trans Z0 K.1) E_b172 F_b172_key F_b172_position F_b172_mask g_b172 E_b1 V_b1 g_b1 (Ne.symm ne_b1_b172)) 0 (by decide) (by decide) rfl pd_1 rfl rfl (Nat.le_of_eq rfl) at_123 rfl (k' := 2) (n' := 7) rfl rfl (by decide) (by decide) ?_
          intro T182 v182 h182 X182 q182
          obtain ⟨y183, y184, hy185, hy186, rfl, K182, E_b172, F_b172_key, F_b172_position, F_b172_mask⟩ := q182
          replace K := K.trans K182 (allS (Or.inr sz_b172) all0)
          replace E_b1 := E_b1.keep K182
          replace V_b1 := V_b1.keep K182 (ninS ne_b1_b172 nin0)
          show own_Go p e below (T182.setTop (mkF m 126 #[.val (.int i0), .val (.int i1), .val (.int i2), .val (.int i3), .val (.int i4), .val (.ref b1), .val (.int (0 : Int32)), .val (.int (1 : Int32)), .val (.int (0 : Int32)), .val (.int (0 : Int32)), .val (.ref b172), .val (.int y175), .val (.int y179), .unset, .unset] [(.int y184)])) _
          refine own_istore (pc' := 128) B X182 (Ls' := #[.val (.int i0), .val (.int i1), .val (.int i2), .val (.int i3), .val (.int i4), .val (.ref b1), .val (.int (0 : Int32)), .val (.int (1 : Int32)), .val (.int (0 : Int32)), .val (.int (0 : Int32)), .val (.ref b172), .val (.int y175), .val (.int y179), .val (.int y184), .unset]) at_126 rfl rfl ?_
          refine own_aload (pc' := 130) B X182 at_128 rfl rfl rfl ?_
          refine own_iload (pc' := 132) B X182 at_130 rfl rfl ?_
          refine own_callV (pc' := 135) B X182 (own_w hw 21 rfl) (own_w hw 22 rfl) (own_w hw 24 rfl) (own_w hw 23 rfl) (own_w hw 3 rfl) (own_w hw 25 rfl) E_b172 (by decide) [(.int (0 : Int32))] [] (rm_15 l Z a0 hw [] b172 b1 kb1 (y2) (y4) (y6) (y8) h182 n0 (Nat.le_trans Z0 K.1) E_b172 F_b172_key F_b172_position F_b172_mask g_b172 E_b1 V_b1 g_b1 (Ne.symm ne_b1_b172)) 0 (by decide) (by decide) rfl pd_2 rfl rfl (Nat.le_of_eq rfl) at_132 rfl (k' := 2) (n' := 7) rfl rfl (by decide) (by decide) ?_
          intro T187 v187 h187 X187 q187
          obtain ⟨rfl, K187, E_b172, F_b172_key, F_b172_position, F_b172_mask⟩ := q187
          replace K := K.trans K187 (allS (Or.inr sz_b172) all0)
          replace E_b1 := E_b1.keep K187
          replace V_b1 := V_b1.keep K187 (ninS ne_b1_b172 nin0)
          show own_Go p e below (T187.setTop (mkF m 135 #[.val (.int i0), .val (.int i1), .val (.int i2), .val (.int i3), .val (.int i4), .val (.ref b1), .val (.int (0 : Int32)), .val (.int (1 : Int32)), .val (.int (0 : Int32)), .val (.int (0 : Int32)), .val (.ref b172), .val (.int y175), .val (.int y179), .val (.int y184), .unset] [])) _
          refine own_aload (pc' := 137) B X187 at_135 rfl rfl rfl ?_
          refine own_iload (pc' := 139) B X187 at_137 rfl rfl ?_
          refine own_callV (pc' := 142) B X187 (own_w hw 21 rfl) (own_w hw 22 rfl) (own_w hw 24 rfl) (own_w hw 23 rfl) (own_w hw 3 rfl) (own_w hw 25 rfl) E_b172 (by decide) [(.int (0 : Int32))] [] (rm_7 l Z a0 hw [] b172 b1 kb1 (y2) (y4) (y6) (y8) h187 n0 (Nat.le_trans Z0 K.1) E_b172 F_b172_key F_b172_position F_b172_mask g_b172 E_b1 V_b1 g_b1 (Ne.symm ne_b1_b172)) 0 (by decide) (by decide) rfl pd_2 rfl rfl (Nat.le_of_eq rfl) at_139 rfl (k' := 2) (n' := 7) rfl rfl (by decide) (by decide) ?_
          intro T188 v188 h188 X188 q188
          obtain ⟨rfl, K188, E_b172, F_b172_key, F_b172_position, F_b172_mask⟩ := q188
          replace K := K.trans K188 (allS (Or.inr sz_b172) all0)
          replace E_b1 := E_b1.keep K188
          replace V_b1 := V_b1.keep K188 (ninS ne_b1_b172 nin0)
          show own_Go p e below (T188.setTop (mkF m 142 #[.val (.int i0), .val (.int i1), .val (.int i2), .val (.int i3), .val (.int i4), .val (.ref b1), .val (.int (0 : Int32)), .val (.int (1 : Int32)), .val (.int (0 : Int32)), .val (.int (0 : Int32)), .val (.ref b172), .val (.int y175), .val (.int y179), .val (.int y184), .unset] [])) _
          refine own_aload (pc' := 144) B X188 at_142 rfl rfl rfl ?_
          refine own_callV (pc' := 147) B X188 (own_w hw 12 rfl) (own_w hw 13 rfl) (own_w hw 15 rfl) (own_w hw 14 rfl) (own_w hw 3 rfl) (own_w hw 16 rfl) E_b172 (by decide) [] [] (rm_8 l Z a0 hw [] b172 b1 kb1 (y2) (y4) (y6) (y8) h188 n0 (Nat.le_trans Z0 K.1) E_b172 F_b172_key F_b172_position F_b172_mask g_b172 E_b1 V_b1 g_b1 (Ne.symm ne_b1_b172)) 0 (by decide) (by decide) rfl pd_1 rfl rfl (Nat.le_of_eq rfl) at_144 rfl (k' := 2) (n' := 7) rfl rfl (by decide) (by decide) ?_
          intro T189 v189 h189 X189 q189
          obtain ⟨y190, hy191, rfl, K189, E_b172, F_b172_key, F_b172_position, F_b172_mask⟩ := q189
          replace K := K.trans K189 (allS (Or.inr sz_b172) all0)
          replace E_b1 := E_b1.keep K189
          replace V_b1 := V_b1.keep K189 (ninS ne_b1_b172 nin0)
          show own_Go p e below (T189.setTop (mkF m 147 #[.val (.int i0), .val (.int i1), .val (.int i2), .val (.int i3), .val (.int i4), .val (.ref b1), .val (.int (0 : Int32)), .val (.int (1 : Int32)), .val (.int (0 : Int32)), .val (.int (0 : Int32)), .val (.ref b172), .val (.int y175), .val (.int y179), .val (.int y184), .unset] [(.int y190)])) _
          refine own_istore (pc' := 149) B X189 (Ls' := #[.val (.int i0), .val (.int i1), .val (.int i2), .val (.int i3), .val (.int i4), .val (.ref b1), .val (.int (0 : Int32)), .val (.int (1 : Int32)), .val (.int (0 : Int32)), .val (.int (0 : Int32)), .val (.ref b172), .val (.int y175), .val (.int y179), .val (.int y184), .val (.int y190)]) at_147 rfl rfl ?_
          refine own_iload (pc' := 151) B X189 at_149 rfl rfl ?_
          refine own_iloadN (pc' := 152) B X189 at_151 rfl rfl ?_
          refine own_iconst (pc' := 153) B X189 (z := (0 : Int32)) at_152 rfl rfl ?_
          refine own_callS (pc' := 156) B X189 (own_w hw 26 rfl) (own_w hw 27 rfl) (own_w hw 28 rfl) (own_w hw 29 rfl) (by decide) [(.int i0), (.int (0 : Int32))] [(.int y175)] (rm_9 l Z a0 hw [] (i0) h189 n0 (Nat.le_trans Z0 K.1) ) 1 (by decide) (by decide) rfl pd_3 rfl rfl (Nat.le_of_eq rfl) at_153 rfl (k' := 2) (n' := 7) rfl rfl (by decide) (by decide) ?_
          intro T192 v192 h192 X192 q192
          obtain ⟨y193, hy194, rfl, rfl⟩ := q192
          show own_Go p e below (T192.setTop (mkF m 156 #[.val (.int i0), .val (.int i1), .val (.int i2), .val (.int i3), .val (.int i4), .val (.ref b1), .val (.int (0 : Int32)), .val (.int (1 : Int32)), .val (.int (0 : Int32)), .val (.int (0 : Int32)), .val (.ref b172), .val (.int y175), .val (.int y179), .val (.int y184), .val (.int y190)] [(.int y193), (.int y175)])) _
          have c195 : y175 = y193 := by
            have o0 := own_o_i2b hy2
            have o1 := own_o_mask hy176 8 (by decide) (by decide)
            have o2 := own_o_mask hy194 8 (by decide) (by decide)
            have o3 := rng32 i0
            have o4 := rng32 y175
            have o5 := rng32 y193
            have o6 := rng32 y2
            have o7 : (255 : Int32).toInt = 255 := by decide
            refine own_eqI ?_
            omega
          refine own_icmpNo (pc' := 159) B X192 at_156 (teq c195).2 rfl ?_
          refine own_iload (pc' := 161) B X192 at_159 rfl rfl ?_
          refine own_iloadN (pc' := 162) B X192 at_161 rfl rfl ?_
          refine own_iload (pc' := 164) B X192 at_162 rfl rfl ?_
          refine own_callS (pc' := 167) B X192 (own_w hw 26 rfl) (own_w hw 27 rfl) (own_w hw 28 rfl) (own_w hw 29 rfl) (by decide) [(.int i1), (.int (0 : Int32))] [(.int y179)] (rm_9 l Z a0 hw [] (i1) h189 n0 (Nat.le_trans Z0 K.1) ) 1 (by decide) (by decide) rfl pd_3 rfl rfl (Nat.le_of_eq rfl) at_164 rfl (k' := 2) (n' := 7) rfl rfl (by decide) (by decide) ?_
          intro T196 v196 h196 X196 q196
          obtain ⟨y197, hy198, rfl, rfl⟩ := q196
          show own_Go p e below (T196.setTop (mkF m 167 #[.val (.int i0), .val (.int i1), .val (.int i2), .val (.int i3), .val (.int i4), .val (.ref b1), .val (.int (0 : Int32)), .val (.int (1 : Int32)), .val (.int (0 : Int32)), .val (.int (0 : Int32)), .val (.ref b172), .val (.int y175), .val (.int y179), .val (.int y184), .val (.int y190)] [(.int y197), (.int y179)])) _
          have c199 : y179 = y197 := by
            have o0 := own_o_i2b hy4
            have o1 := own_o_mask hy180 8 (by decide) (by decide)
            have o2 := own_o_mask hy198 8 (by decide) (by decide)
            have o3 := rng32 i1
            have o4 := rng32 y179
            have o5 := rng32 y197
            have o6 := rng32 y4
            have o7 : (255 : Int32).toInt = 255 := by decide
            refine own_eqI ?_
            omega
          refine own_icmpNo (pc' := 170) B X196 at_167 (teq c199).2 rfl ?_
          refine own_iload (pc' := 172) B X196 at_170 rfl rfl ?_
          refine own_iloadN (pc' := 173) B X196 at_172 rfl rfl ?_
          refine own_iload (pc' := 175) B X196 at_173 rfl rfl ?_
          refine own_callS (pc' := 178) B X196 (own_w hw 26 rfl) (own_w hw 27 rfl) (own_w hw 28 rfl) (own_w hw 29 rfl) (by decide) [(.int i2), (.int (1 : Int32))] [(.int y184)] (rm_13 l Z a0 hw [] (i2) h189 n0 (Nat.le_trans Z0 K.1) ) 1 (by decide) (by decide) rfl pd_3 rfl rfl (Nat.le_of_eq rfl) at_175 rfl (k' := 2) (n' := 7) rfl rfl (by decide) (by decide) ?_
          intro T200 v200 h200 X200 q200
          obtain ⟨y201, y202, hy203, hy204, rfl, rfl⟩ := q200
          show own_Go p e below (T200.setTop (mkF m 178 #[.val (.int i0), .val (.int i1), .val (.int i2), .val (.int i3), .val (.int i4), .val (.ref b1), .val (.int (0 : Int32)), .val (.int (1 : Int32)), .val (.int (0 : Int32)), .val (.int (0 : Int32)), .val (.ref b172), .val (.int y175), .val (.int y179), .val (.int y184), .val (.int y190)] [(.int y202), (.int y184)])) _
          have c205 : y184 = y202 := by
            have o0 := own_o_i2b hy6
            have o1 := own_o_xor255 hy185
            have o2 := own_o_mask hy186 8 (by decide) (by decide)
            have o3 := own_o_mask hy203 8 (by decide) (by decide)
            have o4 := own_o_isub hy204
            have o5 := rng32 i2
            have o6 := rng32 y183
            have o7 := rng32 y184
            have o8 := rng32 y201
            have o9 := rng32 y202
            have o10 := rng32 y6
            have o11 : (255 : Int32).toInt = 255 := by decide
            refine own_eqI ?_
            omega
          refine own_icmpNo (pc' := 181) B X200 at_178 (teq c205).2 rfl ?_
          refine own_iload (pc' := 183) B X200 at_181 rfl rfl ?_
          refine own_iloadN (pc' := 184) B X200 at_183 rfl rfl ?_
          refine own_iload (pc' := 186) B X200 at_184 rfl rfl ?_
          refine own_callS (pc' := 189) B X200 (own_w hw 26 rfl) (own_w hw 27 rfl) (own_w hw 28 rfl) (own_w hw 29 rfl) (by decide) [(.int i3), (.int (0 : Int32))] [(.int y190)] (rm_9 l Z a0 hw [] (i3) h189 n0 (Nat.le_trans Z0 K.1) ) 1 (by decide) (by decide) rfl pd_3 rfl rfl (Nat.le_of_eq rfl) at_186 rfl (k' := 2) (n' := 7) rfl rfl (by decide) (by decide) ?_
          intro T206 v206 h206 X206 q206
          obtain ⟨y207, hy208, rfl, rfl⟩ := q206
          show own_Go p e below (T206.setTop (mkF m 189 #[.val (.int i0), .val (.int i1), .val (.int i2), .val (.int i3), .val (.int i4), .val (.ref b1), .val (.int (0 : Int32)), .val (.int (1 : Int32)), .val (.int (0 : Int32)), .val (.int (0 : Int32)), .val (.ref b172), .val (.int y175), .val (.int y179), .val (.int y184), .val (.int y190)] [(.int y207), (.int y190)])) _
          have c209 : y190 = y207 := by
            have o0 := own_o_i2b hy8
            have o1 := own_o_mask hy191 8 (by decide) (by decide)
            have o2 := own_o_mask hy208 8 (by decide) (by decide)
            have o3 := rng32 i3
            have o4 := rng32 y190
            have o5 := rng32 y207
            have o6 := rng32 y8
            have o7 : (255 : Int32).toInt = 255 := by decide
            refine own_eqI ?_
            omega
          refine own_icmpNo (pc' := 192) B X206 at_189 (teq c209).2 rfl ?_
          refine own_aload (pc' := 194) B X206 at_192 rfl rfl rfl ?_
          refine own_callV (pc' := 197) B X206 (own_w hw 30 rfl) (own_w hw 31 rfl) (own_w hw 33 rfl) (own_w hw 32 rfl) (own_w hw 3 rfl) (own_w hw 34 rfl) E_b172 (by decide) [] [] (rm_10 l Z a0 hw [] b172 b1 kb1 (y2) (y4) (y6) (y8) h189 n0 (Nat.le_trans Z0 K.1) E_b172 F_b172_key F_b172_position F_b172_mask g_b172 E_b1 V_b1 g_b1 (Ne.symm ne_b1_b172)) 0 (by decide) (by decide) rfl pd_1 rfl rfl (Nat.le_of_eq rfl) at_194 rfl (k' := 2) (n' := 7) rfl rfl (by decide) (by decide) ?_
          intro T210 v210 h210 X210 q210
          obtain ⟨rfl, rfl⟩ := q210
          show own_Go p e below (T210.setTop (mkF m 197 #[.val (.int i0), .val (.int i1), .val (.int i2), .val (.int i3), .val (.int i4), .val (.ref b1), .val (.int (0 : Int32)), .val (.int (1 : Int32)), .val (.int (0 : Int32)), .val (.int (0 : Int32)), .val (.ref b172), .val (.int y175), .val (.int y179), .val (.int y184), .val (.int y190)] [(.int (4 : Int32))])) _
          refine own_iconst (pc' := 198) B X210 (z := (4 : Int32)) at_197 rfl rfl ?_
          refine own_icmpNo (pc' := 201) B X210 at_198 (teq (by decide : (4 : Int32) = (4 : Int32))).2 rfl ?_
          refine own_iconst (pc' := 202) B X210 (z := (1 : Int32)) at_201 rfl rfl ?_
          refine own_goto (pc' := 206) B X210 at_202 (by decide) rfl ?_
          exact own_retN B X210 (t := .boolean) (z' := (1 : Int32)) (by simp) (by decide) at_206 (by decide) (by decide) rfl
        · refine own_ifNo (pc' := 75) B X9 at_72 ((if0 _ _).trans (feq c171).1) rfl ?_
          refine own_iconst (pc' := 76) B X9 (z := (1 : Int32)) at_75 rfl rfl ?_
          refine own_goto (pc' := 80) B X9 at_76 (by decide) rfl ?_
          refine own_istore (pc' := 82) B X9 (Ls' := #[.val (.int i0), .val (.int i1), .val (.int i2), .val (.int i3), .val (.int i4), .val (.ref b1), .val (.int (0 : Int32)), .val (.int (1 : Int32)), .val (.int (0 : Int32)), .val (.int (1 : Int32)), .unset, .unset, .unset, .unset, .unset]) at_80 rfl rfl ?_
          refine own_new (pc' := 85) B X9 (own_w hw 1 rfl) (own_w hw 2 rfl) (own_w hw 3 rfl) at_82 rfl (k' := 2) (n' := 7) rfl rfl (by decide) (by decide) ?_
          intro T211 h211 b211 X211 g211 E211 E_b211 D211
          have ne_b1_b211 : b1 ≠ b211 := own_ne E_b1.lt g211
          have sz_b211 : h0.size ≤ b211 := own_sz K g211
          have g_b211 : n0 ≤ b211 := Nat.le_trans Z0 sz_b211
          replace K := K.ext E211
          replace E_b1 := E_b1.ext E211
          replace V_b1 := V_b1.ext E211
          have F_b211_key : Fld Z h211 b211 "com/example/keyer/keyer/KeyReader" "key" "[B" .null := D211 (Or.inr (own_w hw 11 rfl)) (ty := (.array .byte)) (by decide)
          have F_b211_position : Fld Z h211 b211 "com/example/keyer/keyer/KeyReader" "position" "I" (.int (0 : Int32)) := D211 (Or.inl (own_w hw 18 rfl)) (ty := .int) (by decide)
          have F_b211_mask : Fld Z h211 b211 "com/example/keyer/keyer/KeyReader" "mask" "I" (.int (0 : Int32)) := D211 (Or.inl (own_w hw 20 rfl)) (ty := .int) (by decide)
          clear D211
          refine own_dup (pc' := 86) B X211 at_85 rfl rfl ?_
          refine own_aload (pc' := 88) B X211 at_86 rfl rfl rfl ?_
          refine own_callI (pc' := 91) B X211 rfl rfl (own_w hw 4 rfl) (own_w hw 5 rfl) (own_w hw 3 rfl) (own_w hw 6 rfl) (by decide) [(.ref b1)] [(.ref b211)] (rm_1 l Z a0 hw [] b211 b1 kb1 (y2) (y4) (y6) (y8) h211 n0 (Nat.le_trans Z0 K.1) E_b211 F_b211_key F_b211_position F_b211_mask g_b211 E_b1 V_b1 g_b1 (Ne.symm ne_b1_b211)) 1 (by decide) (by decide) rfl pd_0 rfl rfl (Nat.le_of_eq rfl) at_88 rfl (k' := 2) (n' := 7) rfl rfl (by decide) (by decide) ?_
          intro T212 v212 h212 X212 q212
          obtain ⟨rfl, K212, E_b211, F_b211_key, F_b211_position, F_b211_mask⟩ := q212
          replace K := K.trans K212 (allS (Or.inr sz_b211) all0)
          replace E_b1 := E_b1.keep K212
          replace V_b1 := V_b1.keep K212 (ninS ne_b1_b211 nin0)
          show own_Go p e below (T212.setTop (mkF m 91 #[.val (.int i0), .val (.int i1), .val (.int i2), .val (.int i3), .val (.int i4), .val (.ref b1), .val (.int (0 : Int32)), .val (.int (1 : Int32)), .val (.int (0 : Int32)), .val (.int (1 : Int32)), .unset, .unset, .unset, .unset, .unset] [(.ref b211)])) _
          refine own_astore (pc' := 93) B X212 (Ls' := #[.val (.int i0), .val (.int i1), .val (.int i2), .val (.int i3), .val (.int i4), .val (.ref b1), .val (.int (0 : Int32)), .val (.int (1 : Int32)), .val (.int (0 : Int32)), .val (.int (1 : Int32)), .val (.ref b211), .unset, .unset, .unset, .unset]) at_91 rfl rfl rfl ?_
          refine own_aload (pc' := 95) B X212 at_93 rfl rfl rfl ?_
          refine own_callV (pc' := 98) B X212 (own_w hw 12 rfl) (own_w hw 13 rfl) (own_w hw 15 rfl) (own_w hw 14 rfl) (own_w hw 3 rfl) (own_w hw 16 rfl) E_b211 (by decide) [] [] (rm_2 l Z a0 hw [] b211 b1 kb1 (y2) (y4) (y6) (y8) h212 n0 (Nat.le_trans Z0 K.1) E_b211 F_b211_key F_b211_position F_b211_mask g_b211 E_b1 V_b1 g_b1 (Ne.symm ne_b1_b211)) 0 (by decide) (by decide) rfl pd_1 rfl rfl (Nat.le_of_eq rfl) at_95 rfl (k' := 2) (n' := 7) rfl rfl (by decide) (by decide) ?_
          intro T213 v213 h213 X213 q213
          obtain ⟨y214, hy215, rfl, K213, E_b211, F_b211_key, F_b211_position, F_b211_mask⟩ := q213
          replace K := K.trans K213 (allS (Or.inr sz_b211) all0)
          replace E_b1 := E_b1.keep K213
          replace V_b1 := V_b1.keep K213 (ninS ne_b1_b211 nin0)
          show own_Go p e below (T213.setTop (mkF m 98 #[.val (.int i0), .val (.int i1), .val (.int i2), .val (.int i3), .val (.int i4), .val (.ref b1), .val (.int (0 : Int32)), .val (.int (1 : Int32)), .val (.int (0 : Int32)), .val (.int (1 : Int32)), .val (.ref b211), .unset, .unset, .unset, .unset] [(.int y214)])) _
          refine own_istore (pc' := 100) B X213 (Ls' := #[.val (.int i0), .val (.int i1), .val (.int i2), .val (.int i3), .val (.int i4), .val (.ref b1), .val (.int (0 : Int32)), .val (.int (1 : Int32)), .val (.int (0 : Int32)), .val (.int (1 : Int32)), .val (.ref b211), .val (.int y214), .unset, .unset, .unset]) at_98 rfl rfl ?_
          refine own_aload (pc' := 102) B X213 at_100 rfl rfl rfl ?_
          refine own_iload (pc' := 104) B X213 at_102 rfl rfl ?_
          refine own_callV (pc' := 107) B X213 (own_w hw 21 rfl) (own_w hw 22 rfl) (own_w hw 24 rfl) (own_w hw 23 rfl) (own_w hw 3 rfl) (own_w hw 25 rfl) E_b211 (by decide) [(.int (0 : Int32))] [] (rm_3 l Z a0 hw [] b211 b1 kb1 (y2) (y4) (y6) (y8) h213 n0 (Nat.le_trans Z0 K.1) E_b211 F_b211_key F_b211_position F_b211_mask g_b211 E_b1 V_b1 g_b1 (Ne.symm ne_b1_b211)) 0 (by decide) (by decide) rfl pd_2 rfl rfl (Nat.le_of_eq rfl) at_104 rfl (k' := 2) (n' := 7) rfl rfl (by decide) (by decide) ?_
          intro T216 v216 h216 X216 q216
          obtain ⟨rfl, K216, E_b211, F_b211_key, F_b211_position, F_b211_mask⟩ := q216
          replace K := K.trans K216 (allS (Or.inr sz_b211) all0)
          replace E_b1 := E_b1.keep K216
          replace V_b1 := V_b1.keep K216 (ninS ne_b1_b211 nin0)
          show own_Go p e below (T216.setTop (mkF m 107 #[.val (.int i0), .val (.int i1), .val (.int i2), .val (.int i3), .val (.int i4), .val (.ref b1), .val (.int (0 : Int32)), .val (.int (1 : Int32)), .val (.int (0 : Int32)), .val (.int (1 : Int32)), .val (.ref b211), .val (.int y214), .unset, .unset, .unset] [])) _
          refine own_aload (pc' := 109) B X216 at_107 rfl rfl rfl ?_
          refine own_callV (pc' := 112) B X216 (own_w hw 12 rfl) (own_w hw 13 rfl) (own_w hw 15 rfl) (own_w hw 14 rfl) (own_w hw 3 rfl) (own_w hw 16 rfl) E_b211 (by decide) [] [] (rm_4 l Z a0 hw [] b211 b1 kb1 (y2) (y4) (y6) (y8) h216 n0 (Nat.le_trans Z0 K.1) E_b211 F_b211_key F_b211_position F_b211_mask g_b211 E_b1 V_b1 g_b1 (Ne.symm ne_b1_b211)) 0 (by decide) (by decide) rfl pd_1 rfl rfl (Nat.le_of_eq rfl) at_109 rfl (k' := 2) (n' := 7) rfl rfl (by decide) (by decide) ?_
          intro T217 v217 h217 X217 q217
          obtain ⟨y218, hy219, rfl, K217, E_b211, F_b211_key, F_b211_position, F_b211_mask⟩ := q217
          replace K := K.trans K217 (allS (Or.inr sz_b211) all0)
          replace E_b1 := E_b1.keep K217
          replace V_b1 := V_b1.keep K217 (ninS ne_b1_b211 nin0)
          show own_Go p e below (T217.setTop (mkF m 112 #[.val (.int i0), .val (.int i1), .val (.int i2), .val (.int i3), .val (.int i4), .val (.ref b1), .val (.int (0 : Int32)), .val (.int (1 : Int32)), .val (.int (0 : Int32)), .val (.int (1 : Int32)), .val (.ref b211), .val (.int y214), .unset, .unset, .unset] [(.int y218)])) _
          refine own_istore (pc' := 114) B X217 (Ls' := #[.val (.int i0), .val (.int i1), .val (.int i2), .val (.int i3), .val (.int i4), .val (.ref b1), .val (.int (0 : Int32)), .val (.int (1 : Int32)), .val (.int (0 : Int32)), .val (.int (1 : Int32)), .val (.ref b211), .val (.int y214), .val (.int y218), .unset, .unset]) at_112 rfl rfl ?_
          refine own_aload (pc' := 116) B X217 at_114 rfl rfl rfl ?_
          refine own_iload (pc' := 118) B X217 at_116 rfl rfl ?_
          refine own_callV (pc' := 121) B X217 (own_w hw 21 rfl) (own_w hw 22 rfl) (own_w hw 24 rfl) (own_w hw 23 rfl) (own_w hw 3 rfl) (own_w hw 25 rfl) E_b211 (by decide) [(.int (1 : Int32))] [] (rm_17 l Z a0 hw [] b211 b1 kb1 (y2) (y4) (y6) (y8) h217 n0 (Nat.le_trans Z0 K.1) E_b211 F_b211_key F_b211_position F_b211_mask g_b211 E_b1 V_b1 g_b1 (Ne.symm ne_b1_b211)) 0 (by decide) (by decide) rfl pd_2 rfl rfl (Nat.le_of_eq rfl) at_118 rfl (k' := 2) (n' := 7) rfl rfl (by decide) (by decide) ?_
          intro T220 v220 h220 X220 q220
          obtain ⟨rfl, K220, E_b211, F_b211_key, F_b211_position, F_b211_mask⟩ := q220
          replace K := K.trans K220 (allS (Or.inr sz_b211) all0)
          replace E_b1 := E_b1.keep K220
          replace V_b1 := V_b1.keep K220 (ninS ne_b1_b211 nin0)
          show own_Go p e below (T220.setTop (mkF m 121 #[.val (.int i0), .val (.int i1), .val (.int i2), .val (.int i3), .val (.int i4), .val (.ref b1), .val (.int (0 : Int32)), .val (.int (1 : Int32)), .val (.int (0 : Int32)), .val (.int (1 : Int32)), .val (.ref b211), .val (.int y214), .val (.int y218), .unset, .unset] [])) _
          refine own_aload (pc' := 123) B X220 at_121 rfl rfl rfl ?_
          refine own_callV (pc' := 126) B X220 (own_w hw 12 rfl) (own_w hw 13 rfl) (own_w hw 15 rfl) (own_w hw 14 rfl) (own_w hw 3 rfl) (own_w hw 16 rfl) E_b211 (by decide) [] [] (rm_18 l Z a0 hw [] b211 b1 kb1 (y2) (y4) (y6) (y8) h220 n0 (Nat.le_trans Z0 K.1) E_b211 F_b211_key F_b211_position F_b211_mask g_b211 E_b1 V_b1 g_b1 (Ne.symm ne_b1_b211)) 0 (by decide) (by decide) rfl pd_1 rfl rfl (Nat.le_of_eq rfl) at_123 rfl (k' := 2) (n' := 7) rfl rfl (by decide) (by decide) ?_
          intro T221 v221 h221 X221 q221
          obtain ⟨y222, y223, hy224, hy225, rfl, K221, E_b211, F_b211_key, F_b211_position, F_b211_mask⟩ := q221
          replace K := K.trans K221 (allS (Or.inr sz_b211) all0)
          replace E_b1 := E_b1.keep K221
          replace V_b1 := V_b1.keep K221 (ninS ne_b1_b211 nin0)
          show own_Go p e below (T221.setTop (mkF m 126 #[.val (.int i0), .val (.int i1), .val (.int i2), .val (.int i3), .val (.int i4), .val (.ref b1), .val (.int (0 : Int32)), .val (.int (1 : Int32)), .val (.int (0 : Int32)), .val (.int (1 : Int32)), .val (.ref b211), .val (.int y214), .val (.int y218), .unset, .unset] [(.int y223)])) _
          refine own_istore (pc' := 128) B X221 (Ls' := #[.val (.int i0), .val (.int i1), .val (.int i2), .val (.int i3), .val (.int i4), .val (.ref b1), .val (.int (0 : Int32)), .val (.int (1 : Int32)), .val (.int (0 : Int32)), .val (.int (1 : Int32)), .val (.ref b211), .val (.int y214), .val (.int y218), .val (.int y223), .unset]) at_126 rfl rfl ?_
          refine own_aload (pc' := 130) B X221 at_128 rfl rfl rfl ?_
          refine own_iload (pc' := 132) B X221 at_130 rfl rfl ?_
          refine own_callV (pc' := 135) B X221 (own_w hw 21 rfl) (own_w hw 22 rfl) (own_w hw 24 rfl) (own_w hw 23 rfl) (own_w hw 3 rfl) (own_w hw 25 rfl) E_b211 (by decide) [(.int (0 : Int32))] [] (rm_15 l Z a0 hw [] b211 b1 kb1 (y2) (y4) (y6) (y8) h221 n0 (Nat.le_trans Z0 K.1) E_b211 F_b211_key F_b211_position F_b211_mask g_b211 E_b1 V_b1 g_b1 (Ne.symm ne_b1_b211)) 0 (by decide) (by decide) rfl pd_2 rfl rfl (Nat.le_of_eq rfl) at_132 rfl (k' := 2) (n' := 7) rfl rfl (by decide) (by decide) ?_
          intro T226 v226 h226 X226 q226
          obtain ⟨rfl, K226, E_b211, F_b211_key, F_b211_position, F_b211_mask⟩ := q226
          replace K := K.trans K226 (allS (Or.inr sz_b211) all0)
          replace E_b1 := E_b1.keep K226
          replace V_b1 := V_b1.keep K226 (ninS ne_b1_b211 nin0)
          show own_Go p e below (T226.setTop (mkF m 135 #[.val (.int i0), .val (.int i1), .val (.int i2), .val (.int i3), .val (.int i4), .val (.ref b1), .val (.int (0 : Int32)), .val (.int (1 : Int32)), .val (.int (0 : Int32)), .val (.int (1 : Int32)), .val (.ref b211), .val (.int y214), .val (.int y218), .val (.int y223), .unset] [])) _
          refine own_aload (pc' := 137) B X226 at_135 rfl rfl rfl ?_
          refine own_iload (pc' := 139) B X226 at_137 rfl rfl ?_
          refine own_callV (pc' := 142) B X226 (own_w hw 21 rfl) (own_w hw 22 rfl) (own_w hw 24 rfl) (own_w hw 23 rfl) (own_w hw 3 rfl) (own_w hw 25 rfl) E_b211 (by decide) [(.int (1 : Int32))] [] (rm_11 l Z a0 hw [] b211 b1 kb1 (y2) (y4) (y6) (y8) h226 n0 (Nat.le_trans Z0 K.1) E_b211 F_b211_key F_b211_position F_b211_mask g_b211 E_b1 V_b1 g_b1 (Ne.symm ne_b1_b211)) 0 (by decide) (by decide) rfl pd_2 rfl rfl (Nat.le_of_eq rfl) at_139 rfl (k' := 2) (n' := 7) rfl rfl (by decide) (by decide) ?_
          intro T227 v227 h227 X227 q227
          obtain ⟨rfl, K227, E_b211, F_b211_key, F_b211_position, F_b211_mask⟩ := q227
          replace K := K.trans K227 (allS (Or.inr sz_b211) all0)
          replace E_b1 := E_b1.keep K227
          replace V_b1 := V_b1.keep K227 (ninS ne_b1_b211 nin0)
          show own_Go p e below (T227.setTop (mkF m 142 #[.val (.int i0), .val (.int i1), .val (.int i2), .val (.int i3), .val (.int i4), .val (.ref b1), .val (.int (0 : Int32)), .val (.int (1 : Int32)), .val (.int (0 : Int32)), .val (.int (1 : Int32)), .val (.ref b211), .val (.int y214), .val (.int y218), .val (.int y223), .unset] [])) _
          refine own_aload (pc' := 144) B X227 at_142 rfl rfl rfl ?_
          refine own_callV (pc' := 147) B X227 (own_w hw 12 rfl) (own_w hw 13 rfl) (own_w hw 15 rfl) (own_w hw 14 rfl) (own_w hw 3 rfl) (own_w hw 16 rfl) E_b211 (by decide) [] [] (rm_12 l Z a0 hw [] b211 b1 kb1 (y2) (y4) (y6) (y8) h227 n0 (Nat.le_trans Z0 K.1) E_b211 F_b211_key F_b211_position F_b211_mask g_b211 E_b1 V_b1 g_b1 (Ne.symm ne_b1_b211)) 0 (by decide) (by decide) rfl pd_1 rfl rfl (Nat.le_of_eq rfl) at_144 rfl (k' := 2) (n' := 7) rfl rfl (by decide) (by decide) ?_
          intro T228 v228 h228 X228 q228
          obtain ⟨y229, y230, hy231, hy232, rfl, K228, E_b211, F_b211_key, F_b211_position, F_b211_mask⟩ := q228
          replace K := K.trans K228 (allS (Or.inr sz_b211) all0)
          replace E_b1 := E_b1.keep K228
          replace V_b1 := V_b1.keep K228 (ninS ne_b1_b211 nin0)
          show own_Go p e below (T228.setTop (mkF m 147 #[.val (.int i0), .val (.int i1), .val (.int i2), .val (.int i3), .val (.int i4), .val (.ref b1), .val (.int (0 : Int32)), .val (.int (1 : Int32)), .val (.int (0 : Int32)), .val (.int (1 : Int32)), .val (.ref b211), .val (.int y214), .val (.int y218), .val (.int y223), .unset] [(.int y230)])) _
          refine own_istore (pc' := 149) B X228 (Ls' := #[.val (.int i0), .val (.int i1), .val (.int i2), .val (.int i3), .val (.int i4), .val (.ref b1), .val (.int (0 : Int32)), .val (.int (1 : Int32)), .val (.int (0 : Int32)), .val (.int (1 : Int32)), .val (.ref b211), .val (.int y214), .val (.int y218), .val (.int y223), .val (.int y230)]) at_147 rfl rfl ?_
          refine own_iload (pc' := 151) B X228 at_149 rfl rfl ?_
          refine own_iloadN (pc' := 152) B X228 at_151 rfl rfl ?_
          refine own_iconst (pc' := 153) B X228 (z := (0 : Int32)) at_152 rfl rfl ?_
          refine own_callS (pc' := 156) B X228 (own_w hw 26 rfl) (own_w hw 27 rfl) (own_w hw 28 rfl) (own_w hw 29 rfl) (by decide) [(.int i0), (.int (0 : Int32))] [(.int y214)] (rm_9 l Z a0 hw [] (i0) h228 n0 (Nat.le_trans Z0 K.1) ) 1 (by decide) (by decide) rfl pd_3 rfl rfl (Nat.le_of_eq rfl) at_153 rfl (k' := 2) (n' := 7) rfl rfl (by decide) (by decide) ?_
          intro T233 v233 h233 X233 q233
          obtain ⟨y234, hy235, rfl, rfl⟩ := q233
          show own_Go p e below (T233.setTop (mkF m 156 #[.val (.int i0), .val (.int i1), .val (.int i2), .val (.int i3), .val (.int i4), .val (.ref b1), .val (.int (0 : Int32)), .val (.int (1 : Int32)), .val (.int (0 : Int32)), .val (.int (1 : Int32)), .val (.ref b211), .val (.int y214), .val (.int y218), .val (.int y223), .val (.int y230)] [(.int y234), (.int y214)])) _
          have c236 : y214 = y234 := by
            have o0 := own_o_i2b hy2
            have o1 := own_o_mask hy215 8 (by decide) (by decide)
            have o2 := own_o_mask hy235 8 (by decide) (by decide)
            have o3 := rng32 i0
            have o4 := rng32 y2
            have o5 := rng32 y214
            have o6 := rng32 y234
            have o7 : (255 : Int32).toInt = 255 := by decide
            refine own_eqI ?_
            omega
          refine own_icmpNo (pc' := 159) B X233 at_156 (teq c236).2 rfl ?_
          refine own_iload (pc' := 161) B X233 at_159 rfl rfl ?_
          refine own_iloadN (pc' := 162) B X233 at_161 rfl rfl ?_
          refine own_iload (pc' := 164) B X233 at_162 rfl rfl ?_
          refine own_callS (pc' := 167) B X233 (own_w hw 26 rfl) (own_w hw 27 rfl) (own_w hw 28 rfl) (own_w hw 29 rfl) (by decide) [(.int i1), (.int (0 : Int32))] [(.int y218)] (rm_9 l Z a0 hw [] (i1) h228 n0 (Nat.le_trans Z0 K.1) ) 1 (by decide) (by decide) rfl pd_3 rfl rfl (Nat.le_of_eq rfl) at_164 rfl (k' := 2) (n' := 7) rfl rfl (by decide) (by decide) ?_
          intro T237 v237 h237 X237 q237
          obtain ⟨y238, hy239, rfl, rfl⟩ := q237
          show own_Go p e below (T237.setTop (mkF m 167 #[.val (.int i0), .val (.int i1), .val (.int i2), .val (.int i3), .val (.int i4), .val (.ref b1), .val (.int (0 : Int32)), .val (.int (1 : Int32)), .val (.int (0 : Int32)), .val (.int (1 : Int32)), .val (.ref b211), .val (.int y214), .val (.int y218), .val (.int y223), .val (.int y230)] [(.int y238), (.int y218)])) _
          have c240 : y218 = y238 := by
            have o0 := own_o_i2b hy4
            have o1 := own_o_mask hy219 8 (by decide) (by decide)
            have o2 := own_o_mask hy239 8 (by decide) (by decide)
            have o3 := rng32 i1
            have o4 := rng32 y218
            have o5 := rng32 y238
            have o6 := rng32 y4
            have o7 : (255 : Int32).toInt = 255 := by decide
            refine own_eqI ?_
            omega
          refine own_icmpNo (pc' := 170) B X237 at_167 (teq c240).2 rfl ?_
          refine own_iload (pc' := 172) B X237 at_170 rfl rfl ?_
          refine own_iloadN (pc' := 173) B X237 at_172 rfl rfl ?_
          refine own_iload (pc' := 175) B X237 at_173 rfl rfl ?_
          refine own_callS (pc' := 178) B X237 (own_w hw 26 rfl) (own_w hw 27 rfl) (own_w hw 28 rfl) (own_w hw 29 rfl) (by decide) [(.int i2), (.int (1 : Int32))] [(.int y223)] (rm_13 l Z a0 hw [] (i2) h228 n0 (Nat.le_trans Z0 K.1) ) 1 (by decide) (by decide) rfl pd_3 rfl rfl (Nat.le_of_eq rfl) at_175 rfl (k' := 2) (n' := 7) rfl rfl (by decide) (by decide) ?_
          intro T241 v241 h241 X241 q241
          obtain ⟨y242, y243, hy244, hy245, rfl, rfl⟩ := q241
          show own_Go p e below (T241.setTop (mkF m 178 #[.val (.int i0), .val (.int i1), .val (.int i2), .val (.int i3), .val (.int i4), .val (.ref b1), .val (.int (0 : Int32)), .val (.int (1 : Int32)), .val (.int (0 : Int32)), .val (.int (1 : Int32)), .val (.ref b211), .val (.int y214), .val (.int y218), .val (.int y223), .val (.int y230)] [(.int y243), (.int y223)])) _
          have c246 : y223 = y243 := by
            have o0 := own_o_i2b hy6
            have o1 := own_o_xor255 hy224
            have o2 := own_o_mask hy225 8 (by decide) (by decide)
            have o3 := own_o_mask hy244 8 (by decide) (by decide)
            have o4 := own_o_isub hy245
            have o5 := rng32 i2
            have o6 := rng32 y222
            have o7 := rng32 y223
            have o8 := rng32 y242
            have o9 := rng32 y243
            have o10 := rng32 y6
            have o11 : (255 : Int32).toInt = 255 := by decide
            refine own_eqI ?_
            omega
          refine own_icmpNo (pc' := 181) B X241 at_178 (teq c246).2 rfl ?_
          refine own_iload (pc' := 183) B X241 at_181 rfl rfl ?_
          refine own_iloadN (pc' := 184) B X241 at_183 rfl rfl ?_
          refine own_iload (pc' := 186) B X241 at_184 rfl rfl ?_
          refine own_callS (pc' := 189) B X241 (own_w hw 26 rfl) (own_w hw 27 rfl) (own_w hw 28 rfl) (own_w hw 29 rfl) (by decide) [(.int i3), (.int (1 : Int32))] [(.int y230)] (rm_13 l Z a0 hw [] (i3) h228 n0 (Nat.le_trans Z0 K.1) ) 1 (by decide) (by decide) rfl pd_3 rfl rfl (Nat.le_of_eq rfl) at_186 rfl (k' := 2) (n' := 7) rfl rfl (by decide) (by decide) ?_
          intro T247 v247 h247 X247 q247
          obtain ⟨y248, y249, hy250, hy251, rfl, rfl⟩ := q247
          show own_Go p e below (T247.setTop (mkF m 189 #[.val (.int i0), .val (.int i1), .val (.int i2), .val (.int i3), .val (.int i4), .val (.ref b1), .val (.int (0 : Int32)), .val (.int (1 : Int32)), .val (.int (0 : Int32)), .val (.int (1 : Int32)), .val (.ref b211), .val (.int y214), .val (.int y218), .val (.int y223), .val (.int y230)] [(.int y249), (.int y230)])) _
          have c252 : y230 = y249 := by
            have o0 := own_o_i2b hy8
            have o1 := own_o_xor255 hy231
            have o2 := own_o_mask hy232 8 (by decide) (by decide)
            have o3 := own_o_mask hy250 8 (by decide) (by decide)
            have o4 := own_o_isub hy251
            have o5 := rng32 i3
            have o6 := rng32 y229
            have o7 := rng32 y230
            have o8 := rng32 y248
            have o9 := rng32 y249
            have o10 := rng32 y8
            have o11 : (255 : Int32).toInt = 255 := by decide
            refine own_eqI ?_
            omega
          refine own_icmpNo (pc' := 192) B X247 at_189 (teq c252).2 rfl ?_
          refine own_aload (pc' := 194) B X247 at_192 rfl rfl rfl ?_
          refine own_callV (pc' := 197) B X247 (own_w hw 30 rfl) (own_w hw 31 rfl) (own_w hw 33 rfl) (own_w hw 32 rfl) (own_w hw 3 rfl) (own_w hw 34 rfl) E_b211 (by decide) [] [] (rm_14 l Z a0 hw [] b211 b1 kb1 (y2) (y4) (y6) (y8) h228 n0 (Nat.le_trans Z0 K.1) E_b211 F_b211_key F_b211_position F_b211_mask g_b211 E_b1 V_b1 g_b1 (Ne.symm ne_b1_b211)) 0 (by decide) (by decide) rfl pd_1 rfl rfl (Nat.le_of_eq rfl) at_194 rfl (k' := 2) (n' := 7) rfl rfl (by decide) (by decide) ?_
          intro T253 v253 h253 X253 q253
          obtain ⟨rfl, rfl⟩ := q253
          show own_Go p e below (T253.setTop (mkF m 197 #[.val (.int i0), .val (.int i1), .val (.int i2), .val (.int i3), .val (.int i4), .val (.ref b1), .val (.int (0 : Int32)), .val (.int (1 : Int32)), .val (.int (0 : Int32)), .val (.int (1 : Int32)), .val (.ref b211), .val (.int y214), .val (.int y218), .val (.int y223), .val (.int y230)] [(.int (4 : Int32))])) _
          refine own_iconst (pc' := 198) B X253 (z := (4 : Int32)) at_197 rfl rfl ?_
          refine own_icmpNo (pc' := 201) B X253 at_198 (teq (by decide : (4 : Int32) = (4 : Int32))).2 rfl ?_
          refine own_iconst (pc' := 202) B X253 (z := (1 : Int32)) at_201 rfl rfl ?_
          refine own_goto (pc' := 206) B X253 at_202 (by decide) rfl ?_
          exact own_retN B X253 (t := .boolean) (z' := (1 : Int32)) (by simp) (by decide) at_206 (by decide) (by decide) rfl
      · refine own_ifNo (pc' := 60) B X9 at_57 ((if0 _ _).trans (feq c169).1) rfl ?_
        refine own_iconst (pc' := 61) B X9 (z := (1 : Int32)) at_60 rfl rfl ?_
        refine own_goto (pc' := 65) B X9 at_61 (by decide) rfl ?_
        refine own_istore (pc' := 67) B X9 (Ls' := #[.val (.int i0), .val (.int i1), .val (.int i2), .val (.int i3), .val (.int i4), .val (.ref b1), .val (.int (0 : Int32)), .val (.int (1 : Int32)), .val (.int (1 : Int32)), .unset, .unset, .unset, .unset, .unset, .unset]) at_65 rfl rfl ?_
        refine own_iload (pc' := 69) B X9 at_67 rfl rfl ?_
        refine own_bipush (pc' := 71) B X9 (z := (8 : Int32)) at_69 rfl (by decide) ?_
        obtain ⟨y254, hy254⟩ : ∃ z : Int32, i4 &&& (8 : Int32) = z := ⟨_, rfl⟩
        refine own_iand (pc' := 72) B X9 at_71 rfl hy254 ?_
        by_cases c255 : y254 = (0 : Int32)
        · refine own_ifYes (pc' := 79) B X9 at_72 ((if0 _ _).trans (teq c255).1) (by decide) rfl ?_
          refine own_iconst (pc' := 80) B X9 (z := (0 : Int32)) at_79 rfl rfl ?_
          refine own_istore (pc' := 82) B X9 (Ls' := #[.val (.int i0), .val (.int i1), .val (.int i2), .val (.int i3), .val (.int i4), .val (.ref b1), .val (.int (0 : Int32)), .val (.int (1 : Int32)), .val (.int (1 : Int32)), .val (.int (0 : Int32)), .unset, .unset, .unset, .unset, .unset]) at_80 rfl rfl ?_
          refine own_new (pc' := 85) B X9 (own_w hw 1 rfl) (own_w hw 2 rfl) (own_w hw 3 rfl) at_82 rfl (k' := 2) (n' := 7) rfl rfl (by decide) (by decide) ?_
          intro T256 h256 b256 X256 g256 E256 E_b256 D256
          have ne_b1_b256 : b1 ≠ b256 := own_ne E_b1.lt g256
          have sz_b256 : h0.size ≤ b256 := own_sz K g256
          have g_b256 : n0 ≤ b256 := Nat.le_trans Z0 sz_b256
          replace K := K.ext E256
          replace E_b1 := E_b1.ext E256
          replace V_b1 := V_b1.ext E256
          have F_b256_key : Fld Z h256 b256 "com/example/keyer/keyer/KeyReader" "key" "[B" .null := D256 (Or.inr (own_w hw 11 rfl)) (ty := (.array .byte)) (by decide)
          have F_b256_position : Fld Z h256 b256 "com/example/keyer/keyer/KeyReader" "position" "I" (.int (0 : Int32)) := D256 (Or.inl (own_w hw 18 rfl)) (ty := .int) (by decide)
          have F_b256_mask : Fld Z h256 b256 "com/example/keyer/keyer/KeyReader" "mask" "I" (.int (0 : Int32)) := D256 (Or.inl (own_w hw 20 rfl)) (ty := .int) (by decide)
          clear D256
          refine own_dup (pc' := 86) B X256 at_85 rfl rfl ?_
          refine own_aload (pc' := 88) B X256 at_86 rfl rfl rfl ?_
          refine own_callI (pc' := 91) B X256 rfl rfl (own_w hw 4 rfl) (own_w hw 5 rfl) (own_w hw 3 rfl) (own_w hw 6 rfl) (by decide) [(.ref b1)] [(.ref b256)] (rm_1 l Z a0 hw [] b256 b1 kb1 (y2) (y4) (y6) (y8) h256 n0 (Nat.le_trans Z0 K.1) E_b256 F_b256_key F_b256_position F_b256_mask g_b256 E_b1 V_b1 g_b1 (Ne.symm ne_b1_b256)) 1 (by decide) (by decide) rfl pd_0 rfl rfl (Nat.le_of_eq rfl) at_88 rfl (k' := 2) (n' := 7) rfl rfl (by decide) (by decide) ?_
          intro T257 v257 h257 X257 q257
          obtain ⟨rfl, K257, E_b256, F_b256_key, F_b256_position, F_b256_mask⟩ := q257
          replace K := K.trans K257 (allS (Or.inr sz_b256) all0)
          replace E_b1 := E_b1.keep K257
          replace V_b1 := V_b1.keep K257 (ninS ne_b1_b256 nin0)
          show own_Go p e below (T257.setTop (mkF m 91 #[.val (.int i0), .val (.int i1), .val (.int i2), .val (.int i3), .val (.int i4), .val (.ref b1), .val (.int (0 : Int32)), .val (.int (1 : Int32)), .val (.int (1 : Int32)), .val (.int (0 : Int32)), .unset, .unset, .unset, .unset, .unset] [(.ref b256)])) _
          refine own_astore (pc' := 93) B X257 (Ls' := #[.val (.int i0), .val (.int i1), .val (.int i2), .val (.int i3), .val (.int i4), .val (.ref b1), .val (.int (0 : Int32)), .val (.int (1 : Int32)), .val (.int (1 : Int32)), .val (.int (0 : Int32)), .val (.ref b256), .unset, .unset, .unset, .unset]) at_91 rfl rfl rfl ?_
          refine own_aload (pc' := 95) B X257 at_93 rfl rfl rfl ?_
          refine own_callV (pc' := 98) B X257 (own_w hw 12 rfl) (own_w hw 13 rfl) (own_w hw 15 rfl) (own_w hw 14 rfl) (own_w hw 3 rfl) (own_w hw 16 rfl) E_b256 (by decide) [] [] (rm_2 l Z a0 hw [] b256 b1 kb1 (y2) (y4) (y6) (y8) h257 n0 (Nat.le_trans Z0 K.1) E_b256 F_b256_key F_b256_position F_b256_mask g_b256 E_b1 V_b1 g_b1 (Ne.symm ne_b1_b256)) 0 (by decide) (by decide) rfl pd_1 rfl rfl (Nat.le_of_eq rfl) at_95 rfl (k' := 2) (n' := 7) rfl rfl (by decide) (by decide) ?_
          intro T258 v258 h258 X258 q258
          obtain ⟨y259, hy260, rfl, K258, E_b256, F_b256_key, F_b256_position, F_b256_mask⟩ := q258
          replace K := K.trans K258 (allS (Or.inr sz_b256) all0)
          replace E_b1 := E_b1.keep K258
          replace V_b1 := V_b1.keep K258 (ninS ne_b1_b256 nin0)
          show own_Go p e below (T258.setTop (mkF m 98 #[.val (.int i0), .val (.int i1), .val (.int i2), .val (.int i3), .val (.int i4), .val (.ref b1), .val (.int (0 : Int32)), .val (.int (1 : Int32)), .val (.int (1 : Int32)), .val (.int (0 : Int32)), .val (.ref b256), .unset, .unset, .unset, .unset] [(.int y259)])) _
          refine own_istore (pc' := 100) B X258 (Ls' := #[.val (.int i0), .val (.int i1), .val (.int i2), .val (.int i3), .val (.int i4), .val (.ref b1), .val (.int (0 : Int32)), .val (.int (1 : Int32)), .val (.int (1 : Int32)), .val (.int (0 : Int32)), .val (.ref b256), .val (.int y259), .unset, .unset, .unset]) at_98 rfl rfl ?_
          refine own_aload (pc' := 102) B X258 at_100 rfl rfl rfl ?_
          refine own_iload (pc' := 104) B X258 at_102 rfl rfl ?_
          refine own_callV (pc' := 107) B X258 (own_w hw 21 rfl) (own_w hw 22 rfl) (own_w hw 24 rfl) (own_w hw 23 rfl) (own_w hw 3 rfl) (own_w hw 25 rfl) E_b256 (by decide) [(.int (0 : Int32))] [] (rm_3 l Z a0 hw [] b256 b1 kb1 (y2) (y4) (y6) (y8) h258 n0 (Nat.le_trans Z0 K.1) E_b256 F_b256_key F_b256_position F_b256_mask g_b256 E_b1 V_b1 g_b1 (Ne.symm ne_b1_b256)) 0 (by decide) (by decide) rfl pd_2 rfl rfl (Nat.le_of_eq rfl) at_104 rfl (k' := 2) (n' := 7) rfl rfl (by decide) (by decide) ?_
          intro T261 v261 h261 X261 q261
          obtain ⟨rfl, K261, E_b256, F_b256_key, F_b256_position, F_b256_mask⟩ := q261
          replace K := K.trans K261 (allS (Or.inr sz_b256) all0)
          replace E_b1 := E_b1.keep K261
          replace V_b1 := V_b1.keep K261 (ninS ne_b1_b256 nin0)
          show own_Go p e below (T261.setTop (mkF m 107 #[.val (.int i0), .val (.int i1), .val (.int i2), .val (.int i3), .val (.int i4), .val (.ref b1), .val (.int (0 : Int32)), .val (.int (1 : Int32)), .val (.int (1 : Int32)), .val (.int (0 : Int32)), .val (.ref b256), .val (.int y259), .unset, .unset, .unset] [])) _
          refine own_aload (pc' := 109) B X261 at_107 rfl rfl rfl ?_
          refine own_callV (pc' := 112) B X261 (own_w hw 12 rfl) (own_w hw 13 rfl) (own_w hw 15 rfl) (own_w hw 14 rfl) (own_w hw 3 rfl) (own_w hw 16 rfl) E_b256 (by decide) [] [] (rm_4 l Z a0 hw [] b256 b1 kb1 (y2) (y4) (y6) (y8) h261 n0 (Nat.le_trans Z0 K.1) E_b256 F_b256_key F_b256_position F_b256_mask g_b256 E_b1 V_b1 g_b1 (Ne.symm ne_b1_b256)) 0 (by decide) (by decide) rfl pd_1 rfl rfl (Nat.le_of_eq rfl) at_109 rfl (k' := 2) (n' := 7) rfl rfl (by decide) (by decide) ?_
          intro T262 v262 h262 X262 q262
          obtain ⟨y263, hy264, rfl, K262, E_b256, F_b256_key, F_b256_position, F_b256_mask⟩ := q262
          replace K := K.trans K262 (allS (Or.inr sz_b256) all0)
          replace E_b1 := E_b1.keep K262
          replace V_b1 := V_b1.keep K262 (ninS ne_b1_b256 nin0)
          show own_Go p e below (T262.setTop (mkF m 112 #[.val (.int i0), .val (.int i1), .val (.int i2), .val (.int i3), .val (.int i4), .val (.ref b1), .val (.int (0 : Int32)), .val (.int (1 : Int32)), .val (.int (1 : Int32)), .val (.int (0 : Int32)), .val (.ref b256), .val (.int y259), .unset, .unset, .unset] [(.int y263)])) _
          refine own_istore (pc' := 114) B X262 (Ls' := #[.val (.int i0), .val (.int i1), .val (.int i2), .val (.int i3), .val (.int i4), .val (.ref b1), .val (.int (0 : Int32)), .val (.int (1 : Int32)), .val (.int (1 : Int32)), .val (.int (0 : Int32)), .val (.ref b256), .val (.int y259), .val (.int y263), .unset, .unset]) at_112 rfl rfl ?_
          refine own_aload (pc' := 116) B X262 at_114 rfl rfl rfl ?_
          refine own_iload (pc' := 118) B X262 at_116 rfl rfl ?_
          refine own_callV (pc' := 121) B X262 (own_w hw 21 rfl) (own_w hw 22 rfl) (own_w hw 24 rfl) (own_w hw 23 rfl) (own_w hw 3 rfl) (own_w hw 25 rfl) E_b256 (by decide) [(.int (1 : Int32))] [] (rm_17 l Z a0 hw [] b256 b1 kb1 (y2) (y4) (y6) (y8) h262 n0 (Nat.le_trans Z0 K.1) E_b256 F_b256_key F_b256_position F_b256_mask g_b256 E_b1 V_b1 g_b1 (Ne.symm ne_b1_b256)) 0 (by decide) (by decide) rfl pd_2 rfl rfl (Nat.le_of_eq rfl) at_118 rfl (k' := 2) (n' := 7) rfl rfl (by decide) (by decide) ?_
          intro T265 v265 h265 X265 q265
          obtain ⟨rfl, K265, E_b256, F_b256_key, F_b256_position, F_b256_mask⟩ := q265
          replace K := K.trans K265 (allS (Or.inr sz_b256) all0)
          replace E_b1 := E_b1.keep K265
          replace V_b1 := V_b1.keep K265 (ninS ne_b1_b256 nin0)
          show own_Go p e below (T265.setTop (mkF m 121 #[.val (.int i0), .val (.int i1), .val (.int i2), .val (.int i3), .val (.int i4), .val (.ref b1), .val (.int (0 : Int32)), .val (.int (1 : Int32)), .val (.int (1 : Int32)), .val (.int (0 : Int32)), .val (.ref b256), .val (.int y259), .val (.int y263), .unset, .unset] [])) _
          refine own_aload (pc' := 123) B X265 at_121 rfl rfl rfl ?_
          refine own_callV (pc' := 126) B X265 (own_w hw 12 rfl) (own_w hw 13 rfl) (own_w hw 15 rfl) (own_w hw 14 rfl) (own_w hw 3 rfl) (own_w hw 16 rfl) E_b256 (by decide) [] [] (rm_18 l Z a0 hw [] b256 b1 kb1 (y2) (y4) (y6) (y8) h265 n0 (Nat.le_trans Z0 K.1) E_b256 F_b256_key F_b256_position F_b256_mask g_b256 E_b1 V_b1 g_b1 (Ne.symm ne_b1_b256)) 0 (by decide) (by decide) rfl pd_1 rfl rfl (Nat.le_of_eq rfl) at_123 rfl (k' := 2) (n' := 7) rfl rfl (by decide) (by decide) ?_
          intro T266 v266 h266 X266 q266
          obtain ⟨y267, y268, hy269, hy270, rfl, K266, E_b256, F_b256_key, F_b256_position, F_b256_mask⟩ := q266
          replace K := K.trans K266 (allS (Or.inr sz_b256) all0)
          replace E_b1 := E_b1.keep K266
          replace V_b1 := V_b1.keep K266 (ninS ne_b1_b256 nin0)
          show own_Go p e below (T266.setTop (mkF m 126 #[.val (.int i0), .val (.int i1), .val (.int i2), .val (.int i3), .val (.int i4), .val (.ref b1), .val (.int (0 : Int32)), .val (.int (1 : Int32)), .val (.int (1 : Int32)), .val (.int (0 : Int32)), .val (.ref b256), .val (.int y259), .val (.int y263), .unset, .unset] [(.int y268)])) _
          refine own_istore (pc' := 128) B X266 (Ls' := #[.val (.int i0), .val (.int i1), .val (.int i2), .val (.int i3), .val (.int i4), .val (.ref b1), .val (.int (0 : Int32)), .val (.int (1 : Int32)), .val (.int (1 : Int32)), .val (.int (0 : Int32)), .val (.ref b256), .val (.int y259), .val (.int y263), .val (.int y268), .unset]) at_126 rfl rfl ?_
          refine own_aload (pc' := 130) B X266 at_128 rfl rfl rfl ?_
          refine own_iload (pc' := 132) B X266 at_130 rfl rfl ?_
          refine own_callV (pc' := 135) B X266 (own_w hw 21 rfl) (own_w hw 22 rfl) (own_w hw 24 rfl) (own_w hw 23 rfl) (own_w hw 3 rfl) (own_w hw 25 rfl) E_b256 (by decide) [(.int (1 : Int32))] [] (rm_16 l Z a0 hw [] b256 b1 kb1 (y2) (y4) (y6) (y8) h266 n0 (Nat.le_trans Z0 K.1) E_b256 F_b256_key F_b256_position F_b256_mask g_b256 E_b1 V_b1 g_b1 (Ne.symm ne_b1_b256)) 0 (by decide) (by decide) rfl pd_2 rfl rfl (Nat.le_of_eq rfl) at_132 rfl (k' := 2) (n' := 7) rfl rfl (by decide) (by decide) ?_
          intro T271 v271 h271 X271 q271
          obtain ⟨rfl, K271, E_b256, F_b256_key, F_b256_position, F_b256_mask⟩ := q271
          replace K := K.trans K271 (allS (Or.inr sz_b256) all0)
          replace E_b1 := E_b1.keep K271
          replace V_b1 := V_b1.keep K271 (ninS ne_b1_b256 nin0)
          show own_Go p e below (T271.setTop (mkF m 135 #[.val (.int i0), .val (.int i1), .val (.int i2), .val (.int i3), .val (.int i4), .val (.ref b1), .val (.int (0 : Int32)), .val (.int (1 : Int32)), .val (.int (1 : Int32)), .val (.int (0 : Int32)), .val (.ref b256), .val (.int y259), .val (.int y263), .val (.int y268), .unset] [])) _
          refine own_aload (pc' := 137) B X271 at_135 rfl rfl rfl ?_
          refine own_iload (pc' := 139) B X271 at_137 rfl rfl ?_
          refine own_callV (pc' := 142) B X271 (own_w hw 21 rfl) (own_w hw 22 rfl) (own_w hw 24 rfl) (own_w hw 23 rfl) (own_w hw 3 rfl) (own_w hw 25 rfl) E_b256 (by decide) [(.int (0 : Int32))] [] (rm_15 l Z a0 hw [] b256 b1 kb1 (y2) (y4) (y6) (y8) h271 n0 (Nat.le_trans Z0 K.1) E_b256 F_b256_key F_b256_position F_b256_mask g_b256 E_b1 V_b1 g_b1 (Ne.symm ne_b1_b256)) 0 (by decide) (by decide) rfl pd_2 rfl rfl (Nat.le_of_eq rfl) at_139 rfl (k' := 2) (n' := 7) rfl rfl (by decide) (by decide) ?_
          intro T272 v272 h272 X272 q272
          obtain ⟨rfl, K272, E_b256, F_b256_key, F_b256_position, F_b256_mask⟩ := q272
          replace K := K.trans K272 (allS (Or.inr sz_b256) all0)
          replace E_b1 := E_b1.keep K272
          replace V_b1 := V_b1.keep K272 (ninS ne_b1_b256 nin0)
          show own_Go p e below (T272.setTop (mkF m 142 #[.val (.int i0), .val (.int i1), .val (.int i2), .val (.int i3), .val (.int i4), .val (.ref b1), .val (.int (0 : Int32)), .val (.int (1 : Int32)), .val (.int (1 : Int32)), .val (.int (0 : Int32)), .val (.ref b256), .val (.int y259), .val (.int y263), .val (.int y268), .unset] [])) _
          refine own_aload (pc' := 144) B X272 at_142 rfl rfl rfl ?_
          refine own_callV (pc' := 147) B X272 (own_w hw 12 rfl) (own_w hw 13 rfl) (own_w hw 15 rfl) (own_w hw 14 rfl) (own_w hw 3 rfl) (own_w hw 16 rfl) E_b256 (by decide) [] [] (rm_8 l Z a0 hw [] b256 b1 kb1 (y2) (y4) (y6) (y8) h272 n0 (Nat.le_trans Z0 K.1) E_b256 F_b256_key F_b256_position F_b256_mask g_b256 E_b1 V_b1 g_b1 (Ne.symm ne_b1_b256)) 0 (by decide) (by decide) rfl pd_1 rfl rfl (Nat.le_of_eq rfl) at_144 rfl (k' := 2) (n' := 7) rfl rfl (by decide) (by decide) ?_
          intro T273 v273 h273 X273 q273
          obtain ⟨y274, hy275, rfl, K273, E_b256, F_b256_key, F_b256_position, F_b256_mask⟩ := q273
          replace K := K.trans K273 (allS (Or.inr sz_b256) all0)
          replace E_b1 := E_b1.keep K273
          replace V_b1 := V_b1.keep K273 (ninS ne_b1_b256 nin0)
          show own_Go p e below (T273.setTop (mkF m 147 #[.val (.int i0), .val (.int i1), .val (.int i2), .val (.int i3), .val (.int i4), .val (.ref b1), .val (.int (0 : Int32)), .val (.int (1 : Int32)), .val (.int (1 : Int32)), .val (.int (0 : Int32)), .val (.ref b256), .val (.int y259), .val (.int y263), .val (.int y268), .unset] [(.int y274)])) _
          refine own_istore (pc' := 149) B X273 (Ls' := #[.val (.int i0), .val (.int i1), .val (.int i2), .val (.int i3), .val (.int i4), .val (.ref b1), .val (.int (0 : Int32)), .val (.int (1 : Int32)), .val (.int (1 : Int32)), .val (.int (0 : Int32)), .val (.ref b256), .val (.int y259), .val (.int y263), .val (.int y268), .val (.int y274)]) at_147 rfl rfl ?_
          refine own_iload (pc' := 151) B X273 at_149 rfl rfl ?_
          refine own_iloadN (pc' := 152) B X273 at_151 rfl rfl ?_
          refine own_iconst (pc' := 153) B X273 (z := (0 : Int32)) at_152 rfl rfl ?_
          refine own_callS (pc' := 156) B X273 (own_w hw 26 rfl) (own_w hw 27 rfl) (own_w hw 28 rfl) (own_w hw 29 rfl) (by decide) [(.int i0), (.int (0 : Int32))] [(.int y259)] (rm_9 l Z a0 hw [] (i0) h273 n0 (Nat.le_trans Z0 K.1) ) 1 (by decide) (by decide) rfl pd_3 rfl rfl (Nat.le_of_eq rfl) at_153 rfl (k' := 2) (n' := 7) rfl rfl (by decide) (by decide) ?_
          intro T276 v276 h276 X276 q276
          obtain ⟨y277, hy278, rfl, rfl⟩ := q276
          show own_Go p e below (T276.setTop (mkF m 156 #[.val (.int i0), .val (.int i1), .val (.int i2), .val (.int i3), .val (.int i4), .val (.ref b1), .val (.int (0 : Int32)), .val (.int (1 : Int32)), .val (.int (1 : Int32)), .val (.int (0 : Int32)), .val (.ref b256), .val (.int y259), .val (.int y263), .val (.int y268), .val (.int y274)] [(.int y277), (.int y259)])) _
          have c279 : y259 = y277 := by
            have o0 := own_o_i2b hy2
            have o1 := own_o_mask hy260 8 (by decide) (by decide)
            have o2 := own_o_mask hy278 8 (by decide) (by decide)
            have o3 := rng32 i0
            have o4 := rng32 y2
            have o5 := rng32 y259
            have o6 := rng32 y277
            have o7 : (255 : Int32).toInt = 255 := by decide
            refine own_eqI ?_
            omega
          refine own_icmpNo (pc' := 159) B X276 at_156 (teq c279).2 rfl ?_
          refine own_iload (pc' := 161) B X276 at_159 rfl rfl ?_
          refine own_iloadN (pc' := 162) B X276 at_161 rfl rfl ?_
          refine own_iload (pc' := 164) B X276 at_162 rfl rfl ?_
          refine own_callS (pc' := 167) B X276 (own_w hw 26 rfl) (own_w hw 27 rfl) (own_w hw 28 rfl) (own_w hw 29 rfl) (by decide) [(.int i1), (.int (0 : Int32))] [(.int y263)] (rm_9 l Z a0 hw [] (i1) h273 n0 (Nat.le_trans Z0 K.1) ) 1 (by decide) (by decide) rfl pd_3 rfl rfl (Nat.le_of_eq rfl) at_164 rfl (k' := 2) (n' := 7) rfl rfl (by decide) (by decide) ?_
          intro T280 v280 h280 X280 q280
          obtain ⟨y281, hy282, rfl, rfl⟩ := q280
          show own_Go p e below (T280.setTop (mkF m 167 #[.val (.int i0), .val (.int i1), .val (.int i2), .val (.int i3), .val (.int i4), .val (.ref b1), .val (.int (0 : Int32)), .val (.int (1 : Int32)), .val (.int (1 : Int32)), .val (.int (0 : Int32)), .val (.ref b256), .val (.int y259), .val (.int y263), .val (.int y268), .val (.int y274)] [(.int y281), (.int y263)])) _
          have c283 : y263 = y281 := by
            have o0 := own_o_i2b hy4
            have o1 := own_o_mask hy264 8 (by decide) (by decide)
            have o2 := own_o_mask hy282 8 (by decide) (by decide)
            have o3 := rng32 i1
            have o4 := rng32 y263
            have o5 := rng32 y281
            have o6 := rng32 y4
            have o7 : (255 : Int32).toInt = 255 := by decide
            refine own_eqI ?_
            omega
          refine own_icmpNo (pc' := 170) B X280 at_167 (teq c283).2 rfl ?_
          refine own_iload (pc' := 172) B X280 at_170 rfl rfl ?_
          refine own_iloadN (pc' := 173) B X280 at_172 rfl rfl ?_
          refine own_iload (pc' := 175) B X280 at_173 rfl rfl ?_
          refine own_callS (pc' := 178) B X280 (own_w hw 26 rfl) (own_w hw 27 rfl) (own_w hw 28 rfl) (own_w hw 29 rfl) (by decide) [(.int i2), (.int (1 : Int32))] [(.int y268)] (rm_13 l Z a0 hw [] (i2) h273 n0 (Nat.le_trans Z0 K.1) ) 1 (by decide) (by decide) rfl pd_3 rfl rfl (Nat.le_of_eq rfl) at_175 rfl (k' := 2) (n' := 7) rfl rfl (by decide) (by decide) ?_
          intro T284 v284 h284 X284 q284
          obtain ⟨y285, y286, hy287, hy288, rfl, rfl⟩ := q284
          show own_Go p e below (T284.setTop (mkF m 178 #[.val (.int i0), .val (.int i1), .val (.int i2), .val (.int i3), .val (.int i4), .val (.ref b1), .val (.int (0 : Int32)), .val (.int (1 : Int32)), .val (.int (1 : Int32)), .val (.int (0 : Int32)), .val (.ref b256), .val (.int y259), .val (.int y263), .val (.int y268), .val (.int y274)] [(.int y286), (.int y268)])) _
          have c289 : y268 = y286 := by
            have o0 := own_o_i2b hy6
            have o1 := own_o_xor255 hy269
            have o2 := own_o_mask hy270 8 (by decide) (by decide)
            have o3 := own_o_mask hy287 8 (by decide) (by decide)
            have o4 := own_o_isub hy288
            have o5 := rng32 i2
            have o6 := rng32 y267
            have o7 := rng32 y268
            have o8 := rng32 y285
            have o9 := rng32 y286
            have o10 := rng32 y6
            have o11 : (255 : Int32).toInt = 255 := by decide
            refine own_eqI ?_
            omega
          refine own_icmpNo (pc' := 181) B X284 at_178 (teq c289).2 rfl ?_
          refine own_iload (pc' := 183) B X284 at_181 rfl rfl ?_
          refine own_iloadN (pc' := 184) B X284 at_183 rfl rfl ?_
          refine own_iload (pc' := 186) B X284 at_184 rfl rfl ?_
          refine own_callS (pc' := 189) B X284 (own_w hw 26 rfl) (own_w hw 27 rfl) (own_w hw 28 rfl) (own_w hw 29 rfl) (by decide) [(.int i3), (.int (0 : Int32))] [(.int y274)] (rm_9 l Z a0 hw [] (i3) h273 n0 (Nat.le_trans Z0 K.1) ) 1 (by decide) (by decide) rfl pd_3 rfl rfl (Nat.le_of_eq rfl) at_186 rfl (k' := 2) (n' := 7) rfl rfl (by decide) (by decide) ?_
          intro T290 v290 h290 X290 q290
          obtain ⟨y291, hy292, rfl, rfl⟩ := q290
          show own_Go p e below (T290.setTop (mkF m 189 #[.val (.int i0), .val (.int i1), .val (.int i2), .val (.int i3), .val (.int i4), .val (.ref b1), .val (.int (0 : Int32)), .val (.int (1 : Int32)), .val (.int (1 : Int32)), .val (.int (0 : Int32)), .val (.ref b256), .val (.int y259), .val (.int y263), .val (.int y268), .val (.int y274)] [(.int y291), (.int y274)])) _
          have c293 : y274 = y291 := by
            have o0 := own_o_i2b hy8
            have o1 := own_o_mask hy275 8 (by decide) (by decide)
            have o2 := own_o_mask hy292 8 (by decide) (by decide)
            have o3 := rng32 i3
            have o4 := rng32 y274
            have o5 := rng32 y291
            have o6 := rng32 y8
            have o7 : (255 : Int32).toInt = 255 := by decide
            refine own_eqI ?_
            omega
          refine own_icmpNo (pc' := 192) B X290 at_189 (teq c293).2 rfl ?_
          refine own_aload (pc' := 194) B X290 at_192 rfl rfl rfl ?_
          refine own_callV (pc' := 197) B X290 (own_w hw 30 rfl) (own_w hw 31 rfl) (own_w hw 33 rfl) (own_w hw 32 rfl) (own_w hw 3 rfl) (own_w hw 34 rfl) E_b256 (by decide) [] [] (rm_10 l Z a0 hw [] b256 b1 kb1 (y2) (y4) (y6) (y8) h273 n0 (Nat.le_trans Z0 K.1) E_b256 F_b256_key F_b256_position F_b256_mask g_b256 E_b1 V_b1 g_b1 (Ne.symm ne_b1_b256)) 0 (by decide) (by decide) rfl pd_1 rfl rfl (Nat.le_of_eq rfl) at_194 rfl (k' := 2) (n' := 7) rfl rfl (by decide) (by decide) ?_
          intro T294 v294 h294 X294 q294
          obtain ⟨rfl, rfl⟩ := q294
          show own_Go p e below (T294.setTop (mkF m 197 #[.val (.int i0), .val (.int i1), .val (.int i2), .val (.int i3), .val (.int i4), .val (.ref b1), .val (.int (0 : Int32)), .val (.int (1 : Int32)), .val (.int (1 : Int32)), .val (.int (0 : Int32)), .val (.ref b256), .val (.int y259), .val (.int y263), .val (.int y268), .val (.int y274)] [(.int (4 : Int32))])) _
          refine own_iconst (pc' := 198) B X294 (z := (4 : Int32)) at_197 rfl rfl ?_
          refine own_icmpNo (pc' := 201) B X294 at_198 (teq (by decide : (4 : Int32) = (4 : Int32))).2 rfl ?_
          refine own_iconst (pc' := 202) B X294 (z := (1 : Int32)) at_201 rfl rfl ?_
          refine own_goto (pc' := 206) B X294 at_202 (by decide) rfl ?_
          exact own_retN B X294 (t := .boolean) (z' := (1 : Int32)) (by simp) (by decide) at_206 (by decide) (by decide) rfl
        · refine own_ifNo (pc' := 75) B X9 at_72 ((if0 _ _).trans (feq c255).1) rfl ?_
          refine own_iconst (pc' := 76) B X9 (z := (1 : Int32)) at_75 rfl rfl ?_
          refine own_goto (pc' := 80) B X9 at_76 (by decide) rfl ?_
          refine own_istore (pc' := 82) B X9 (Ls' := #[.val (.int i0), .val (.int i1), .val (.int i2), .val (.int i3), .val (.int i4), .val (.ref b1), .val (.int (0 : Int32)), .val (.int (1 : Int32)), .val (.int (1 : Int32)), .val (.int (1 : Int32)), .unset, .unset, .unset, .unset, .unset]) at_80 rfl rfl ?_
          refine own_new (pc' := 85) B X9 (own_w hw 1 rfl) (own_w hw 2 rfl) (own_w hw 3 rfl) at_82 rfl (k' := 2) (n' := 7) rfl rfl (by decide) (by decide) ?_
          intro T295 h295 b295 X295 g295 E295 E_b295 D295
          have ne_b1_b295 : b1 ≠ b295 := own_ne E_b1.lt g295
          have sz_b295 : h0.size ≤ b295 := own_sz K g295
          have g_b295 : n0 ≤ b295 := Nat.le_trans Z0 sz_b295
          replace K := K.ext E295
          replace E_b1 := E_b1.ext E295
          replace V_b1 := V_b1.ext E295
          have F_b295_key : Fld Z h295 b295 "com/example/keyer/keyer/KeyReader" "key" "[B" .null := D295 (Or.inr (own_w hw 11 rfl)) (ty := (.array .byte)) (by decide)
          have F_b295_position : Fld Z h295 b295 "com/example/keyer/keyer/KeyReader" "position" "I" (.int (0 : Int32)) := D295 (Or.inl (own_w hw 18 rfl)) (ty := .int) (by decide)
          have F_b295_mask : Fld Z h295 b295 "com/example/keyer/keyer/KeyReader" "mask" "I" (.int (0 : Int32)) := D295 (Or.inl (own_w hw 20 rfl)) (ty := .int) (by decide)
          clear D295
          refine own_dup (pc' := 86) B X295 at_85 rfl rfl ?_
          refine own_aload (pc' := 88) B X295 at_86 rfl rfl rfl ?_
          refine own_callI (pc' := 91) B X295 rfl rfl (own_w hw 4 rfl) (own_w hw 5 rfl) (own_w hw 3 rfl) (own_w hw 6 rfl) (by decide) [(.ref b1)] [(.ref b295)] (rm_1 l Z a0 hw [] b295 b1 kb1 (y2) (y4) (y6) (y8) h295 n0 (Nat.le_trans Z0 K.1) E_b295 F_b295_key F_b295_position F_b295_mask g_b295 E_b1 V_b1 g_b1 (Ne.symm ne_b1_b295)) 1 (by decide) (by decide) rfl pd_0 rfl rfl (Nat.le_of_eq rfl) at_88 rfl (k' := 2) (n' := 7) rfl rfl (by decide) (by decide) ?_
          intro T296 v296 h296 X296 q296
          obtain ⟨rfl, K296, E_b295, F_b295_key, F_b295_position, F_b295_mask⟩ := q296
          replace K := K.trans K296 (allS (Or.inr sz_b295) all0)
          replace E_b1 := E_b1.keep K296
          replace V_b1 := V_b1.keep K296 (ninS ne_b1_b295 nin0)
          show own_Go p e below (T296.setTop (mkF m 91 #[.val (.int i0), .val (.int i1), .val (.int i2), .val (.int i3), .val (.int i4), .val (.ref b1), .val (.int (0 : Int32)), .val (.int (1 : Int32)), .val (.int (1 : Int32)), .val (.int (1 : Int32)), .unset, .unset, .unset, .unset, .unset] [(.ref b295)])) _
          refine own_astore (pc' := 93) B X296 (Ls' := #[.val (.int i0), .val (.int i1), .val (.int i2), .val (.int i3), .val (.int i4), .val (.ref b1), .val (.int (0 : Int32)), .val (.int (1 : Int32)), .val (.int (1 : Int32)), .val (.int (1 : Int32)), .val (.ref b295), .unset, .unset, .unset, .unset]) at_91 rfl rfl rfl ?_
          refine own_aload (pc' := 95) B X296 at_93 rfl rfl rfl ?_
          refine own_callV (pc' := 98) B X296 (own_w hw 12 rfl) (own_w hw 13 rfl) (own_w hw 15 rfl) (own_w hw 14 rfl) (own_w hw 3 rfl) (own_w hw 16 rfl) E_b295 (by decide) [] [] (rm_2 l Z a0 hw [] b295 b1 kb1 (y2) (y4) (y6) (y8) h296 n0 (Nat.le_trans Z0 K.1) E_b295 F_b295_key F_b295_position F_b295_mask g_b295 E_b1 V_b1 g_b1 (Ne.symm ne_b1_b295)) 0 (by decide) (by decide) rfl pd_1 rfl rfl (Nat.le_of_eq rfl) at_95 rfl (k' := 2) (n' := 7) rfl rfl (by decide) (by decide) ?_
          intro T297 v297 h297 X297 q297
          obtain ⟨y298, hy299, rfl, K297, E_b295, F_b295_key, F_b295_position, F_b295_mask⟩ := q297
          replace K := K.trans K297 (allS (Or.inr sz_b295) all0)
          replace E_b1 := E_b1.keep K297
          replace V_b1 := V_b1.keep K297 (ninS ne_b1_b295 nin0)
          show own_Go p e below (T297.setTop (mkF m 98 #[.val (.int i0), .val (.int i1), .val (.int i2), .val (.int i3), .val (.int i4), .val (.ref b1), .val (.int (0 : Int32)), .val (.int (1 : Int32)), .val (.int (1 : Int32)), .val (.int (1 : Int32)), .val (.ref b295), .unset, .unset, .unset, .unset] [(.int y298)])) _
          refine own_istore (pc' := 100) B X297 (Ls' := #[.val (.int i0), .val (.int i1), .val (.int i2), .val (.int i3), .val (.int i4), .val (.ref b1), .val (.int (0 : Int32)), .val (.int (1 : Int32)), .val (.int (1 : Int32)), .val (.int (1 : Int32)), .val (.ref b295), .val (.int y298), .unset, .unset, .unset]) at_98 rfl rfl ?_
          refine own_aload (pc' := 102) B X297 at_100 rfl rfl rfl ?_
          refine own_iload (pc' := 104) B X297 at_102 rfl rfl ?_
          refine own_callV (pc' := 107) B X297 (own_w hw 21 rfl) (own_w hw 22 rfl) (own_w hw 24 rfl) (own_w hw 23 rfl) (own_w hw 3 rfl) (own_w hw 25 rfl) E_b295 (by decide) [(.int (0 : Int32))] [] (rm_3 l Z a0 hw [] b295 b1 kb1 (y2) (y4) (y6) (y8) h297 n0 (Nat.le_trans Z0 K.1) E_b295 F_b295_key F_b295_position F_b295_mask g_b295 E_b1 V_b1 g_b1 (Ne.symm ne_b1_b295)) 0 (by decide) (by decide) rfl pd_2 rfl rfl (Nat.le_of_eq rfl) at_104 rfl (k' := 2) (n' := 7) rfl rfl (by decide) (by decide) ?_
          intro T300 v300 h300 X300 q300
          obtain ⟨rfl, K300, E_b295, F_b295_key, F_b295_position, F_b295_mask⟩ := q300
          replace K := K.trans K300 (allS (Or.inr sz_b295) all0)
          replace E_b1 := E_b1.keep K300
          replace V_b1 := V_b1.keep K300 (ninS ne_b1_b295 nin0)
          show own_Go p e below (T300.setTop (mkF m 107 #[.val (.int i0), .val (.int i1), .val (.int i2), .val (.int i3), .val (.int i4), .val (.ref b1), .val (.int (0 : Int32)), .val (.int (1 : Int32)), .val (.int (1 : Int32)), .val (.int (1 : Int32)), .val (.ref b295), .val (.int y298), .unset, .unset, .unset] [])) _
          refine own_aload (pc' := 109) B X300 at_107 rfl rfl rfl ?_
          refine own_callV (pc' := 112) B X300 (own_w hw 12 rfl) (own_w hw 13 rfl) (own_w hw 15 rfl) (own_w hw 14 rfl) (own_w hw 3 rfl) (own_w hw 16 rfl) E_b295 (by decide) [] [] (rm_4 l Z a0 hw [] b295 b1 kb1 (y2) (y4) (y6) (y8) h300 n0 (Nat.le_trans Z0 K.1) E_b295 F_b295_key F_b295_position F_b295_mask g_b295 E_b1 V_b1 g_b1 (Ne.symm ne_b1_b295)) 0 (by decide) (by decide) rfl pd_1 rfl rfl (Nat.le_of_eq rfl) at_109 rfl (k' := 2) (n' := 7) rfl rfl (by decide) (by decide) ?_
          intro T301 v301 h301 X301 q301
          obtain ⟨y302, hy303, rfl, K301, E_b295, F_b295_key, F_b295_position, F_b295_mask⟩ := q301
          replace K := K.trans K301 (allS (Or.inr sz_b295) all0)
          replace E_b1 := E_b1.keep K301
          replace V_b1 := V_b1.keep K301 (ninS ne_b1_b295 nin0)
          show own_Go p e below (T301.setTop (mkF m 112 #[.val (.int i0), .val (.int i1), .val (.int i2), .val (.int i3), .val (.int i4), .val (.ref b1), .val (.int (0 : Int32)), .val (.int (1 : Int32)), .val (.int (1 : Int32)), .val (.int (1 : Int32)), .val (.ref b295), .val (.int y298), .unset, .unset, .unset] [(.int y302)])) _
          refine own_istore (pc' := 114) B X301 (Ls' := #[.val (.int i0), .val (.int i1), .val (.int i2), .val (.int i3), .val (.int i4), .val (.ref b1), .val (.int (0 : Int32)), .val (.int (1 : Int32)), .val (.int (1 : Int32)), .val (.int (1 : Int32)), .val (.ref b295), .val (.int y298), .val (.int y302), .unset, .unset]) at_112 rfl rfl ?_
          refine own_aload (pc' := 116) B X301 at_114 rfl rfl rfl ?_
          refine own_iload (pc' := 118) B X301 at_116 rfl rfl ?_
          refine own_callV (pc' := 121) B X301 (own_w hw 21 rfl) (own_w hw 22 rfl) (own_w hw 24 rfl) (own_w hw 23 rfl) (own_w hw 3 rfl) (own_w hw 25 rfl) E_b295 (by decide) [(.int (1 : Int32))] [] (rm_17 l Z a0 hw [] b295 b1 kb1 (y2) (y4) (y6) (y8) h301 n0 (Nat.le_trans Z0 K.1) E_b295 F_b295_key F_b295_position F_b295_mask g_b295 E_b1 V_b1 g_b1 (Ne.symm ne_b1_b295)) 0 (by decide) (by decide) rfl pd_2 rfl rfl (Nat.le_of_eq rfl) at_118 rfl (k' := 2) (n' := 7) rfl rfl (by decide) (by decide) ?_
          intro T304 v304 h304 X304 q304
          obtain ⟨rfl, K304, E_b295, F_b295_key, F_b295_position, F_b295_mask⟩ := q304
          replace K := K.trans K304 (allS (Or.inr sz_b295) all0)
          replace E_b1 := E_b1.keep K304
          replace V_b1 := V_b1.keep K304 (ninS ne_b1_b295 nin0)
          show own_Go p e below (T304.setTop (mkF m 121 #[.val (.int i0), .val (.int i1), .val (.int i2), .val (.int i3), .val (.int i4), .val (.ref b1), .val (.int (0 : Int32)), .val (.int (1 : Int32)), .val (.int (1 : Int32)), .val (.int (1 : Int32)), .val (.ref b295), .val (.int y298), .val (.int y302), .unset, .unset] [])) _
          refine own_aload (pc' := 123) B X304 at_121 rfl rfl rfl ?_
          refine own_callV (pc' := 126) B X304 (own_w hw 12 rfl) (own_w hw 13 rfl) (own_w hw 15 rfl) (own_w hw 14 rfl) (own_w hw 3 rfl) (own_w hw 16 rfl) E_b295 (by decide) [] [] (rm_18 l Z a0 hw [] b295 b1 kb1 (y2) (y4) (y6) (y8) h304 n0 (Nat.le_trans Z0 K.1) E_b295 F_b295_key F_b295_position F_b295_mask g_b295 E_b1 V_b1 g_b1 (Ne.symm ne_b1_b295)) 0 (by decide) (by decide) rfl pd_1 rfl rfl (Nat.le_of_eq rfl) at_123 rfl (k' := 2) (n' := 7) rfl rfl (by decide) (by decide) ?_
          intro T305 v305 h305 X305 q305
          obtain ⟨y306, y307, hy308, hy309, rfl, K305, E_b295, F_b295_key, F_b295_position, F_b295_mask⟩ := q305
          replace K := K.trans K305 (allS (Or.inr sz_b295) all0)
          replace E_b1 := E_b1.keep K305
          replace V_b1 := V_b1.keep K305 (ninS ne_b1_b295 nin0)
          show own_Go p e below (T305.setTop (mkF m 126 #[.val (.int i0), .val (.int i1), .val (.int i2), .val (.int i3), .val (.int i4), .val (.ref b1), .val (.int (0 : Int32)), .val (.int (1 : Int32)), .val (.int (1 : Int32)), .val (.int (1 : Int32)), .val (.ref b295), .val (.int y298), .val (.int y302), .unset, .unset] [(.int y307)])) _
          refine own_istore (pc' := 128) B X305 (Ls' := #[.val (.int i0), .val (.int i1), .val (.int i2), .val (.int i3), .val (.int i4), .val (.ref b1), .val (.int (0 : Int32)), .val (.int (1 : Int32)), .val (.int (1 : Int32)), .val (.int (1 : Int32)), .val (.ref b295), .val (.int y298), .val (.int y302), .val (.int y307), .unset]) at_126 rfl rfl ?_
          refine own_aload (pc' := 130) B X305 at_128 rfl rfl rfl ?_
          refine own_iload (pc' := 132) B X305 at_130 rfl rfl ?_
          refine own_callV (pc' := 135) B X305 (own_w hw 21 rfl) (own_w hw 22 rfl) (own_w hw 24 rfl) (own_w hw 23 rfl) (own_w hw 3 rfl) (own_w hw 25 rfl) E_b295 (by decide) [(.int (1 : Int32))] [] (rm_16 l Z a0 hw [] b295 b1 kb1 (y2) (y4) (y6) (y8) h305 n0 (Nat.le_trans Z0 K.1) E_b295 F_b295_key F_b295_position F_b295_mask g_b295 E_b1 V_b1 g_b1 (Ne.symm ne_b1_b295)) 0 (by decide) (by decide) rfl pd_2 rfl rfl (Nat.le_of_eq rfl) at_132 rfl (k' := 2) (n' := 7) rfl rfl (by decide) (by decide) ?_
          intro T310 v310 h310 X310 q310
          obtain ⟨rfl, K310, E_b295, F_b295_key, F_b295_position, F_b295_mask⟩ := q310
          replace K := K.trans K310 (allS (Or.inr sz_b295) all0)
          replace E_b1 := E_b1.keep K310
          replace V_b1 := V_b1.keep K310 (ninS ne_b1_b295 nin0)
          show own_Go p e below (T310.setTop (mkF m 135 #[.val (.int i0), .val (.int i1), .val (.int i2), .val (.int i3), .val (.int i4), .val (.ref b1), .val (.int (0 : Int32)), .val (.int (1 : Int32)), .val (.int (1 : Int32)), .val (.int (1 : Int32)), .val (.ref b295), .val (.int y298), .val (.int y302), .val (.int y307), .unset] [])) _
          refine own_aload (pc' := 137) B X310 at_135 rfl rfl rfl ?_
          refine own_iload (pc' := 139) B X310 at_137 rfl rfl ?_
          refine own_callV (pc' := 142) B X310 (own_w hw 21 rfl) (own_w hw 22 rfl) (own_w hw 24 rfl) (own_w hw 23 rfl) (own_w hw 3 rfl) (own_w hw 25 rfl) E_b295 (by decide) [(.int (1 : Int32))] [] (rm_16 l Z a0 hw [] b295 b1 kb1 (y2) (y4) (y6) (y8) h310 n0 (Nat.le_trans Z0 K.1) E_b295 F_b295_key F_b295_position F_b295_mask g_b295 E_b1 V_b1 g_b1 (Ne.symm ne_b1_b295)) 0 (by decide) (by decide) rfl pd_2 rfl rfl (Nat.le_of_eq rfl) at_139 rfl (k' := 2) (n' := 7) rfl rfl (by decide) (by decide) ?_
          intro T311 v311 h311 X311 q311
          obtain ⟨rfl, K311, E_b295, F_b295_key, F_b295_position, F_b295_mask⟩ := q311
          replace K := K.trans K311 (allS (Or.inr sz_b295) all0)
          replace E_b1 := E_b1.keep K311
          replace V_b1 := V_b1.keep K311 (ninS ne_b1_b295 nin0)
          show own_Go p e below (T311.setTop (mkF m 142 #[.val (.int i0), .val (.int i1), .val (.int i2), .val (.int i3), .val (.int i4), .val (.ref b1), .val (.int (0 : Int32)), .val (.int (1 : Int32)), .val (.int (1 : Int32)), .val (.int (1 : Int32)), .val (.ref b295), .val (.int y298), .val (.int y302), .val (.int y307), .unset] [])) _
          refine own_aload (pc' := 144) B X311 at_142 rfl rfl rfl ?_
          refine own_callV (pc' := 147) B X311 (own_w hw 12 rfl) (own_w hw 13 rfl) (own_w hw 15 rfl) (own_w hw 14 rfl) (own_w hw 3 rfl) (own_w hw 16 rfl) E_b295 (by decide) [] [] (rm_12 l Z a0 hw [] b295 b1 kb1 (y2) (y4) (y6) (y8) h311 n0 (Nat.le_trans Z0 K.1) E_b295 F_b295_key F_b295_position F_b295_mask g_b295 E_b1 V_b1 g_b1 (Ne.symm ne_b1_b295)) 0 (by decide) (by decide) rfl pd_1 rfl rfl (Nat.le_of_eq rfl) at_144 rfl (k' := 2) (n' := 7) rfl rfl (by decide) (by decide) ?_
          intro T312 v312 h312 X312 q312
          obtain ⟨y313, y314, hy315, hy316, rfl, K312, E_b295, F_b295_key, F_b295_position, F_b295_mask⟩ := q312
          replace K := K.trans K312 (allS (Or.inr sz_b295) all0)
          replace E_b1 := E_b1.keep K312
          replace V_b1 := V_b1.keep K312 (ninS ne_b1_b295 nin0)
          show own_Go p e below (T312.setTop (mkF m 147 #[.val (.int i0), .val (.int i1), .val (.int i2), .val (.int i3), .val (.int i4), .val (.ref b1), .val (.int (0 : Int32)), .val (.int (1 : Int32)), .val (.int (1 : Int32)), .val (.int (1 : Int32)), .val (.ref b295), .val (.int y298), .val (.int y302), .val (.int y307), .unset] [(.int y314)])) _
          refine own_istore (pc' := 149) B X312 (Ls' := #[.val (.int i0), .val (.int i1), .val (.int i2), .val (.int i3), .val (.int i4), .val (.ref b1), .val (.int (0 : Int32)), .val (.int (1 : Int32)), .val (.int (1 : Int32)), .val (.int (1 : Int32)), .val (.ref b295), .val (.int y298), .val (.int y302), .val (.int y307), .val (.int y314)]) at_147 rfl rfl ?_
          refine own_iload (pc' := 151) B X312 at_149 rfl rfl ?_
          refine own_iloadN (pc' := 152) B X312 at_151 rfl rfl ?_
          refine own_iconst (pc' := 153) B X312 (z := (0 : Int32)) at_152 rfl rfl ?_
          refine own_callS (pc' := 156) B X312 (own_w hw 26 rfl) (own_w hw 27 rfl) (own_w hw 28 rfl) (own_w hw 29 rfl) (by decide) [(.int i0), (.int (0 : Int32))] [(.int y298)] (rm_9 l Z a0 hw [] (i0) h312 n0 (Nat.le_trans Z0 K.1) ) 1 (by decide) (by decide) rfl pd_3 rfl rfl (Nat.le_of_eq rfl) at_153 rfl (k' := 2) (n' := 7) rfl rfl (by decide) (by decide) ?_
          intro T317 v317 h317 X317 q317
          obtain ⟨y318, hy319, rfl, rfl⟩ := q317
          show own_Go p e below (T317.setTop (mkF m 156 #[.val (.int i0), .val (.int i1), .val (.int i2), .val (.int i3), .val (.int i4), .val (.ref b1), .val (.int (0 : Int32)), .val (.int (1 : Int32)), .val (.int (1 : Int32)), .val (.int (1 : Int32)), .val (.ref b295), .val (.int y298), .val (.int y302), .val (.int y307), .val (.int y314)] [(.int y318), (.int y298)])) _
          have c320 : y298 = y318 := by
            have o0 := own_o_i2b hy2
            have o1 := own_o_mask hy299 8 (by decide) (by decide)
            have o2 := own_o_mask hy319 8 (by decide) (by decide)
            have o3 := rng32 i0
            have o4 := rng32 y2
            have o5 := rng32 y298
            have o6 := rng32 y318
            have o7 : (255 : Int32).toInt = 255 := by decide
            refine own_eqI ?_
            omega
          refine own_icmpNo (pc' := 159) B X317 at_156 (teq c320).2 rfl ?_
          refine own_iload (pc' := 161) B X317 at_159 rfl rfl ?_
          refine own_iloadN (pc' := 162) B X317 at_161 rfl rfl ?_
          refine own_iload (pc' := 164) B X317 at_162 rfl rfl ?_
          refine own_callS (pc' := 167) B X317 (own_w hw 26 rfl) (own_w hw 27 rfl) (own_w hw 28 rfl) (own_w hw 29 rfl) (by decide) [(.int i1), (.int (0 : Int32))] [(.int y302)] (rm_9 l Z a0 hw [] (i1) h312 n0 (Nat.le_trans Z0 K.1) ) 1 (by decide) (by decide) rfl pd_3 rfl rfl (Nat.le_of_eq rfl) at_164 rfl (k' := 2) (n' := 7) rfl rfl (by decide) (by decide) ?_
          intro T321 v321 h321 X321 q321
          obtain ⟨y322, hy323, rfl, rfl⟩ := q321
          show own_Go p e below (T321.setTop (mkF m 167 #[.val (.int i0), .val (.int i1), .val (.int i2), .val (.int i3), .val (.int i4), .val (.ref b1), .val (.int (0 : Int32)), .val (.int (1 : Int32)), .val (.int (1 : Int32)), .val (.int (1 : Int32)), .val (.ref b295), .val (.int y298), .val (.int y302), .val (.int y307), .val (.int y314)] [(.int y322), (.int y302)])) _
          have c324 : y302 = y322 := by
            have o0 := own_o_i2b hy4
            have o1 := own_o_mask hy303 8 (by decide) (by decide)
            have o2 := own_o_mask hy323 8 (by decide) (by decide)
            have o3 := rng32 i1
            have o4 := rng32 y302
            have o5 := rng32 y322
            have o6 := rng32 y4
            have o7 : (255 : Int32).toInt = 255 := by decide
            refine own_eqI ?_
            omega
          refine own_icmpNo (pc' := 170) B X321 at_167 (teq c324).2 rfl ?_
          refine own_iload (pc' := 172) B X321 at_170 rfl rfl ?_
          refine own_iloadN (pc' := 173) B X321 at_172 rfl rfl ?_
          refine own_iload (pc' := 175) B X321 at_173 rfl rfl ?_
          refine own_callS (pc' := 178) B X321 (own_w hw 26 rfl) (own_w hw 27 rfl) (own_w hw 28 rfl) (own_w hw 29 rfl) (by decide) [(.int i2), (.int (1 : Int32))] [(.int y307)] (rm_13 l Z a0 hw [] (i2) h312 n0 (Nat.le_trans Z0 K.1) ) 1 (by decide) (by decide) rfl pd_3 rfl rfl (Nat.le_of_eq rfl) at_175 rfl (k' := 2) (n' := 7) rfl rfl (by decide) (by decide) ?_
          intro T325 v325 h325 X325 q325
          obtain ⟨y326, y327, hy328, hy329, rfl, rfl⟩ := q325
          show own_Go p e below (T325.setTop (mkF m 178 #[.val (.int i0), .val (.int i1), .val (.int i2), .val (.int i3), .val (.int i4), .val (.ref b1), .val (.int (0 : Int32)), .val (.int (1 : Int32)), .val (.int (1 : Int32)), .val (.int (1 : Int32)), .val (.ref b295), .val (.int y298), .val (.int y302), .val (.int y307), .val (.int y314)] [(.int y327), (.int y307)])) _
          have c330 : y307 = y327 := by
            have o0 := own_o_i2b hy6
            have o1 := own_o_xor255 hy308
            have o2 := own_o_mask hy309 8 (by decide) (by decide)
            have o3 := own_o_mask hy328 8 (by decide) (by decide)
            have o4 := own_o_isub hy329
            have o5 := rng32 i2
            have o6 := rng32 y306
            have o7 := rng32 y307
            have o8 := rng32 y326
            have o9 := rng32 y327
            have o10 := rng32 y6
            have o11 : (255 : Int32).toInt = 255 := by decide
            refine own_eqI ?_
            omega
          refine own_icmpNo (pc' := 181) B X325 at_178 (teq c330).2 rfl ?_
          refine own_iload (pc' := 183) B X325 at_181 rfl rfl ?_
          refine own_iloadN (pc' := 184) B X325 at_183 rfl rfl ?_
          refine own_iload (pc' := 186) B X325 at_184 rfl rfl ?_
          refine own_callS (pc' := 189) B X325 (own_w hw 26 rfl) (own_w hw 27 rfl) (own_w hw 28 rfl) (own_w hw 29 rfl) (by decide) [(.int i3), (.int (1 : Int32))] [(.int y314)] (rm_13 l Z a0 hw [] (i3) h312 n0 (Nat.le_trans Z0 K.1) ) 1 (by decide) (by decide) rfl pd_3 rfl rfl (Nat.le_of_eq rfl) at_186 rfl (k' := 2) (n' := 7) rfl rfl (by decide) (by decide) ?_
          intro T331 v331 h331 X331 q331
          obtain ⟨y332, y333, hy334, hy335, rfl, rfl⟩ := q331
          show own_Go p e below (T331.setTop (mkF m 189 #[.val (.int i0), .val (.int i1), .val (.int i2), .val (.int i3), .val (.int i4), .val (.ref b1), .val (.int (0 : Int32)), .val (.int (1 : Int32)), .val (.int (1 : Int32)), .val (.int (1 : Int32)), .val (.ref b295), .val (.int y298), .val (.int y302), .val (.int y307), .val (.int y314)] [(.int y333), (.int y314)])) _
          have c336 : y314 = y333 := by
            have o0 := own_o_i2b hy8
            have o1 := own_o_xor255 hy315
            have o2 := own_o_mask hy316 8 (by decide) (by decide)
            have o3 := own_o_mask hy334 8 (by decide) (by decide)
            have o4 := own_o_isub hy335
            have o5 := rng32 i3
            have o6 := rng32 y313
            have o7 := rng32 y314
            have o8 := rng32 y332
            have o9 := rng32 y333
            have o10 := rng32 y8
            have o11 : (255 : Int32).toInt = 255 := by decide
            refine own_eqI ?_
            omega
          refine own_icmpNo (pc' := 192) B X331 at_189 (teq c336).2 rfl ?_
          refine own_aload (pc' := 194) B X331 at_192 rfl rfl rfl ?_
          refine own_callV (pc' := 197) B X331 (own_w hw 30 rfl) (own_w hw 31 rfl) (own_w hw 33 rfl) (own_w hw 32 rfl) (own_w hw 3 rfl) (own_w hw 34 rfl) E_b295 (by decide) [] [] (rm_14 l Z a0 hw [] b295 b1 kb1 (y2) (y4) (y6) (y8) h312 n0 (Nat.le_trans Z0 K.1) E_b295 F_b295_key F_b295_position F_b295_mask g_b295 E_b1 V_b1 g_b1 (Ne.symm ne_b1_b295)) 0 (by decide) (by decide) rfl pd_1 rfl rfl (Nat.le_of_eq rfl) at_194 rfl (k' := 2) (n' := 7) rfl rfl (by decide) (by decide) ?_
          intro T337 v337 h337 X337 q337
          obtain ⟨rfl, rfl⟩ := q337
          show own_Go p e below (T337.setTop (mkF m 197 #[.val (.int i0), .val (.int i1), .val (.int i2), .val (.int i3), .val (.int i4), .val (.ref b1), .val (.int (0 : Int32)), .val (.int (1 : Int32)), .val (.int (1 : Int32)), .val (.int (1 : Int32)), .val (.ref b295), .val (.int y298), .val (.int y302), .val (.int y307), .val (.int y314)] [(.int (4 : Int32))])) _
          refine own_iconst (pc' := 198) B X337 (z := (4 : Int32)) at_197 rfl rfl ?_
          refine own_icmpNo (pc' := 201) B X337 at_198 (teq (by decide : (4 : Int32) = (4 : Int32))).2 rfl ?_
          refine own_iconst (pc' := 202) B X337 (z := (1 : Int32)) at_201 rfl rfl ?_
          refine own_goto (pc' := 206) B X337 at_202 (by decide) rfl ?_
          exact own_retN B X337 (t := .boolean) (z' := (1 : Int32)) (by simp) (by decide) at_206 (by decide) (by decide) rfl
  · refine own_ifNo (pc' := 32) B X9 at_29 ((if0 _ _).trans (feq c11).1) rfl ?_
    refine own_iconst (pc' := 33) B X9 (z := (1 : Int32)) at_32 rfl rfl ?_
    refine own_goto (pc' := 37) B X9 at_33 (by decide) rfl ?_
    refine own_istore (pc' := 39) B X9 (Ls' := #[.val (.int i0), .val (.int i1), .val (.int i2), .val (.int i3), .val (.int i4), .val (.ref b1), .val (.int (1 : Int32)), .unset, .unset, .unset, .unset, .unset, .unset, .unset, .unset]) at_37 rfl rfl ?_
    refine own_iload (pc' := 41) B X9 at_39 rfl rfl ?_
    refine own_iconst (pc' := 42) B X9 (z := (2 : Int32)) at_41 rfl rfl ?_
    obtain ⟨y338, hy338⟩ : ∃ z : Int32, i4 &&& (2 : Int32) = z := ⟨_, rfl⟩
    refine own_iand (pc' := 43) B X9 at_42 rfl hy338 ?_
    by_cases c339 : y338 = (0 : Int32)
    · refine own_ifYes (pc' := 50) B X9 at_43 ((if0 _ _).trans (teq c339).1) (by decide) rfl ?_
      refine own_iconst (pc' := 51) B X9 (z := (0 : Int32)) at_50 rfl rfl ?_
      refine own_istore (pc' := 53) B X9 (Ls' := #[.val (.int i0), .val (.int i1), .val (.int i2), .val (.int i3), .val (.int i4), .val (.ref b1), .val (.int (1 : Int32)), .val (.int (0 : Int32)), .unset, .unset, .unset, .unset, .unset, .unset, .unset]) at_51 rfl rfl ?_
      refine own_iload (pc' := 55) B X9 at_53 rfl rfl ?_
      refine own_iconst (pc' := 56) B X9 (z := (4 : Int32)) at_55 rfl rfl ?_
      obtain ⟨y340, hy340⟩ : ∃ z : Int32, i4 &&& (4 : Int32) = z := ⟨_, rfl⟩
      refine own_iand (pc' := 57) B X9 at_56 rfl hy340 ?_
      by_cases c341 : y340 = (0 : Int32)
      · refine own_ifYes (pc' := 64) B X9 at_57 ((if0 _ _).trans (teq c341).1) (by decide) rfl ?_
        refine own_iconst (pc' := 65) B X9 (z := (0 : Int32)) at_64 rfl rfl ?_
        refine own_istore (pc' := 67) B X9 (Ls' := #[.val (.int i0), .val (.int i1), .val (.int i2), .val (.int i3), .val (.int i4), .val (.ref b1), .val (.int (1 : Int32)), .val (.int (0 : Int32)), .val (.int (0 : Int32)), .unset, .unset, .unset, .unset, .unset, .unset]) at_65 rfl rfl ?_
        refine own_iload (pc' := 69) B X9 at_67 rfl rfl ?_
        refine own_bipush (pc' := 71) B X9 (z := (8 : Int32)) at_69 rfl (by decide) ?_
        obtain ⟨y342, hy342⟩ : ∃ z : Int32, i4 &&& (8 : Int32) = z := ⟨_, rfl⟩
        refine own_iand (pc' := 72) B X9 at_71 rfl hy342 ?_
        by_cases c343 : y342 = (0 : Int32)
        · refine own_ifYes (pc' := 79) B X9 at_72 ((if0 _ _).trans (teq c343).1) (by decide) rfl ?_
          refine own_iconst (pc' := 80) B X9 (z := (0 : Int32)) at_79 rfl rfl ?_
          refine own_istore (pc' := 82) B X9 (Ls' := #[.val (.int i0), .val (.int i1), .val (.int i2), .val (.int i3), .val (.int i4), .val (.ref b1), .val (.int (1 : Int32)), .val (.int (0 : Int32)), .val (.int (0 : Int32)), .val (.int (0 : Int32)), .unset, .unset, .unset, .unset, .unset]) at_80 rfl rfl ?_
          refine own_new (pc' := 85) B X9 (own_w hw 1 rfl) (own_w hw 2 rfl) (own_w hw 3 rfl) at_82 rfl (k' := 2) (n' := 7) rfl rfl (by decide) (by decide) ?_
          intro T344 h344 b344 X344 g344 E344 E_b344 D344
          have ne_b1_b344 : b1 ≠ b344 := own_ne E_b1.lt g344
          have sz_b344 : h0.size ≤ b344 := own_sz K g344
          have g_b344 : n0 ≤ b344 := Nat.le_trans Z0 sz_b344
          replace K := K.ext E344
          replace E_b1 := E_b1.ext E344
          replace V_b1 := V_b1.ext E344
          have F_b344_key : Fld Z h344 b344 "com/example/keyer/keyer/KeyReader" "key" "[B" .null := D344 (Or.inr (own_w hw 11 rfl)) (ty := (.array .byte)) (by decide)
          have F_b344_position : Fld Z h344 b344 "com/example/keyer/keyer/KeyReader" "position" "I" (.int (0 : Int32)) := D344 (Or.inl (own_w hw 18 rfl)) (ty := .int) (by decide)
          have F_b344_mask : Fld Z h344 b344 "com/example/keyer/keyer/KeyReader" "mask" "I" (.int (0 : Int32)) := D344 (Or.inl (own_w hw 20 rfl)) (ty := .int) (by decide)
          clear D344
          refine own_dup (pc' := 86) B X344 at_85 rfl rfl ?_
          refine own_aload (pc' := 88) B X344 at_86 rfl rfl rfl ?_
          refine own_callI (pc' := 91) B X344 rfl rfl (own_w hw 4 rfl) (own_w hw 5 rfl) (own_w hw 3 rfl) (own_w hw 6 rfl) (by decide) [(.ref b1)] [(.ref b344)] (rm_1 l Z a0 hw [] b344 b1 kb1 (y2) (y4) (y6) (y8) h344 n0 (Nat.le_trans Z0 K.1) E_b344 F_b344_key F_b344_position F_b344_mask g_b344 E_b1 V_b1 g_b1 (Ne.symm ne_b1_b344)) 1 (by decide) (by decide) rfl pd_0 rfl rfl (Nat.le_of_eq rfl) at_88 rfl (k' := 2) (n' := 7) rfl rfl (by decide) (by decide) ?_
          intro T345 v345 h345 X345 q345
          obtain ⟨rfl, K345, E_b344, F_b344_key, F_b344_position, F_b344_mask⟩ := q345
          replace K := K.trans K345 (allS (Or.inr sz_b344) all0)
          replace E_b1 := E_b1.keep K345
          replace V_b1 := V_b1.keep K345 (ninS ne_b1_b344 nin0)
          show own_Go p e below (T345.setTop (mkF m 91 #[.val (.int i0), .val (.int i1), .val (.int i2), .val (.int i3), .val (.int i4), .val (.ref b1), .val (.int (1 : Int32)), .val (.int (0 : Int32)), .val (.int (0 : Int32)), .val (.int (0 : Int32)), .unset, .unset, .unset, .unset, .unset] [(.ref b344)])) _
          refine own_astore (pc' := 93) B X345 (Ls' := #[.val (.int i0), .val (.int i1), .val (.int i2), .val (.int i3), .val (.int i4), .val (.ref b1), .val (.int (1 : Int32)), .val (.int (0 : Int32)), .val (.int (0 : Int32)), .val (.int (0 : Int32)), .val (.ref b344), .unset, .unset, .unset, .unset]) at_91 rfl rfl rfl ?_
          refine own_aload (pc' := 95) B X345 at_93 rfl rfl rfl ?_
          refine own_callV (pc' := 98) B X345 (own_w hw 12 rfl) (own_w hw 13 rfl) (own_w hw 15 rfl) (own_w hw 14 rfl) (own_w hw 3 rfl) (own_w hw 16 rfl) E_b344 (by decide) [] [] (rm_2 l Z a0 hw [] b344 b1 kb1 (y2) (y4) (y6) (y8) h345 n0 (Nat.le_trans Z0 K.1) E_b344 F_b344_key F_b344_position F_b344_mask g_b344 E_b1 V_b1 g_b1 (Ne.symm ne_b1_b344)) 0 (by decide) (by decide) rfl pd_1 rfl rfl (Nat.le_of_eq rfl) at_95 rfl (k' := 2) (n' := 7) rfl rfl (by decide) (by decide) ?_
          intro T346 v346 h346 X346 q346
          obtain ⟨y347, hy348, rfl, K346, E_b344, F_b344_key, F_b344_position, F_b344_mask⟩ := q346
          replace K := K.trans K346 (allS (Or.inr sz_b344) all0)
          replace E_b1 := E_b1.keep K346
          replace V_b1 := V_b1.keep K346 (ninS ne_b1_b344 nin0)
          show own_Go p e below (T346.setTop (mkF m 98 #[.val (.int i0), .val (.int i1), .val (.int i2), .val (.int i3), .val (.int i4), .val (.ref b1), .val (.int (1 : Int32)), .val (.int (0 : Int32)), .val (.int (0 : Int32)), .val (.int (0 : Int32)), .val (.ref b344), .unset, .unset, .unset, .unset] [(.int y347)])) _
          refine own_istore (pc' := 100) B X346 (Ls' := #[.val (.int i0), .val (.int i1), .val (.int i2), .val (.int i3), .val (.int i4), .val (.ref b1), .val (.int (1 : Int32)), .val (.int (0 : Int32)), .val (.int (0 : Int32)), .val (.int (0 : Int32)), .val (.ref b344), .val (.int y347), .unset, .unset, .unset]) at_98 rfl rfl ?_
          refine own_aload (pc' := 102) B X346 at_100 rfl rfl rfl ?_
          refine own_iload (pc' := 104) B X346 at_102 rfl rfl ?_
          refine own_callV (pc' := 107) B X346 (own_w hw 21 rfl) (own_w hw 22 rfl) (own_w hw 24 rfl) (own_w hw 23 rfl) (own_w hw 3 rfl) (own_w hw 25 rfl) E_b344 (by decide) [(.int (1 : Int32))] [] (rm_19 l Z a0 hw [] b344 b1 kb1 (y2) (y4) (y6) (y8) h346 n0 (Nat.le_trans Z0 K.1) E_b344 F_b344_key F_b344_position F_b344_mask g_b344 E_b1 V_b1 g_b1 (Ne.symm ne_b1_b344)) 0 (by decide) (by decide) rfl pd_2 rfl rfl (Nat.le_of_eq rfl) at_104 rfl (k' := 2) (n' := 7) rfl rfl (by decide) (by decide) ?_
          intro T349 v349 h349 X349 q349
          obtain ⟨rfl, K349, E_b344, F_b344_key, F_b344_position, F_b344_mask⟩ := q349
          replace K := K.trans K349 (allS (Or.inr sz_b344) all0)
          replace E_b1 := E_b1.keep K349
          replace V_b1 := V_b1.keep K349 (ninS ne_b1_b344 nin0)
          show own_Go p e below (T349.setTop (mkF m 107 #[.val (.int i0), .val (.int i1), .val (.int i2), .val (.int i3), .val (.int i4), .val (.ref b1), .val (.int (1 : Int32)), .val (.int (0 : Int32)), .val (.int (0 : Int32)), .val (.int (0 : Int32)), .val (.ref b344), .val (.int y347), .unset, .unset, .unset] [])) _
          refine own_aload (pc' := 109) B X349 at_107 rfl rfl rfl ?_
          refine own_callV (pc' := 112) B X349 (own_w hw 12 rfl) (own_w hw 13 rfl) (own_w hw 15 rfl) (own_w hw 14 rfl) (own_w hw 3 rfl) (own_w hw 16 rfl) E_b344 (by decide) [] [] (rm_20 l Z a0 hw [] b344 b1 kb1 (y2) (y4) (y6) (y8) h349 n0 (Nat.le_trans Z0 K.1) E_b344 F_b344_key F_b344_position F_b344_mask g_b344 E_b1 V_b1 g_b1 (Ne.symm ne_b1_b344)) 0 (by decide) (by decide) rfl pd_1 rfl rfl (Nat.le_of_eq rfl) at_109 rfl (k' := 2) (n' := 7) rfl rfl (by decide) (by decide) ?_
          intro T350 v350 h350 X350 q350
          obtain ⟨y351, y352, hy353, hy354, rfl, K350, E_b344, F_b344_key, F_b344_position, F_b344_mask⟩ := q350
          replace K := K.trans K350 (allS (Or.inr sz_b344) all0)
          replace E_b1 := E_b1.keep K350
          replace V_b1 := V_b1.keep K350 (ninS ne_b1_b344 nin0)
          show own_Go p e below (T350.setTop (mkF m 112 #[.val (.int i0), .val (.int i1), .val (.int i2), .val (.int i3), .val (.int i4), .val (.ref b1), .val (.int (1 : Int32)), .val (.int (0 : Int32)), .val (.int (0 : Int32)), .val (.int (0 : Int32)), .val (.ref b344), .val (.int y347), .unset, .unset, .unset] [(.int y352)])) _
          refine own_istore (pc' := 114) B X350 (Ls' := #[.val (.int i0), .val (.int i1), .val (.int i2), .val (.int i3), .val (.int i4), .val (.ref b1), .val (.int (1 : Int32)), .val (.int (0 : Int32)), .val (.int (0 : Int32)), .val (.int (0 : Int32)), .val (.ref b344), .val (.int y347), .val (.int y352), .unset, .unset]) at_112 rfl rfl ?_
          refine own_aload (pc' := 116) B X350 at_114 rfl rfl rfl ?_
          refine own_iload (pc' := 118) B X350 at_116 rfl rfl ?_
          refine own_callV (pc' := 121) B X350 (own_w hw 21 rfl) (own_w hw 22 rfl) (own_w hw 24 rfl) (own_w hw 23 rfl) (own_w hw 3 rfl) (own_w hw 25 rfl) E_b344 (by decide) [(.int (0 : Int32))] [] (rm_21 l Z a0 hw [] b344 b1 kb1 (y2) (y4) (y6) (y8) h350 n0 (Nat.le_trans Z0 K.1) E_b344 F_b344_key F_b344_position F_b344_mask g_b344 E_b1 V_b1 g_b1 (Ne.symm ne_b1_b344)) 0 (by decide) (by decide) rfl pd_2 rfl rfl (Nat.le_of_eq rfl) at_118 rfl (k' := 2) (n' := 7) rfl rfl (by decide) (by decide) ?_
          intro T355 v355 h355 X355 q355
          obtain ⟨rfl, K355, E_b344, F_b344_key, F_b344_position, F_b344_mask⟩ := q355
          replace K := K.trans K355 (allS (Or.inr sz_b344) all0)
          replace E_b1 := E_b1.keep K355
          replace V_b1 := V_b1.keep K355 (ninS ne_b1_b344 nin0)
          show own_Go p e below (T355.setTop (mkF m 121 #[.val (.int i0), .val (.int i1), .val (.int i2), .val (.int i3), .val (.int i4), .val (.ref b1), .val (.int (1 : Int32)), .val (.int (0 : Int32)), .val (.int (0 : Int32)), .val (.int (0 : Int32)), .val (.ref b344), .val (.int y347), .val (.int y352), .unset, .unset] [])) _
          refine own_aload (pc' := 123) B X355 at_121 rfl rfl rfl ?_
          refine own_callV (pc' := 126) B X355 (own_w hw 12 rfl) (own_w hw 13 rfl) (own_w hw 15 rfl) (own_w hw 14 rfl) (own_w hw 3 rfl) (own_w hw 16 rfl) E_b344 (by decide) [] [] (rm_6 l Z a0 hw [] b344 b1 kb1 (y2) (y4) (y6) (y8) h355 n0 (Nat.le_trans Z0 K.1) E_b344 F_b344_key F_b344_position F_b344_mask g_b344 E_b1 V_b1 g_b1 (Ne.symm ne_b1_b344)) 0 (by decide) (by decide) rfl pd_1 rfl rfl (Nat.le_of_eq rfl) at_123 rfl (k' := 2) (n' := 7) rfl rfl (by decide) (by decide) ?_
          intro T356 v356 h356 X356 q356
          obtain ⟨y357, hy358, rfl, K356, E_b344, F_b344_key, F_b344_position, F_b344_mask⟩ := q356
          replace K := K.trans K356 (allS (Or.inr sz_b344) all0)
          replace E_b1 := E_b1.keep K356
          replace V_b1 := V_b1.keep K356 (ninS ne_b1_b344 nin0)
          show own_Go p e below (T356.setTop (mkF m 126 #[.val (.int i0), .val (.int i1), .val (.int i2), .val (.int i3), .val (.int i4), .val (.ref b1), .val (.int (1 : Int32)), .val (.int (0 : Int32)), .val (.int (0 : Int32)), .val (.int (0 : Int32)), .val (.ref b344), .val (.int y347), .val (.int y352), .unset, .unset] [(.int y357)])) _
          refine own_istore (pc' := 128) B X356 (Ls' := #[.val (.int i0), .val (.int i1), .val (.int i2), .val (.int i3), .val (.int i4), .val (.ref b1), .val (.int (1 : Int32)), .val (.int (0 : Int32)), .val (.int (0 : Int32)), .val (.int (0 : Int32)), .val (.ref b344), .val (.int y347), .val (.int y352), .val (.int y357), .unset]) at_126 rfl rfl ?_
          refine own_aload (pc' := 130) B X356 at_128 rfl rfl rfl ?_
          refine own_iload (pc' := 132) B X356 at_130 rfl rfl ?_
          refine own_callV (pc' := 135) B X356 (own_w hw 21 rfl) (own_w hw 22 rfl) (own_w hw 24 rfl) (own_w hw 23 rfl) (own_w hw 3 rfl) (own_w hw 25 rfl) E_b344 (by decide) [(.int (0 : Int32))] [] (rm_7 l Z a0 hw [] b344 b1 kb1 (y2) (y4) (y6) (y8) h356 n0 (Nat.le_trans Z0 K.1) E_b344 F_b344_key F_b344_position F_b344_mask g_b344 E_b1 V_b1 g_b1 (Ne.symm ne_b1_b344)) 0 (by decide) (by decide) rfl pd_2 rfl rfl (Nat.le_of_eq rfl) at_132 rfl (k' := 2) (n' := 7) rfl rfl (by decide) (by decide) ?_
          intro T359 v359 h359 X359 q359
          obtain ⟨rfl, K359, E_b344, F_b344_key, F_b344_position, F_b344_mask⟩ := q359
          replace K := K.trans K359 (allS (Or.inr sz_b344) all0)
          replace E_b1 := E_b1.keep K359
          replace V_b1 := V_b1.keep K359 (ninS ne_b1_b344 nin0)
          show own_Go p e below (T359.setTop (mkF m 135 #[.val (.int i0), .val (.int i1), .val (.int i2), .val (.int i3), .val (.int i4), .val (.ref b1), .val (.int (1 : Int32)), .val (.int (0 : Int32)), .val (.int (0 : Int32)), .val (.int (0 : Int32)), .val (.ref b344), .val (.int y347), .val (.int y352), .val (.int y357), .unset] [])) _
          refine own_aload (pc' := 137) B X359 at_135 rfl rfl rfl ?_
          refine own_iload (pc' := 139) B X359 at_137 rfl rfl ?_
          refine own_callV (pc' := 142) B X359 (own_w hw 21 rfl) (own_w hw 22 rfl) (own_w hw 24 rfl) (own_w hw 23 rfl) (own_w hw 3 rfl) (own_w hw 25 rfl) E_b344 (by decide) [(.int (0 : Int32))] [] (rm_7 l Z a0 hw [] b344 b1 kb1 (y2) (y4) (y6) (y8) h359 n0 (Nat.le_trans Z0 K.1) E_b344 F_b344_key F_b344_position F_b344_mask g_b344 E_b1 V_b1 g_b1 (Ne.symm ne_b1_b344)) 0 (by decide) (by decide) rfl pd_2 rfl rfl (Nat.le_of_eq rfl) at_139 rfl (k' := 2) (n' := 7) rfl rfl (by decide) (by decide) ?_
          intro T360 v360 h360 X360 q360
          obtain ⟨rfl, K360, E_b344, F_b344_key, F_b344_position, F_b344_mask⟩ := q360
          replace K := K.trans K360 (allS (Or.inr sz_b344) all0)
          replace E_b1 := E_b1.keep K360
          replace V_b1 := V_b1.keep K360 (ninS ne_b1_b344 nin0)
          show own_Go p e below (T360.setTop (mkF m 142 #[.val (.int i0), .val (.int i1), .val (.int i2), .val (.int i3), .val (.int i4), .val (.ref b1), .val (.int (1 : Int32)), .val (.int (0 : Int32)), .val (.int (0 : Int32)), .val (.int (0 : Int32)), .val (.ref b344), .val (.int y347), .val (.int y352), .val (.int y357), .unset] [])) _
          refine own_aload (pc' := 144) B X360 at_142 rfl rfl rfl ?_
          refine own_callV (pc' := 147) B X360 (own_w hw 12 rfl) (own_w hw 13 rfl) (own_w hw 15 rfl) (own_w hw 14 rfl) (own_w hw 3 rfl) (own_w hw 16 rfl) E_b344 (by decide) [] [] (rm_8 l Z a0 hw [] b344 b1 kb1 (y2) (y4) (y6) (y8) h360 n0 (Nat.le_trans Z0 K.1) E_b344 F_b344_key F_b344_position F_b344_mask g_b344 E_b1 V_b1 g_b1 (Ne.symm ne_b1_b344)) 0 (by decide) (by decide) rfl pd_1 rfl rfl (Nat.le_of_eq rfl) at_144 rfl (k' := 2) (n' := 7) rfl rfl (by decide) (by decide) ?_
          intro T361 v361 h361 X361 q361
          obtain ⟨y362, hy363, rfl, K361, E_b344, F_b344_key, F_b344_position, F_b344_mask⟩ := q361
          replace K := K.trans K361 (allS (Or.inr sz_b344) all0)
          replace E_b1 := E_b1.keep K361
          replace V_b1 := V_b1.keep K361 (ninS ne_b1_b344 nin0)
          show own_Go p e below (T361.setTop (mkF m 147 #[.val (.int i0), .val (.int i1), .val (.int i2), .val (.int i3), .val (.int i4), .val (.ref b1), .val (.int (1 : Int32)), .val (.int (0 : Int32)), .val (.int (0 : Int32)), .val (.int (0 : Int32)), .val (.ref b344), .val (.int y347), .val (.int y352), .val (.int y357), .unset] [(.int y362)])) _
          refine own_istore (pc' := 149) B X361 (Ls' := #[.val (.int i0), .val (.int i1), .val (.int i2), .val (.int i3), .val (.int i4), .val (.ref b1), .val (.int (1 : Int32)), .val (.int (0 : Int32)), .val (.int (0 : Int32)), .val (.int (0 : Int32)), .val (.ref b344), .val (.int y347), .val (.int y352), .val (.int y357), .val (.int y362)]) at_147 rfl rfl ?_
          refine own_iload (pc' := 151) B X361 at_149 rfl rfl ?_
          refine own_iloadN (pc' := 152) B X361 at_151 rfl rfl ?_
          refine own_iconst (pc' := 153) B X361 (z := (0 : Int32)) at_152 rfl rfl ?_
          refine own_callS (pc' := 156) B X361 (own_w hw 26 rfl) (own_w hw 27 rfl) (own_w hw 28 rfl) (own_w hw 29 rfl) (by decide) [(.int i0), (.int (0 : Int32))] [(.int y347)] (rm_9 l Z a0 hw [] (i0) h361 n0 (Nat.le_trans Z0 K.1) ) 1 (by decide) (by decide) rfl pd_3 rfl rfl (Nat.le_of_eq rfl) at_153 rfl (k' := 2) (n' := 7) rfl rfl (by decide) (by decide) ?_
          intro T364 v364 h364 X364 q364
          obtain ⟨y365, hy366, rfl, rfl⟩ := q364
          show own_Go p e below (T364.setTop (mkF m 156 #[.val (.int i0), .val (.int i1), .val (.int i2), .val (.int i3), .val (.int i4), .val (.ref b1), .val (.int (1 : Int32)), .val (.int (0 : Int32)), .val (.int (0 : Int32)), .val (.int (0 : Int32)), .val (.ref b344), .val (.int y347), .val (.int y352), .val (.int y357), .val (.int y362)] [(.int y365), (.int y347)])) _
          have c367 : y347 = y365 := by
            have o0 := own_o_i2b hy2
            have o1 := own_o_mask hy348 8 (by decide) (by decide)
            have o2 := own_o_mask hy366 8 (by decide) (by decide)
            have o3 := rng32 i0
            have o4 := rng32 y2
            have o5 := rng32 y347
            have o6 := rng32 y365
            have o7 : (255 : Int32).toInt = 255 := by decide
            refine own_eqI ?_
            omega
          refine own_icmpNo (pc' := 159) B X364 at_156 (teq c367).2 rfl ?_
          refine own_iload (pc' := 161) B X364 at_159 rfl rfl ?_
          refine own_iloadN (pc' := 162) B X364 at_161 rfl rfl ?_
          refine own_iload (pc' := 164) B X364 at_162 rfl rfl ?_
          refine own_callS (pc' := 167) B X364 (own_w hw 26 rfl) (own_w hw 27 rfl) (own_w hw 28 rfl) (own_w hw 29 rfl) (by decide) [(.int i1), (.int (1 : Int32))] [(.int y352)] (rm_13 l Z a0 hw [] (i1) h361 n0 (Nat.le_trans Z0 K.1) ) 1 (by decide) (by decide) rfl pd_3 rfl rfl (Nat.le_of_eq rfl) at_164 rfl (k' := 2) (n' := 7) rfl rfl (by decide) (by decide) ?_
          intro T368 v368 h368 X368 q368
          obtain ⟨y369, y370, hy371, hy372, rfl, rfl⟩ := q368
          show own_Go p e below (T368.setTop (mkF m 167 #[.val (.int i0), .val (.int i1), .val (.int i2), .val (.int i3), .val (.int i4), .val (.ref b1), .val (.int (1 : Int32)), .val (.int (0 : Int32)), .val (.int (0 : Int32)), .val (.int (0 : Int32)), .val (.ref b344), .val (.int y347), .val (.int y352), .val (.int y357), .val (.int y362)] [(.int y370), (.int y352)])) _
          have c373 : y352 = y370 := by
            have o0 := own_o_i2b hy4
            have o1 := own_o_xor255 hy353
            have o2 := own_o_mask hy354 8 (by decide) (by decide)
            have o3 := own_o_mask hy371 8 (by decide) (by decide)
            have o4 := own_o_isub hy372
            have o5 := rng32 i1
            have o6 := rng32 y351
            have o7 := rng32 y352
            have o8 := rng32 y369
            have o9 := rng32 y370
            have o10 := rng32 y4
            have o11 : (255 : Int32).toInt = 255 := by decide
            refine own_eqI ?_
            omega
          refine own_icmpNo (pc' := 170) B X368 at_167 (teq c373).2 rfl ?_
          refine own_iload (pc' := 172) B X368 at_170 rfl rfl ?_
          refine own_iloadN (pc' := 173) B X368 at_172 rfl rfl ?_
          refine own_iload (pc' := 175) B X368 at_173 rfl rfl ?_
          refine own_callS (pc' := 178) B X368 (own_w hw 26 rfl) (own_w hw 27 rfl) (own_w hw 28 rfl) (own_w hw 29 rfl) (by decide) [(.int i2), (.int (0 : Int32))] [(.int y357)] (rm_9 l Z a0 hw [] (i2) h361 n0 (Nat.le_trans Z0 K.1) ) 1 (by decide) (by decide) rfl pd_3 rfl rfl (Nat.le_of_eq rfl) at_175 rfl (k' := 2) (n' := 7) rfl rfl (by decide) (by decide) ?_
          intro T374 v374 h374 X374 q374
          obtain ⟨y375, hy376, rfl, rfl⟩ := q374
          show own_Go p e below (T374.setTop (mkF m 178 #[.val (.int i0), .val (.int i1), .val (.int i2), .val (.int i3), .val (.int i4), .val (.ref b1), .val (.int (1 : Int32)), .val (.int (0 : Int32)), .val (.int (0 : Int32)), .val (.int (0 : Int32)), .val (.ref b344), .val (.int y347), .val (.int y352), .val (.int y357), .val (.int y362)] [(.int y375), (.int y357)])) _
          have c377 : y357 = y375 := by
            have o0 := own_o_i2b hy6
            have o1 := own_o_mask hy358 8 (by decide) (by decide)
            have o2 := own_o_mask hy376 8 (by decide) (by decide)
            have o3 := rng32 i2
            have o4 := rng32 y357
            have o5 := rng32 y375
            have o6 := rng32 y6
            have o7 : (255 : Int32).toInt = 255 := by decide
            refine own_eqI ?_
            omega
          refine own_icmpNo (pc' := 181) B X374 at_178 (teq c377).2 rfl ?_
          refine own_iload (pc' := 183) B X374 at_181 rfl rfl ?_
          refine own_iloadN (pc' := 184) B X374 at_183 rfl rfl ?_
          refine own_iload (pc' := 186) B X374 at_184 rfl rfl ?_
          refine own_callS (pc' := 189) B X374 (own_w hw 26 rfl) (own_w hw 27 rfl) (own_w hw 28 rfl) (own_w hw 29 rfl) (by decide) [(.int i3), (.int (0 : Int32))] [(.int y362)] (rm_9 l Z a0 hw [] (i3) h361 n0 (Nat.le_trans Z0 K.1) ) 1 (by decide) (by decide) rfl pd_3 rfl rfl (Nat.le_of_eq rfl) at_186 rfl (k' := 2) (n' := 7) rfl rfl (by decide) (by decide) ?_
          intro T378 v378 h378 X378 q378
          obtain ⟨y379, hy380, rfl, rfl⟩ := q378
          show own_Go p e below (T378.setTop (mkF m 189 #[.val (.int i0), .val (.int i1), .val (.int i2), .val (.int i3), .val (.int i4), .val (.ref b1), .val (.int (1 : Int32)), .val (.int (0 : Int32)), .val (.int (0 : Int32)), .val (.int (0 : Int32)), .val (.ref b344), .val (.int y347), .val (.int y352), .val (.int y357), .val (.int y362)] [(.int y379), (.int y362)])) _
          have c381 : y362 = y379 := by
            have o0 := own_o_i2b hy8
            have o1 := own_o_mask hy363 8 (by decide) (by decide)
            have o2 := own_o_mask hy380 8 (by decide) (by decide)
            have o3 := rng32 i3
            have o4 := rng32 y362
            have o5 := rng32 y379
            have o6 := rng32 y8
            have o7 : (255 : Int32).toInt = 255 := by decide
            refine own_eqI ?_
            omega
          refine own_icmpNo (pc' := 192) B X378 at_189 (teq c381).2 rfl ?_
          refine own_aload (pc' := 194) B X378 at_192 rfl rfl rfl ?_
          refine own_callV (pc' := 197) B X378 (own_w hw 30 rfl) (own_w hw 31 rfl) (own_w hw 33 rfl) (own_w hw 32 rfl) (own_w hw 3 rfl) (own_w hw 34 rfl) E_b344 (by decide) [] [] (rm_10 l Z a0 hw [] b344 b1 kb1 (y2) (y4) (y6) (y8) h361 n0 (Nat.le_trans Z0 K.1) E_b344 F_b344_key F_b344_position F_b344_mask g_b344 E_b1 V_b1 g_b1 (Ne.symm ne_b1_b344)) 0 (by decide) (by decide) rfl pd_1 rfl rfl (Nat.le_of_eq rfl) at_194 rfl (k' := 2) (n' := 7) rfl rfl (by decide) (by decide) ?_
          intro T382 v382 h382 X382 q382
          obtain ⟨rfl, rfl⟩ := q382
          show own_Go p e below (T382.setTop (mkF m 197 #[.val (.int i0), .val (.int i1), .val (.int i2), .val (.int i3), .val (.int i4), .val (.ref b1), .val (.int (1 : Int32)), .val (.int (0 : Int32)), .val (.int (0 : Int32)), .val (.int (0 : Int32)), .val (.ref b344), .val (.int y347), .val (.int y352), .val (.int y357), .val (.int y362)] [(.int (4 : Int32))])) _
          refine own_iconst (pc' := 198) B X382 (z := (4 : Int32)) at_197 rfl rfl ?_
          refine own_icmpNo (pc' := 201) B X382 at_198 (teq (by decide : (4 : Int32) = (4 : Int32))).2 rfl ?_
          refine own_iconst (pc' := 202) B X382 (z := (1 : Int32)) at_201 rfl rfl ?_
          refine own_goto (pc' := 206) B X382 at_202 (by decide) rfl ?_
          exact own_retN B X382 (t := .boolean) (z' := (1 : Int32)) (by simp) (by decide) at_206 (by decide) (by decide) rfl
        · refine own_ifNo (pc' := 75) B X9 at_72 ((if0 _ _).trans (feq c343).1) rfl ?_
          refine own_iconst (pc' := 76) B X9 (z := (1 : Int32)) at_75 rfl rfl ?_
          refine own_goto (pc' := 80) B X9 at_76 (by decide) rfl ?_
          refine own_istore (pc' := 82) B X9 (Ls' := #[.val (.int i0), .val (.int i1), .val (.int i2), .val (.int i3), .val (.int i4), .val (.ref b1), .val (.int (1 : Int32)), .val (.int (0 : Int32)), .val (.int (0 : Int32)), .val (.int (1 : Int32)), .unset, .unset, .unset, .unset, .unset]) at_80 rfl rfl ?_
          refine own_new (pc' := 85) B X9 (own_w hw 1 rfl) (own_w hw 2 rfl) (own_w hw 3 rfl) at_82 rfl (k' := 2) (n' := 7) rfl rfl (by decide) (by decide) ?_
          intro T383 h383 b383 X383 g383 E383 E_b383 D383
          have ne_b1_b383 : b1 ≠ b383 := own_ne E_b1.lt g383
          have sz_b383 : h0.size ≤ b383 := own_sz K g383
          have g_b383 : n0 ≤ b383 := Nat.le_trans Z0 sz_b383
          replace K := K.ext E383
          replace E_b1 := E_b1.ext E383
          replace V_b1 := V_b1.ext E383
          have F_b383_key : Fld Z h383 b383 "com/example/keyer/keyer/KeyReader" "key" "[B" .null := D383 (Or.inr (own_w hw 11 rfl)) (ty := (.array .byte)) (by decide)
          have F_b383_position : Fld Z h383 b383 "com/example/keyer/keyer/KeyReader" "position" "I" (.int (0 : Int32)) := D383 (Or.inl (own_w hw 18 rfl)) (ty := .int) (by decide)
          have F_b383_mask : Fld Z h383 b383 "com/example/keyer/keyer/KeyReader" "mask" "I" (.int (0 : Int32)) := D383 (Or.inl (own_w hw 20 rfl)) (ty := .int) (by decide)
          clear D383
          refine own_dup (pc' := 86) B X383 at_85 rfl rfl ?_
          refine own_aload (pc' := 88) B X383 at_86 rfl rfl rfl ?_
          refine own_callI (pc' := 91) B X383 rfl rfl (own_w hw 4 rfl) (own_w hw 5 rfl) (own_w hw 3 rfl) (own_w hw 6 rfl) (by decide) [(.ref b1)] [(.ref b383)] (rm_1 l Z a0 hw [] b383 b1 kb1 (y2) (y4) (y6) (y8) h383 n0 (Nat.le_trans Z0 K.1) E_b383 F_b383_key F_b383_position F_b383_mask g_b383 E_b1 V_b1 g_b1 (Ne.symm ne_b1_b383)) 1 (by decide) (by decide) rfl pd_0 rfl rfl (Nat.le_of_eq rfl) at_88 rfl (k' := 2) (n' := 7) rfl rfl (by decide) (by decide) ?_
          intro T384 v384 h384 X384 q384
          obtain ⟨rfl, K384, E_b383, F_b383_key, F_b383_position, F_b383_mask⟩ := q384
          replace K := K.trans K384 (allS (Or.inr sz_b383) all0)
          replace E_b1 := E_b1.keep K384
          replace V_b1 := V_b1.keep K384 (ninS ne_b1_b383 nin0)
          show own_Go p e below (T384.setTop (mkF m 91 #[.val (.int i0), .val (.int i1), .val (.int i2), .val (.int i3), .val (.int i4), .val (.ref b1), .val (.int (1 : Int32)), .val (.int (0 : Int32)), .val (.int (0 : Int32)), .val (.int (1 : Int32)), .unset, .unset, .unset, .unset, .unset] [(.ref b383)])) _
          refine own_astore (pc' := 93) B X384 (Ls' := #[.val (.int i0), .val (.int i1), .val (.int i2), .val (.int i3), .val (.int i4), .val (.ref b1), .val (.int (1 : Int32)), .val (.int (0 : Int32)), .val (.int (0 : Int32)), .val (.int (1 : Int32)), .val (.ref b383), .unset, .unset, .unset, .unset]) at_91 rfl rfl rfl ?_
          refine own_aload (pc' := 95) B X384 at_93 rfl rfl rfl ?_
          refine own_callV (pc' := 98) B X384 (own_w hw 12 rfl) (own_w hw 13 rfl) (own_w hw 15 rfl) (own_w hw 14 rfl) (own_w hw 3 rfl) (own_w hw 16 rfl) E_b383 (by decide) [] [] (rm_2 l Z a0 hw [] b383 b1 kb1 (y2) (y4) (y6) (y8) h384 n0 (Nat.le_trans Z0 K.1) E_b383 F_b383_key F_b383_position F_b383_mask g_b383 E_b1 V_b1 g_b1 (Ne.symm ne_b1_b383)) 0 (by decide) (by decide) rfl pd_1 rfl rfl (Nat.le_of_eq rfl) at_95 rfl (k' := 2) (n' := 7) rfl rfl (by decide) (by decide) ?_
          intro T385 v385 h385 X385 q385
          obtain ⟨y386, hy387, rfl, K385, E_b383, F_b383_key, F_b383_position, F_b383_mask⟩ := q385
          replace K := K.trans K385 (allS (Or.inr sz_b383) all0)
          replace E_b1 := E_b1.keep K385
          replace V_b1 := V_b1.keep K385 (ninS ne_b1_b383 nin0)
          show own_Go p e below (T385.setTop (mkF m 98 #[.val (.int i0), .val (.int i1), .val (.int i2), .val (.int i3), .val (.int i4), .val (.ref b1), .val (.int (1 : Int32)), .val (.int (0 : Int32)), .val (.int (0 : Int32)), .val (.int (1 : Int32)), .val (.ref b383), .unset, .unset, .unset, .unset] [(.int y386)])) _
          refine own_istore (pc' := 100) B X385 (Ls' := #[.val (.int i0), .val (.int i1), .val (.int i2), .val (.int i3), .val (.int i4), .val (.ref b1), .val (.int (1 : Int32)), .val (.int (0 : Int32)), .val (.int (0 : Int32)), .val (.int (1 : Int32)), .val (.ref b383), .val (.int y386), .unset, .unset, .unset]) at_98 rfl rfl ?_
          refine own_aload (pc' := 102) B X385 at_100 rfl rfl rfl ?_
          refine own_iload (pc' := 104) B X385 at_102 rfl rfl ?_
          refine own_callV (pc' := 107) B X385 (own_w hw 21 rfl) (own_w hw 22 rfl) (own_w hw 24 rfl) (own_w hw 23 rfl) (own_w hw 3 rfl) (own_w hw 25 rfl) E_b383 (by decide) [(.int (1 : Int32))] [] (rm_19 l Z a0 hw [] b383 b1 kb1 (y2) (y4) (y6) (y8) h385 n0 (Nat.le_trans Z0 K.1) E_b383 F_b383_key F_b383_position F_b383_mask g_b383 E_b1 V_b1 g_b1 (Ne.symm ne_b1_b383)) 0 (by decide) (by decide) rfl pd_2 rfl rfl (Nat.le_of_eq rfl) at_104 rfl (k' := 2) (n' := 7) rfl rfl (by decide) (by decide) ?_
          intro T388 v388 h388 X388 q388
          obtain ⟨rfl, K388, E_b383, F_b383_key, F_b383_position, F_b383_mask⟩ := q388
          replace K := K.trans K388 (allS (Or.inr sz_b383) all0)
          replace E_b1 := E_b1.keep K388
          replace V_b1 := V_b1.keep K388 (ninS ne_b1_b383 nin0)
          show own_Go p e below (T388.setTop (mkF m 107 #[.val (.int i0), .val (.int i1), .val (.int i2), .val (.int i3), .val (.int i4), .val (.ref b1), .val (.int (1 : Int32)), .val (.int (0 : Int32)), .val (.int (0 : Int32)), .val (.int (1 : Int32)), .val (.ref b383), .val (.int y386), .unset, .unset, .unset] [])) _
          refine own_aload (pc' := 109) B X388 at_107 rfl rfl rfl ?_
          refine own_callV (pc' := 112) B X388 (own_w hw 12 rfl) (own_w hw 13 rfl) (own_w hw 15 rfl) (own_w hw 14 rfl) (own_w hw 3 rfl) (own_w hw 16 rfl) E_b383 (by decide) [] [] (rm_20 l Z a0 hw [] b383 b1 kb1 (y2) (y4) (y6) (y8) h388 n0 (Nat.le_trans Z0 K.1) E_b383 F_b383_key F_b383_position F_b383_mask g_b383 E_b1 V_b1 g_b1 (Ne.symm ne_b1_b383)) 0 (by decide) (by decide) rfl pd_1 rfl rfl (Nat.le_of_eq rfl) at_109 rfl (k' := 2) (n' := 7) rfl rfl (by decide) (by decide) ?_
          intro T389 v389 h389 X389 q389
          obtain ⟨y390, y391, hy392, hy393, rfl, K389, E_b383, F_b383_key, F_b383_position, F_b383_mask⟩ := q389
          replace K := K.trans K389 (allS (Or.inr sz_b383) all0)
          replace E_b1 := E_b1.keep K389
          replace V_b1 := V_b1.keep K389 (ninS ne_b1_b383 nin0)
          show own_Go p e below (T389.setTop (mkF m 112 #[.val (.int i0), .val (.int i1), .val (.int i2), .val (.int i3), .val (.int i4), .val (.ref b1), .val (.int (1 : Int32)), .val (.int (0 : Int32)), .val (.int (0 : Int32)), .val (.int (1 : Int32)), .val (.ref b383), .val (.int y386), .unset, .unset, .unset] [(.int y391)])) _
          refine own_istore (pc' := 114) B X389 (Ls' := #[.val (.int i0), .val (.int i1), .val (.int i2), .val (.int i3), .val (.int i4), .val (.ref b1), .val (.int (1 : Int32)), .val (.int (0 : Int32)), .val (.int (0 : Int32)), .val (.int (1 : Int32)), .val (.ref b383), .val (.int y386), .val (.int y391), .unset, .unset]) at_112 rfl rfl ?_
          refine own_aload (pc' := 116) B X389 at_114 rfl rfl rfl ?_
          refine own_iload (pc' := 118) B X389 at_116 rfl rfl ?_
          refine own_callV (pc' := 121) B X389 (own_w hw 21 rfl) (own_w hw 22 rfl) (own_w hw 24 rfl) (own_w hw 23 rfl) (own_w hw 3 rfl) (own_w hw 25 rfl) E_b383 (by decide) [(.int (0 : Int32))] [] (rm_21 l Z a0 hw [] b383 b1 kb1 (y2) (y4) (y6) (y8) h389 n0 (Nat.le_trans Z0 K.1) E_b383 F_b383_key F_b383_position F_b383_mask g_b383 E_b1 V_b1 g_b1 (Ne.symm ne_b1_b383)) 0 (by decide) (by decide) rfl pd_2 rfl rfl (Nat.le_of_eq rfl) at_118 rfl (k' := 2) (n' := 7) rfl rfl (by decide) (by decide) ?_
          intro T394 v394 h394 X394 q394
          obtain ⟨rfl, K394, E_b383, F_b383_key, F_b383_position, F_b383_mask⟩ := q394
          replace K := K.trans K394 (allS (Or.inr sz_b383) all0)
          replace E_b1 := E_b1.keep K394
          replace V_b1 := V_b1.keep K394 (ninS ne_b1_b383 nin0)
          show own_Go p e below (T394.setTop (mkF m 121 #[.val (.int i0), .val (.int i1), .val (.int i2), .val (.int i3), .val (.int i4), .val (.ref b1), .val (.int (1 : Int32)), .val (.int (0 : Int32)), .val (.int (0 : Int32)), .val (.int (1 : Int32)), .val (.ref b383), .val (.int y386), .val (.int y391), .unset, .unset] [])) _
          refine own_aload (pc' := 123) B X394 at_121 rfl rfl rfl ?_
          refine own_callV (pc' := 126) B X394 (own_w hw 12 rfl) (own_w hw 13 rfl) (own_w hw 15 rfl) (own_w hw 14 rfl) (own_w hw 3 rfl) (own_w hw 16 rfl) E_b383 (by decide) [] [] (rm_6 l Z a0 hw [] b383 b1 kb1 (y2) (y4) (y6) (y8) h394 n0 (Nat.le_trans Z0 K.1) E_b383 F_b383_key F_b383_position F_b383_mask g_b383 E_b1 V_b1 g_b1 (Ne.symm ne_b1_b383)) 0 (by decide) (by decide) rfl pd_1 rfl rfl (Nat.le_of_eq rfl) at_123 rfl (k' := 2) (n' := 7) rfl rfl (by decide) (by decide) ?_
          intro T395 v395 h395 X395 q395
          obtain ⟨y396, hy397, rfl, K395, E_b383, F_b383_key, F_b383_position, F_b383_mask⟩ := q395
          replace K := K.trans K395 (allS (Or.inr sz_b383) all0)
          replace E_b1 := E_b1.keep K395
          replace V_b1 := V_b1.keep K395 (ninS ne_b1_b383 nin0)
          show own_Go p e below (T395.setTop (mkF m 126 #[.val (.int i0), .val (.int i1), .val (.int i2), .val (.int i3), .val (.int i4), .val (.ref b1), .val (.int (1 : Int32)), .val (.int (0 : Int32)), .val (.int (0 : Int32)), .val (.int (1 : Int32)), .val (.ref b383), .val (.int y386), .val (.int y391), .unset, .unset] [(.int y396)])) _
          refine own_istore (pc' := 128) B X395 (Ls' := #[.val (.int i0), .val (.int i1), .val (.int i2), .val (.int i3), .val (.int i4), .val (.ref b1), .val (.int (1 : Int32)), .val (.int (0 : Int32)), .val (.int (0 : Int32)), .val (.int (1 : Int32)), .val (.ref b383), .val (.int y386), .val (.int y391), .val (.int y396), .unset]) at_126 rfl rfl ?_
          refine own_aload (pc' := 130) B X395 at_128 rfl rfl rfl ?_
          refine own_iload (pc' := 132) B X395 at_130 rfl rfl ?_
          refine own_callV (pc' := 135) B X395 (own_w hw 21 rfl) (own_w hw 22 rfl) (own_w hw 24 rfl) (own_w hw 23 rfl) (own_w hw 3 rfl) (own_w hw 25 rfl) E_b383 (by decide) [(.int (0 : Int32))] [] (rm_7 l Z a0 hw [] b383 b1 kb1 (y2) (y4) (y6) (y8) h395 n0 (Nat.le_trans Z0 K.1) E_b383 F_b383_key F_b383_position F_b383_mask g_b383 E_b1 V_b1 g_b1 (Ne.symm ne_b1_b383)) 0 (by decide) (by decide) rfl pd_2 rfl rfl (Nat.le_of_eq rfl) at_132 rfl (k' := 2) (n' := 7) rfl rfl (by decide) (by decide) ?_
          intro T398 v398 h398 X398 q398
          obtain ⟨rfl, K398, E_b383, F_b383_key, F_b383_position, F_b383_mask⟩ := q398
          replace K := K.trans K398 (allS (Or.inr sz_b383) all0)
          replace E_b1 := E_b1.keep K398
          replace V_b1 := V_b1.keep K398 (ninS ne_b1_b383 nin0)
          show own_Go p e below (T398.setTop (mkF m 135 #[.val (.int i0), .val (.int i1), .val (.int i2), .val (.int i3), .val (.int i4), .val (.ref b1), .val (.int (1 : Int32)), .val (.int (0 : Int32)), .val (.int (0 : Int32)), .val (.int (1 : Int32)), .val (.ref b383), .val (.int y386), .val (.int y391), .val (.int y396), .unset] [])) _
          refine own_aload (pc' := 137) B X398 at_135 rfl rfl rfl ?_
          refine own_iload (pc' := 139) B X398 at_137 rfl rfl ?_
          refine own_callV (pc' := 142) B X398 (own_w hw 21 rfl) (own_w hw 22 rfl) (own_w hw 24 rfl) (own_w hw 23 rfl) (own_w hw 3 rfl) (own_w hw 25 rfl) E_b383 (by decide) [(.int (1 : Int32))] [] (rm_11 l Z a0 hw [] b383 b1 kb1 (y2) (y4) (y6) (y8) h398 n0 (Nat.le_trans Z0 K.1) E_b383 F_b383_key F_b383_position F_b383_mask g_b383 E_b1 V_b1 g_b1 (Ne.symm ne_b1_b383)) 0 (by decide) (by decide) rfl pd_2 rfl rfl (Nat.le_of_eq rfl) at_139 rfl (k' := 2) (n' := 7) rfl rfl (by decide) (by decide) ?_
          intro T399 v399 h399 X399 q399
          obtain ⟨rfl, K399, E_b383, F_b383_key, F_b383_position, F_b383_mask⟩ := q399
          replace K := K.trans K399 (allS (Or.inr sz_b383) all0)
          replace E_b1 := E_b1.keep K399
          replace V_b1 := V_b1.keep K399 (ninS ne_b1_b383 nin0)
          show own_Go p e below (T399.setTop (mkF m 142 #[.val (.int i0), .val (.int i1), .val (.int i2), .val (.int i3), .val (.int i4), .val (.ref b1), .val (.int (1 : Int32)), .val (.int (0 : Int32)), .val (.int (0 : Int32)), .val (.int (1 : Int32)), .val (.ref b383), .val (.int y386), .val (.int y391), .val (.int y396), .unset] [])) _
          refine own_aload (pc' := 144) B X399 at_142 rfl rfl rfl ?_
          refine own_callV (pc' := 147) B X399 (own_w hw 12 rfl) (own_w hw 13 rfl) (own_w hw 15 rfl) (own_w hw 14 rfl) (own_w hw 3 rfl) (own_w hw 16 rfl) E_b383 (by decide) [] [] (rm_12 l Z a0 hw [] b383 b1 kb1 (y2) (y4) (y6) (y8) h399 n0 (Nat.le_trans Z0 K.1) E_b383 F_b383_key F_b383_position F_b383_mask g_b383 E_b1 V_b1 g_b1 (Ne.symm ne_b1_b383)) 0 (by decide) (by decide) rfl pd_1 rfl rfl (Nat.le_of_eq rfl) at_144 rfl (k' := 2) (n' := 7) rfl rfl (by decide) (by decide) ?_
          intro T400 v400 h400 X400 q400
          obtain ⟨y401, y402, hy403, hy404, rfl, K400, E_b383, F_b383_key, F_b383_position, F_b383_mask⟩ := q400
          replace K := K.trans K400 (allS (Or.inr sz_b383) all0)
          replace E_b1 := E_b1.keep K400
          replace V_b1 := V_b1.keep K400 (ninS ne_b1_b383 nin0)
          show own_Go p e below (T400.setTop (mkF m 147 #[.val (.int i0), .val (.int i1), .val (.int i2), .val (.int i3), .val (.int i4), .val (.ref b1), .val (.int (1 : Int32)), .val (.int (0 : Int32)), .val (.int (0 : Int32)), .val (.int (1 : Int32)), .val (.ref b383), .val (.int y386), .val (.int y391), .val (.int y396), .unset] [(.int y402)])) _
          refine own_istore (pc' := 149) B X400 (Ls' := #[.val (.int i0), .val (.int i1), .val (.int i2), .val (.int i3), .val (.int i4), .val (.ref b1), .val (.int (1 : Int32)), .val (.int (0 : Int32)), .val (.int (0 : Int32)), .val (.int (1 : Int32)), .val (.ref b383), .val (.int y386), .val (.int y391), .val (.int y396), .val (.int y402)]) at_147 rfl rfl ?_
          refine own_iload (pc' := 151) B X400 at_149 rfl rfl ?_
          refine own_iloadN (pc' := 152) B X400 at_151 rfl rfl ?_
          refine own_iconst (pc' := 153) B X400 (z := (0 : Int32)) at_152 rfl rfl ?_
          refine own_callS (pc' := 156) B X400 (own_w hw 26 rfl) (own_w hw 27 rfl) (own_w hw 28 rfl) (own_w hw 29 rfl) (by decide) [(.int i0), (.int (0 : Int32))] [(.int y386)] (rm_9 l Z a0 hw [] (i0) h400 n0 (Nat.le_trans Z0 K.1) ) 1 (by decide) (by decide) rfl pd_3 rfl rfl (Nat.le_of_eq rfl) at_153 rfl (k' := 2) (n' := 7) rfl rfl (by decide) (by decide) ?_
          intro T405 v405 h405 X405 q405
          obtain ⟨y406, hy407, rfl, rfl⟩ := q405
          show own_Go p e below (T405.setTop (mkF m 156 #[.val (.int i0), .val (.int i1), .val (.int i2), .val (.int i3), .val (.int i4), .val (.ref b1), .val (.int (1 : Int32)), .val (.int (0 : Int32)), .val (.int (0 : Int32)), .val (.int (1 : Int32)), .val (.ref b383), .val (.int y386), .val (.int y391), .val (.int y396), .val (.int y402)] [(.int y406), (.int y386)])) _
          have c408 : y386 = y406 := by
            have o0 := own_o_i2b hy2
            have o1 := own_o_mask hy387 8 (by decide) (by decide)
            have o2 := own_o_mask hy407 8 (by decide) (by decide)
            have o3 := rng32 i0
            have o4 := rng32 y2
            have o5 := rng32 y386
            have o6 := rng32 y406
            have o7 : (255 : Int32).toInt = 255 := by decide
            refine own_eqI ?_
            omega
          refine own_icmpNo (pc' := 159) B X405 at_156 (teq c408).2 rfl ?_
          refine own_iload (pc' := 161) B X405 at_159 rfl rfl ?_
          refine own_iloadN (pc' := 162) B X405 at_161 rfl rfl ?_
          refine own_iload (pc' := 164) B X405 at_162 rfl rfl ?_
          refine own_callS (pc' := 167) B X405 (own_w hw 26 rfl) (own_w hw 27 rfl) (own_w hw 28 rfl) (own_w hw 29 rfl) (by decide) [(.int i1), (.int (1 : Int32))] [(.int y391)] (rm_13 l Z a0 hw [] (i1) h400 n0 (Nat.le_trans Z0 K.1) ) 1 (by decide) (by decide) rfl pd_3 rfl rfl (Nat.le_of_eq rfl) at_164 rfl (k' := 2) (n' := 7) rfl rfl (by decide) (by decide) ?_
          intro T409 v409 h409 X409 q409
          obtain ⟨y410, y411, hy412, hy413, rfl, rfl⟩ := q409
          show own_Go p e below (T409.setTop (mkF m 167 #[.val (.int i0), .val (.int i1), .val (.int i2), .val (.int i3), .val (.int i4), .val (.ref b1), .val (.int (1 : Int32)), .val (.int (0 : Int32)), .val (.int (0 : Int32)), .val (.int (1 : Int32)), .val (.ref b383), .val (.int y386), .val (.int y391), .val (.int y396), .val (.int y402)] [(.int y411), (.int y391)])) _
          have c414 : y391 = y411 := by
            have o0 := own_o_i2b hy4
            have o1 := own_o_xor255 hy392
            have o2 := own_o_mask hy393 8 (by decide) (by decide)
            have o3 := own_o_mask hy412 8 (by decide) (by decide)
            have o4 := own_o_isub hy413
            have o5 := rng32 i1
            have o6 := rng32 y390
            have o7 := rng32 y391
            have o8 := rng32 y4
            have o9 := rng32 y410
            have o10 := rng32 y411
            have o11 : (255 : Int32).toInt = 255 := by decide
            refine own_eqI ?_
            omega
          refine own_icmpNo (pc' := 170) B X409 at_167 (teq c414).2 rfl ?_
          refine own_iload (pc' := 172) B X409 at_170 rfl rfl ?_
          refine own_iloadN (pc' := 173) B X409 at_172 rfl rfl ?_
          refine own_iload (pc' := 175) B X409 at_173 rfl rfl ?_
          refine own_callS (pc' := 178) B X409 (own_w hw 26 rfl) (own_w hw 27 rfl) (own_w hw 28 rfl) (own_w hw 29 rfl) (by decide) [(.int i2), (.int (0 : Int32))] [(.int y396)] (rm_9 l Z a0 hw [] (i2) h400 n0 (Nat.le_trans Z0 K.1) ) 1 (by decide) (by decide) rfl pd_3 rfl rfl (Nat.le_of_eq rfl) at_175 rfl (k' := 2) (n' := 7) rfl rfl (by decide) (by decide) ?_
          intro T415 v415 h415 X415 q415
          obtain ⟨y416, hy417, rfl, rfl⟩ := q415
          show own_Go p e below (T415.setTop (mkF m 178 #[.val (.int i0), .val (.int i1), .val (.int i2), .val (.int i3), .val (.int i4), .val (.ref b1), .val (.int (1 : Int32)), .val (.int (0 : Int32)), .val (.int (0 : Int32)), .val (.int (1 : Int32)), .val (.ref b383), .val (.int y386), .val (.int y391), .val (.int y396), .val (.int y402)] [(.int y416), (.int y396)])) _
          have c418 : y396 = y416 := by
            have o0 := own_o_i2b hy6
            have o1 := own_o_mask hy397 8 (by decide) (by decide)
            have o2 := own_o_mask hy417 8 (by decide) (by decide)
            have o3 := rng32 i2
            have o4 := rng32 y396
            have o5 := rng32 y416
            have o6 := rng32 y6
            have o7 : (255 : Int32).toInt = 255 := by decide
            refine own_eqI ?_
            omega
          refine own_icmpNo (pc' := 181) B X415 at_178 (teq c418).2 rfl ?_
          refine own_iload (pc' := 183) B X415 at_181 rfl rfl ?_
          refine own_iloadN (pc' := 184) B X415 at_183 rfl rfl ?_
          refine own_iload (pc' := 186) B X415 at_184 rfl rfl ?_
          refine own_callS (pc' := 189) B X415 (own_w hw 26 rfl) (own_w hw 27 rfl) (own_w hw 28 rfl) (own_w hw 29 rfl) (by decide) [(.int i3), (.int (1 : Int32))] [(.int y402)] (rm_13 l Z a0 hw [] (i3) h400 n0 (Nat.le_trans Z0 K.1) ) 1 (by decide) (by decide) rfl pd_3 rfl rfl (Nat.le_of_eq rfl) at_186 rfl (k' := 2) (n' := 7) rfl rfl (by decide) (by decide) ?_
          intro T419 v419 h419 X419 q419
          obtain ⟨y420, y421, hy422, hy423, rfl, rfl⟩ := q419
          show own_Go p e below (T419.setTop (mkF m 189 #[.val (.int i0), .val (.int i1), .val (.int i2), .val (.int i3), .val (.int i4), .val (.ref b1), .val (.int (1 : Int32)), .val (.int (0 : Int32)), .val (.int (0 : Int32)), .val (.int (1 : Int32)), .val (.ref b383), .val (.int y386), .val (.int y391), .val (.int y396), .val (.int y402)] [(.int y421), (.int y402)])) _
          have c424 : y402 = y421 := by
            have o0 := own_o_i2b hy8
            have o1 := own_o_xor255 hy403
            have o2 := own_o_mask hy404 8 (by decide) (by decide)
            have o3 := own_o_mask hy422 8 (by decide) (by decide)
            have o4 := own_o_isub hy423
            have o5 := rng32 i3
            have o6 := rng32 y401
            have o7 := rng32 y402
            have o8 := rng32 y420
            have o9 := rng32 y421
            have o10 := rng32 y8
            have o11 : (255 : Int32).toInt = 255 := by decide
            refine own_eqI ?_
            omega
          refine own_icmpNo (pc' := 192) B X419 at_189 (teq c424).2 rfl ?_
          refine own_aload (pc' := 194) B X419 at_192 rfl rfl rfl ?_
          refine own_callV (pc' := 197) B X419 (own_w hw 30 rfl) (own_w hw 31 rfl) (own_w hw 33 rfl) (own_w hw 32 rfl) (own_w hw 3 rfl) (own_w hw 34 rfl) E_b383 (by decide) [] [] (rm_14 l Z a0 hw [] b383 b1 kb1 (y2) (y4) (y6) (y8) h400 n0 (Nat.le_trans Z0 K.1) E_b383 F_b383_key F_b383_position F_b383_mask g_b383 E_b1 V_b1 g_b1 (Ne.symm ne_b1_b383)) 0 (by decide) (by decide) rfl pd_1 rfl rfl (Nat.le_of_eq rfl) at_194 rfl (k' := 2) (n' := 7) rfl rfl (by decide) (by decide) ?_
          intro T425 v425 h425 X425 q425
          obtain ⟨rfl, rfl⟩ := q425
          show own_Go p e below (T425.setTop (mkF m 197 #[.val (.int i0), .val (.int i1), .val (.int i2), .val (.int i3), .val (.int i4), .val (.ref b1), .val (.int (1 : Int32)), .val (.int (0 : Int32)), .val (.int (0 : Int32)), .val (.int (1 : Int32)), .val (.ref b383), .val (.int y386), .val (.int y391), .val (.int y396), .val (.int y402)] [(.int (4 : Int32))])) _
          refine own_iconst (pc' := 198) B X425 (z := (4 : Int32)) at_197 rfl rfl ?_
          refine own_icmpNo (pc' := 201) B X425 at_198 (teq (by decide : (4 : Int32) = (4 : Int32))).2 rfl ?_
          refine own_iconst (pc' := 202) B X425 (z := (1 : Int32)) at_201 rfl rfl ?_
          refine own_goto (pc' := 206) B X425 at_202 (by decide) rfl ?_
          exact own_retN B X425 (t := .boolean) (z' := (1 : Int32)) (by simp) (by decide) at_206 (by decide) (by decide) rfl
      · refine own_ifNo (pc' := 60) B X9 at_57 ((if0 _ _).trans (feq c341).1) rfl ?_
        refine own_iconst (pc' := 61) B X9 (z := (1 : Int32)) at_60 rfl rfl ?_
        refine own_goto (pc' := 65) B X9 at_61 (by decide) rfl ?_
        refine own_istore (pc' := 67) B X9 (Ls' := #[.val (.int i0), .val (.int i1), .val (.int i2), .val (.int i3), .val (.int i4), .val (.ref b1), .val (.int (1 : Int32)), .val (.int (0 : Int32)), .val (.int (1 : Int32)), .unset, .unset, .unset, .unset, .unset, .unset]) at_65 rfl rfl ?_
        refine own_iload (pc' := 69) B X9 at_67 rfl rfl ?_
        refine own_bipush (pc' := 71) B X9 (z := (8 : Int32)) at_69 rfl (by decide) ?_
        obtain ⟨y426, hy426⟩ : ∃ z : Int32, i4 &&& (8 : Int32) = z := ⟨_, rfl⟩
        refine own_iand (pc' := 72) B X9 at_71 rfl hy426 ?_
        by_cases c427 : y426 = (0 : Int32)
        · refine own_ifYes (pc' := 79) B X9 at_72 ((if0 _ _).trans (teq c427).1) (by decide) rfl ?_
          refine own_iconst (pc' := 80) B X9 (z := (0 : Int32)) at_79 rfl rfl ?_
          refine own_istore (pc' := 82) B X9 (Ls' := #[.val (.int i0), .val (.int i1), .val (.int i2), .val (.int i3), .val (.int i4), .val (.ref b1), .val (.int (1 : Int32)), .val (.int (0 : Int32)), .val (.int (1 : Int32)), .val (.int (0 : Int32)), .unset, .unset, .unset, .unset, .unset]) at_80 rfl rfl ?_
          refine own_new (pc' := 85) B X9 (own_w hw 1 rfl) (own_w hw 2 rfl) (own_w hw 3 rfl) at_82 rfl (k' := 2) (n' := 7) rfl rfl (by decide) (by decide) ?_
          intro T428 h428 b428 X428 g428 E428 E_b428 D428
          have ne_b1_b428 : b1 ≠ b428 := own_ne E_b1.lt g428
          have sz_b428 : h0.size ≤ b428 := own_sz K g428
          have g_b428 : n0 ≤ b428 := Nat.le_trans Z0 sz_b428
          replace K := K.ext E428
          replace E_b1 := E_b1.ext E428
          replace V_b1 := V_b1.ext E428
          have F_b428_key : Fld Z h428 b428 "com/example/keyer/keyer/KeyReader" "key" "[B" .null := D428 (Or.inr (own_w hw 11 rfl)) (ty := (.array .byte)) (by decide)
          have F_b428_position : Fld Z h428 b428 "com/example/keyer/keyer/KeyReader" "position" "I" (.int (0 : Int32)) := D428 (Or.inl (own_w hw 18 rfl)) (ty := .int) (by decide)
          have F_b428_mask : Fld Z h428 b428 "com/example/keyer/keyer/KeyReader" "mask" "I" (.int (0 : Int32)) := D428 (Or.inl (own_w hw 20 rfl)) (ty := .int) (by decide)
          clear D428
          refine own_dup (pc' := 86) B X428 at_85 rfl rfl ?_
          refine own_aload (pc' := 88) B X428 at_86 rfl rfl rfl ?_
          refine own_callI (pc' := 91) B X428 rfl rfl (own_w hw 4 rfl) (own_w hw 5 rfl) (own_w hw 3 rfl) (own_w hw 6 rfl) (by decide) [(.ref b1)] [(.ref b428)] (rm_1 l Z a0 hw [] b428 b1 kb1 (y2) (y4) (y6) (y8) h428 n0 (Nat.le_trans Z0 K.1) E_b428 F_b428_key F_b428_position F_b428_mask g_b428 E_b1 V_b1 g_b1 (Ne.symm ne_b1_b428)) 1 (by decide) (by decide) rfl pd_0 rfl rfl (Nat.le_of_eq rfl) at_88 rfl (k' := 2) (n' := 7) rfl rfl (by decide) (by decide) ?_
          intro T429 v429 h429 X429 q429
          obtain ⟨rfl, K429, E_b428, F_b428_key, F_b428_position, F_b428_mask⟩ := q429
          replace K := K.trans K429 (allS (Or.inr sz_b428) all0)
          replace E_b1 := E_b1.keep K429
          replace V_b1 := V_b1.keep K429 (ninS ne_b1_b428 nin0)
          show own_Go p e below (T429.setTop (mkF m 91 #[.val (.int i0), .val (.int i1), .val (.int i2), .val (.int i3), .val (.int i4), .val (.ref b1), .val (.int (1 : Int32)), .val (.int (0 : Int32)), .val (.int (1 : Int32)), .val (.int (0 : Int32)), .unset, .unset, .unset, .unset, .unset] [(.ref b428)])) _
          refine own_astore (pc' := 93) B X429 (Ls' := #[.val (.int i0), .val (.int i1), .val (.int i2), .val (.int i3), .val (.int i4), .val (.ref b1), .val (.int (1 : Int32)), .val (.int (0 : Int32)), .val (.int (1 : Int32)), .val (.int (0 : Int32)), .val (.ref b428), .unset, .unset, .unset, .unset]) at_91 rfl rfl rfl ?_
          refine own_aload (pc' := 95) B X429 at_93 rfl rfl rfl ?_
          refine own_callV (pc' := 98) B X429 (own_w hw 12 rfl) (own_w hw 13 rfl) (own_w hw 15 rfl) (own_w hw 14 rfl) (own_w hw 3 rfl) (own_w hw 16 rfl) E_b428 (by decide) [] [] (rm_2 l Z a0 hw [] b428 b1 kb1 (y2) (y4) (y6) (y8) h429 n0 (Nat.le_trans Z0 K.1) E_b428 F_b428_key F_b428_position F_b428_mask g_b428 E_b1 V_b1 g_b1 (Ne.symm ne_b1_b428)) 0 (by decide) (by decide) rfl pd_1 rfl rfl (Nat.le_of_eq rfl) at_95 rfl (k' := 2) (n' := 7) rfl rfl (by decide) (by decide) ?_
          intro T430 v430 h430 X430 q430
          obtain ⟨y431, hy432, rfl, K430, E_b428, F_b428_key, F_b428_position, F_b428_mask⟩ := q430
          replace K := K.trans K430 (allS (Or.inr sz_b428) all0)
          replace E_b1 := E_b1.keep K430
          replace V_b1 := V_b1.keep K430 (ninS ne_b1_b428 nin0)
          show own_Go p e below (T430.setTop (mkF m 98 #[.val (.int i0), .val (.int i1), .val (.int i2), .val (.int i3), .val (.int i4), .val (.ref b1), .val (.int (1 : Int32)), .val (.int (0 : Int32)), .val (.int (1 : Int32)), .val (.int (0 : Int32)), .val (.ref b428), .unset, .unset, .unset, .unset] [(.int y431)])) _
          refine own_istore (pc' := 100) B X430 (Ls' := #[.val (.int i0), .val (.int i1), .val (.int i2), .val (.int i3), .val (.int i4), .val (.ref b1), .val (.int (1 : Int32)), .val (.int (0 : Int32)), .val (.int (1 : Int32)), .val (.int (0 : Int32)), .val (.ref b428), .val (.int y431), .unset, .unset, .unset]) at_98 rfl rfl ?_
          refine own_aload (pc' := 102) B X430 at_100 rfl rfl rfl ?_
          refine own_iload (pc' := 104) B X430 at_102 rfl rfl ?_
          refine own_callV (pc' := 107) B X430 (own_w hw 21 rfl) (own_w hw 22 rfl) (own_w hw 24 rfl) (own_w hw 23 rfl) (own_w hw 3 rfl) (own_w hw 25 rfl) E_b428 (by decide) [(.int (1 : Int32))] [] (rm_19 l Z a0 hw [] b428 b1 kb1 (y2) (y4) (y6) (y8) h430 n0 (Nat.le_trans Z0 K.1) E_b428 F_b428_key F_b428_position F_b428_mask g_b428 E_b1 V_b1 g_b1 (Ne.symm ne_b1_b428)) 0 (by decide) (by decide) rfl pd_2 rfl rfl (Nat.le_of_eq rfl) at_104 rfl (k' := 2) (n' := 7) rfl rfl (by decide) (by decide) ?_
          intro T433 v433 h433 X433 q433
          obtain ⟨rfl, K433, E_b428, F_b428_key, F_b428_position, F_b428_mask⟩ := q433
          replace K := K.trans K433 (allS (Or.inr sz_b428) all0)
          replace E_b1 := E_b1.keep K433
          replace V_b1 := V_b1.keep K433 (ninS ne_b1_b428 nin0)
          show own_Go p e below (T433.setTop (mkF m 107 #[.val (.int i0), .val (.int i1), .val (.int i2), .val (.int i3), .val (.int i4), .val (.ref b1), .val (.int (1 : Int32)), .val (.int (0 : Int32)), .val (.int (1 : Int32)), .val (.int (0 : Int32)), .val (.ref b428), .val (.int y431), .unset, .unset, .unset] [])) _
          refine own_aload (pc' := 109) B X433 at_107 rfl rfl rfl ?_
          refine own_callV (pc' := 112) B X433 (own_w hw 12 rfl) (own_w hw 13 rfl) (own_w hw 15 rfl) (own_w hw 14 rfl) (own_w hw 3 rfl) (own_w hw 16 rfl) E_b428 (by decide) [] [] (rm_20 l Z a0 hw [] b428 b1 kb1 (y2) (y4) (y6) (y8) h433 n0 (Nat.le_trans Z0 K.1) E_b428 F_b428_key F_b428_position F_b428_mask g_b428 E_b1 V_b1 g_b1 (Ne.symm ne_b1_b428)) 0 (by decide) (by decide) rfl pd_1 rfl rfl (Nat.le_of_eq rfl) at_109 rfl (k' := 2) (n' := 7) rfl rfl (by decide) (by decide) ?_
          intro T434 v434 h434 X434 q434
          obtain ⟨y435, y436, hy437, hy438, rfl, K434, E_b428, F_b428_key, F_b428_position, F_b428_mask⟩ := q434
          replace K := K.trans K434 (allS (Or.inr sz_b428) all0)
          replace E_b1 := E_b1.keep K434
          replace V_b1 := V_b1.keep K434 (ninS ne_b1_b428 nin0)
          show own_Go p e below (T434.setTop (mkF m 112 #[.val (.int i0), .val (.int i1), .val (.int i2), .val (.int i3), .val (.int i4), .val (.ref b1), .val (.int (1 : Int32)), .val (.int (0 : Int32)), .val (.int (1 : Int32)), .val (.int (0 : Int32)), .val (.ref b428), .val (.int y431), .unset, .unset, .unset] [(.int y436)])) _
          refine own_istore (pc' := 114) B X434 (Ls' := #[.val (.int i0), .val (.int i1), .val (.int i2), .val (.int i3), .val (.int i4), .val (.ref b1), .val (.int (1 : Int32)), .val (.int (0 : Int32)), .val (.int (1 : Int32)), .val (.int (0 : Int32)), .val (.ref b428), .val (.int y431), .val (.int y436), .unset, .unset]) at_112 rfl rfl ?_
          refine own_aload (pc' := 116) B X434 at_114 rfl rfl rfl ?_
          refine own_iload (pc' := 118) B X434 at_116 rfl rfl ?_
          refine own_callV (pc' := 121) B X434 (own_w hw 21 rfl) (own_w hw 22 rfl) (own_w hw 24 rfl) (own_w hw 23 rfl) (own_w hw 3 rfl) (own_w hw 25 rfl) E_b428 (by decide) [(.int (0 : Int32))] [] (rm_21 l Z a0 hw [] b428 b1 kb1 (y2) (y4) (y6) (y8) h434 n0 (Nat.le_trans Z0 K.1) E_b428 F_b428_key F_b428_position F_b428_mask g_b428 E_b1 V_b1 g_b1 (Ne.symm ne_b1_b428)) 0 (by decide) (by decide) rfl pd_2 rfl rfl (Nat.le_of_eq rfl) at_118 rfl (k' := 2) (n' := 7) rfl rfl (by decide) (by decide) ?_
          intro T439 v439 h439 X439 q439
          obtain ⟨rfl, K439, E_b428, F_b428_key, F_b428_position, F_b428_mask⟩ := q439
          replace K := K.trans K439 (allS (Or.inr sz_b428) all0)
          replace E_b1 := E_b1.keep K439
          replace V_b1 := V_b1.keep K439 (ninS ne_b1_b428 nin0)
          show own_Go p e below (T439.setTop (mkF m 121 #[.val (.int i0), .val (.int i1), .val (.int i2), .val (.int i3), .val (.int i4), .val (.ref b1), .val (.int (1 : Int32)), .val (.int (0 : Int32)), .val (.int (1 : Int32)), .val (.int (0 : Int32)), .val (.ref b428), .val (.int y431), .val (.int y436), .unset, .unset] [])) _
          refine own_aload (pc' := 123) B X439 at_121 rfl rfl rfl ?_
          refine own_callV (pc' := 126) B X439 (own_w hw 12 rfl) (own_w hw 13 rfl) (own_w hw 15 rfl) (own_w hw 14 rfl) (own_w hw 3 rfl) (own_w hw 16 rfl) E_b428 (by decide) [] [] (rm_6 l Z a0 hw [] b428 b1 kb1 (y2) (y4) (y6) (y8) h439 n0 (Nat.le_trans Z0 K.1) E_b428 F_b428_key F_b428_position F_b428_mask g_b428 E_b1 V_b1 g_b1 (Ne.symm ne_b1_b428)) 0 (by decide) (by decide) rfl pd_1 rfl rfl (Nat.le_of_eq rfl) at_123 rfl (k' := 2) (n' := 7) rfl rfl (by decide) (by decide) ?_
          intro T440 v440 h440 X440 q440
          obtain ⟨y441, hy442, rfl, K440, E_b428, F_b428_key, F_b428_position, F_b428_mask⟩ := q440
          replace K := K.trans K440 (allS (Or.inr sz_b428) all0)
          replace E_b1 := E_b1.keep K440
          replace V_b1 := V_b1.keep K440 (ninS ne_b1_b428 nin0)
          show own_Go p e below (T440.setTop (mkF m 126 #[.val (.int i0), .val (.int i1), .val (.int i2), .val (.int i3), .val (.int i4), .val (.ref b1), .val (.int (1 : Int32)), .val (.int (0 : Int32)), .val (.int (1 : Int32)), .val (.int (0 : Int32)), .val (.ref b428), .val (.int y431), .val (.int y436), .unset, .unset] [(.int y441)])) _
          refine own_istore (pc' := 128) B X440 (Ls' := #[.val (.int i0), .val (.int i1), .val (.int i2), .val (.int i3), .val (.int i4), .val (.ref b1), .val (.int (1 : Int32)), .val (.int (0 : Int32)), .val (.int (1 : Int32)), .val (.int (0 : Int32)), .val (.ref b428), .val (.int y431), .val (.int y436), .val (.int y441), .unset]) at_126 rfl rfl ?_
          refine own_aload (pc' := 130) B X440 at_128 rfl rfl rfl ?_
          refine own_iload (pc' := 132) B X440 at_130 rfl rfl ?_
          refine own_callV (pc' := 135) B X440 (own_w hw 21 rfl) (own_w hw 22 rfl) (own_w hw 24 rfl) (own_w hw 23 rfl) (own_w hw 3 rfl) (own_w hw 25 rfl) E_b428 (by decide) [(.int (1 : Int32))] [] (rm_11 l Z a0 hw [] b428 b1 kb1 (y2) (y4) (y6) (y8) h440 n0 (Nat.le_trans Z0 K.1) E_b428 F_b428_key F_b428_position F_b428_mask g_b428 E_b1 V_b1 g_b1 (Ne.symm ne_b1_b428)) 0 (by decide) (by decide) rfl pd_2 rfl rfl (Nat.le_of_eq rfl) at_132 rfl (k' := 2) (n' := 7) rfl rfl (by decide) (by decide) ?_
          intro T443 v443 h443 X443 q443
          obtain ⟨rfl, K443, E_b428, F_b428_key, F_b428_position, F_b428_mask⟩ := q443
          replace K := K.trans K443 (allS (Or.inr sz_b428) all0)
          replace E_b1 := E_b1.keep K443
          replace V_b1 := V_b1.keep K443 (ninS ne_b1_b428 nin0)
          show own_Go p e below (T443.setTop (mkF m 135 #[.val (.int i0), .val (.int i1), .val (.int i2), .val (.int i3), .val (.int i4), .val (.ref b1), .val (.int (1 : Int32)), .val (.int (0 : Int32)), .val (.int (1 : Int32)), .val (.int (0 : Int32)), .val (.ref b428), .val (.int y431), .val (.int y436), .val (.int y441), .unset] [])) _
          refine own_aload (pc' := 137) B X443 at_135 rfl rfl rfl ?_
          refine own_iload (pc' := 139) B X443 at_137 rfl rfl ?_
          refine own_callV (pc' := 142) B X443 (own_w hw 21 rfl) (own_w hw 22 rfl) (own_w hw 24 rfl) (own_w hw 23 rfl) (own_w hw 3 rfl) (own_w hw 25 rfl) E_b428 (by decide) [(.int (0 : Int32))] [] (rm_15 l Z a0 hw [] b428 b1 kb1 (y2) (y4) (y6) (y8) h443 n0 (Nat.le_trans Z0 K.1) E_b428 F_b428_key F_b428_position F_b428_mask g_b428 E_b1 V_b1 g_b1 (Ne.symm ne_b1_b428)) 0 (by decide) (by decide) rfl pd_2 rfl rfl (Nat.le_of_eq rfl) at_139 rfl (k' := 2) (n' := 7) rfl rfl (by decide) (by decide) ?_
          intro T444 v444 h444 X444 q444
          obtain ⟨rfl, K444, E_b428, F_b428_key, F_b428_position, F_b428_mask⟩ := q444
          replace K := K.trans K444 (allS (Or.inr sz_b428) all0)
          replace E_b1 := E_b1.keep K444
          replace V_b1 := V_b1.keep K444 (ninS ne_b1_b428 nin0)
          show own_Go p e below (T444.setTop (mkF m 142 #[.val (.int i0), .val (.int i1), .val (.int i2), .val (.int i3), .val (.int i4), .val (.ref b1), .val (.int (1 : Int32)), .val (.int (0 : Int32)), .val (.int (1 : Int32)), .val (.int (0 : Int32)), .val (.ref b428), .val (.int y431), .val (.int y436), .val (.int y441), .unset] [])) _
          refine own_aload (pc' := 144) B X444 at_142 rfl rfl rfl ?_
          refine own_callV (pc' := 147) B X444 (own_w hw 12 rfl) (own_w hw 13 rfl) (own_w hw 15 rfl) (own_w hw 14 rfl) (own_w hw 3 rfl) (own_w hw 16 rfl) E_b428 (by decide) [] [] (rm_8 l Z a0 hw [] b428 b1 kb1 (y2) (y4) (y6) (y8) h444 n0 (Nat.le_trans Z0 K.1) E_b428 F_b428_key F_b428_position F_b428_mask g_b428 E_b1 V_b1 g_b1 (Ne.symm ne_b1_b428)) 0 (by decide) (by decide) rfl pd_1 rfl rfl (Nat.le_of_eq rfl) at_144 rfl (k' := 2) (n' := 7) rfl rfl (by decide) (by decide) ?_
          intro T445 v445 h445 X445 q445
          obtain ⟨y446, hy447, rfl, K445, E_b428, F_b428_key, F_b428_position, F_b428_mask⟩ := q445
          replace K := K.trans K445 (allS (Or.inr sz_b428) all0)
          replace E_b1 := E_b1.keep K445
          replace V_b1 := V_b1.keep K445 (ninS ne_b1_b428 nin0)
          show own_Go p e below (T445.setTop (mkF m 147 #[.val (.int i0), .val (.int i1), .val (.int i2), .val (.int i3), .val (.int i4), .val (.ref b1), .val (.int (1 : Int32)), .val (.int (0 : Int32)), .val (.int (1 : Int32)), .val (.int (0 : Int32)), .val (.ref b428), .val (.int y431), .val (.int y436), .val (.int y441), .unset] [(.int y446)])) _
          refine own_istore (pc' := 149) B X445 (Ls' := #[.val (.int i0), .val (.int i1), .val (.int i2), .val (.int i3), .val (.int i4), .val (.ref b1), .val (.int (1 : Int32)), .val (.int (0 : Int32)), .val (.int (1 : Int32)), .val (.int (0 : Int32)), .val (.ref b428), .val (.int y431), .val (.int y436), .val (.int y441), .val (.int y446)]) at_147 rfl rfl ?_
          refine own_iload (pc' := 151) B X445 at_149 rfl rfl ?_
          refine own_iloadN (pc' := 152) B X445 at_151 rfl rfl ?_
          refine own_iconst (pc' := 153) B X445 (z := (0 : Int32)) at_152 rfl rfl ?_
          refine own_callS (pc' := 156) B X445 (own_w hw 26 rfl) (own_w hw 27 rfl) (own_w hw 28 rfl) (own_w hw 29 rfl) (by decide) [(.int i0), (.int (0 : Int32))] [(.int y431)] (rm_9 l Z a0 hw [] (i0) h445 n0 (Nat.le_trans Z0 K.1) ) 1 (by decide) (by decide) rfl pd_3 rfl rfl (Nat.le_of_eq rfl) at_153 rfl (k' := 2) (n' := 7) rfl rfl (by decide) (by decide) ?_
          intro T448 v448 h448 X448 q448
          obtain ⟨y449, hy450, rfl, rfl⟩ := q448
          show own_Go p e below (T448.setTop (mkF m 156 #[.val (.int i0), .val (.int i1), .val (.int i2), .val (.int i3), .val (.int i4), .val (.ref b1), .val (.int (1 : Int32)), .val (.int (0 : Int32)), .val (.int (1 : Int32)), .val (.int (0 : Int32)), .val (.ref b428), .val (.int y431), .val (.int y436), .val (.int y441), .val (.int y446)] [(.int y449), (.int y431)])) _
          have c451 : y431 = y449 := by
            have o0 := own_o_i2b hy2
            have o1 := own_o_mask hy432 8 (by decide) (by decide)
            have o2 := own_o_mask hy450 8 (by decide) (by decide)
            have o3 := rng32 i0
            have o4 := rng32 y2
            have o5 := rng32 y431
            have o6 := rng32 y449
            have o7 : (255 : Int32).toInt = 255 := by decide
            refine own_eqI ?_
            omega
          refine own_icmpNo (pc' := 159) B X448 at_156 (teq c451).2 rfl ?_
          refine own_iload (pc' := 161) B X448 at_159 rfl rfl ?_
          refine own_iloadN (pc' := 162) B X448 at_161 rfl rfl ?_
          refine own_iload (pc' := 164) B X448 at_162 rfl rfl ?_
          refine own_callS (pc' := 167) B X448 (own_w hw 26 rfl) (own_w hw 27 rfl) (own_w hw 28 rfl) (own_w hw 29 rfl) (by decide) [(.int i1), (.int (1 : Int32))] [(.int y436)] (rm_13 l Z a0 hw [] (i1) h445 n0 (Nat.le_trans Z0 K.1) ) 1 (by decide) (by decide) rfl pd_3 rfl rfl (Nat.le_of_eq rfl) at_164 rfl (k' := 2) (n' := 7) rfl rfl (by decide) (by decide) ?_
          intro T452 v452 h452 X452 q452
          obtain ⟨y453, y454, hy455, hy456, rfl, rfl⟩ := q452
          show own_Go p e below (T452.setTop (mkF m 167 #[.val (.int i0), .val (.int i1), .val (.int i2), .val (.int i3), .val (.int i4), .val (.ref b1), .val (.int (1 : Int32)), .val (.int (0 : Int32)), .val (.int (1 : Int32)), .val (.int (0 : Int32)), .val (.ref b428), .val (.int y431), .val (.int y436), .val (.int y441), .val (.int y446)] [(.int y454), (.int y436)])) _
          have c457 : y436 = y454 := by
            have o0 := own_o_i2b hy4
            have o1 := own_o_xor255 hy437
            have o2 := own_o_mask hy438 8 (by decide) (by decide)
            have o3 := own_o_mask hy455 8 (by decide) (by decide)
            have o4 := own_o_isub hy456
            have o5 := rng32 i1
            have o6 := rng32 y4
            have o7 := rng32 y435
            have o8 := rng32 y436
            have o9 := rng32 y453
            have o10 := rng32 y454
            have o11 : (255 : Int32).toInt = 255 := by decide
            refine own_eqI ?_
            omega
          refine own_icmpNo (pc' := 170) B X452 at_167 (teq c457).2 rfl ?_
          refine own_iload (pc' := 172) B X452 at_170 rfl rfl ?_
          refine own_iloadN (pc' := 173) B X452 at_172 rfl rfl ?_
          refine own_iload (pc' := 175) B X452 at_173 rfl rfl ?_
          refine own_callS (pc' := 178) B X452 (own_w hw 26 rfl) (own_w hw 27 rfl) (own_w hw 28 rfl) (own_w hw 29 rfl) (by decide) [(.int i2), (.int (0 : Int32))] [(.int y441)] (rm_9 l Z a0 hw [] (i2) h445 n0 (Nat.le_trans Z0 K.1) ) 1 (by decide) (by decide) rfl pd_3 rfl rfl (Nat.le_of_eq rfl) at_175 rfl (k' := 2) (n' := 7) rfl rfl (by decide) (by decide) ?_
          intro T458 v458 h458 X458 q458
          obtain ⟨y459, hy460, rfl, rfl⟩ := q458
          show own_Go p e below (T458.setTop (mkF m 178 #[.val (.int i0), .val (.int i1), .val (.int i2), .val (.int i3), .val (.int i4), .val (.ref b1), .val (.int (1 : Int32)), .val (.int (0 : Int32)), .val (.int (1 : Int32)), .val (.int (0 : Int32)), .val (.ref b428), .val (.int y431), .val (.int y436), .val (.int y441), .val (.int y446)] [(.int y459), (.int y441)])) _
          have c461 : y441 = y459 := by
            have o0 := own_o_i2b hy6
            have o1 := own_o_mask hy442 8 (by decide) (by decide)
            have o2 := own_o_mask hy460 8 (by decide) (by decide)
            have o3 := rng32 i2
            have o4 := rng32 y441
            have o5 := rng32 y459
            have o6 := rng32 y6
            have o7 : (255 : Int32).toInt = 255 := by decide
            refine own_eqI ?_
            omega
          refine own_icmpNo (pc' := 181) B X458 at_178 (teq c461).2 rfl ?_
          refine own_iload (pc' := 183) B X458 at_181 rfl rfl ?_
          refine own_iloadN (pc' := 184) B X458 at_183 rfl rfl ?_
          refine own_iload (pc' := 186) B X458 at_184 rfl rfl ?_
          refine own_callS (pc' := 189) B X458 (own_w hw 26 rfl) (own_w hw 27 rfl) (own_w hw 28 rfl) (own_w hw 29 rfl) (by decide) [(.int i3), (.int (0 : Int32))] [(.int y446)] (rm_9 l Z a0 hw [] (i3) h445 n0 (Nat.le_trans Z0 K.1) ) 1 (by decide) (by decide) rfl pd_3 rfl rfl (Nat.le_of_eq rfl) at_186 rfl (k' := 2) (n' := 7) rfl rfl (by decide) (by decide) ?_
          intro T462 v462 h462 X462 q462
          obtain ⟨y463, hy464, rfl, rfl⟩ := q462
          show own_Go p e below (T462.setTop (mkF m 189 #[.val (.int i0), .val (.int i1), .val (.int i2), .val (.int i3), .val (.int i4), .val (.ref b1), .val (.int (1 : Int32)), .val (.int (0 : Int32)), .val (.int (1 : Int32)), .val (.int (0 : Int32)), .val (.ref b428), .val (.int y431), .val (.int y436), .val (.int y441), .val (.int y446)] [(.int y463), (.int y446)])) _
          have c465 : y446 = y463 := by
            have o0 := own_o_i2b hy8
            have o1 := own_o_mask hy447 8 (by decide) (by decide)
            have o2 := own_o_mask hy464 8 (by decide) (by decide)
            have o3 := rng32 i3
            have o4 := rng32 y446
            have o5 := rng32 y463
            have o6 := rng32 y8
            have o7 : (255 : Int32).toInt = 255 := by decide
            refine own_eqI ?_
            omega
          refine own_icmpNo (pc' := 192) B X462 at_189 (teq c465).2 rfl ?_
          refine own_aload (pc' := 194) B X462 at_192 rfl rfl rfl ?_
          refine own_callV (pc' := 197) B X462 (own_w hw 30 rfl) (own_w hw 31 rfl) (own_w hw 33 rfl) (own_w hw 32 rfl) (own_w hw 3 rfl) (own_w hw 34 rfl) E_b428 (by decide) [] [] (rm_10 l Z a0 hw [] b428 b1 kb1 (y2) (y4) (y6) (y8) h445 n0 (Nat.le_trans Z0 K.1) E_b428 F_b428_key F_b428_position F_b428_mask g_b428 E_b1 V_b1 g_b1 (Ne.symm ne_b1_b428)) 0 (by decide) (by decide) rfl pd_1 rfl rfl (Nat.le_of_eq rfl) at_194 rfl (k' := 2) (n' := 7) rfl rfl (by decide) (by decide) ?_
          intro T466 v466 h466 X466 q466
          obtain ⟨rfl, rfl⟩ := q466
          show own_Go p e below (T466.setTop (mkF m 197 #[.val (.int i0), .val (.int i1), .val (.int i2), .val (.int i3), .val (.int i4), .val (.ref b1), .val (.int (1 : Int32)), .val (.int (0 : Int32)), .val (.int (1 : Int32)), .val (.int (0 : Int32)), .val (.ref b428), .val (.int y431), .val (.int y436), .val (.int y441), .val (.int y446)] [(.int (4 : Int32))])) _
          refine own_iconst (pc' := 198) B X466 (z := (4 : Int32)) at_197 rfl rfl ?_
          refine own_icmpNo (pc' := 201) B X466 at_198 (teq (by decide : (4 : Int32) = (4 : Int32))).2 rfl ?_
          refine own_iconst (pc' := 202) B X466 (z := (1 : Int32)) at_201 rfl rfl ?_
          refine own_goto (pc' := 206) B X466 at_202 (by decide) rfl ?_
          exact own_retN B X466 (t := .boolean) (z' := (1 : Int32)) (by simp) (by decide) at_206 (by decide) (by decide) rfl
        · refine own_ifNo (pc' := 75) B X9 at_72 ((if0 _ _).trans (feq c427).1) rfl ?_
          refine own_iconst (pc' := 76) B X9 (z := (1 : Int32)) at_75 rfl rfl ?_
          refine own_goto (pc' := 80) B X9 at_76 (by decide) rfl ?_
          refine own_istore (pc' := 82) B X9 (Ls' := #[.val (.int i0), .val (.int i1), .val (.int i2), .val (.int i3), .val (.int i4), .val (.ref b1), .val (.int (1 : Int32)), .val (.int (0 : Int32)), .val (.int (1 : Int32)), .val (.int (1 : Int32)), .unset, .unset, .unset, .unset, .unset]) at_80 rfl rfl ?_
          refine own_new (pc' := 85) B X9 (own_w hw 1 rfl) (own_w hw 2 rfl) (own_w hw 3 rfl) at_82 rfl (k' := 2) (n' := 7) rfl rfl (by decide) (by decide) ?_
          intro T467 h467 b467 X467 g467 E467 E_b467 D467
          have ne_b1_b467 : b1 ≠ b467 := own_ne E_b1.lt g467
          have sz_b467 : h0.size ≤ b467 := own_sz K g467
          have g_b467 : n0 ≤ b467 := Nat.le_trans Z0 sz_b467
          replace K := K.ext E467
          replace E_b1 := E_b1.ext E467
          replace V_b1 := V_b1.ext E467
          have F_b467_key : Fld Z h467 b467 "com/example/keyer/keyer/KeyReader" "key" "[B" .null := D467 (Or.inr (own_w hw 11 rfl)) (ty := (.array .byte)) (by decide)
          have F_b467_position : Fld Z h467 b467 "com/example/keyer/keyer/KeyReader" "position" "I" (.int (0 : Int32)) := D467 (Or.inl (own_w hw 18 rfl)) (ty := .int) (by decide)
          have F_b467_mask : Fld Z h467 b467 "com/example/keyer/keyer/KeyReader" "mask" "I" (.int (0 : Int32)) := D467 (Or.inl (own_w hw 20 rfl)) (ty := .int) (by decide)
          clear D467
          refine own_dup (pc' := 86) B X467 at_85 rfl rfl ?_
          refine own_aload (pc' := 88) B X467 at_86 rfl rfl rfl ?_
          refine own_callI (pc' := 91) B X467 rfl rfl (own_w hw 4 rfl) (own_w hw 5 rfl) (own_w hw 3 rfl) (own_w hw 6 rfl) (by decide) [(.ref b1)] [(.ref b467)] (rm_1 l Z a0 hw [] b467 b1 kb1 (y2) (y4) (y6) (y8) h467 n0 (Nat.le_trans Z0 K.1) E_b467 F_b467_key F_b467_position F_b467_mask g_b467 E_b1 V_b1 g_b1 (Ne.symm ne_b1_b467)) 1 (by decide) (by decide) rfl pd_0 rfl rfl (Nat.le_of_eq rfl) at_88 rfl (k' := 2) (n' := 7) rfl rfl (by decide) (by decide) ?_
          intro T468 v468 h468 X468 q468
          obtain ⟨rfl, K468, E_b467, F_b467_key, F_b467_position, F_b467_mask⟩ := q468
          replace K := K.trans K468 (allS (Or.inr sz_b467) all0)
          replace E_b1 := E_b1.keep K468
          replace V_b1 := V_b1.keep K468 (ninS ne_b1_b467 nin0)
          show own_Go p e below (T468.setTop (mkF m 91 #[.val (.int i0), .val (.int i1), .val (.int i2), .val (.int i3), .val (.int i4), .val (.ref b1), .val (.int (1 : Int32)), .val (.int (0 : Int32)), .val (.int (1 : Int32)), .val (.int (1 : Int32)), .unset, .unset, .unset, .unset, .unset] [(.ref b467)])) _
          refine own_astore (pc' := 93) B X468 (Ls' := #[.val (.int i0), .val (.int i1), .val (.int i2), .val (.int i3), .val (.int i4), .val (.ref b1), .val (.int (1 : Int32)), .val (.int (0 : Int32)), .val (.int (1 : Int32)), .val (.int (1 : Int32)), .val (.ref b467), .unset, .unset, .unset, .unset]) at_91 rfl rfl rfl ?_
          refine own_aload (pc' := 95) B X468 at_93 rfl rfl rfl ?_
          refine own_callV (pc' := 98) B X468 (own_w hw 12 rfl) (own_w hw 13 rfl) (own_w hw 15 rfl) (own_w hw 14 rfl) (own_w hw 3 rfl) (own_w hw 16 rfl) E_b467 (by decide) [] [] (rm_2 l Z a0 hw [] b467 b1 kb1 (y2) (y4) (y6) (y8) h468 n0 (Nat.le_trans Z0 K.1) E_b467 F_b467_key F_b467_position F_b467_mask g_b467 E_b1 V_b1 g_b1 (Ne.symm ne_b1_b467)) 0 (by decide) (by decide) rfl pd_1 rfl rfl (Nat.le_of_eq rfl) at_95 rfl (k' := 2) (n' := 7) rfl rfl (by decide) (by decide) ?_
          intro T469 v469 h469 X469 q469
          obtain ⟨y470, hy471, rfl, K469, E_b467, F_b467_key, F_b467_position, F_b467_mask⟩ := q469
          replace K := K.trans K469 (allS (Or.inr sz_b467) all0)
          replace E_b1 := E_b1.keep K469
          replace V_b1 := V_b1.keep K469 (ninS ne_b1_b467 nin0)
          show own_Go p e below (T469.setTop (mkF m 98 #[.val (.int i0), .val (.int i1), .val (.int i2), .val (.int i3), .val (.int i4), .val (.ref b1), .val (.int (1 : Int32)), .val (.int (0 : Int32)), .val (.int (1 : Int32)), .val (.int (1 : Int32)), .val (.ref b467), .unset, .unset, .unset, .unset] [(.int y470)])) _
          refine own_istore (pc' := 100) B X469 (Ls' := #[.val (.int i0), .val (.int i1), .val (.int i2), .val (.int i3), .val (.int i4), .val (.ref b1), .val (.int (1 : Int32)), .val (.int (0 : Int32)), .val (.int (1 : Int32)), .val (.int (1 : Int32)), .val (.ref b467), .val (.int y470), .unset, .unset, .unset]) at_98 rfl rfl ?_
          refine own_aload (pc' := 102) B X469 at_100 rfl rfl rfl ?_
          refine own_iload (pc' := 104) B X469 at_102 rfl rfl ?_
          refine own_callV (pc' := 107) B X469 (own_w hw 21 rfl) (own_w hw 22 rfl) (own_w hw 24 rfl) (own_w hw 23 rfl) (own_w hw 3 rfl) (own_w hw 25 rfl) E_b467 (by decide) [(.int (1 : Int32))] [] (rm_19 l Z a0 hw [] b467 b1 kb1 (y2) (y4) (y6) (y8) h469 n0 (Nat.le_trans Z0 K.1) E_b467 F_b467_key F_b467_position F_b467_mask g_b467 E_b1 V_b1 g_b1 (Ne.symm ne_b1_b467)) 0 (by decide) (by decide) rfl pd_2 rfl rfl (Nat.le_of_eq rfl) at_104 rfl (k' := 2) (n' := 7) rfl rfl (by decide) (by decide) ?_
          intro T472 v472 h472 X472 q472
          obtain ⟨rfl, K472, E_b467, F_b467_key, F_b467_position, F_b467_mask⟩ := q472
          replace K := K.trans K472 (allS (Or.inr sz_b467) all0)
          replace E_b1 := E_b1.keep K472
          replace V_b1 := V_b1.keep K472 (ninS ne_b1_b467 nin0)
          show own_Go p e below (T472.setTop (mkF m 107 #[.val (.int i0), .val (.int i1), .val (.int i2), .val (.int i3), .val (.int i4), .val (.ref b1), .val (.int (1 : Int32)), .val (.int (0 : Int32)), .val (.int (1 : Int32)), .val (.int (1 : Int32)), .val (.ref b467), .val (.int y470), .unset, .unset, .unset] [])) _
          refine own_aload (pc' := 109) B X472 at_107 rfl rfl rfl ?_
          refine own_callV (pc' := 112) B X472 (own_w hw 12 rfl) (own_w hw 13 rfl) (own_w hw 15 rfl) (own_w hw 14 rfl) (own_w hw 3 rfl) (own_w hw 16 rfl) E_b467 (by decide) [] [] (rm_20 l Z a0 hw [] b467 b1 kb1 (y2) (y4) (y6) (y8) h472 n0 (Nat.le_trans Z0 K.1) E_b467 F_b467_key F_b467_position F_b467_mask g_b467 E_b1 V_b1 g_b1 (Ne.symm ne_b1_b467)) 0 (by decide) (by decide) rfl pd_1 rfl rfl (Nat.le_of_eq rfl) at_109 rfl (k' := 2) (n' := 7) rfl rfl (by decide) (by decide) ?_
          intro T473 v473 h473 X473 q473
          obtain ⟨y474, y475, hy476, hy477, rfl, K473, E_b467, F_b467_key, F_b467_position, F_b467_mask⟩ := q473
          replace K := K.trans K473 (allS (Or.inr sz_b467) all0)
          replace E_b1 := E_b1.keep K473
          replace V_b1 := V_b1.keep K473 (ninS ne_b1_b467 nin0)
          show own_Go p e below (T473.setTop (mkF m 112 #[.val (.int i0), .val (.int i1), .val (.int i2), .val (.int i3), .val (.int i4), .val (.ref b1), .val (.int (1 : Int32)), .val (.int (0 : Int32)), .val (.int (1 : Int32)), .val (.int (1 : Int32)), .val (.ref b467), .val (.int y470), .unset, .unset, .unset] [(.int y475)])) _
          refine own_istore (pc' := 114) B X473 (Ls' := #[.val (.int i0), .val (.int i1), .val (.int i2), .val (.int i3), .val (.int i4), .val (.ref b1), .val (.int (1 : Int32)), .val (.int (0 : Int32)), .val (.int (1 : Int32)), .val (.int (1 : Int32)), .val (.ref b467), .val (.int y470), .val (.int y475), .unset, .unset]) at_112 rfl rfl ?_
          refine own_aload (pc' := 116) B X473 at_114 rfl rfl rfl ?_
          refine own_iload (pc' := 118) B X473 at_116 rfl rfl ?_
          refine own_callV (pc' := 121) B X473 (own_w hw 21 rfl) (own_w hw 22 rfl) (own_w hw 24 rfl) (own_w hw 23 rfl) (own_w hw 3 rfl) (own_w hw 25 rfl) E_b467 (by decide) [(.int (0 : Int32))] [] (rm_21 l Z a0 hw [] b467 b1 kb1 (y2) (y4) (y6) (y8) h473 n0 (Nat.le_trans Z0 K.1) E_b467 F_b467_key F_b467_position F_b467_mask g_b467 E_b1 V_b1 g_b1 (Ne.symm ne_b1_b467)) 0 (by decide) (by decide) rfl pd_2 rfl rfl (Nat.le_of_eq rfl) at_118 rfl (k' := 2) (n' := 7) rfl rfl (by decide) (by decide) ?_
          intro T478 v478 h478 X478 q478
          obtain ⟨rfl, K478, E_b467, F_b467_key, F_b467_position, F_b467_mask⟩ := q478
          replace K := K.trans K478 (allS (Or.inr sz_b467) all0)
          replace E_b1 := E_b1.keep K478
          replace V_b1 := V_b1.keep K478 (ninS ne_b1_b467 nin0)
          show own_Go p e below (T478.setTop (mkF m 121 #[.val (.int i0), .val (.int i1), .val (.int i2), .val (.int i3), .val (.int i4), .val (.ref b1), .val (.int (1 : Int32)), .val (.int (0 : Int32)), .val (.int (1 : Int32)), .val (.int (1 : Int32)), .val (.ref b467), .val (.int y470), .val (.int y475), .unset, .unset] [])) _
          refine own_aload (pc' := 123) B X478 at_121 rfl rfl rfl ?_
          refine own_callV (pc' := 126) B X478 (own_w hw 12 rfl) (own_w hw 13 rfl) (own_w hw 15 rfl) (own_w hw 14 rfl) (own_w hw 3 rfl) (own_w hw 16 rfl) E_b467 (by decide) [] [] (rm_6 l Z a0 hw [] b467 b1 kb1 (y2) (y4) (y6) (y8) h478 n0 (Nat.le_trans Z0 K.1) E_b467 F_b467_key F_b467_position F_b467_mask g_b467 E_b1 V_b1 g_b1 (Ne.symm ne_b1_b467)) 0 (by decide) (by decide) rfl pd_1 rfl rfl (Nat.le_of_eq rfl) at_123 rfl (k' := 2) (n' := 7) rfl rfl (by decide) (by decide) ?_
          intro T479 v479 h479 X479 q479
          obtain ⟨y480, hy481, rfl, K479, E_b467, F_b467_key, F_b467_position, F_b467_mask⟩ := q479
          replace K := K.trans K479 (allS (Or.inr sz_b467) all0)
          replace E_b1 := E_b1.keep K479
          replace V_b1 := V_b1.keep K479 (ninS ne_b1_b467 nin0)
          show own_Go p e below (T479.setTop (mkF m 126 #[.val (.int i0), .val (.int i1), .val (.int i2), .val (.int i3), .val (.int i4), .val (.ref b1), .val (.int (1 : Int32)), .val (.int (0 : Int32)), .val (.int (1 : Int32)), .val (.int (1 : Int32)), .val (.ref b467), .val (.int y470), .val (.int y475), .unset, .unset] [(.int y480)])) _
          refine own_istore (pc' := 128) B X479 (Ls' := #[.val (.int i0), .val (.int i1), .val (.int i2), .val (.int i3), .val (.int i4), .val (.ref b1), .val (.int (1 : Int32)), .val (.int (0 : Int32)), .val (.int (1 : Int32)), .val (.int (1 : Int32)), .val (.ref b467), .val (.int y470), .val (.int y475), .val (.int y480), .unset]) at_126 rfl rfl ?_
          refine own_aload (pc' := 130) B X479 at_128 rfl rfl rfl ?_
          refine own_iload (pc' := 132) B X479 at_130 rfl rfl ?_
          refine own_callV (pc' := 135) B X479 (own_w hw 21 rfl) (own_w hw 22 rfl) (own_w hw 24 rfl) (own_w hw 23 rfl) (own_w hw 3 rfl) (own_w hw 25 rfl) E_b467 (by decide) [(.int (1 : Int32))] [] (rm_11 l Z a0 hw [] b467 b1 kb1 (y2) (y4) (y6) (y8) h479 n0 (Nat.le_trans Z0 K.1) E_b467 F_b467_key F_b467_position F_b467_mask g_b467 E_b1 V_b1 g_b1 (Ne.symm ne_b1_b467)) 0 (by decide) (by decide) rfl pd_2 rfl rfl (Nat.le_of_eq rfl) at_132 rfl (k' := 2) (n' := 7) rfl rfl (by decide) (by decide) ?_
          intro T482 v482 h482 X482 q482
          obtain ⟨rfl, K482, E_b467, F_b467_key, F_b467_position, F_b467_mask⟩ := q482
          replace K := K.trans K482 (allS (Or.inr sz_b467) all0)
          replace E_b1 := E_b1.keep K482
          replace V_b1 := V_b1.keep K482 (ninS ne_b1_b467 nin0)
          show own_Go p e below (T482.setTop (mkF m 135 #[.val (.int i0), .val (.int i1), .val (.int i2), .val (.int i3), .val (.int i4), .val (.ref b1), .val (.int (1 : Int32)), .val (.int (0 : Int32)), .val (.int (1 : Int32)), .val (.int (1 : Int32)), .val (.ref b467), .val (.int y470), .val (.int y475), .val (.int y480), .unset] [])) _
          refine own_aload (pc' := 137) B X482 at_135 rfl rfl rfl ?_
          refine own_iload (pc' := 139) B X482 at_137 rfl rfl ?_
          refine own_callV (pc' := 142) B X482 (own_w hw 21 rfl) (own_w hw 22 rfl) (own_w hw 24 rfl) (own_w hw 23 rfl) (own_w hw 3 rfl) (own_w hw 25 rfl) E_b467 (by decide) [(.int (1 : Int32))] [] (rm_16 l Z a0 hw [] b467 b1 kb1 (y2) (y4) (y6) (y8) h482 n0 (Nat.le_trans Z0 K.1) E_b467 F_b467_key F_b467_position F_b467_mask g_b467 E_b1 V_b1 g_b1 (Ne.symm ne_b1_b467)) 0 (by decide) (by decide) rfl pd_2 rfl rfl (Nat.le_of_eq rfl) at_139 rfl (k' := 2) (n' := 7) rfl rfl (by decide) (by decide) ?_
          intro T483 v483 h483 X483 q483
          obtain ⟨rfl, K483, E_b467, F_b467_key, F_b467_position, F_b467_mask⟩ := q483
          replace K := K.trans K483 (allS (Or.inr sz_b467) all0)
          replace E_b1 := E_b1.keep K483
          replace V_b1 := V_b1.keep K483 (ninS ne_b1_b467 nin0)
          show own_Go p e below (T483.setTop (mkF m 142 #[.val (.int i0), .val (.int i1), .val (.int i2), .val (.int i3), .val (.int i4), .val (.ref b1), .val (.int (1 : Int32)), .val (.int (0 : Int32)), .val (.int (1 : Int32)), .val (.int (1 : Int32)), .val (.ref b467), .val (.int y470), .val (.int y475), .val (.int y480), .unset] [])) _
          refine own_aload (pc' := 144) B X483 at_142 rfl rfl rfl ?_
          refine own_callV (pc' := 147) B X483 (own_w hw 12 rfl) (own_w hw 13 rfl) (own_w hw 15 rfl) (own_w hw 14 rfl) (own_w hw 3 rfl) (own_w hw 16 rfl) E_b467 (by decide) [] [] (rm_12 l Z a0 hw [] b467 b1 kb1 (y2) (y4) (y6) (y8) h483 n0 (Nat.le_trans Z0 K.1) E_b467 F_b467_key F_b467_position F_b467_mask g_b467 E_b1 V_b1 g_b1 (Ne.symm ne_b1_b467)) 0 (by decide) (by decide) rfl pd_1 rfl rfl (Nat.le_of_eq rfl) at_144 rfl (k' := 2) (n' := 7) rfl rfl (by decide) (by decide) ?_
          intro T484 v484 h484 X484 q484
          obtain ⟨y485, y486, hy487, hy488, rfl, K484, E_b467, F_b467_key, F_b467_position, F_b467_mask⟩ := q484
          replace K := K.trans K484 (allS (Or.inr sz_b467) all0)
          replace E_b1 := E_b1.keep K484
          replace V_b1 := V_b1.keep K484 (ninS ne_b1_b467 nin0)
          show own_Go p e below (T484.setTop (mkF m 147 #[.val (.int i0), .val (.int i1), .val (.int i2), .val (.int i3), .val (.int i4), .val (.ref b1), .val (.int (1 : Int32)), .val (.int (0 : Int32)), .val (.int (1 : Int32)), .val (.int (1 : Int32)), .val (.ref b467), .val (.int y470), .val (.int y475), .val (.int y480), .unset] [(.int y486)])) _
          refine own_istore (pc' := 149) B X484 (Ls' := #[.val (.int i0), .val (.int i1), .val (.int i2), .val (.int i3), .val (.int i4), .val (.ref b1), .val (.int (1 : Int32)), .val (.int (0 : Int32)), .val (.int (1 : Int32)), .val (.int (1 : Int32)), .val (.ref b467), .val (.int y470), .val (.int y475), .val (.int y480), .val (.int y486)]) at_147 rfl rfl ?_
          refine own_iload (pc' := 151) B X484 at_149 rfl rfl ?_
          refine own_iloadN (pc' := 152) B X484 at_151 rfl rfl ?_
          refine own_iconst (pc' := 153) B X484 (z := (0 : Int32)) at_152 rfl rfl ?_
          refine own_callS (pc' := 156) B X484 (own_w hw 26 rfl) (own_w hw 27 rfl) (own_w hw 28 rfl) (own_w hw 29 rfl) (by decide) [(.int i0), (.int (0 : Int32))] [(.int y470)] (rm_9 l Z a0 hw [] (i0) h484 n0 (Nat.le_trans Z0 K.1) ) 1 (by decide) (by decide) rfl pd_3 rfl rfl (Nat.le_of_eq rfl) at_153 rfl (k' := 2) (n' := 7) rfl rfl (by decide) (by decide) ?_
          intro T489 v489 h489 X489 q489
          obtain ⟨y490, hy491, rfl, rfl⟩ := q489
          show own_Go p e below (T489.setTop (mkF m 156 #[.val (.int i0), .val (.int i1), .val (.int i2), .val (.int i3), .val (.int i4), .val (.ref b1), .val (.int (1 : Int32)), .val (.int (0 : Int32)), .val (.int (1 : Int32)), .val (.int (1 : Int32)), .val (.ref b467), .val (.int y470), .val (.int y475), .val (.int y480), .val (.int y486)] [(.int y490), (.int y470)])) _
          have c492 : y470 = y490 := by
            have o0 := own_o_i2b hy2
            have o1 := own_o_mask hy471 8 (by decide) (by decide)
            have o2 := own_o_mask hy491 8 (by decide) (by decide)
            have o3 := rng32 i0
            have o4 := rng32 y2
            have o5 := rng32 y470
            have o6 := rng32 y490
            have o7 : (255 : Int32).toInt = 255 := by decide
            refine own_eqI ?_
            omega
          refine own_icmpNo (pc' := 159) B X489 at_156 (teq c492).2 rfl ?_
          refine own_iload (pc' := 161) B X489 at_159 rfl rfl ?_
          refine own_iloadN (pc' := 162) B X489 at_161 rfl rfl ?_
          refine own_iload (pc' := 164) B X489 at_162 rfl rfl ?_
          refine own_callS (pc' := 167) B X489 (own_w hw 26 rfl) (own_w hw 27 rfl) (own_w hw 28 rfl) (own_w hw 29 rfl) (by decide) [(.int i1), (.int (1 : Int32))] [(.int y475)] (rm_13 l Z a0 hw [] (i1) h484 n0 (Nat.le_trans Z0 K.1) ) 1 (by decide) (by decide) rfl pd_3 rfl rfl (Nat.le_of_eq rfl) at_164 rfl (k' := 2) (n' := 7) rfl rfl (by decide) (by decide) ?_
          intro T493 v493 h493 X493 q493
          obtain ⟨y494, y495, hy496, hy497, rfl, rfl⟩ := q493
          show own_Go p e below (T493.setTop (mkF m 167 #[.val (.int i0), .val (.int i1), .val (.int i2), .val (.int i3), .val (.int i4), .val (.ref b1), .val (.int (1 : Int32)), .val (.int (0 : Int32)), .val (.int (1 : Int32)), .val (.int (1 : Int32)), .val (.ref b467), .val (.int y470), .val (.int y475), .val (.int y480), .val (.int y486)] [(.int y495), (.int y475)])) _
          have c498 : y475 = y495 := by
            have o0 := own_o_i2b hy4
            have o1 := own_o_xor255 hy476
            have o2 := own_o_mask hy477 8 (by decide) (by decide)
            have o3 := own_o_mask hy496 8 (by decide) (by decide)
            have o4 := own_o_isub hy497
            have o5 := rng32 i1
            have o6 := rng32 y4
            have o7 := rng32 y474
            have o8 := rng32 y475
            have o9 := rng32 y494
            have o10 := rng32 y495
            have o11 : (255 : Int32).toInt = 255 := by decide
            refine own_eqI ?_
            omega
          refine own_icmpNo (pc' := 170) B X493 at_167 (teq c498).2 rfl ?_
          refine own_iload (pc' := 172) B X493 at_170 rfl rfl ?_
          refine own_iloadN (pc' := 173) B X493 at_172 rfl rfl ?_
          refine own_iload (pc' := 175) B X493 at_173 rfl rfl ?_
          refine own_callS (pc' := 178) B X493 (own_w hw 26 rfl) (own_w hw 27 rfl) (own_w hw 28 rfl) (own_w hw 29 rfl) (by decide) [(.int i2), (.int (0 : Int32))] [(.int y480)] (rm_9 l Z a0 hw [] (i2) h484 n0 (Nat.le_trans Z0 K.1) ) 1 (by decide) (by decide) rfl pd_3 rfl rfl (Nat.le_of_eq rfl) at_175 rfl (k' := 2) (n' := 7) rfl rfl (by decide) (by decide) ?_
          intro T499 v499 h499 X499 q499
          obtain ⟨y500, hy501, rfl, rfl⟩ := q499
          show own_Go p e below (T499.setTop (mkF m 178 #[.val (.int i0), .val (.int i1), .val (.int i2), .val (.int i3), .val (.int i4), .val (.ref b1), .val (.int (1 : Int32)), .val (.int (0 : Int32)), .val (.int (1 : Int32)), .val (.int (1 : Int32)), .val (.ref b467), .val (.int y470), .val (.int y475), .val (.int y480), .val (.int y486)] [(.int y500), (.int y480)])) _
          have c502 : y480 = y500 := by
            have o0 := own_o_i2b hy6
            have o1 := own_o_mask hy481 8 (by decide) (by decide)
            have o2 := own_o_mask hy501 8 (by decide) (by decide)
            have o3 := rng32 i2
            have o4 := rng32 y480
            have o5 := rng32 y500
            have o6 := rng32 y6
            have o7 : (255 : Int32).toInt = 255 := by decide
            refine own_eqI ?_
            omega
          refine own_icmpNo (pc' := 181) B X499 at_178 (teq c502).2 rfl ?_
          refine own_iload (pc' := 183) B X499 at_181 rfl rfl ?_
          refine own_iloadN (pc' := 184) B X499 at_183 rfl rfl ?_
          refine own_iload (pc' := 186) B X499 at_184 rfl rfl ?_
          refine own_callS (pc' := 189) B X499 (own_w hw 26 rfl) (own_w hw 27 rfl) (own_w hw 28 rfl) (own_w hw 29 rfl) (by decide) [(.int i3), (.int (1 : Int32))] [(.int y486)] (rm_13 l Z a0 hw [] (i3) h484 n0 (Nat.le_trans Z0 K.1) ) 1 (by decide) (by decide) rfl pd_3 rfl rfl (Nat.le_of_eq rfl) at_186 rfl (k' := 2) (n' := 7) rfl rfl (by decide) (by decide) ?_
          intro T503 v503 h503 X503 q503
          obtain ⟨y504, y505, hy506, hy507, rfl, rfl⟩ := q503
          show own_Go p e below (T503.setTop (mkF m 189 #[.val (.int i0), .val (.int i1), .val (.int i2), .val (.int i3), .val (.int i4), .val (.ref b1), .val (.int (1 : Int32)), .val (.int (0 : Int32)), .val (.int (1 : Int32)), .val (.int (1 : Int32)), .val (.ref b467), .val (.int y470), .val (.int y475), .val (.int y480), .val (.int y486)] [(.int y505), (.int y486)])) _
          have c508 : y486 = y505 := by
            have o0 := own_o_i2b hy8
            have o1 := own_o_xor255 hy487
            have o2 := own_o_mask hy488 8 (by decide) (by decide)
            have o3 := own_o_mask hy506 8 (by decide) (by decide)
            have o4 := own_o_isub hy507
            have o5 := rng32 i3
            have o6 := rng32 y485
            have o7 := rng32 y486
            have o8 := rng32 y504
            have o9 := rng32 y505
            have o10 := rng32 y8
            have o11 : (255 : Int32).toInt = 255 := by decide
            refine own_eqI ?_
            omega
          refine own_icmpNo (pc' := 192) B X503 at_189 (teq c508).2 rfl ?_
          refine own_aload (pc' := 194) B X503 at_192 rfl rfl rfl ?_
          refine own_callV (pc' := 197) B X503 (own_w hw 30 rfl) (own_w hw 31 rfl) (own_w hw 33 rfl) (own_w hw 32 rfl) (own_w hw 3 rfl) (own_w hw 34 rfl) E_b467 (by decide) [] [] (rm_14 l Z a0 hw [] b467 b1 kb1 (y2) (y4) (y6) (y8) h484 n0 (Nat.le_trans Z0 K.1) E_b467 F_b467_key F_b467_position F_b467_mask g_b467 E_b1 V_b1 g_b1 (Ne.symm ne_b1_b467)) 0 (by decide) (by decide) rfl pd_1 rfl rfl (Nat.le_of_eq rfl) at_194 rfl (k' := 2) (n' := 7) rfl rfl (by decide) (by decide) ?_
          intro T509 v509 h509 X509 q509
          obtain ⟨rfl, rfl⟩ := q509
          show own_Go p e below (T509.setTop (mkF m 197 #[.val (.int i0), .val (.int i1), .val (.int i2), .val (.int i3), .val (.int i4), .val (.ref b1), .val (.int (1 : Int32)), .val (.int (0 : Int32)), .val (.int (1 : Int32)), .val (.int (1 : Int32)), .val (.ref b467), .val (.int y470), .val (.int y475), .val (.int y480), .val (.int y486)] [(.int (4 : Int32))])) _
          refine own_iconst (pc' := 198) B X509 (z := (4 : Int32)) at_197 rfl rfl ?_
          refine own_icmpNo (pc' := 201) B X509 at_198 (teq (by decide : (4 : Int32) = (4 : Int32))).2 rfl ?_
          refine own_iconst (pc' := 202) B X509 (z := (1 : Int32)) at_201 rfl rfl ?_
          refine own_goto (pc' := 206) B X509 at_202 (by decide) rfl ?_
          exact own_retN B X509 (t := .boolean) (z' := (1 : Int32)) (by simp) (by decide) at_206 (by decide) (by decide) rfl
    · refine own_ifNo (pc' := 46) B X9 at_43 ((if0 _ _).trans (feq c339).1) rfl ?_
      refine own_iconst (pc' := 47) B X9 (z := (1 : Int32)) at_46 rfl rfl ?_
      refine own_goto (pc' := 51) B X9 at_47 (by decide) rfl ?_
      refine own_istore (pc' := 53) B X9 (Ls' := #[.val (.int i0), .val (.int i1), .val (.int i2), .val (.int i3), .val (.int i4), .val (.ref b1), .val (.int (1 : Int32)), .val (.int (1 : Int32)), .unset, .unset, .unset, .unset, .unset, .unset, .unset]) at_51 rfl rfl ?_
      refine own_iload (pc' := 55) B X9 at_53 rfl rfl ?_
      refine own_iconst (pc' := 56) B X9 (z := (4 : Int32)) at_55 rfl rfl ?_
      obtain ⟨y510, hy510⟩ : ∃ z : Int32, i4 &&& (4 : Int32) = z := ⟨_, rfl⟩
      refine own_iand (pc' := 57) B X9 at_56 rfl hy510 ?_
      by_cases c511 : y510 = (0 : Int32)
      · refine own_ifYes (pc' := 64) B X9 at_57 ((if0 _ _).trans (teq c511).1) (by decide) rfl ?_
        refine own_iconst (pc' := 65) B X9 (z := (0 : Int32)) at_64 rfl rfl ?_
        refine own_istore (pc' := 67) B X9 (Ls' := #[.val (.int i0), .val (.int i1), .val (.int i2), .val (.int i3), .val (.int i4), .val (.ref b1), .val (.int (1 : Int32)), .val (.int (1 : Int32)), .val (.int (0 : Int32)), .unset, .unset, .unset, .unset, .unset, .unset]) at_65 rfl rfl ?_
        refine own_iload (pc' := 69) B X9 at_67 rfl rfl ?_
        refine own_bipush (pc' := 71) B X9 (z := (8 : Int32)) at_69 rfl (by decide) ?_
        obtain ⟨y512, hy512⟩ : ∃ z : Int32, i4 &&& (8 : Int32) = z := ⟨_, rfl⟩
        refine own_iand (pc' := 72) B X9 at_71 rfl hy512 ?_
        by_cases c513 : y512 = (0 : Int32)
        · refine own_ifYes (pc' := 79) B X9 at_72 ((if0 _ _).trans (teq c513).1) (by decide) rfl ?_
          refine own_iconst (pc' := 80) B X9 (z := (0 : Int32)) at_79 rfl rfl ?_
          refine own_istore (pc' := 82) B X9 (Ls' := #[.val (.int i0), .val (.int i1), .val (.int i2), .val (.int i3), .val (.int i4), .val (.ref b1), .val (.int (1 : Int32)), .val (.int (1 : Int32)), .val (.int (0 : Int32)), .val (.int (0 : Int32)), .unset, .unset, .unset, .unset, .unset]) at_80 rfl rfl ?_
          refine own_new (pc' := 85) B X9 (own_w hw 1 rfl) (own_w hw 2 rfl) (own_w hw 3 rfl) at_82 rfl (k' := 2) (n' := 7) rfl rfl (by decide) (by decide) ?_
          intro T514 h514 b514 X514 g514 E514 E_b514 D514
          have ne_b1_b514 : b1 ≠ b514 := own_ne E_b1.lt g514
          have sz_b514 : h0.size ≤ b514 := own_sz K g514
          have g_b514 : n0 ≤ b514 := Nat.le_trans Z0 sz_b514
          replace K := K.ext E514
          replace E_b1 := E_b1.ext E514
          replace V_b1 := V_b1.ext E514
          have F_b514_key : Fld Z h514 b514 "com/example/keyer/keyer/KeyReader" "key" "[B" .null := D514 (Or.inr (own_w hw 11 rfl)) (ty := (.array .byte)) (by decide)
          have F_b514_position : Fld Z h514 b514 "com/example/keyer/keyer/KeyReader" "position" "I" (.int (0 : Int32)) := D514 (Or.inl (own_w hw 18 rfl)) (ty := .int) (by decide)
          have F_b514_mask : Fld Z h514 b514 "com/example/keyer/keyer/KeyReader" "mask" "I" (.int (0 : Int32)) := D514 (Or.inl (own_w hw 20 rfl)) (ty := .int) (by decide)
          clear D514
          refine own_dup (pc' := 86) B X514 at_85 rfl rfl ?_
          refine own_aload (pc' := 88) B X514 at_86 rfl rfl rfl ?_
          refine own_callI (pc' := 91) B X514 rfl rfl (own_w hw 4 rfl) (own_w hw 5 rfl) (own_w hw 3 rfl) (own_w hw 6 rfl) (by decide) [(.ref b1)] [(.ref b514)] (rm_1 l Z a0 hw [] b514 b1 kb1 (y2) (y4) (y6) (y8) h514 n0 (Nat.le_trans Z0 K.1) E_b514 F_b514_key F_b514_position F_b514_mask g_b514 E_b1 V_b1 g_b1 (Ne.symm ne_b1_b514)) 1 (by decide) (by decide) rfl pd_0 rfl rfl (Nat.le_of_eq rfl) at_88 rfl (k' := 2) (n' := 7) rfl rfl (by decide) (by decide) ?_
          intro T515 v515 h515 X515 q515
          obtain ⟨rfl, K515, E_b514, F_b514_key, F_b514_position, F_b514_mask⟩ := q515
          replace K := K.trans K515 (allS (Or.inr sz_b514) all0)
          replace E_b1 := E_b1.keep K515
          replace V_b1 := V_b1.keep K515 (ninS ne_b1_b514 nin0)
          show own_Go p e below (T515.setTop (mkF m 91 #[.val (.int i0), .val (.int i1), .val (.int i2), .val (.int i3), .val (.int i4), .val (.ref b1), .val (.int (1 : Int32)), .val (.int (1 : Int32)), .val (.int (0 : Int32)), .val (.int (0 : Int32)), .unset, .unset, .unset, .unset, .unset] [(.ref b514)])) _
          refine own_astore (pc' := 93) B X515 (Ls' := #[.val (.int i0), .val (.int i1), .val (.int i2), .val (.int i3), .val (.int i4), .val (.ref b1), .val (.int (1 : Int32)), .val (.int (1 : Int32)), .val (.int (0 : Int32)), .val (.int (0 : Int32)), .val (.ref b514), .unset, .unset, .unset, .unset]) at_91 rfl rfl rfl ?_
          refine own_aload (pc' := 95) B X515 at_93 rfl rfl rfl ?_
          refine own_callV (pc' := 98) B X515 (own_w hw 12 rfl) (own_w hw 13 rfl) (own_w hw 15 rfl) (own_w hw 14 rfl) (own_w hw 3 rfl) (own_w hw 16 rfl) E_b514 (by decide) [] [] (rm_2 l Z a0 hw [] b514 b1 kb1 (y2) (y4) (y6) (y8) h515 n0 (Nat.le_trans Z0 K.1) E_b514 F_b514_key F_b514_position F_b514_mask g_b514 E_b1 V_b1 g_b1 (Ne.symm ne_b1_b514)) 0 (by decide) (by decide) rfl pd_1 rfl rfl (Nat.le_of_eq rfl) at_95 rfl (k' := 2) (n' := 7) rfl rfl (by decide) (by decide) ?_
          intro T516 v516 h516 X516 q516
          obtain ⟨y517, hy518, rfl, K516, E_b514, F_b514_key, F_b514_position, F_b514_mask⟩ := q516
          replace K := K.trans K516 (allS (Or.inr sz_b514) all0)
          replace E_b1 := E_b1.keep K516
          replace V_b1 := V_b1.keep K516 (ninS ne_b1_b514 nin0)
          show own_Go p e below (T516.setTop (mkF m 98 #[.val (.int i0), .val (.int i1), .val (.int i2), .val (.int i3), .val (.int i4), .val (.ref b1), .val (.int (1 : Int32)), .val (.int (1 : Int32)), .val (.int (0 : Int32)), .val (.int (0 : Int32)), .val (.ref b514), .unset, .unset, .unset, .unset] [(.int y517)])) _
          refine own_istore (pc' := 100) B X516 (Ls' := #[.val (.int i0), .val (.int i1), .val (.int i2), .val (.int i3), .val (.int i4), .val (.ref b1), .val (.int (1 : Int32)), .val (.int (1 : Int32)), .val (.int (0 : Int32)), .val (.int (0 : Int32)), .val (.ref b514), .val (.int y517), .unset, .unset, .unset]) at_98 rfl rfl ?_
          refine own_aload (pc' := 102) B X516 at_100 rfl rfl rfl ?_
          refine own_iload (pc' := 104) B X516 at_102 rfl rfl ?_
          refine own_callV (pc' := 107) B X516 (own_w hw 21 rfl) (own_w hw 22 rfl) (own_w hw 24 rfl) (own_w hw 23 rfl) (own_w hw 3 rfl) (own_w hw 25 rfl) E_b514 (by decide) [(.int (1 : Int32))] [] (rm_19 l Z a0 hw [] b514 b1 kb1 (y2) (y4) (y6) (y8) h516 n0 (Nat.le_trans Z0 K.1) E_b514 F_b514_key F_b514_position F_b514_mask g_b514 E_b1 V_b1 g_b1 (Ne.symm ne_b1_b514)) 0 (by decide) (by decide) rfl pd_2 rfl rfl (Nat.le_of_eq rfl) at_104 rfl (k' := 2) (n' := 7) rfl rfl (by decide) (by decide) ?_
          intro T519 v519 h519 X519 q519
          obtain ⟨rfl, K519, E_b514, F_b514_key, F_b514_position, F_b514_mask⟩ := q519
          replace K := K.trans K519 (allS (Or.inr sz_b514) all0)
          replace E_b1 := E_b1.keep K519
          replace V_b1 := V_b1.keep K519 (ninS ne_b1_b514 nin0)
          show own_Go p e below (T519.setTop (mkF m 107 #[.val (.int i0), .val (.int i1), .val (.int i2), .val (.int i3), .val (.int i4), .val (.ref b1), .val (.int (1 : Int32)), .val (.int (1 : Int32)), .val (.int (0 : Int32)), .val (.int (0 : Int32)), .val (.ref b514), .val (.int y517), .unset, .unset, .unset] [])) _
          refine own_aload (pc' := 109) B X519 at_107 rfl rfl rfl ?_
          refine own_callV (pc' := 112) B X519 (own_w hw 12 rfl) (own_w hw 13 rfl) (own_w hw 15 rfl) (own_w hw 14 rfl) (own_w hw 3 rfl) (own_w hw 16 rfl) E_b514 (by decide) [] [] (rm_20 l Z a0 hw [] b514 b1 kb1 (y2) (y4) (y6) (y8) h519 n0 (Nat.le_trans Z0 K.1) E_b514 F_b514_key F_b514_position F_b514_mask g_b514 E_b1 V_b1 g_b1 (Ne.symm ne_b1_b514)) 0 (by decide) (by decide) rfl pd_1 rfl rfl (Nat.le_of_eq rfl) at_109 rfl (k' := 2) (n' := 7) rfl rfl (by decide) (by decide) ?_
          intro T520 v520 h520 X520 q520
          obtain ⟨y521, y522, hy523, hy524, rfl, K520, E_b514, F_b514_key, F_b514_position, F_b514_mask⟩ := q520
          replace K := K.trans K520 (allS (Or.inr sz_b514) all0)
          replace E_b1 := E_b1.keep K520
          replace V_b1 := V_b1.keep K520 (ninS ne_b1_b514 nin0)
          show own_Go p e below (T520.setTop (mkF m 112 #[.val (.int i0), .val (.int i1), .val (.int i2), .val (.int i3), .val (.int i4), .val (.ref b1), .val (.int (1 : Int32)), .val (.int (1 : Int32)), .val (.int (0 : Int32)), .val (.int (0 : Int32)), .val (.ref b514), .val (.int y517), .unset, .unset, .unset] [(.int y522)])) _
          refine own_istore (pc' := 114) B X520 (Ls' := #[.val (.int i0), .val (.int i1), .val (.int i2), .val (.int i3), .val (.int i4), .val (.ref b1), .val (.int (1 : Int32)), .val (.int (1 : Int32)), .val (.int (0 : Int32)), .val (.int (0 : Int32)), .val (.ref b514), .val (.int y517), .val (.int y522), .unset, .unset]) at_112 rfl rfl ?_
          refine own_aload (pc' := 116) B X520 at_114 rfl rfl rfl ?_
          refine own_iload (pc' := 118) B X520 at_116 rfl rfl ?_
          refine own_callV (pc' := 121) B X520 (own_w hw 21 rfl) (own_w hw 22 rfl) (own_w hw 24 rfl) (own_w hw 23 rfl) (own_w hw 3 rfl) (own_w hw 25 rfl) E_b514 (by decide) [(.int (1 : Int32))] [] (rm_22 l Z a0 hw [] b514 b1 kb1 (y2) (y4) (y6) (y8) h520 n0 (Nat.le_trans Z0 K.1) E_b514 F_b514_key F_b514_position F_b514_mask g_b514 E_b1 V_b1 g_b1 (Ne.symm ne_b1_b514)) 0 (by decide) (by decide) rfl pd_2 rfl rfl (Nat.le_of_eq rfl) at_118 rfl (k' := 2) (n' := 7) rfl rfl (by decide) (by decide) ?_
          intro T525 v525 h525 X525 q525
          obtain ⟨rfl, K525, E_b514, F_b514_key, F_b514_position, F_b514_mask⟩ := q525
          replace K := K.trans K525 (allS (Or.inr sz_b514) all0)
          replace E_b1 := E_b1.keep K525
          replace V_b1 := V_b1.keep K525 (ninS ne_b1_b514 nin0)
          show own_Go p e below (T525.setTop (mkF m 121 #[.val (.int i0), .val (.int i1), .val (.int i2), .val (.int i3), .val (.int i4), .val (.ref b1), .val (.int (1 : Int32)), .val (.int (1 : Int32)), .val (.int (0 : Int32)), .val (.int (0 : Int32)), .val (.ref b514), .val (.int y517), .val (.int y522), .unset, .unset] [])) _
          refine own_aload (pc' := 123) B X525 at_121 rfl rfl rfl ?_
          refine own_callV (pc' := 126) B X525 (own_w hw 12 rfl) (own_w hw 13 rfl) (own_w hw 15 rfl) (own_w hw 14 rfl) (own_w hw 3 rfl) (own_w hw 16 rfl) E_b514 (by decide) [] [] (rm_18 l Z a0 hw [] b514 b1 kb1 (y2) (y4) (y6) (y8) h525 n0 (Nat.le_trans Z0 K.1) E_b514 F_b514_key F_b514_position F_b514_mask g_b514 E_b1 V_b1 g_b1 (Ne.symm ne_b1_b514)) 0 (by decide) (by decide) rfl pd_1 rfl rfl (Nat.le_of_eq rfl) at_123 rfl (k' := 2) (n' := 7) rfl rfl (by decide) (by decide) ?_
          intro T526 v526 h526 X526 q526
          obtain ⟨y527, y528, hy529, hy530, rfl, K526, E_b514, F_b514_key, F_b514_position, F_b514_mask⟩ := q526
          replace K := K.trans K526 (allS (Or.inr sz_b514) all0)
          replace E_b1 := E_b1.keep K526
          replace V_b1 := V_b1.keep K526 (ninS ne_b1_b514 nin0)
          show own_Go p e below (T526.setTop (mkF m 126 #[.val (.int i0), .val (.int i1), .val (.int i2), .val (.int i3), .val (.int i4), .val (.ref b1), .val (.int (1 : Int32)), .val (.int (1 : Int32)), .val (.int (0 : Int32)), .val (.int (0 : Int32)), .val (.ref b514), .val (.int y517), .val (.int y522), .unset, .unset] [(.int y528)])) _
          refine own_istore (pc' := 128) B X526 (Ls' := #[.val (.int i0), .val (.int i1), .val (.int i2), .val (.int i3), .val (.int i4), .val (.ref b1), .val (.int (1 : Int32)), .val (.int (1 : Int32)), .val (.int (0 : Int32)), .val (.int (0 : Int32)), .val (.ref b514), .val (.int y517), .val (.int y522), .val (.int y528), .unset]) at_126 rfl rfl ?_
          refine own_aload (pc' := 130) B X526 at_128 rfl rfl rfl ?_
          refine own_iload (pc' := 132) B X526 at_130 rfl rfl ?_
          refine own_callV (pc' := 135) B X526 (own_w hw 21 rfl) (own_w hw 22 rfl) (own_w hw 24 rfl) (own_w hw 23 rfl) (own_w hw 3 rfl) (own_w hw 25 rfl) E_b514 (by decide) [(.int (0 : Int32))] [] (rm_15 l Z a0 hw [] b514 b1 kb1 (y2) (y4) (y6) (y8) h526 n0 (Nat.le_trans Z0 K.1) E_b514 F_b514_key F_b514_position F_b514_mask g_b514 E_b1 V_b1 g_b1 (Ne.symm ne_b1_b514)) 0 (by decide) (by decide) rfl pd_2 rfl rfl (Nat.le_of_eq rfl) at_132 rfl (k' := 2) (n' := 7) rfl rfl (by decide) (by decide) ?_
          intro T531 v531 h531 X531 q531
          obtain ⟨rfl, K531, E_b514, F_b514_key, F_b514_position, F_b514_mask⟩ := q531
          replace K := K.trans K531 (allS (Or.inr sz_b514) all0)
          replace E_b1 := E_b1.keep K531
          replace V_b1 := V_b1.keep K531 (ninS ne_b1_b514 nin0)
          show own_Go p e below (T531.setTop (mkF m 135 #[.val (.int i0), .val (.int i1), .val (.int i2), .val (.int i3), .val (.int i4), .val (.ref b1), .val (.int (1 : Int32)), .val (.int (1 : Int32)), .val (.int (0 : Int32)), .val (.int (0 : Int32)), .val (.ref b514), .val (.int y517), .val (.int y522), .val (.int y528), .unset] [])) _
          refine own_aload (pc' := 137) B X531 at_135 rfl rfl rfl ?_
          refine own_iload (pc' := 139) B X531 at_137 rfl rfl ?_
          refine own_callV (pc' := 142) B X531 (own_w hw 21 rfl) (own_w hw 22 rfl) (own_w hw 24 rfl) (own_w hw 23 rfl) (own_w hw 3 rfl) (own_w hw 25 rfl) E_b514 (by decide) [(.int (0 : Int32))] [] (rm_7 l Z a0 hw [] b514 b1 kb1 (y2) (y4) (y6) (y8) h531 n0 (Nat.le_trans Z0 K.1) E_b514 F_b514_key F_b514_position F_b514_mask g_b514 E_b1 V_b1 g_b1 (Ne.symm ne_b1_b514)) 0 (by decide) (by decide) rfl pd_2 rfl rfl (Nat.le_of_eq rfl) at_139 rfl (k' := 2) (n' := 7) rfl rfl (by decide) (by decide) ?_
          intro T532 v532 h532 X532 q532
          obtain ⟨rfl, K532, E_b514, F_b514_key, F_b514_position, F_b514_mask⟩ := q532
          replace K := K.trans K532 (allS (Or.inr sz_b514) all0)
          replace E_b1 := E_b1.keep K532
          replace V_b1 := V_b1.keep K532 (ninS ne_b1_b514 nin0)
          show own_Go p e below (T532.setTop (mkF m 142 #[.val (.int i0), .val (.int i1), .val (.int i2), .val (.int i3), .val (.int i4), .val (.ref b1), .val (.int (1 : Int32)), .val (.int (1 : Int32)), .val (.int (0 : Int32)), .val (.int (0 : Int32)), .val (.ref b514), .val (.int y517), .val (.int y522), .val (.int y528), .unset] [])) _
          refine own_aload (pc' := 144) B X532 at_142 rfl rfl rfl ?_
          refine own_callV (pc' := 147) B X532 (own_w hw 12 rfl) (own_w hw 13 rfl) (own_w hw 15 rfl) (own_w hw 14 rfl) (own_w hw 3 rfl) (own_w hw 16 rfl) E_b514 (by decide) [] [] (rm_8 l Z a0 hw [] b514 b1 kb1 (y2) (y4) (y6) (y8) h532 n0 (Nat.le_trans Z0 K.1) E_b514 F_b514_key F_b514_position F_b514_mask g_b514 E_b1 V_b1 g_b1 (Ne.symm ne_b1_b514)) 0 (by decide) (by decide) rfl pd_1 rfl rfl (Nat.le_of_eq rfl) at_144 rfl (k' := 2) (n' := 7) rfl rfl (by decide) (by decide) ?_
          intro T533 v533 h533 X533 q533
          obtain ⟨y534, hy535, rfl, K533, E_b514, F_b514_key, F_b514_position, F_b514_mask⟩ := q533
          replace K := K.trans K533 (allS (Or.inr sz_b514) all0)
          replace E_b1 := E_b1.keep K533
          replace V_b1 := V_b1.keep K533 (ninS ne_b1_b514 nin0)
          show own_Go p e below (T533.setTop (mkF m 147 #[.val (.int i0), .val (.int i1), .val (.int i2), .val (.int i3), .val (.int i4), .val (.ref b1), .val (.int (1 : Int32)), .val (.int (1 : Int32)), .val (.int (0 : Int32)), .val (.int (0 : Int32)), .val (.ref b514), .val (.int y517), .val (.int y522), .val (.int y528), .unset] [(.int y534)])) _
          refine own_istore (pc' := 149) B X533 (Ls' := #[.val (.int i0), .val (.int i1), .val (.int i2), .val (.int i3), .val (.int i4), .val (.ref b1), .val (.int (1 : Int32)), .val (.int (1 : Int32)), .val (.int (0 : Int32)), .val (.int (0 : Int32)), .val (.ref b514), .val (.int y517), .val (.int y522), .val (.int y528), .val (.int y534)]) at_147 rfl rfl ?_
          refine own_iload (pc' := 151) B X533 at_149 rfl rfl ?_
          refine own_iloadN (pc' := 152) B X533 at_151 rfl rfl ?_
          refine own_iconst (pc' := 153) B X533 (z := (0 : Int32)) at_152 rfl rfl ?_
          refine own_callS (pc' := 156) B X533 (own_w hw 26 rfl) (own_w hw 27 rfl) (own_w hw 28 rfl) (own_w hw 29 rfl) (by decide) [(.int i0), (.int (0 : Int32))] [(.int y517)] (rm_9 l Z a0 hw [] (i0) h533 n0 (Nat.le_trans Z0 K.1) ) 1 (by decide) (by decide) rfl pd_3 rfl rfl (Nat.le_of_eq rfl) at_153 rfl (k' := 2) (n' := 7) rfl rfl (by decide) (by decide) ?_
          intro T536 v536 h536 X536 q536
          obtain ⟨y537, hy538, rfl, rfl⟩ := q536
          show own_Go p e below (T536.setTop (mkF m 156 #[.val (.int i0), .val (.int i1), .val (.int i2), .val (.int i3), .val (.int i4), .val (.ref b1), .val (.int (1 : Int32)), .val (.int (1 : Int32)), .val (.int (0 : Int32)), .val (.int (0 : Int32)), .val (.ref b514), .val (.int y517), .val (.int y522), .val (.int y528), .val (.int y534)] [(.int y537), (.int y517)])) _
          have c539 : y517 = y537 := by
            have o0 := own_o_i2b hy2
            have o1 := own_o_mask hy518 8 (by decide) (by decide)
            have o2 := own_o_mask hy538 8 (by decide) (by decide)
            have o3 := rng32 i0
            have o4 := rng32 y2
            have o5 := rng32 y517
            have o6 := rng32 y537
            have o7 : (255 : Int32).toInt = 255 := by decide
            refine own_eqI ?_
            omega
          refine own_icmpNo (pc' := 159) B X536 at_156 (teq c539).2 rfl ?_
          refine own_iload (pc' := 161) B X536 at_159 rfl rfl ?_
          refine own_iloadN (pc' := 162) B X536 at_161 rfl rfl ?_
          refine own_iload (pc' := 164) B X536 at_162 rfl rfl ?_
          refine own_callS (pc' := 167) B X536 (own_w hw 26 rfl) (own_w hw 27 rfl) (own_w hw 28 rfl) (own_w hw 29 rfl) (by decide) [(.int i1), (.int (1 : Int32))] [(.int y522)] (rm_13 l Z a0 hw [] (i1) h533 n0 (Nat.le_trans Z0 K.1) ) 1 (by decide) (by decide) rfl pd_3 rfl rfl (Nat.le_of_eq rfl) at_164 rfl (k' := 2) (n' := 7) rfl rfl (by decide) (by decide) ?_
          intro T540 v540 h540 X540 q540
          obtain ⟨y541, y542, hy543, hy544, rfl, rfl⟩ := q540
          show own_Go p e below (T540.setTop (mkF m 167 #[.val (.int i0), .val (.int i1), .val (.int i2), .val (.int i3), .val (.int i4), .val (.ref b1), .val (.int (1 : Int32)), .val (.int (1 : Int32)), .val (.int (0 : Int32)), .val (.int (0 : Int32)), .val (.ref b514), .val (.int y517), .val (.int y522), .val (.int y528), .val (.int y534)] [(.int y542), (.int y522)])) _
          have c545 : y522 = y542 := by
            have o0 := own_o_i2b hy4
            have o1 := own_o_xor255 hy523
            have o2 := own_o_mask hy524 8 (by decide) (by decide)
            have o3 := own_o_mask hy543 8 (by decide) (by decide)
            have o4 := own_o_isub hy544
            have o5 := rng32 i1
            have o6 := rng32 y4
            have o7 := rng32 y521
            have o8 := rng32 y522
            have o9 := rng32 y541
            have o10 := rng32 y542
            have o11 : (255 : Int32).toInt = 255 := by decide
            refine own_eqI ?_
            omega
          refine own_icmpNo (pc' := 170) B X540 at_167 (teq c545).2 rfl ?_
          refine own_iload (pc' := 172) B X540 at_170 rfl rfl ?_
          refine own_iloadN (pc' := 173) B X540 at_172 rfl rfl ?_
          refine own_iload (pc' := 175) B X540 at_173 rfl rfl ?_
          refine own_callS (pc' := 178) B X540 (own_w hw 26 rfl) (own_w hw 27 rfl) (own_w hw 28 rfl) (own_w hw 29 rfl) (by decide) [(.int i2), (.int (1 : Int32))] [(.int y528)] (rm_13 l Z a0 hw [] (i2) h533 n0 (Nat.le_trans Z0 K.1) ) 1 (by decide) (by decide) rfl pd_3 rfl rfl (Nat.le_of_eq rfl) at_175 rfl (k' := 2) (n' := 7) rfl rfl (by decide) (by decide) ?_
          intro T546 v546 h546 X546 q546
          obtain ⟨y547, y548, hy549, hy550, rfl, rfl⟩ := q546
          show own_Go p e below (T546.setTop (mkF m 178 #[.val (.int i0), .val (.int i1), .val (.int i2), .val (.int i3), .val (.int i4), .val (.ref b1), .val (.int (1 : Int32)), .val (.int (1 : Int32)), .val (.int (0 : Int32)), .val (.int (0 : Int32)), .val (.ref b514), .val (.int y517), .val (.int y522), .val (.int y528), .val (.int y534)] [(.int y548), (.int y528)])) _
          have c551 : y528 = y548 := by
            have o0 := own_o_i2b hy6
            have o1 := own_o_xor255 hy529
            have o2 := own_o_mask hy530 8 (by decide) (by decide)
            have o3 := own_o_mask hy549 8 (by decide) (by decide)
            have o4 := own_o_isub hy550
            have o5 := rng32 i2
            have o6 := rng32 y527
            have o7 := rng32 y528
            have o8 := rng32 y547
            have o9 := rng32 y548
            have o10 := rng32 y6
            have o11 : (255 : Int32).toInt = 255 := by decide
            refine own_eqI ?_
            omega
          refine own_icmpNo (pc' := 181) B X546 at_178 (teq c551).2 rfl ?_
          refine own_iload (pc' := 183) B X546 at_181 rfl rfl ?_
          refine own_iloadN (pc' := 184) B X546 at_183 rfl rfl ?_
          refine own_iload (pc' := 186) B X546 at_184 rfl rfl ?_
          refine own_callS (pc' := 189) B X546 (own_w hw 26 rfl) (own_w hw 27 rfl) (own_w hw 28 rfl) (own_w hw 29 rfl) (by decide) [(.int i3), (.int (0 : Int32))] [(.int y534)] (rm_9 l Z a0 hw [] (i3) h533 n0 (Nat.le_trans Z0 K.1) ) 1 (by decide) (by decide) rfl pd_3 rfl rfl (Nat.le_of_eq rfl) at_186 rfl (k' := 2) (n' := 7) rfl rfl (by decide) (by decide) ?_
          intro T552 v552 h552 X552 q552
          obtain ⟨y553, hy554, rfl, rfl⟩ := q552
          show own_Go p e below (T552.setTop (mkF m 189 #[.val (.int i0), .val (.int i1), .val (.int i2), .val (.int i3), .val (.int i4), .val (.ref b1), .val (.int (1 : Int32)), .val (.int (1 : Int32)), .val (.int (0 : Int32)), .val (.int (0 : Int32)), .val (.ref b514), .val (.int y517), .val (.int y522), .val (.int y528), .val (.int y534)] [(.int y553), (.int y534)])) _
          have c555 : y534 = y553 := by
            have o0 := own_o_i2b hy8
            have o1 := own_o_mask hy535 8 (by decide) (by decide)
            have o2 := own_o_mask hy554 8 (by decide) (by decide)
            have o3 := rng32 i3
            have o4 := rng32 y534
            have o5 := rng32 y553
            have o6 := rng32 y8
            have o7 : (255 : Int32).toInt = 255 := by decide
            refine own_eqI ?_
            omega
          refine own_icmpNo (pc' := 192) B X552 at_189 (teq c555).2 rfl ?_
          refine own_aload (pc' := 194) B X552 at_192 rfl rfl rfl ?_
          refine own_callV (pc' := 197) B X552 (own_w hw 30 rfl) (own_w hw 31 rfl) (own_w hw 33 rfl) (own_w hw 32 rfl) (own_w hw 3 rfl) (own_w hw 34 rfl) E_b514 (by decide) [] [] (rm_10 l Z a0 hw [] b514 b1 kb1 (y2) (y4) (y6) (y8) h533 n0 (Nat.le_trans Z0 K.1) E_b514 F_b514_key F_b514_position F_b514_mask g_b514 E_b1 V_b1 g_b1 (Ne.symm ne_b1_b514)) 0 (by decide) (by decide) rfl pd_1 rfl rfl (Nat.le_of_eq rfl) at_194 rfl (k' := 2) (n' := 7) rfl rfl (by decide) (by decide) ?_
          intro T556 v556 h556 X556 q556
          obtain ⟨rfl, rfl⟩ := q556
          show own_Go p e below (T556.setTop (mkF m 197 #[.val (.int i0), .val (.int i1), .val (.int i2), .val (.int i3), .val (.int i4), .val (.ref b1), .val (.int (1 : Int32)), .val (.int (1 : Int32)), .val (.int (0 : Int32)), .val (.int (0 : Int32)), .val (.ref b514), .val (.int y517), .val (.int y522), .val (.int y528), .val (.int y534)] [(.int (4 : Int32))])) _
          refine own_iconst (pc' := 198) B X556 (z := (4 : Int32)) at_197 rfl rfl ?_
          refine own_icmpNo (pc' := 201) B X556 at_198 (teq (by decide : (4 : Int32) = (4 : Int32))).2 rfl ?_
          refine own_iconst (pc' := 202) B X556 (z := (1 : Int32)) at_201 rfl rfl ?_
          refine own_goto (pc' := 206) B X556 at_202 (by decide) rfl ?_
          exact own_retN B X556 (t := .boolean) (z' := (1 : Int32)) (by simp) (by decide) at_206 (by decide) (by decide) rfl
        · refine own_ifNo (pc' := 75) B X9 at_72 ((if0 _ _).trans (feq c513).1) rfl ?_
          refine own_iconst (pc' := 76) B X9 (z := (1 : Int32)) at_75 rfl rfl ?_
          refine own_goto (pc' := 80) B X9 at_76 (by decide) rfl ?_
          refine own_istore (pc' := 82) B X9 (Ls' := #[.val (.int i0), .val (.int i1), .val (.int i2), .val (.int i3), .val (.int i4), .val (.ref b1), .val (.int (1 : Int32)), .val (.int (1 : Int32)), .val (.int (0 : Int32)), .val (.int (1 : Int32)), .unset, .unset, .unset, .unset, .unset]) at_80 rfl rfl ?_
          refine own_new (pc' := 85) B X9 (own_w hw 1 rfl) (own_w hw 2 rfl) (own_w hw 3 rfl) at_82 rfl (k' := 2) (n' := 7) rfl rfl (by decide) (by decide) ?_
          intro T557 h557 b557 X557 g557 E557 E_b557 D557
          have ne_b1_b557 : b1 ≠ b557 := own_ne E_b1.lt g557
          have sz_b557 : h0.size ≤ b557 := own_sz K g557
          have g_b557 : n0 ≤ b557 := Nat.le_trans Z0 sz_b557
          replace K := K.ext E557
          replace E_b1 := E_b1.ext E557
          replace V_b1 := V_b1.ext E557
          have F_b557_key : Fld Z h557 b557 "com/example/keyer/keyer/KeyReader" "key" "[B" .null := D557 (Or.inr (own_w hw 11 rfl)) (ty := (.array .byte)) (by decide)
          have F_b557_position : Fld Z h557 b557 "com/example/keyer/keyer/KeyReader" "position" "I" (.int (0 : Int32)) := D557 (Or.inl (own_w hw 18 rfl)) (ty := .int) (by decide)
          have F_b557_mask : Fld Z h557 b557 "com/example/keyer/keyer/KeyReader" "mask" "I" (.int (0 : Int32)) := D557 (Or.inl (own_w hw 20 rfl)) (ty := .int) (by decide)
          clear D557
          refine own_dup (pc' := 86) B X557 at_85 rfl rfl ?_
          refine own_aload (pc' := 88) B X557 at_86 rfl rfl rfl ?_
          refine own_callI (pc' := 91) B X557 rfl rfl (own_w hw 4 rfl) (own_w hw 5 rfl) (own_w hw 3 rfl) (own_w hw 6 rfl) (by decide) [(.ref b1)] [(.ref b557)] (rm_1 l Z a0 hw [] b557 b1 kb1 (y2) (y4) (y6) (y8) h557 n0 (Nat.le_trans Z0 K.1) E_b557 F_b557_key F_b557_position F_b557_mask g_b557 E_b1 V_b1 g_b1 (Ne.symm ne_b1_b557)) 1 (by decide) (by decide) rfl pd_0 rfl rfl (Nat.le_of_eq rfl) at_88 rfl (k' := 2) (n' := 7) rfl rfl (by decide) (by decide) ?_
          intro T558 v558 h558 X558 q558
          obtain ⟨rfl, K558, E_b557, F_b557_key, F_b557_position, F_b557_mask⟩ := q558
          replace K := K.trans K558 (allS (Or.inr sz_b557) all0)
          replace E_b1 := E_b1.keep K558
          replace V_b1 := V_b1.keep K558 (ninS ne_b1_b557 nin0)
          show own_Go p e below (T558.setTop (mkF m 91 #[.val (.int i0), .val (.int i1), .val (.int i2), .val (.int i3), .val (.int i4), .val (.ref b1), .val (.int (1 : Int32)), .val (.int (1 : Int32)), .val (.int (0 : Int32)), .val (.int (1 : Int32)), .unset, .unset, .unset, .unset, .unset] [(.ref b557)])) _
          refine own_astore (pc' := 93) B X558 (Ls' := #[.val (.int i0), .val (.int i1), .val (.int i2), .val (.int i3), .val (.int i4), .val (.ref b1), .val (.int (1 : Int32)), .val (.int (1 : Int32)), .val (.int (0 : Int32)), .val (.int (1 : Int32)), .val (.ref b557), .unset, .unset, .unset, .unset]) at_91 rfl rfl rfl ?_
          refine own_aload (pc' := 95) B X558 at_93 rfl rfl rfl ?_
          refine own_callV (pc' := 98) B X558 (own_w hw 12 rfl) (own_w hw 13 rfl) (own_w hw 15 rfl) (own_w hw 14 rfl) (own_w hw 3 rfl) (own_w hw 16 rfl) E_b557 (by decide) [] [] (rm_2 l Z a0 hw [] b557 b1 kb1 (y2) (y4) (y6) (y8) h558 n0 (Nat.le_trans Z0 K.1) E_b557 F_b557_key F_b557_position F_b557_mask g_b557 E_b1 V_b1 g_b1 (Ne.symm ne_b1_b557)) 0 (by decide) (by decide) rfl pd_1 rfl rfl (Nat.le_of_eq rfl) at_95 rfl (k' := 2) (n' := 7) rfl rfl (by decide) (by decide) ?_
          intro T559 v559 h559 X559 q559
          obtain ⟨y560, hy561, rfl, K559, E_b557, F_b557_key, F_b557_position, F_b557_mask⟩ := q559
          replace K := K.trans K559 (allS (Or.inr sz_b557) all0)
          replace E_b1 := E_b1.keep K559
          replace V_b1 := V_b1.keep K559 (ninS ne_b1_b557 nin0)
          show own_Go p e below (T559.setTop (mkF m 98 #[.val (.int i0), .val (.int i1), .val (.int i2), .val (.int i3), .val (.int i4), .val (.ref b1), .val (.int (1 : Int32)), .val (.int (1 : Int32)), .val (.int (0 : Int32)), .val (.int (1 : Int32)), .val (.ref b557), .unset, .unset, .unset, .unset] [(.int y560)])) _
          refine own_istore (pc' := 100) B X559 (Ls' := #[.val (.int i0), .val (.int i1), .val (.int i2), .val (.int i3), .val (.int i4), .val (.ref b1), .val (.int (1 : Int32)), .val (.int (1 : Int32)), .val (.int (0 : Int32)), .val (.int (1 : Int32)), .val (.ref b557), .val (.int y560), .unset, .unset, .unset]) at_98 rfl rfl ?_
          refine own_aload (pc' := 102) B X559 at_100 rfl rfl rfl ?_
          refine own_iload (pc' := 104) B X559 at_102 rfl rfl ?_
          refine own_callV (pc' := 107) B X559 (own_w hw 21 rfl) (own_w hw 22 rfl) (own_w hw 24 rfl) (own_w hw 23 rfl) (own_w hw 3 rfl) (own_w hw 25 rfl) E_b557 (by decide) [(.int (1 : Int32))] [] (rm_19 l Z a0 hw [] b557 b1 kb1 (y2) (y4) (y6) (y8) h559 n0 (Nat.le_trans Z0 K.1) E_b557 F_b557_key F_b557_position F_b557_mask g_b557 E_b1 V_b1 g_b1 (Ne.symm ne_b1_b557)) 0 (by decide) (by decide) rfl pd_2 rfl rfl (Nat.le_of_eq rfl) at_104 rfl (k' := 2) (n' := 7) rfl rfl (by decide) (by decide) ?_
          intro T562 v562 h562 X562 q562
          obtain ⟨rfl, K562, E_b557, F_b557_key, F_b557_position, F_b557_mask⟩ := q562
          replace K := K.trans K562 (allS (Or.inr sz_b557) all0)
          replace E_b1 := E_b1.keep K562
          replace V_b1 := V_b1.keep K562 (ninS ne_b1_b557 nin0)
          show own_Go p e below (T562.setTop (mkF m 107 #[.val (.int i0), .val (.int i1), .val (.int i2), .val (.int i3), .val (.int i4), .val (.ref b1), .val (.int (1 : Int32)), .val (.int (1 : Int32)), .val (.int (0 : Int32)), .val (.int (1 : Int32)), .val (.ref b557), .val (.int y560), .unset, .unset, .unset] [])) _
          refine own_aload (pc' := 109) B X562 at_107 rfl rfl rfl ?_
          refine own_callV (pc' := 112) B X562 (own_w hw 12 rfl) (own_w hw 13 rfl) (own_w hw 15 rfl) (own_w hw 14 rfl) (own_w hw 3 rfl) (own_w hw 16 rfl) E_b557 (by decide) [] [] (rm_20 l Z a0 hw [] b557 b1 kb1 (y2) (y4) (y6) (y8) h562 n0 (Nat.le_trans Z0 K.1) E_b557 F_b557_key F_b557_position F_b557_mask g_b557 E_b1 V_b1 g_b1 (Ne.symm ne_b1_b557)) 0 (by decide) (by decide) rfl pd_1 rfl rfl (Nat.le_of_eq rfl) at_109 rfl (k' := 2) (n' := 7) rfl rfl (by decide) (by decide) ?_
          intro T563 v563 h563 X563 q563
          obtain ⟨y564, y565, hy566, hy567, rfl, K563, E_b557, F_b557_key, F_b557_position, F_b557_mask⟩ := q563
          replace K := K.trans K563 (allS (Or.inr sz_b557) all0)
          replace E_b1 := E_b1.keep K563
          replace V_b1 := V_b1.keep K563 (ninS ne_b1_b557 nin0)
          show own_Go p e below (T563.setTop (mkF m 112 #[.val (.int i0), .val (.int i1), .val (.int i2), .val (.int i3), .val (.int i4), .val (.ref b1), .val (.int (1 : Int32)), .val (.int (1 : Int32)), .val (.int (0 : Int32)), .val (.int (1 : Int32)), .val (.ref b557), .val (.int y560), .unset, .unset, .unset] [(.int y565)])) _
          refine own_istore (pc' := 114) B X563 (Ls' := #[.val (.int i0), .val (.int i1), .val (.int i2), .val (.int i3), .val (.int i4), .val (.ref b1), .val (.int (1 : Int32)), .val (.int (1 : Int32)), .val (.int (0 : Int32)), .val (.int (1 : Int32)), .val (.ref b557), .val (.int y560), .val (.int y565), .unset, .unset]) at_112 rfl rfl ?_
          refine own_aload (pc' := 116) B X563 at_114 rfl rfl rfl ?_
          refine own_iload (pc' := 118) B X563 at_116 rfl rfl ?_
          refine own_callV (pc' := 121) B X563 (own_w hw 21 rfl) (own_w hw 22 rfl) (own_w hw 24 rfl) (own_w hw 23 rfl) (own_w hw 3 rfl) (own_w hw 25 rfl) E_b557 (by decide) [(.int (1 : Int32))] [] (rm_22 l Z a0 hw [] b557 b1 kb1 (y2) (y4) (y6) (y8) h563 n0 (Nat.le_trans Z0 K.1) E_b557 F_b557_key F_b557_position F_b557_mask g_b557 E_b1 V_b1 g_b1 (Ne.symm ne_b1_b557)) 0 (by decide) (by decide) rfl pd_2 rfl rfl (Nat.le_of_eq rfl) at_118 rfl (k' := 2) (n' := 7) rfl rfl (by decide) (by decide) ?_
          intro T568 v568 h568 X568 q568
          obtain ⟨rfl, K568, E_b557, F_b557_key, F_b557_position, F_b557_mask⟩ := q568
          replace K := K.trans K568 (allS (Or.inr sz_b557) all0)
          replace E_b1 := E_b1.keep K568
          replace V_b1 := V_b1.keep K568 (ninS ne_b1_b557 nin0)
          show own_Go p e below (T568.setTop (mkF m 121 #[.val (.int i0), .val (.int i1), .val (.int i2), .val (.int i3), .val (.int i4), .val (.ref b1), .val (.int (1 : Int32)), .val (.int (1 : Int32)), .val (.int (0 : Int32)), .val (.int (1 : Int32)), .val (.ref b557), .val (.int y560), .val (.int y565), .unset, .unset] [])) _
          refine own_aload (pc' := 123) B X568 at_121 rfl rfl rfl ?_
          refine own_callV (pc' := 126) B X568 (own_w hw 12 rfl) (own_w hw 13 rfl) (own_w hw 15 rfl) (own_w hw 14 rfl) (own_w hw 3 rfl) (own_w hw 16 rfl) E_b557 (by decide) [] [] (rm_18 l Z a0 hw [] b557 b1 kb1 (y2) (y4) (y6) (y8) h568 n0 (Nat.le_trans Z0 K.1) E_b557 F_b557_key F_b557_position F_b557_mask g_b557 E_b1 V_b1 g_b1 (Ne.symm ne_b1_b557)) 0 (by decide) (by decide) rfl pd_1 rfl rfl (Nat.le_of_eq rfl) at_123 rfl (k' := 2) (n' := 7) rfl rfl (by decide) (by decide) ?_
          intro T569 v569 h569 X569 q569
          obtain ⟨y570, y571, hy572, hy573, rfl, K569, E_b557, F_b557_key, F_b557_position, F_b557_mask⟩ := q569
          replace K := K.trans K569 (allS (Or.inr sz_b557) all0)
          replace E_b1 := E_b1.keep K569
          replace V_b1 := V_b1.keep K569 (ninS ne_b1_b557 nin0)
          show own_Go p e below (T569.setTop (mkF m 126 #[.val (.int i0), .val (.int i1), .val (.int i2), .val (.int i3), .val (.int i4), .val (.ref b1), .val (.int (1 : Int32)), .val (.int (1 : Int32)), .val (.int (0 : Int32)), .val (.int (1 : Int32)), .val (.ref b557), .val (.int y560), .val (.int y565), .unset, .unset] [(.int y571)])) _
          refine own_istore (pc' := 128) B X569 (Ls' := #[.val (.int i0), .val (.int i1), .val (.int i2), .val (.int i3), .val (.int i4), .val (.ref b1), .val (.int (1 : Int32)), .val (.int (1 : Int32)), .val (.int (0 : Int32)), .val (.int (1 : Int32)), .val (.ref b557), .val (.int y560), .val (.int y565), .val (.int y571), .unset]) at_126 rfl rfl ?_
          refine own_aload (pc' := 130) B X569 at_128 rfl rfl rfl ?_
          refine own_iload (pc' := 132) B X569 at_130 rfl rfl ?_
          refine own_callV (pc' := 135) B X569 (own_w hw 21 rfl) (own_w hw 22 rfl) (own_w hw 24 rfl) (own_w hw 23 rfl) (own_w hw 3 rfl) (own_w hw 25 rfl) E_b557 (by decide) [(.int (0 : Int32))] [] (rm_15 l Z a0 hw [] b557 b1 kb1 (y2) (y4) (y6) (y8) h569 n0 (Nat.le_trans Z0 K.1) E_b557 F_b557_key F_b557_position F_b557_mask g_b557 E_b1 V_b1 g_b1 (Ne.symm ne_b1_b557)) 0 (by decide) (by decide) rfl pd_2 rfl rfl (Nat.le_of_eq rfl) at_132 rfl (k' := 2) (n' := 7) rfl rfl (by decide) (by decide) ?_
          intro T574 v574 h574 X574 q574
          obtain ⟨rfl, K574, E_b557, F_b557_key, F_b557_position, F_b557_mask⟩ := q574
          replace K := K.trans K574 (allS (Or.inr sz_b557) all0)
          replace E_b1 := E_b1.keep K574
          replace V_b1 := V_b1.keep K574 (ninS ne_b1_b557 nin0)
          show own_Go p e below (T574.setTop (mkF m 135 #[.val (.int i0), .val (.int i1), .val (.int i2), .val (.int i3), .val (.int i4), .val (.ref b1), .val (.int (1 : Int32)), .val (.int (1 : Int32)), .val (.int (0 : Int32)), .val (.int (1 : Int32)), .val (.ref b557), .val (.int y560), .val (.int y565), .val (.int y571), .unset] [])) _
          refine own_aload (pc' := 137) B X574 at_135 rfl rfl rfl ?_
          refine own_iload (pc' := 139) B X574 at_137 rfl rfl ?_
          refine own_callV (pc' := 142) B X574 (own_w hw 21 rfl) (own_w hw 22 rfl) (own_w hw 24 rfl) (own_w hw 23 rfl) (own_w hw 3 rfl) (own_w hw 25 rfl) E_b557 (by decide) [(.int (1 : Int32))] [] (rm_11 l Z a0 hw [] b557 b1 kb1 (y2) (y4) (y6) (y8) h574 n0 (Nat.le_trans Z0 K.1) E_b557 F_b557_key F_b557_position F_b557_mask g_b557 E_b1 V_b1 g_b1 (Ne.symm ne_b1_b557)) 0 (by decide) (by decide) rfl pd_2 rfl rfl (Nat.le_of_eq rfl) at_139 rfl (k' := 2) (n' := 7) rfl rfl (by decide) (by decide) ?_
          intro T575 v575 h575 X575 q575
          obtain ⟨rfl, K575, E_b557, F_b557_key, F_b557_position, F_b557_mask⟩ := q575
          replace K := K.trans K575 (allS (Or.inr sz_b557) all0)
          replace E_b1 := E_b1.keep K575
          replace V_b1 := V_b1.keep K575 (ninS ne_b1_b557 nin0)
          show own_Go p e below (T575.setTop (mkF m 142 #[.val (.int i0), .val (.int i1), .val (.int i2), .val (.int i3), .val (.int i4), .val (.ref b1), .val (.int (1 : Int32)), .val (.int (1 : Int32)), .val (.int (0 : Int32)), .val (.int (1 : Int32)), .val (.ref b557), .val (.int y560), .val (.int y565), .val (.int y571), .unset] [])) _
          refine own_aload (pc' := 144) B X575 at_142 rfl rfl rfl ?_
          refine own_callV (pc' := 147) B X575 (own_w hw 12 rfl) (own_w hw 13 rfl) (own_w hw 15 rfl) (own_w hw 14 rfl) (own_w hw 3 rfl) (own_w hw 16 rfl) E_b557 (by decide) [] [] (rm_12 l Z a0 hw [] b557 b1 kb1 (y2) (y4) (y6) (y8) h575 n0 (Nat.le_trans Z0 K.1) E_b557 F_b557_key F_b557_position F_b557_mask g_b557 E_b1 V_b1 g_b1 (Ne.symm ne_b1_b557)) 0 (by decide) (by decide) rfl pd_1 rfl rfl (Nat.le_of_eq rfl) at_144 rfl (k' := 2) (n' := 7) rfl rfl (by decide) (by decide) ?_
          intro T576 v576 h576 X576 q576
          obtain ⟨y577, y578, hy579, hy580, rfl, K576, E_b557, F_b557_key, F_b557_position, F_b557_mask⟩ := q576
          replace K := K.trans K576 (allS (Or.inr sz_b557) all0)
          replace E_b1 := E_b1.keep K576
          replace V_b1 := V_b1.keep K576 (ninS ne_b1_b557 nin0)
          show own_Go p e below (T576.setTop (mkF m 147 #[.val (.int i0), .val (.int i1), .val (.int i2), .val (.int i3), .val (.int i4), .val (.ref b1), .val (.int (1 : Int32)), .val (.int (1 : Int32)), .val (.int (0 : Int32)), .val (.int (1 : Int32)), .val (.ref b557), .val (.int y560), .val (.int y565), .val (.int y571), .unset] [(.int y578)])) _
          refine own_istore (pc' := 149) B X576 (Ls' := #[.val (.int i0), .val (.int i1), .val (.int i2), .val (.int i3), .val (.int i4), .val (.ref b1), .val (.int (1 : Int32)), .val (.int (1 : Int32)), .val (.int (0 : Int32)), .val (.int (1 : Int32)), .val (.ref b557), .val (.int y560), .val (.int y565), .val (.int y571), .val (.int y578)]) at_147 rfl rfl ?_
          refine own_iload (pc' := 151) B X576 at_149 rfl rfl ?_
          refine own_iloadN (pc' := 152) B X576 at_151 rfl rfl ?_
          refine own_iconst (pc' := 153) B X576 (z := (0 : Int32)) at_152 rfl rfl ?_
          refine own_callS (pc' := 156) B X576 (own_w hw 26 rfl) (own_w hw 27 rfl) (own_w hw 28 rfl) (own_w hw 29 rfl) (by decide) [(.int i0), (.int (0 : Int32))] [(.int y560)] (rm_9 l Z a0 hw [] (i0) h576 n0 (Nat.le_trans Z0 K.1) ) 1 (by decide) (by decide) rfl pd_3 rfl rfl (Nat.le_of_eq rfl) at_153 rfl (k' := 2) (n' := 7) rfl rfl (by decide) (by decide) ?_
          intro T581 v581 h581 X581 q581
          obtain ⟨y582, hy583, rfl, rfl⟩ := q581
          show own_Go p e below (T581.setTop (mkF m 156 #[.val (.int i0), .val (.int i1), .val (.int i2), .val (.int i3), .val (.int i4), .val (.ref b1), .val (.int (1 : Int32)), .val (.int (1 : Int32)), .val (.int (0 : Int32)), .val (.int (1 : Int32)), .val (.ref b557), .val (.int y560), .val (.int y565), .val (.int y571), .val (.int y578)] [(.int y582), (.int y560)])) _
          have c584 : y560 = y582 := by
            have o0 := own_o_i2b hy2
            have o1 := own_o_mask hy561 8 (by decide) (by decide)
            have o2 := own_o_mask hy583 8 (by decide) (by decide)
            have o3 := rng32 i0
            have o4 := rng32 y2
            have o5 := rng32 y560
            have o6 := rng32 y582
            have o7 : (255 : Int32).toInt = 255 := by decide
            refine own_eqI ?_
            omega
          refine own_icmpNo (pc' := 159) B X581 at_156 (teq c584).2 rfl ?_
          refine own_iload (pc' := 161) B X581 at_159 rfl rfl ?_
          refine own_iloadN (pc' := 162) B X581 at_161 rfl rfl ?_
          refine own_iload (pc' := 164) B X581 at_162 rfl rfl ?_
          refine own_callS (pc' := 167) B X581 (own_w hw 26 rfl) (own_w hw 27 rfl) (own_w hw 28 rfl) (own_w hw 29 rfl) (by decide) [(.int i1), (.int (1 : Int32))] [(.int y565)] (rm_13 l Z a0 hw [] (i1) h576 n0 (Nat.le_trans Z0 K.1) ) 1 (by decide) (by decide) rfl pd_3 rfl rfl (Nat.le_of_eq rfl) at_164 rfl (k' := 2) (n' := 7) rfl rfl (by decide) (by decide) ?_
          intro T585 v585 h585 X585 q585
          obtain ⟨y586, y587, hy588, hy589, rfl, rfl⟩ := q585
          show own_Go p e below (T585.setTop (mkF m 167 #[.val (.int i0), .val (.int i1), .val (.int i2), .val (.int i3), .val (.int i4), .val (.ref b1), .val (.int (1 : Int32)), .val (.int (1 : Int32)), .val (.int (0 : Int32)), .val (.int (1 : Int32)), .val (.ref b557), .val (.int y560), .val (.int y565), .val (.int y571), .val (.int y578)] [(.int y587), (.int y565)])) _
          have c590 : y565 = y587 := by
            have o0 := own_o_i2b hy4
            have o1 := own_o_xor255 hy566
            have o2 := own_o_mask hy567 8 (by decide) (by decide)
            have o3 := own_o_mask hy588 8 (by decide) (by decide)
            have o4 := own_o_isub hy589
            have o5 := rng32 i1
            have o6 := rng32 y4
            have o7 := rng32 y564
            have o8 := rng32 y565
            have o9 := rng32 y586
            have o10 := rng32 y587
            have o11 : (255 : Int32).toInt = 255 := by decide
            refine own_eqI ?_
            omega
          refine own_icmpNo (pc' := 170) B X585 at_167 (teq c590).2 rfl ?_
          refine own_iload (pc' := 172) B X585 at_170 rfl rfl ?_
          refine own_iloadN (pc' := 173) B X585 at_172 rfl rfl ?_
          refine own_iload (pc' := 175) B X585 at_173 rfl rfl ?_
          refine own_callS (pc' := 178) B X585 (own_w hw 26 rfl) (own_w hw 27 rfl) (own_w hw 28 rfl) (own_w hw 29 rfl) (by decide) [(.int i2), (.int (1 : Int32))] [(.int y571)] (rm_13 l Z a0 hw [] (i2) h576 n0 (Nat.le_trans Z0 K.1) ) 1 (by decide) (by decide) rfl pd_3 rfl rfl (Nat.le_of_eq rfl) at_175 rfl (k' := 2) (n' := 7) rfl rfl (by decide) (by decide) ?_
          intro T591 v591 h591 X591 q591
          obtain ⟨y592, y593, hy594, hy595, rfl, rfl⟩ := q591
          show own_Go p e below (T591.setTop (mkF m 178 #[.val (.int i0), .val (.int i1), .val (.int i2), .val (.int i3), .val (.int i4), .val (.ref b1), .val (.int (1 : Int32)), .val (.int (1 : Int32)), .val (.int (0 : Int32)), .val (.int (1 : Int32)), .val (.ref b557), .val (.int y560), .val (.int y565), .val (.int y571), .val (.int y578)] [(.int y593), (.int y571)])) _
          have c596 : y571 = y593 := by
            have o0 := own_o_i2b hy6
            have o1 := own_o_xor255 hy572
            have o2 := own_o_mask hy573 8 (by decide) (by decide)
            have o3 := own_o_mask hy594 8 (by decide) (by decide)
            have o4 := own_o_isub hy595
            have o5 := rng32 i2
            have o6 := rng32 y570
            have o7 := rng32 y571
            have o8 := rng32 y592
            have o9 := rng32 y593
            have o10 := rng32 y6
            have o11 : (255 : Int32).toInt = 255 := by decide
            refine own_eqI ?_
            omega
          refine own_icmpNo (pc' := 181) B X591 at_178 (teq c596).2 rfl ?_
          refine own_iload (pc' := 183) B X591 at_181 rfl rfl ?_
          refine own_iloadN (pc' := 184) B X591 at_183 rfl rfl ?_
          refine own_iload (pc' := 186) B X591 at_184 rfl rfl ?_
          refine own_callS (pc' := 189) B X591 (own_w hw 26 rfl) (own_w hw 27 rfl) (own_w hw 28 rfl) (own_w hw 29 rfl) (by decide) [(.int i3), (.int (1 : Int32))] [(.int y578)] (rm_13 l Z a0 hw [] (i3) h576 n0 (Nat.le_trans Z0 K.1) ) 1 (by decide) (by decide) rfl pd_3 rfl rfl (Nat.le_of_eq rfl) at_186 rfl (k' := 2) (n' := 7) rfl rfl (by decide) (by decide) ?_
          intro T597 v597 h597 X597 q597
          obtain ⟨y598, y599, hy600, hy601, rfl, rfl⟩ := q597
          show own_Go p e below (T597.setTop (mkF m 189 #[.val (.int i0), .val (.int i1), .val (.int i2), .val (.int i3), .val (.int i4), .val (.ref b1), .val (.int (1 : Int32)), .val (.int (1 : Int32)), .val (.int (0 : Int32)), .val (.int (1 : Int32)), .val (.ref b557), .val (.int y560), .val (.int y565), .val (.int y571), .val (.int y578)] [(.int y599), (.int y578)])) _
          have c602 : y578 = y599 := by
            have o0 := own_o_i2b hy8
            have o1 := own_o_xor255 hy579
            have o2 := own_o_mask hy580 8 (by decide) (by decide)
            have o3 := own_o_mask hy600 8 (by decide) (by decide)
            have o4 := own_o_isub hy601
            have o5 := rng32 i3
            have o6 := rng32 y577
            have o7 := rng32 y578
            have o8 := rng32 y598
            have o9 := rng32 y599
            have o10 := rng32 y8
            have o11 : (255 : Int32).toInt = 255 := by decide
            refine own_eqI ?_
            omega
          refine own_icmpNo (pc' := 192) B X597 at_189 (teq c602).2 rfl ?_
          refine own_aload (pc' := 194) B X597 at_192 rfl rfl rfl ?_
          refine own_callV (pc' := 197) B X597 (own_w hw 30 rfl) (own_w hw 31 rfl) (own_w hw 33 rfl) (own_w hw 32 rfl) (own_w hw 3 rfl) (own_w hw 34 rfl) E_b557 (by decide) [] [] (rm_14 l Z a0 hw [] b557 b1 kb1 (y2) (y4) (y6) (y8) h576 n0 (Nat.le_trans Z0 K.1) E_b557 F_b557_key F_b557_position F_b557_mask g_b557 E_b1 V_b1 g_b1 (Ne.symm ne_b1_b557)) 0 (by decide) (by decide) rfl pd_1 rfl rfl (Nat.le_of_eq rfl) at_194 rfl (k' := 2) (n' := 7) rfl rfl (by decide) (by decide) ?_
          intro T603 v603 h603 X603 q603
          obtain ⟨rfl, rfl⟩ := q603
          show own_Go p e below (T603.setTop (mkF m 197 #[.val (.int i0), .val (.int i1), .val (.int i2), .val (.int i3), .val (.int i4), .val (.ref b1), .val (.int (1 : Int32)), .val (.int (1 : Int32)), .val (.int (0 : Int32)), .val (.int (1 : Int32)), .val (.ref b557), .val (.int y560), .val (.int y565), .val (.int y571), .val (.int y578)] [(.int (4 : Int32))])) _
          refine own_iconst (pc' := 198) B X603 (z := (4 : Int32)) at_197 rfl rfl ?_
          refine own_icmpNo (pc' := 201) B X603 at_198 (teq (by decide : (4 : Int32) = (4 : Int32))).2 rfl ?_
          refine own_iconst (pc' := 202) B X603 (z := (1 : Int32)) at_201 rfl rfl ?_
          refine own_goto (pc' := 206) B X603 at_202 (by decide) rfl ?_
          exact own_retN B X603 (t := .boolean) (z' := (1 : Int32)) (by simp) (by decide) at_206 (by decide) (by decide) rfl
      · refine own_ifNo (pc' := 60) B X9 at_57 ((if0 _ _).trans (feq c511).1) rfl ?_
        refine own_iconst (pc' := 61) B X9 (z := (1 : Int32)) at_60 rfl rfl ?_
        refine own_goto (pc' := 65) B X9 at_61 (by decide) rfl ?_
        refine own_istore (pc' := 67) B X9 (Ls' := #[.val (.int i0), .val (.int i1), .val (.int i2), .val (.int i3), .val (.int i4), .val (.ref b1), .val (.int (1 : Int32)), .val (.int (1 : Int32)), .val (.int (1 : Int32)), .unset, .unset, .unset, .unset, .unset, .unset]) at_65 rfl rfl ?_
        refine own_iload (pc' := 69) B X9 at_67 rfl rfl ?_
        refine own_bipush (pc' := 71) B X9 (z := (8 : Int32)) at_69 rfl (by decide) ?_
        obtain ⟨y604, hy604⟩ : ∃ z : Int32, i4 &&& (8 : Int32) = z := ⟨_, rfl⟩
        refine own_iand (pc' := 72) B X9 at_71 rfl hy604 ?_
        by_cases c605 : y604 = (0 : Int32)
        · refine own_ifYes (pc' := 79) B X9 at_72 ((if0 _ _).trans (teq c605).1) (by decide) rfl ?_
          refine own_iconst (pc' := 80) B X9 (z := (0 : Int32)) at_79 rfl rfl ?_
          refine own_istore (pc' := 82) B X9 (Ls' := #[.val (.int i0), .val (.int i1), .val (.int i2), .val (.int i3), .val (.int i4), .val (.ref b1), .val (.int (1 : Int32)), .val (.int (1 : Int32)), .val (.int (1 : Int32)), .val (.int (0 : Int32)), .unset, .unset, .unset, .unset, .unset]) at_80 rfl rfl ?_
          refine own_new (pc' := 85) B X9 (own_w hw 1 rfl) (own_w hw 2 rfl) (own_w hw 3 rfl) at_82 rfl (k' := 2) (n' := 7) rfl rfl (by decide) (by decide) ?_
          intro T606 h606 b606 X606 g606 E606 E_b606 D606
          have ne_b1_b606 : b1 ≠ b606 := own_ne E_b1.lt g606
          have sz_b606 : h0.size ≤ b606 := own_sz K g606
          have g_b606 : n0 ≤ b606 := Nat.le_trans Z0 sz_b606
          replace K := K.ext E606
          replace E_b1 := E_b1.ext E606
          replace V_b1 := V_b1.ext E606
          have F_b606_key : Fld Z h606 b606 "com/example/keyer/keyer/KeyReader" "key" "[B" .null := D606 (Or.inr (own_w hw 11 rfl)) (ty := (.array .byte)) (by decide)
          have F_b606_position : Fld Z h606 b606 "com/example/keyer/keyer/KeyReader" "position" "I" (.int (0 : Int32)) := D606 (Or.inl (own_w hw 18 rfl)) (ty := .int) (by decide)
          have F_b606_mask : Fld Z h606 b606 "com/example/keyer/keyer/KeyReader" "mask" "I" (.int (0 : Int32)) := D606 (Or.inl (own_w hw 20 rfl)) (ty := .int) (by decide)
          clear D606
          refine own_dup (pc' := 86) B X606 at_85 rfl rfl ?_
          refine own_aload (pc' := 88) B X606 at_86 rfl rfl rfl ?_
          refine own_callI (pc' := 91) B X606 rfl rfl (own_w hw 4 rfl) (own_w hw 5 rfl) (own_w hw 3 rfl) (own_w hw 6 rfl) (by decide) [(.ref b1)] [(.ref b606)] (rm_1 l Z a0 hw [] b606 b1 kb1 (y2) (y4) (y6) (y8) h606 n0 (Nat.le_trans Z0 K.1) E_b606 F_b606_key F_b606_position F_b606_mask g_b606 E_b1 V_b1 g_b1 (Ne.symm ne_b1_b606)) 1 (by decide) (by decide) rfl pd_0 rfl rfl (Nat.le_of_eq rfl) at_88 rfl (k' := 2) (n' := 7) rfl rfl (by decide) (by decide) ?_
          intro T607 v607 h607 X607 q607
          obtain ⟨rfl, K607, E_b606, F_b606_key, F_b606_position, F_b606_mask⟩ := q607
          replace K := K.trans K607 (allS (Or.inr sz_b606) all0)
          replace E_b1 := E_b1.keep K607
          replace V_b1 := V_b1.keep K607 (ninS ne_b1_b606 nin0)
          show own_Go p e below (T607.setTop (mkF m 91 #[.val (.int i0), .val (.int i1), .val (.int i2), .val (.int i3), .val (.int i4), .val (.ref b1), .val (.int (1 : Int32)), .val (.int (1 : Int32)), .val (.int (1 : Int32)), .val (.int (0 : Int32)), .unset, .unset, .unset, .unset, .unset] [(.ref b606)])) _
          refine own_astore (pc' := 93) B X607 (Ls' := #[.val (.int i0), .val (.int i1), .val (.int i2), .val (.int i3), .val (.int i4), .val (.ref b1), .val (.int (1 : Int32)), .val (.int (1 : Int32)), .val (.int (1 : Int32)), .val (.int (0 : Int32)), .val (.ref b606), .unset, .unset, .unset, .unset]) at_91 rfl rfl rfl ?_
          refine own_aload (pc' := 95) B X607 at_93 rfl rfl rfl ?_
          refine own_callV (pc' := 98) B X607 (own_w hw 12 rfl) (own_w hw 13 rfl) (own_w hw 15 rfl) (own_w hw 14 rfl) (own_w hw 3 rfl) (own_w hw 16 rfl) E_b606 (by decide) [] [] (rm_2 l Z a0 hw [] b606 b1 kb1 (y2) (y4) (y6) (y8) h607 n0 (Nat.le_trans Z0 K.1) E_b606 F_b606_key F_b606_position F_b606_mask g_b606 E_b1 V_b1 g_b1 (Ne.symm ne_b1_b606)) 0 (by decide) (by decide) rfl pd_1 rfl rfl (Nat.le_of_eq rfl) at_95 rfl (k' := 2) (n' := 7) rfl rfl (by decide) (by decide) ?_
          intro T608 v608 h608 X608 q608
          obtain ⟨y609, hy610, rfl, K608, E_b606, F_b606_key, F_b606_position, F_b606_mask⟩ := q608
          replace K := K.trans K608 (allS (Or.inr sz_b606) all0)
          replace E_b1 := E_b1.keep K608
          replace V_b1 := V_b1.keep K608 (ninS ne_b1_b606 nin0)
          show own_Go p e below (T608.setTop (mkF m 98 #[.val (.int i0), .val (.int i1), .val (.int i2), .val (.int i3), .val (.int i4), .val (.ref b1), .val (.int (1 : Int32)), .val (.int (1 : Int32)), .val (.int (1 : Int32)), .val (.int (0 : Int32)), .val (.ref b606), .unset, .unset, .unset, .unset] [(.int y609)])) _
          refine own_istore (pc' := 100) B X608 (Ls' := #[.val (.int i0), .val (.int i1), .val (.int i2), .val (.int i3), .val (.int i4), .val (.ref b1), .val (.int (1 : Int32)), .val (.int (1 : Int32)), .val (.int (1 : Int32)), .val (.int (0 : Int32)), .val (.ref b606), .val (.int y609), .unset, .unset, .unset]) at_98 rfl rfl ?_
          refine own_aload (pc' := 102) B X608 at_100 rfl rfl rfl ?_
          refine own_iload (pc' := 104) B X608 at_102 rfl rfl ?_
          refine own_callV (pc' := 107) B X608 (own_w hw 21 rfl) (own_w hw 22 rfl) (own_w hw 24 rfl) (own_w hw 23 rfl) (own_w hw 3 rfl) (own_w hw 25 rfl) E_b606 (by decide) [(.int (1 : Int32))] [] (rm_19 l Z a0 hw [] b606 b1 kb1 (y2) (y4) (y6) (y8) h608 n0 (Nat.le_trans Z0 K.1) E_b606 F_b606_key F_b606_position F_b606_mask g_b606 E_b1 V_b1 g_b1 (Ne.symm ne_b1_b606)) 0 (by decide) (by decide) rfl pd_2 rfl rfl (Nat.le_of_eq rfl) at_104 rfl (k' := 2) (n' := 7) rfl rfl (by decide) (by decide) ?_
          intro T611 v611 h611 X611 q611
          obtain ⟨rfl, K611, E_b606, F_b606_key, F_b606_position, F_b606_mask⟩ := q611
          replace K := K.trans K611 (allS (Or.inr sz_b606) all0)
          replace E_b1 := E_b1.keep K611
          replace V_b1 := V_b1.keep K611 (ninS ne_b1_b606 nin0)
          show own_Go p e below (T611.setTop (mkF m 107 #[.val (.int i0), .val (.int i1), .val (.int i2), .val (.int i3), .val (.int i4), .val (.ref b1), .val (.int (1 : Int32)), .val (.int (1 : Int32)), .val (.int (1 : Int32)), .val (.int (0 : Int32)), .val (.ref b606), .val (.int y609), .unset, .unset, .unset] [])) _
          refine own_aload (pc' := 109) B X611 at_107 rfl rfl rfl ?_
          refine own_callV (pc' := 112) B X611 (own_w hw 12 rfl) (own_w hw 13 rfl) (own_w hw 15 rfl) (own_w hw 14 rfl) (own_w hw 3 rfl) (own_w hw 16 rfl) E_b606 (by decide) [] [] (rm_20 l Z a0 hw [] b606 b1 kb1 (y2) (y4) (y6) (y8) h611 n0 (Nat.le_trans Z0 K.1) E_b606 F_b606_key F_b606_position F_b606_mask g_b606 E_b1 V_b1 g_b1 (Ne.symm ne_b1_b606)) 0 (by decide) (by decide) rfl pd_1 rfl rfl (Nat.le_of_eq rfl) at_109 rfl (k' := 2) (n' := 7) rfl rfl (by decide) (by decide) ?_
          intro T612 v612 h612 X612 q612
          obtain ⟨y613, y614, hy615, hy616, rfl, K612, E_b606, F_b606_key, F_b606_position, F_b606_mask⟩ := q612
          replace K := K.trans K612 (allS (Or.inr sz_b606) all0)
          replace E_b1 := E_b1.keep K612
          replace V_b1 := V_b1.keep K612 (ninS ne_b1_b606 nin0)
          show own_Go p e below (T612.setTop (mkF m 112 #[.val (.int i0), .val (.int i1), .val (.int i2), .val (.int i3), .val (.int i4), .val (.ref b1), .val (.int (1 : Int32)), .val (.int (1 : Int32)), .val (.int (1 : Int32)), .val (.int (0 : Int32)), .val (.ref b606), .val (.int y609), .unset, .unset, .unset] [(.int y614)])) _
          refine own_istore (pc' := 114) B X612 (Ls' := #[.val (.int i0), .val (.int i1), .val (.int i2), .val (.int i3), .val (.int i4), .val (.ref b1), .val (.int (1 : Int32)), .val (.int (1 : Int32)), .val (.int (1 : Int32)), .val (.int (0 : Int32)), .val (.ref b606), .val (.int y609), .val (.int y614), .unset, .unset]) at_112 rfl rfl ?_
          refine own_aload (pc' := 116) B X612 at_114 rfl rfl rfl ?_
          refine own_iload (pc' := 118) B X612 at_116 rfl rfl ?_
          refine own_callV (pc' := 121) B X612 (own_w hw 21 rfl) (own_w hw 22 rfl) (own_w hw 24 rfl) (own_w hw 23 rfl) (own_w hw 3 rfl) (own_w hw 25 rfl) E_b606 (by decide) [(.int (1 : Int32))] [] (rm_22 l Z a0 hw [] b606 b1 kb1 (y2) (y4) (y6) (y8) h612 n0 (Nat.le_trans Z0 K.1) E_b606 F_b606_key F_b606_position F_b606_mask g_b606 E_b1 V_b1 g_b1 (Ne.symm ne_b1_b606)) 0 (by decide) (by decide) rfl pd_2 rfl rfl (Nat.le_of_eq rfl) at_118 rfl (k' := 2) (n' := 7) rfl rfl (by decide) (by decide) ?_
          intro T617 v617 h617 X617 q617
          obtain ⟨rfl, K617, E_b606, F_b606_key, F_b606_position, F_b606_mask⟩ := q617
          replace K := K.trans K617 (allS (Or.inr sz_b606) all0)
          replace E_b1 := E_b1.keep K617
          replace V_b1 := V_b1.keep K617 (ninS ne_b1_b606 nin0)
          show own_Go p e below (T617.setTop (mkF m 121 #[.val (.int i0), .val (.int i1), .val (.int i2), .val (.int i3), .val (.int i4), .val (.ref b1), .val (.int (1 : Int32)), .val (.int (1 : Int32)), .val (.int (1 : Int32)), .val (.int (0 : Int32)), .val (.ref b606), .val (.int y609), .val (.int y614), .unset, .unset] [])) _
          refine own_aload (pc' := 123) B X617 at_121 rfl rfl rfl ?_
          refine own_callV (pc' := 126) B X617 (own_w hw 12 rfl) (own_w hw 13 rfl) (own_w hw 15 rfl) (own_w hw 14 rfl) (own_w hw 3 rfl) (own_w hw 16 rfl) E_b606 (by decide) [] [] (rm_18 l Z a0 hw [] b606 b1 kb1 (y2) (y4) (y6) (y8) h617 n0 (Nat.le_trans Z0 K.1) E_b606 F_b606_key F_b606_position F_b606_mask g_b606 E_b1 V_b1 g_b1 (Ne.symm ne_b1_b606)) 0 (by decide) (by decide) rfl pd_1 rfl rfl (Nat.le_of_eq rfl) at_123 rfl (k' := 2) (n' := 7) rfl rfl (by decide) (by decide) ?_
          intro T618 v618 h618 X618 q618
          obtain ⟨y619, y620, hy621, hy622, rfl, K618, E_b606, F_b606_key, F_b606_position, F_b606_mask⟩ := q618
          replace K := K.trans K618 (allS (Or.inr sz_b606) all0)
          replace E_b1 := E_b1.keep K618
          replace V_b1 := V_b1.keep K618 (ninS ne_b1_b606 nin0)
          show own_Go p e below (T618.setTop (mkF m 126 #[.val (.int i0), .val (.int i1), .val (.int i2), .val (.int i3), .val (.int i4), .val (.ref b1), .val (.int (1 : Int32)), .val (.int (1 : Int32)), .val (.int (1 : Int32)), .val (.int (0 : Int32)), .val (.ref b606), .val (.int y609), .val (.int y614), .unset, .unset] [(.int y620)])) _
          refine own_istore (pc' := 128) B X618 (Ls' := #[.val (.int i0), .val (.int i1), .val (.int i2), .val (.int i3), .val (.int i4), .val (.ref b1), .val (.int (1 : Int32)), .val (.int (1 : Int32)), .val (.int (1 : Int32)), .val (.int (0 : Int32)), .val (.ref b606), .val (.int y609), .val (.int y614), .val (.int y620), .unset]) at_126 rfl rfl ?_
          refine own_aload (pc' := 130) B X618 at_128 rfl rfl rfl ?_
          refine own_iload (pc' := 132) B X618 at_130 rfl rfl ?_
          refine own_callV (pc' := 135) B X618 (own_w hw 21 rfl) (own_w hw 22 rfl) (own_w hw 24 rfl) (own_w hw 23 rfl) (own_w hw 3 rfl) (own_w hw 25 rfl) E_b606 (by decide) [(.int (1 : Int32))] [] (rm_16 l Z a0 hw [] b606 b1 kb1 (y2) (y4) (y6) (y8) h618 n0 (Nat.le_trans Z0 K.1) E_b606 F_b606_key F_b606_position F_b606_mask g_b606 E_b1 V_b1 g_b1 (Ne.symm ne_b1_b606)) 0 (by decide) (by decide) rfl pd_2 rfl rfl (Nat.le_of_eq rfl) at_132 rfl (k' := 2) (n' := 7) rfl rfl (by decide) (by decide) ?_
          intro T623 v623 h623 X623 q623
          obtain ⟨rfl, K623, E_b606, F_b606_key, F_b606_position, F_b606_mask⟩ := q623
          replace K := K.trans K623 (allS (Or.inr sz_b606) all0)
          replace E_b1 := E_b1.keep K623
          replace V_b1 := V_b1.keep K623 (ninS ne_b1_b606 nin0)
          show own_Go p e below (T623.setTop (mkF m 135 #[.val (.int i0), .val (.int i1), .val (.int i2), .val (.int i3), .val (.int i4), .val (.ref b1), .val (.int (1 : Int32)), .val (.int (1 : Int32)), .val (.int (1 : Int32)), .val (.int (0 : Int32)), .val (.ref b606), .val (.int y609), .val (.int y614), .val (.int y620), .unset] [])) _
          refine own_aload (pc' := 137) B X623 at_135 rfl rfl rfl ?_
          refine own_iload (pc' := 139) B X623 at_137 rfl rfl ?_
          refine own_callV (pc' := 142) B X623 (own_w hw 21 rfl) (own_w hw 22 rfl) (own_w hw 24 rfl) (own_w hw 23 rfl) (own_w hw 3 rfl) (own_w hw 25 rfl) E_b606 (by decide) [(.int (0 : Int32))] [] (rm_15 l Z a0 hw [] b606 b1 kb1 (y2) (y4) (y6) (y8) h623 n0 (Nat.le_trans Z0 K.1) E_b606 F_b606_key F_b606_position F_b606_mask g_b606 E_b1 V_b1 g_b1 (Ne.symm ne_b1_b606)) 0 (by decide) (by decide) rfl pd_2 rfl rfl (Nat.le_of_eq rfl) at_139 rfl (k' := 2) (n' := 7) rfl rfl (by decide) (by decide) ?_
          intro T624 v624 h624 X624 q624
          obtain ⟨rfl, K624, E_b606, F_b606_key, F_b606_position, F_b606_mask⟩ := q624
          replace K := K.trans K624 (allS (Or.inr sz_b606) all0)
          replace E_b1 := E_b1.keep K624
          replace V_b1 := V_b1.keep K624 (ninS ne_b1_b606 nin0)
          show own_Go p e below (T624.setTop (mkF m 142 #[.val (.int i0), .val (.int i1), .val (.int i2), .val (.int i3), .val (.int i4), .val (.ref b1), .val (.int (1 : Int32)), .val (.int (1 : Int32)), .val (.int (1 : Int32)), .val (.int (0 : Int32)), .val (.ref b606), .val (.int y609), .val (.int y614), .val (.int y620), .unset] [])) _
          refine own_aload (pc' := 144) B X624 at_142 rfl rfl rfl ?_
          refine own_callV (pc' := 147) B X624 (own_w hw 12 rfl) (own_w hw 13 rfl) (own_w hw 15 rfl) (own_w hw 14 rfl) (own_w hw 3 rfl) (own_w hw 16 rfl) E_b606 (by decide) [] [] (rm_8 l Z a0 hw [] b606 b1 kb1 (y2) (y4) (y6) (y8) h624 n0 (Nat.le_trans Z0 K.1) E_b606 F_b606_key F_b606_position F_b606_mask g_b606 E_b1 V_b1 g_b1 (Ne.symm ne_b1_b606)) 0 (by decide) (by decide) rfl pd_1 rfl rfl (Nat.le_of_eq rfl) at_144 rfl (k' := 2) (n' := 7) rfl rfl (by decide) (by decide) ?_
          intro T625 v625 h625 X625 q625
          obtain ⟨y626, hy627, rfl, K625, E_b606, F_b606_key, F_b606_position, F_b606_mask⟩ := q625
          replace K := K.trans K625 (allS (Or.inr sz_b606) all0)
          replace E_b1 := E_b1.keep K625
          replace V_b1 := V_b1.keep K625 (ninS ne_b1_b606 nin0)
          show own_Go p e below (T625.setTop (mkF m 147 #[.val (.int i0), .val (.int i1), .val (.int i2), .val (.int i3), .val (.int i4), .val (.ref b1), .val (.int (1 : Int32)), .val (.int (1 : Int32)), .val (.int (1 : Int32)), .val (.int (0 : Int32)), .val (.ref b606), .val (.int y609), .val (.int y614), .val (.int y620), .unset] [(.int y626)])) _
          refine own_istore (pc' := 149) B X625 (Ls' := #[.val (.int i0), .val (.int i1), .val (.int i2), .val (.int i3), .val (.int i4), .val (.ref b1), .val (.int (1 : Int32)), .val (.int (1 : Int32)), .val (.int (1 : Int32)), .val (.int (0 : Int32)), .val (.ref b606), .val (.int y609), .val (.int y614), .val (.int y620), .val (.int y626)]) at_147 rfl rfl ?_
          refine own_iload (pc' := 151) B X625 at_149 rfl rfl ?_
          refine own_iloadN (pc' := 152) B X625 at_151 rfl rfl ?_
          refine own_iconst (pc' := 153) B X625 (z := (0 : Int32)) at_152 rfl rfl ?_
          refine own_callS (pc' := 156) B X625 (own_w hw 26 rfl) (own_w hw 27 rfl) (own_w hw 28 rfl) (own_w hw 29 rfl) (by decide) [(.int i0), (.int (0 : Int32))] [(.int y609)] (rm_9 l Z a0 hw [] (i0) h625 n0 (Nat.le_trans Z0 K.1) ) 1 (by decide) (by decide) rfl pd_3 rfl rfl (Nat.le_of_eq rfl) at_153 rfl (k' := 2) (n' := 7) rfl rfl (by decide) (by decide) ?_
          intro T628 v628 h628 X628 q628
          obtain ⟨y629, hy630, rfl, rfl⟩ := q628
          show own_Go p e below (T628.setTop (mkF m 156 #[.val (.int i0), .val (.int i1), .val (.int i2), .val (.int i3), .val (.int i4), .val (.ref b1), .val (.int (1 : Int32)), .val (.int (1 : Int32)), .val (.int (1 : Int32)), .val (.int (0 : Int32)), .val (.ref b606), .val (.int y609), .val (.int y614), .val (.int y620), .val (.int y626)] [(.int y629), (.int y609)])) _
          have c631 : y609 = y629 := by
            have o0 := own_o_i2b hy2
            have o1 := own_o_mask hy610 8 (by decide) (by decide)
            have o2 := own_o_mask hy630 8 (by decide) (by decide)
            have o3 := rng32 i0
            have o4 := rng32 y2
            have o5 := rng32 y609
            have o6 := rng32 y629
            have o7 : (255 : Int32).toInt = 255 := by decide
            refine own_eqI ?_
            omega
          refine own_icmpNo (pc' := 159) B X628 at_156 (teq c631).2 rfl ?_
          refine own_iload (pc' := 161) B X628 at_159 rfl rfl ?_
          refine own_iloadN (pc' := 162) B X628 at_161 rfl rfl ?_
          refine own_iload (pc' := 164) B X628 at_162 rfl rfl ?_
          refine own_callS (pc' := 167) B X628 (own_w hw 26 rfl) (own_w hw 27 rfl) (own_w hw 28 rfl) (own_w hw 29 rfl) (by decide) [(.int i1), (.int (1 : Int32))] [(.int y614)] (rm_13 l Z a0 hw [] (i1) h625 n0 (Nat.le_trans Z0 K.1) ) 1 (by decide) (by decide) rfl pd_3 rfl rfl (Nat.le_of_eq rfl) at_164 rfl (k' := 2) (n' := 7) rfl rfl (by decide) (by decide) ?_
          intro T632 v632 h632 X632 q632
          obtain ⟨y633, y634, hy635, hy636, rfl, rfl⟩ := q632
          show own_Go p e below (T632.setTop (mkF m 167 #[.val (.int i0), .val (.int i1), .val (.int i2), .val (.int i3), .val (.int i4), .val (.ref b1), .val (.int (1 : Int32)), .val (.int (1 : Int32)), .val (.int (1 : Int32)), .val (.int (0 : Int32)), .val (.ref b606), .val (.int y609), .val (.int y614), .val (.int y620), .val (.int y626)] [(.int y634), (.int y614)])) _
          have c637 : y614 = y634 := by
            have o0 := own_o_i2b hy4
            have o1 := own_o_xor255 hy615
            have o2 := own_o_mask hy616 8 (by decide) (by decide)
            have o3 := own_o_mask hy635 8 (by decide) (by decide)
            have o4 := own_o_isub hy636
            have o5 := rng32 i1
            have o6 := rng32 y4
            have o7 := rng32 y613
            have o8 := rng32 y614
            have o9 := rng32 y633
            have o10 := rng32 y634
            have o11 : (255 : Int32).toInt = 255 := by decide
            refine own_eqI ?_
            omega
          refine own_icmpNo (pc' := 170) B X632 at_167 (teq c637).2 rfl ?_
          refine own_iload (pc' := 172) B X632 at_170 rfl rfl ?_
          refine own_iloadN (pc' := 173) B X632 at_172 rfl rfl ?_
          refine own_iload (pc' := 175) B X632 at_173 rfl rfl ?_
          refine own_callS (pc' := 178) B X632 (own_w hw 26 rfl) (own_w hw 27 rfl) (own_w hw 28 rfl) (own_w hw 29 rfl) (by decide) [(.int i2), (.int (1 : Int32))] [(.int y620)] (rm_13 l Z a0 hw [] (i2) h625 n0 (Nat.le_trans Z0 K.1) ) 1 (by decide) (by decide) rfl pd_3 rfl rfl (Nat.le_of_eq rfl) at_175 rfl (k' := 2) (n' := 7) rfl rfl (by decide) (by decide) ?_
          intro T638 v638 h638 X638 q638
          obtain ⟨y639, y640, hy641, hy642, rfl, rfl⟩ := q638
          show own_Go p e below (T638.setTop (mkF m 178 #[.val (.int i0), .val (.int i1), .val (.int i2), .val (.int i3), .val (.int i4), .val (.ref b1), .val (.int (1 : Int32)), .val (.int (1 : Int32)), .val (.int (1 : Int32)), .val (.int (0 : Int32)), .val (.ref b606), .val (.int y609), .val (.int y614), .val (.int y620), .val (.int y626)] [(.int y640), (.int y620)])) _
          have c643 : y620 = y640 := by
            have o0 := own_o_i2b hy6
            have o1 := own_o_xor255 hy621
            have o2 := own_o_mask hy622 8 (by decide) (by decide)
            have o3 := own_o_mask hy641 8 (by decide) (by decide)
            have o4 := own_o_isub hy642
            have o5 := rng32 i2
            have o6 := rng32 y6
            have o7 := rng32 y619
            have o8 := rng32 y620
            have o9 := rng32 y639
            have o10 := rng32 y640
            have o11 : (255 : Int32).toInt = 255 := by decide
            refine own_eqI ?_
            omega
          refine own_icmpNo (pc' := 181) B X638 at_178 (teq c643).2 rfl ?_
          refine own_iload (pc' := 183) B X638 at_181 rfl rfl ?_
          refine own_iloadN (pc' := 184) B X638 at_183 rfl rfl ?_
          refine own_iload (pc' := 186) B X638 at_184 rfl rfl ?_
          refine own_callS (pc' := 189) B X638 (own_w hw 26 rfl) (own_w hw 27 rfl) (own_w hw 28 rfl) (own_w hw 29 rfl) (by decide) [(.int i3), (.int (0 : Int32))] [(.int y626)] (rm_9 l Z a0 hw [] (i3) h625 n0 (Nat.le_trans Z0 K.1) ) 1 (by decide) (by decide) rfl pd_3 rfl rfl (Nat.le_of_eq rfl) at_186 rfl (k' := 2) (n' := 7) rfl rfl (by decide) (by decide) ?_
          intro T644 v644 h644 X644 q644
          obtain ⟨y645, hy646, rfl, rfl⟩ := q644
          show own_Go p e below (T644.setTop (mkF m 189 #[.val (.int i0), .val (.int i1), .val (.int i2), .val (.int i3), .val (.int i4), .val (.ref b1), .val (.int (1 : Int32)), .val (.int (1 : Int32)), .val (.int (1 : Int32)), .val (.int (0 : Int32)), .val (.ref b606), .val (.int y609), .val (.int y614), .val (.int y620), .val (.int y626)] [(.int y645), (.int y626)])) _
          have c647 : y626 = y645 := by
            have o0 := own_o_i2b hy8
            have o1 := own_o_mask hy627 8 (by decide) (by decide)
            have o2 := own_o_mask hy646 8 (by decide) (by decide)
            have o3 := rng32 i3
            have o4 := rng32 y626
            have o5 := rng32 y645
            have o6 := rng32 y8
            have o7 : (255 : Int32).toInt = 255 := by decide
            refine own_eqI ?_
            omega
          refine own_icmpNo (pc' := 192) B X644 at_189 (teq c647).2 rfl ?_
          refine own_aload (pc' := 194) B X644 at_192 rfl rfl rfl ?_
          refine own_callV (pc' := 197) B X644 (own_w hw 30 rfl) (own_w hw 31 rfl) (own_w hw 33 rfl) (own_w hw 32 rfl) (own_w hw 3 rfl) (own_w hw 34 rfl) E_b606 (by decide) [] [] (rm_10 l Z a0 hw [] b606 b1 kb1 (y2) (y4) (y6) (y8) h625 n0 (Nat.le_trans Z0 K.1) E_b606 F_b606_key F_b606_position F_b606_mask g_b606 E_b1 V_b1 g_b1 (Ne.symm ne_b1_b606)) 0 (by decide) (by decide) rfl pd_1 rfl rfl (Nat.le_of_eq rfl) at_194 rfl (k' := 2) (n' := 7) rfl rfl (by decide) (by decide) ?_
          intro T648 v648 h648 X648 q648
          obtain ⟨rfl, rfl⟩ := q648
          show own_Go p e below (T648.setTop (mkF m 197 #[.val (.int i0), .val (.int i1), .val (.int i2), .val (.int i3), .val (.int i4), .val (.ref b1), .val (.int (1 : Int32)), .val (.int (1 : Int32)), .val (.int (1 : Int32)), .val (.int (0 : Int32)), .val (.ref b606), .val (.int y609), .val (.int y614), .val (.int y620), .val (.int y626)] [(.int (4 : Int32))])) _
          refine own_iconst (pc' := 198) B X648 (z := (4 : Int32)) at_197 rfl rfl ?_
          refine own_icmpNo (pc' := 201) B X648 at_198 (teq (by decide : (4 : Int32) = (4 : Int32))).2 rfl ?_
          refine own_iconst (pc' := 202) B X648 (z := (1 : Int32)) at_201 rfl rfl ?_
          refine own_goto (pc' := 206) B X648 at_202 (by decide) rfl ?_
          exact own_retN B X648 (t := .boolean) (z' := (1 : Int32)) (by simp) (by decide) at_206 (by decide) (by decide) rfl
        · refine own_ifNo (pc' := 75) B X9 at_72 ((if0 _ _).trans (feq c605).1) rfl ?_
          refine own_iconst (pc' := 76) B X9 (z := (1 : Int32)) at_75 rfl rfl ?_
          refine own_goto (pc' := 80) B X9 at_76 (by decide) rfl ?_
          refine own_istore (pc' := 82) B X9 (Ls' := #[.val (.int i0), .val (.int i1), .val (.int i2), .val (.int i3), .val (.int i4), .val (.ref b1), .val (.int (1 : Int32)), .val (.int (1 : Int32)), .val (.int (1 : Int32)), .val (.int (1 : Int32)), .unset, .unset, .unset, .unset, .unset]) at_80 rfl rfl ?_
          refine own_new (pc' := 85) B X9 (own_w hw 1 rfl) (own_w hw 2 rfl) (own_w hw 3 rfl) at_82 rfl (k' := 2) (n' := 7) rfl rfl (by decide) (by decide) ?_
          intro T649 h649 b649 X649 g649 E649 E_b649 D649
          have ne_b1_b649 : b1 ≠ b649 := own_ne E_b1.lt g649
          have sz_b649 : h0.size ≤ b649 := own_sz K g649
          have g_b649 : n0 ≤ b649 := Nat.le_trans Z0 sz_b649
          replace K := K.ext E649
          replace E_b1 := E_b1.ext E649
          replace V_b1 := V_b1.ext E649
          have F_b649_key : Fld Z h649 b649 "com/example/keyer/keyer/KeyReader" "key" "[B" .null := D649 (Or.inr (own_w hw 11 rfl)) (ty := (.array .byte)) (by decide)
          have F_b649_position : Fld Z h649 b649 "com/example/keyer/keyer/KeyReader" "position" "I" (.int (0 : Int32)) := D649 (Or.inl (own_w hw 18 rfl)) (ty := .int) (by decide)
          have F_b649_mask : Fld Z h649 b649 "com/example/keyer/keyer/KeyReader" "mask" "I" (.int (0 : Int32)) := D649 (Or.inl (own_w hw 20 rfl)) (ty := .int) (by decide)
          clear D649
          refine own_dup (pc' := 86) B X649 at_85 rfl rfl ?_
          refine own_aload (pc' := 88) B X649 at_86 rfl rfl rfl ?_
          refine own_callI (pc' := 91) B X649 rfl rfl (own_w hw 4 rfl) (own_w hw 5 rfl) (own_w hw 3 rfl) (own_w hw 6 rfl) (by decide) [(.ref b1)] [(.ref b649)] (rm_1 l Z a0 hw [] b649 b1 kb1 (y2) (y4) (y6) (y8) h649 n0 (Nat.le_trans Z0 K.1) E_b649 F_b649_key F_b649_position F_b649_mask g_b649 E_b1 V_b1 g_b1 (Ne.symm ne_b1_b649)) 1 (by decide) (by decide) rfl pd_0 rfl rfl (Nat.le_of_eq rfl) at_88 rfl (k' := 2) (n' := 7) rfl rfl (by decide) (by decide) ?_
          intro T650 v650 h650 X650 q650
          obtain ⟨rfl, K650, E_b649, F_b649_key, F_b649_position, F_b649_mask⟩ := q650
          replace K := K.trans K650 (allS (Or.inr sz_b649) all0)
          replace E_b1 := E_b1.keep K650
          replace V_b1 := V_b1.keep K650 (ninS ne_b1_b649 nin0)
          show own_Go p e below (T650.setTop (mkF m 91 #[.val (.int i0), .val (.int i1), .val (.int i2), .val (.int i3), .val (.int i4), .val (.ref b1), .val (.int (1 : Int32)), .val (.int (1 : Int32)), .val (.int (1 : Int32)), .val (.int (1 : Int32)), .unset, .unset, .unset, .unset, .unset] [(.ref b649)])) _
          refine own_astore (pc' := 93) B X650 (Ls' := #[.val (.int i0), .val (.int i1), .val (.int i2), .val (.int i3), .val (.int i4), .val (.ref b1), .val (.int (1 : Int32)), .val (.int (1 : Int32)), .val (.int (1 : Int32)), .val (.int (1 : Int32)), .val (.ref b649), .unset, .unset, .unset, .unset]) at_91 rfl rfl rfl ?_
          refine own_aload (pc' := 95) B X650 at_93 rfl rfl rfl ?_
          refine own_callV (pc' := 98) B X650 (own_w hw 12 rfl) (own_w hw 13 rfl) (own_w hw 15 rfl) (own_w hw 14 rfl) (own_w hw 3 rfl) (own_w hw 16 rfl) E_b649 (by decide) [] [] (rm_2 l Z a0 hw [] b649 b1 kb1 (y2) (y4) (y6) (y8) h650 n0 (Nat.le_trans Z0 K.1) E_b649 F_b649_key F_b649_position F_b649_mask g_b649 E_b1 V_b1 g_b1 (Ne.symm ne_b1_b649)) 0 (by decide) (by decide) rfl pd_1 rfl rfl (Nat.le_of_eq rfl) at_95 rfl (k' := 2) (n' := 7) rfl rfl (by decide) (by decide) ?_
          intro T651 v651 h651 X651 q651
          obtain ⟨y652, hy653, rfl, K651, E_b649, F_b649_key, F_b649_position, F_b649_mask⟩ := q651
          replace K := K.trans K651 (allS (Or.inr sz_b649) all0)
          replace E_b1 := E_b1.keep K651
          replace V_b1 := V_b1.keep K651 (ninS ne_b1_b649 nin0)
          show own_Go p e below (T651.setTop (mkF m 98 #[.val (.int i0), .val (.int i1), .val (.int i2), .val (.int i3), .val (.int i4), .val (.ref b1), .val (.int (1 : Int32)), .val (.int (1 : Int32)), .val (.int (1 : Int32)), .val (.int (1 : Int32)), .val (.ref b649), .unset, .unset, .unset, .unset] [(.int y652)])) _
          refine own_istore (pc' := 100) B X651 (Ls' := #[.val (.int i0), .val (.int i1), .val (.int i2), .val (.int i3), .val (.int i4), .val (.ref b1), .val (.int (1 : Int32)), .val (.int (1 : Int32)), .val (.int (1 : Int32)), .val (.int (1 : Int32)), .val (.ref b649), .val (.int y652), .unset, .unset, .unset]) at_98 rfl rfl ?_
          refine own_aload (pc' := 102) B X651 at_100 rfl rfl rfl ?_
          refine own_iload (pc' := 104) B X651 at_102 rfl rfl ?_
          refine own_callV (pc' := 107) B X651 (own_w hw 21 rfl) (own_w hw 22 rfl) (own_w hw 24 rfl) (own_w hw 23 rfl) (own_w hw 3 rfl) (own_w hw 25 rfl) E_b649 (by decide) [(.int (1 : Int32))] [] (rm_19 l Z a0 hw [] b649 b1 kb1 (y2) (y4) (y6) (y8) h651 n0 (Nat.le_trans Z0 K.1) E_b649 F_b649_key F_b649_position F_b649_mask g_b649 E_b1 V_b1 g_b1 (Ne.symm ne_b1_b649)) 0 (by decide) (by decide) rfl pd_2 rfl rfl (Nat.le_of_eq rfl) at_104 rfl (k' := 2) (n' := 7) rfl rfl (by decide) (by decide) ?_
          intro T654 v654 h654 X654 q654
          obtain ⟨rfl, K654, E_b649, F_b649_key, F_b649_position, F_b649_mask⟩ := q654
          replace K := K.trans K654 (allS (Or.inr sz_b649) all0)
          replace E_b1 := E_b1.keep K654
          replace V_b1 := V_b1.keep K654 (ninS ne_b1_b649 nin0)
          show own_Go p e below (T654.setTop (mkF m 107 #[.val (.int i0), .val (.int i1), .val (.int i2), .val (.int i3), .val (.int i4), .val (.ref b1), .val (.int (1 : Int32)), .val (.int (1 : Int32)), .val (.int (1 : Int32)), .val (.int (1 : Int32)), .val (.ref b649), .val (.int y652), .unset, .unset, .unset] [])) _
          refine own_aload (pc' := 109) B X654 at_107 rfl rfl rfl ?_
          refine own_callV (pc' := 112) B X654 (own_w hw 12 rfl) (own_w hw 13 rfl) (own_w hw 15 rfl) (own_w hw 14 rfl) (own_w hw 3 rfl) (own_w hw 16 rfl) E_b649 (by decide) [] [] (rm_20 l Z a0 hw [] b649 b1 kb1 (y2) (y4) (y6) (y8) h654 n0 (Nat.le_trans Z0 K.1) E_b649 F_b649_key F_b649_position F_b649_mask g_b649 E_b1 V_b1 g_b1 (Ne.symm ne_b1_b649)) 0 (by decide) (by decide) rfl pd_1 rfl rfl (Nat.le_of_eq rfl) at_109 rfl (k' := 2) (n' := 7) rfl rfl (by decide) (by decide) ?_
          intro T655 v655 h655 X655 q655
          obtain ⟨y656, y657, hy658, hy659, rfl, K655, E_b649, F_b649_key, F_b649_position, F_b649_mask⟩ := q655
          replace K := K.trans K655 (allS (Or.inr sz_b649) all0)
          replace E_b1 := E_b1.keep K655
          replace V_b1 := V_b1.keep K655 (ninS ne_b1_b649 nin0)
          show own_Go p e below (T655.setTop (mkF m 112 #[.val (.int i0), .val (.int i1), .val (.int i2), .val (.int i3), .val (.int i4), .val (.ref b1), .val (.int (1 : Int32)), .val (.int (1 : Int32)), .val (.int (1 : Int32)), .val (.int (1 : Int32)), .val (.ref b649), .val (.int y652), .unset, .unset, .unset] [(.int y657)])) _
          refine own_istore (pc' := 114) B X655 (Ls' := #[.val (.int i0), .val (.int i1), .val (.int i2), .val (.int i3), .val (.int i4), .val (.ref b1), .val (.int (1 : Int32)), .val (.int (1 : Int32)), .val (.int (1 : Int32)), .val (.int (1 : Int32)), .val (.ref b649), .val (.int y652), .val (.int y657), .unset, .unset]) at_112 rfl rfl ?_
          refine own_aload (pc' := 116) B X655 at_114 rfl rfl rfl ?_
          refine own_iload (pc' := 118) B X655 at_116 rfl rfl ?_
          refine own_callV (pc' := 121) B X655 (own_w hw 21 rfl) (own_w hw 22 rfl) (own_w hw 24 rfl) (own_w hw 23 rfl) (own_w hw 3 rfl) (own_w hw 25 rfl) E_b649 (by decide) [(.int (1 : Int32))] [] (rm_22 l Z a0 hw [] b649 b1 kb1 (y2) (y4) (y6) (y8) h655 n0 (Nat.le_trans Z0 K.1) E_b649 F_b649_key F_b649_position F_b649_mask g_b649 E_b1 V_b1 g_b1 (Ne.symm ne_b1_b649)) 0 (by decide) (by decide) rfl pd_2 rfl rfl (Nat.le_of_eq rfl) at_118 rfl (k' := 2) (n' := 7) rfl rfl (by decide) (by decide) ?_
          intro T660 v660 h660 X660 q660
          obtain ⟨rfl, K660, E_b649, F_b649_key, F_b649_position, F_b649_mask⟩ := q660
          replace K := K.trans K660 (allS (Or.inr sz_b649) all0)
          replace E_b1 := E_b1.keep K660
          replace V_b1 := V_b1.keep K660 (ninS ne_b1_b649 nin0)
          show own_Go p e below (T660.setTop (mkF m 121 #[.val (.int i0), .val (.int i1), .val (.int i2), .val (.int i3), .val (.int i4), .val (.ref b1), .val (.int (1 : Int32)), .val (.int (1 : Int32)), .val (.int (1 : Int32)), .val (.int (1 : Int32)), .val (.ref b649), .val (.int y652), .val (.int y657), .unset, .unset] [])) _
          refine own_aload (pc' := 123) B X660 at_121 rfl rfl rfl ?_
          refine own_callV (pc' := 126) B X660 (own_w hw 12 rfl) (own_w hw 13 rfl) (own_w hw 15 rfl) (own_w hw 14 rfl) (own_w hw 3 rfl) (own_w hw 16 rfl) E_b649 (by decide) [] [] (rm_18 l Z a0 hw [] b649 b1 kb1 (y2) (y4) (y6) (y8) h660 n0 (Nat.le_trans Z0 K.1) E_b649 F_b649_key F_b649_position F_b649_mask g_b649 E_b1 V_b1 g_b1 (Ne.symm ne_b1_b649)) 0 (by decide) (by decide) rfl pd_1 rfl rfl (Nat.le_of_eq rfl) at_123 rfl (k' := 2) (n' := 7) rfl rfl (by decide) (by decide) ?_
          intro T661 v661 h661 X661 q661
          obtain ⟨y662, y663, hy664, hy665, rfl, K661, E_b649, F_b649_key, F_b649_position, F_b649_mask⟩ := q661
          replace K := K.trans K661 (allS (Or.inr sz_b649) all0)
          replace E_b1 := E_b1.keep K661
          replace V_b1 := V_b1.keep K661 (ninS ne_b1_b649 nin0)
          show own_Go p e below (T661.setTop (mkF m 126 #[.val (.int i0), .val (.int i1), .val (.int i2), .val (.int i3), .val (.int i4), .val (.ref b1), .val (.int (1 : Int32)), .val (.int (1 : Int32)), .val (.int (1 : Int32)), .val (.int (1 : Int32)), .val (.ref b649), .val (.int y652), .val (.int y657), .unset, .unset] [(.int y663)])) _
          refine own_istore (pc' := 128) B X661 (Ls' := #[.val (.int i0), .val (.int i1), .val (.int i2), .val (.int i3), .val (.int i4), .val (.ref b1), .val (.int (1 : Int32)), .val (.int (1 : Int32)), .val (.int (1 : Int32)), .val (.int (1 : Int32)), .val (.ref b649), .val (.int y652), .val (.int y657), .val (.int y663), .unset]) at_126 rfl rfl ?_
          refine own_aload (pc' := 130) B X661 at_128 rfl rfl rfl ?_
          refine own_iload (pc' := 132) B X661 at_130 rfl rfl ?_
          refine own_callV (pc' := 135) B X661 (own_w hw 21 rfl) (own_w hw 22 rfl) (own_w hw 24 rfl) (own_w hw 23 rfl) (own_w hw 3 rfl) (own_w hw 25 rfl) E_b649 (by decide) [(.int (1 : Int32))] [] (rm_16 l Z a0 hw [] b649 b1 kb1 (y2) (y4) (y6) (y8) h661 n0 (Nat.le_trans Z0 K.1) E_b649 F_b649_key F_b649_position F_b649_mask g_b649 E_b1 V_b1 g_b1 (Ne.symm ne_b1_b649)) 0 (by decide) (by decide) rfl pd_2 rfl rfl (Nat.le_of_eq rfl) at_132 rfl (k' := 2) (n' := 7) rfl rfl (by decide) (by decide) ?_
          intro T666 v666 h666 X666 q666
          obtain ⟨rfl, K666, E_b649, F_b649_key, F_b649_position, F_b649_mask⟩ := q666
          replace K := K.trans K666 (allS (Or.inr sz_b649) all0)
          replace E_b1 := E_b1.keep K666
          replace V_b1 := V_b1.keep K666 (ninS ne_b1_b649 nin0)
          show own_Go p e below (T666.setTop (mkF m 135 #[.val (.int i0), .val (.int i1), .val (.int i2), .val (.int i3), .val (.int i4), .val (.ref b1), .val (.int (1 : Int32)), .val (.int (1 : Int32)), .val (.int (1 : Int32)), .val (.int (1 : Int32)), .val (.ref b649), .val (.int y652), .val (.int y657), .val (.int y663), .unset] [])) _
          refine own_aload (pc' := 137) B X666 at_135 rfl rfl rfl ?_
          refine own_iload (pc' := 139) B X666 at_137 rfl rfl ?_
          refine own_callV (pc' := 142) B X666 (own_w hw 21 rfl) (own_w hw 22 rfl) (own_w hw 24 rfl) (own_w hw 23 rfl) (own_w hw 3 rfl) (own_w hw 25 rfl) E_b649 (by decide) [(.int (1 : Int32))] [] (rm_16 l Z a0 hw [] b649 b1 kb1 (y2) (y4) (y6) (y8) h666 n0 (Nat.le_trans Z0 K.1) E_b649 F_b649_key F_b649_position F_b649_mask g_b649 E_b1 V_b1 g_b1 (Ne.symm ne_b1_b649)) 0 (by decide) (by decide) rfl pd_2 rfl rfl (Nat.le_of_eq rfl) at_139 rfl (k' := 2) (n' := 7) rfl rfl (by decide) (by decide) ?_
          intro T667 v667 h667 X667 q667
          obtain ⟨rfl, K667, E_b649, F_b649_key, F_b649_position, F_b649_mask⟩ := q667
          replace K := K.trans K667 (allS (Or.inr sz_b649) all0)
          replace E_b1 := E_b1.keep K667
          replace V_b1 := V_b1.keep K667 (ninS ne_b1_b649 nin0)
          show own_Go p e below (T667.setTop (mkF m 142 #[.val (.int i0), .val (.int i1), .val (.int i2), .val (.int i3), .val (.int i4), .val (.ref b1), .val (.int (1 : Int32)), .val (.int (1 : Int32)), .val (.int (1 : Int32)), .val (.int (1 : Int32)), .val (.ref b649), .val (.int y652), .val (.int y657), .val (.int y663), .unset] [])) _
          refine own_aload (pc' := 144) B X667 at_142 rfl rfl rfl ?_
          refine own_callV (pc' := 147) B X667 (own_w hw 12 rfl) (own_w hw 13 rfl) (own_w hw 15 rfl) (own_w hw 14 rfl) (own_w hw 3 rfl) (own_w hw 16 rfl) E_b649 (by decide) [] [] (rm_12 l Z a0 hw [] b649 b1 kb1 (y2) (y4) (y6) (y8) h667 n0 (Nat.le_trans Z0 K.1) E_b649 F_b649_key F_b649_position F_b649_mask g_b649 E_b1 V_b1 g_b1 (Ne.symm ne_b1_b649)) 0 (by decide) (by decide) rfl pd_1 rfl rfl (Nat.le_of_eq rfl) at_144 rfl (k' := 2) (n' := 7) rfl rfl (by decide) (by decide) ?_
          intro T668 v668 h668 X668 q668
          obtain ⟨y669, y670, hy671, hy672, rfl, K668, E_b649, F_b649_key, F_b649_position, F_b649_mask⟩ := q668
          replace K := K.trans K668 (allS (Or.inr sz_b649) all0)
          replace E_b1 := E_b1.keep K668
          replace V_b1 := V_b1.keep K668 (ninS ne_b1_b649 nin0)
          show own_Go p e below (T668.setTop (mkF m 147 #[.val (.int i0), .val (.int i1), .val (.int i2), .val (.int i3), .val (.int i4), .val (.ref b1), .val (.int (1 : Int32)), .val (.int (1 : Int32)), .val (.int (1 : Int32)), .val (.int (1 : Int32)), .val (.ref b649), .val (.int y652), .val (.int y657), .val (.int y663), .unset] [(.int y670)])) _
          refine own_istore (pc' := 149) B X668 (Ls' := #[.val (.int i0), .val (.int i1), .val (.int i2), .val (.int i3), .val (.int i4), .val (.ref b1), .val (.int (1 : Int32)), .val (.int (1 : Int32)), .val (.int (1 : Int32)), .val (.int (1 : Int32)), .val (.ref b649), .val (.int y652), .val (.int y657), .val (.int y663), .val (.int y670)]) at_147 rfl rfl ?_
          refine own_iload (pc' := 151) B X668 at_149 rfl rfl ?_
          refine own_iloadN (pc' := 152) B X668 at_151 rfl rfl ?_
          refine own_iconst (pc' := 153) B X668 (z := (0 : Int32)) at_152 rfl rfl ?_
          refine own_callS (pc' := 156) B X668 (own_w hw 26 rfl) (own_w hw 27 rfl) (own_w hw 28 rfl) (own_w hw 29 rfl) (by decide) [(.int i0), (.int (0 : Int32))] [(.int y652)] (rm_9 l Z a0 hw [] (i0) h668 n0 (Nat.le_trans Z0 K.1) ) 1 (by decide) (by decide) rfl pd_3 rfl rfl (Nat.le_of_eq rfl) at_153 rfl (k' := 2) (n' := 7) rfl rfl (by decide) (by decide) ?_
          intro T673 v673 h673 X673 q673
          obtain ⟨y674, hy675, rfl, rfl⟩ := q673
          show own_Go p e below (T673.setTop (mkF m 156 #[.val (.int i0), .val (.int i1), .val (.int i2), .val (.int i3), .val (.int i4), .val (.ref b1), .val (.int (1 : Int32)), .val (.int (1 : Int32)), .val (.int (1 : Int32)), .val (.int (1 : Int32)), .val (.ref b649), .val (.int y652), .val (.int y657), .val (.int y663), .val (.int y670)] [(.int y674), (.int y652)])) _
          have c676 : y652 = y674 := by
            have o0 := own_o_i2b hy2
            have o1 := own_o_mask hy653 8 (by decide) (by decide)
            have o2 := own_o_mask hy675 8 (by decide) (by decide)
            have o3 := rng32 i0
            have o4 := rng32 y2
            have o5 := rng32 y652
            have o6 := rng32 y674
            have o7 : (255 : Int32).toInt = 255 := by decide
            refine own_eqI ?_
            omega
          refine own_icmpNo (pc' := 159) B X673 at_156 (teq c676).2 rfl ?_
          refine own_iload (pc' := 161) B X673 at_159 rfl rfl ?_
          refine own_iloadN (pc' := 162) B X673 at_161 rfl rfl ?_
          refine own_iload (pc' := 164) B X673 at_162 rfl rfl ?_
          refine own_callS (pc' := 167) B X673 (own_w hw 26 rfl) (own_w hw 27 rfl) (own_w hw 28 rfl) (own_w hw 29 rfl) (by decide) [(.int i1), (.int (1 : Int32))] [(.int y657)] (rm_13 l Z a0 hw [] (i1) h668 n0 (Nat.le_trans Z0 K.1) ) 1 (by decide) (by decide) rfl pd_3 rfl rfl (Nat.le_of_eq rfl) at_164 rfl (k' := 2) (n' := 7) rfl rfl (by decide) (by decide) ?_
          intro T677 v677 h677 X677 q677
          obtain ⟨y678, y679, hy680, hy681, rfl, rfl⟩ := q677
          show own_Go p e below (T677.setTop (mkF m 167 #[.val (.int i0), .val (.int i1), .val (.int i2), .val (.int i3), .val (.int i4), .val (.ref b1), .val (.int (1 : Int32)), .val (.int (1 : Int32)), .val (.int (1 : Int32)), .val (.int (1 : Int32)), .val (.ref b649), .val (.int y652), .val (.int y657), .val (.int y663), .val (.int y670)] [(.int y679), (.int y657)])) _
          have c682 : y657 = y679 := by
            have o0 := own_o_i2b hy4
            have o1 := own_o_xor255 hy658
            have o2 := own_o_mask hy659 8 (by decide) (by decide)
            have o3 := own_o_mask hy680 8 (by decide) (by decide)
            have o4 := own_o_isub hy681
            have o5 := rng32 i1
            have o6 := rng32 y4
            have o7 := rng32 y656
            have o8 := rng32 y657
            have o9 := rng32 y678
            have o10 := rng32 y679
            have o11 : (255 : Int32).toInt = 255 := by decide
            refine own_eqI ?_
            omega
          refine own_icmpNo (pc' := 170) B X677 at_167 (teq c682).2 rfl ?_
          refine own_iload (pc' := 172) B X677 at_170 rfl rfl ?_
          refine own_iloadN (pc' := 173) B X677 at_172 rfl rfl ?_
          refine own_iload (pc' := 175) B X677 at_173 rfl rfl ?_
          refine own_callS (pc' := 178) B X677 (own_w hw 26 rfl) (own_w hw 27 rfl) (own_w hw 28 rfl) (own_w hw 29 rfl) (by decide) [(.int i2), (.int (1 : Int32))] [(.int y663)] (rm_13 l Z a0 hw [] (i2) h668 n0 (Nat.le_trans Z0 K.1) ) 1 (by decide) (by decide) rfl pd_3 rfl rfl (Nat.le_of_eq rfl) at_175 rfl (k' := 2) (n' := 7) rfl rfl (by decide) (by decide) ?_
          intro T683 v683 h683 X683 q683
          obtain ⟨y684, y685, hy686, hy687, rfl, rfl⟩ := q683
          show own_Go p e below (T683.setTop (mkF m 178 #[.val (.int i0), .val (.int i1), .val (.int i2), .val (.int i3), .val (.int i4), .val (.ref b1), .val (.int (1 : Int32)), .val (.int (1 : Int32)), .val (.int (1 : Int32)), .val (.int (1 : Int32)), .val (.ref b649), .val (.int y652), .val (.int y657), .val (.int y663), .val (.int y670)] [(.int y685), (.int y663)])) _
          have c688 : y663 = y685 := by
            have o0 := own_o_i2b hy6
            have o1 := own_o_xor255 hy664
            have o2 := own_o_mask hy665 8 (by decide) (by decide)
            have o3 := own_o_mask hy686 8 (by decide) (by decide)
            have o4 := own_o_isub hy687
            have o5 := rng32 i2
            have o6 := rng32 y6
            have o7 := rng32 y662
            have o8 := rng32 y663
            have o9 := rng32 y684
            have o10 := rng32 y685
            have o11 : (255 : Int32).toInt = 255 := by decide
            refine own_eqI ?_
            omega
          refine own_icmpNo (pc' := 181) B X683 at_178 (teq c688).2 rfl ?_
          refine own_iload (pc' := 183) B X683 at_181 rfl rfl ?_
          refine own_iloadN (pc' := 184) B X683 at_183 rfl rfl ?_
          refine own_iload (pc' := 186) B X683 at_184 rfl rfl ?_
          refine own_callS (pc' := 189) B X683 (own_w hw 26 rfl) (own_w hw 27 rfl) (own_w hw 28 rfl) (own_w hw 29 rfl) (by decide) [(.int i3), (.int (1 : Int32))] [(.int y670)] (rm_13 l Z a0 hw [] (i3) h668 n0 (Nat.le_trans Z0 K.1) ) 1 (by decide) (by decide) rfl pd_3 rfl rfl (Nat.le_of_eq rfl) at_186 rfl (k' := 2) (n' := 7) rfl rfl (by decide) (by decide) ?_
          intro T689 v689 h689 X689 q689
          obtain ⟨y690, y691, hy692, hy693, rfl, rfl⟩ := q689
          show own_Go p e below (T689.setTop (mkF m 189 #[.val (.int i0), .val (.int i1), .val (.int i2), .val (.int i3), .val (.int i4), .val (.ref b1), .val (.int (1 : Int32)), .val (.int (1 : Int32)), .val (.int (1 : Int32)), .val (.int (1 : Int32)), .val (.ref b649), .val (.int y652), .val (.int y657), .val (.int y663), .val (.int y670)] [(.int y691), (.int y670)])) _
          have c694 : y670 = y691 := by
            have o0 := own_o_i2b hy8
            have o1 := own_o_xor255 hy671
            have o2 := own_o_mask hy672 8 (by decide) (by decide)
            have o3 := own_o_mask hy692 8 (by decide) (by decide)
            have o4 := own_o_isub hy693
            have o5 := rng32 i3
            have o6 := rng32 y669
            have o7 := rng32 y670
            have o8 := rng32 y690
            have o9 := rng32 y691
            have o10 := rng32 y8
            have o11 : (255 : Int32).toInt = 255 := by decide
            refine own_eqI ?_
            omega
          refine own_icmpNo (pc' := 192) B X689 at_189 (teq c694).2 rfl ?_
          refine own_aload (pc' := 194) B X689 at_192 rfl rfl rfl ?_
          refine own_callV (pc' := 197) B X689 (own_w hw 30 rfl) (own_w hw 31 rfl) (own_w hw 33 rfl) (own_w hw 32 rfl) (own_w hw 3 rfl) (own_w hw 34 rfl) E_b649 (by decide) [] [] (rm_14 l Z a0 hw [] b649 b1 kb1 (y2) (y4) (y6) (y8) h668 n0 (Nat.le_trans Z0 K.1) E_b649 F_b649_key F_b649_position F_b649_mask g_b649 E_b1 V_b1 g_b1 (Ne.symm ne_b1_b649)) 0 (by decide) (by decide) rfl pd_1 rfl rfl (Nat.le_of_eq rfl) at_194 rfl (k' := 2) (n' := 7) rfl rfl (by decide) (by decide) ?_
          intro T695 v695 h695 X695 q695
          obtain ⟨rfl, rfl⟩ := q695
          show own_Go p e below (T695.setTop (mkF m 197 #[.val (.int i0), .val (.int i1), .val (.int i2), .val (.int i3), .val (.int i4), .val (.ref b1), .val (.int (1 : Int32)), .val (.int (1 : Int32)), .val (.int (1 : Int32)), .val (.int (1 : Int32)), .val (.ref b649), .val (.int y652), .val (.int y657), .val (.int y663), .val (.int y670)] [(.int (4 : Int32))])) _
          refine own_iconst (pc' := 198) B X695 (z := (4 : Int32)) at_197 rfl rfl ?_
          refine own_icmpNo (pc' := 201) B X695 at_198 (teq (by decide : (4 : Int32) = (4 : Int32))).2 rfl ?_
          refine own_iconst (pc' := 202) B X695 (z := (1 : Int32)) at_201 rfl rfl ?_
          refine own_goto (pc' := 206) B X695 at_202 (by decide) rfl ?_
          exact own_retN B X695 (t := .boolean) (z' := (1 : Int32)) (by simp) (by decide) at_206 (by decide) (by decide) rfl
set_option maxRecDepth 65536 in
set_option maxHeartbeats 40000000 in
theorem comes_1 {Post : Tables → Env → Array Value → State → Outcome → State → Prop} (hpost : ∀ tb e args s v u, (limb_1_1.after args s (.returned v) u = true ∧ limb_1_2.after args s (.returned v) u = true ∧ True) → FrameEnd s (.returned v) u (Jvm.fieldLocs frame_1_writes args s ++ Jvm.arrayLocs frame_1_arrays args s ++ Jvm.staticLocs frame_1_statics s) 16 128 → Post tb e args s (.returned v) u) :
    ArmFor flags0 classFile x code maxLocals ret World_1 tables_1 room_1 Calls_1 rest_1 Pre_1 Post := by
  intro l hfl _ _ p e ha hc hk s m args below hf hA hF happ hP
  obtain ⟨hcalls, hrest, hpre⟩ := hP
  obtain ⟨-, -, -, hnamed, -, -, -, hat⟩ := (Spec.applies_iff hf).mp happ
  obtain ⟨hg, hn⟩ := and_e (Cond.before_iff.mp (show (Jvm.Cond.and given_1 narrow_1).before args s = true from hpre))
  obtain ⟨g1, g2⟩ := and_e hg
  obtain ⟨g3, g4⟩ := and_e g2
  obtain ⟨g5, g6⟩ := and_e g4
  obtain ⟨g7, g8⟩ := and_e g6
  obtain ⟨g9, g10⟩ := and_e g8
  obtain ⟨w0, w1, w2, w3, w4, rfl⟩ : ∃ w0 w1 w2 w3 w4 : Value, args = #[w0, w1, w2, w3, w4] := by
    have hs : args.size = 5 := by simpa [Cond.value, given_1] using g1
    obtain ⟨L⟩ := args
    match L, hs with
    | [w0, w1, w2, w3, w4], _ => exact ⟨w0, w1, w2, w3, w4, rfl⟩
  have hw := fun d (hd : d ∈ tables_1) => atoms_spec (ws := Jvm.Cond.code x code maxLocals ret :: tables_1) hat d (List.mem_cons_of_mem _ hd)
  obtain ⟨i0, ei0⟩ := is_v g3
  obtain rfl : w0 = (.int i0) := Option.some.inj ei0
  obtain ⟨i1, ei1⟩ := is_v g5
  obtain rfl : w1 = (.int i1) := Option.some.inj ei1
  obtain ⟨i2, ei2⟩ := is_v g7
  obtain rfl : w2 = (.int i2) := Option.some.inj ei2
  obtain ⟨i3, ei3⟩ := is_v g9
  obtain rfl : w3 = (.int i3) := Option.some.inj ei3
  obtain ⟨i4, ei4⟩ := is_v g10
  obtain rfl : w4 = (.int i4) := Option.some.inj ei4
  obtain ⟨n, o, h1, h2, h3, _, L, rfl, ⟨N, rfl⟩, hq⟩ := rm_0 l s _ hw tables_1 i0 i1 i2 i3 i4 s.heap s.heap.size (Nat.le_refl _)  p e ha hc hk s m _ below hf ((Spec.applies_iff_loose hf).mp happ).1 ⟨rfl, State.Warmed39.refl s, rfl⟩ trivial
  refine ⟨n, _, h1, h2, h3, hpost _ _ _ _ _ _ ⟨Cond.after_iff.mpr rfl, Cond.after_iff.mpr (eq_i res_at (Term.int_eval (1)) rfl), trivial⟩ ⟨hq.1, hq.2.1, (hq.2.2.sift fun y hy => Or.inr (N y hy)).mono (by decide) (by decide)⟩⟩
theorem main_1_1 : Claimed_1_1 := comes_1 fun _ _ _ _ _ _ h hF => ⟨h.1, hF⟩
theorem main_1_2 : Claimed_1_2 := comes_1 fun _ _ _ _ _ _ h hF => ⟨h.2.1, hF⟩
end Jvm.Pilot.@@N@@
namespace Jvm.Pilot.@@N@@
open Jvm Jvm.ClassFile Sem Op Lib Jvm.Free Jvm.Stand Jvm.Pilot.@@N@@.Jvm.D
/-! MADE BY PROGRAM (witnessworld.py) out of the Statement's table words and the real class files: 9 classes; the members and pool entries that the words name. The judged class is class 1, her method 2. -/
namespace start1
open Jvm.ClassFile
def u (s : String) : CpInfo := .utf8 (stringToUtf16 s)
/-- a pool by its gaps: so many unusable entries, then the entry; so many at the end -/
def gap : Nat → List CpInfo → List CpInfo
  | 0, r => r
  | n + 1, r => .unusable :: gap n r
def poolList (es : List (Nat × CpInfo)) (last : Nat) : List CpInfo := es.foldr (fun e r => gap e.1 (e.2 :: r)) (gap last [])
def pool (es : List (Nat × CpInfo)) (last : Nat) : Array CpInfo := ⟨poolList es last⟩
def fileOf (pool : Array CpInfo) (this : Nat) (attrs : Array Attribute := #[]) (ms : Array MethodInfo := #[]) (fl : Nat := 33) (sup : Nat := 0) (ifs : Array Nat := #[]) (fds : Array FieldInfo := #[]) : ClassFile where
  minorVersion := 0
  majorVersion := 65
  constantPool := pool
  accessFlags := fl
  thisClass := this
  superClass := sup
  interfaces := ifs
  fields := fds
  methods := ms
  attributes := attrs
def plain (name : String) (sup : Option ClassId) : Class where
  name := name
  kind := .ordinary
  loader := none
  accessFlags := 33
  super := sup
  interfaces := #[]
  cf := none
  fields := #[]
  methods := #[]
  instanceTypes := #[]
  staticTypes := #[]
  resolved := #[]
  callSites := []
  init := .initialized
  statics := none
  mirror := none

def pool0 : Array CpInfo := pool [(5, u "<init>"), (0, u "()V"), (1, .class_ 10), (1, u "java/lang/Object")] 113

def k0c0 : Code := { maxStack := 0, maxLocals := 1, code := object_method_1_code, exceptionTable := #[], attributes := #[] }
def k0m0 : Method := { name := "<init>", desc := "()V", sig := { parameters := [], returnType := none }, accessFlags := 1, code := some k0c0 }
/-- java/lang/Object -/
def k0 : Class := { plain "java/lang/Object" none with
  accessFlags := 33
  interfaces := #[]
  cf := some (fileOf pool0 8 #[] #[{ accessFlags := 1, nameIndex := 5, descriptorIndex := 6, attributes := #[] }] 33 0 #[] #[])
  fields := #[]
  methods := #[k0m0]
  instanceTypes := #[]
  staticTypes := #[]
  resolved := Array.replicate 124 none
  statics := none }

def pool1 : Array CpInfo := pool [(2, .class_ 4), (1, u "java/lang/Object"), (0, u "<init>"), (0, u "()V"), (0, .class_ 8), (0, u "com/example/keyer/keyer/KeyReader"), (0, .methodref 7 10), (0, .nameAndType 5 11), (0, u "([B)V"), (0, .methodref 7 13), (0, .nameAndType 14 15), (0, u "next"), (0, u "()I"), (0, .methodref 7 17), (0, .nameAndType 18 19), (0, u "invert"), (0, u "(Z)V"), (0, .methodref 21 22), (0, .class_ 23), (0, .nameAndType 24 25), (0, u "com/example/keyer/keyer/KeyReaderInvertPinLaw"), (0, u "expect"), (0, u "(IZ)I"), (0, .methodref 7 27), (0, .nameAndType 28 15), (0, u "position"), (3, u "law"), (0, u "(IIIII)Z")] 4

def k1m0 : Method := { name := "<init>", desc := "()V", sig := { parameters := [], returnType := none }, accessFlags := 1, code := none }
def k1c1 : Code := { maxStack := 2, maxLocals := 3, code := method_2_code, exceptionTable := #[], attributes := #[] }
def k1m1 : Method := { name := "expect", desc := "(IZ)I", sig := { parameters := [.int, .boolean], returnType := some .int }, accessFlags := 10, code := some k1c1 }
def k1c2 : Code := { maxStack := 4, maxLocals := 15, code := code, exceptionTable := #[], attributes := #[] }
def k1m2 : Method := { name := "law", desc := "(IIIII)Z", sig := { parameters := [.int, .int, .int, .int, .int], returnType := some .boolean }, accessFlags := 9, code := some k1c2 }
/-- com/example/keyer/keyer/KeyReaderInvertPinLaw -/
def k1 : Class := { plain "com/example/keyer/keyer/KeyReaderInvertPinLaw" (some 0) with
  accessFlags := 49
  interfaces := #[]
  cf := some (fileOf pool1 21 #[] #[{ accessFlags := 1, nameIndex := 5, descriptorIndex := 6, attributes := #[] }, { accessFlags := 10, nameIndex := 24, descriptorIndex := 25, attributes := #[] }, { accessFlags := 9, nameIndex := 32, descriptorIndex := 33, attributes := #[] }] 49 2 #[] #[])
  fields := #[]
  methods := #[k1m0, k1m1, k1m2]
  instanceTypes := #[]
  staticTypes := #[]
  resolved := Array.replicate 38 none
  statics := none }

def pool2 : Array CpInfo := pool [(1, .methodref 2 3), (0, .class_ 4), (0, .nameAndType 5 6), (0, u "java/lang/Object"), (0, u "<init>"), (0, u "()V"), (0, .fieldref 8 9), (0, .class_ 10), (0, .nameAndType 11 12), (0, u "com/example/keyer/keyer/KeyReader"), (0, u "key"), (0, u "[B"), (0, .fieldref 8 14), (0, .nameAndType 15 16), (0, u "mask"), (0, u "I"), (0, .fieldref 8 18), (0, .nameAndType 19 16), (0, u "position"), (7, u "()I"), (83, u "REPLACEMENT"), (0, u "C"), (1, u "([B)V"), (2, u "invert"), (0, u "(Z)V"), (1, u "next")] 9

def k2c0 : Code := { maxStack := 2, maxLocals := 2, code := prog_12_method_1_code, exceptionTable := #[], attributes := #[] }
def k2m0 : Method := { name := "<init>", desc := "([B)V", sig := { parameters := [(.array .byte)], returnType := none }, accessFlags := 0, code := some k2c0 }
def k2c1 : Code := { maxStack := 2, maxLocals := 2, code := prog_12_method_2_code, exceptionTable := #[], attributes := #[] }
def k2m1 : Method := { name := "invert", desc := "(Z)V", sig := { parameters := [.boolean], returnType := none }, accessFlags := 0, code := some k2c1 }
def k2c2 : Code := { maxStack := 1, maxLocals := 1, code := prog_12_method_3_code, exceptionTable := #[], attributes := #[] }
def k2m2 : Method := { name := "position", desc := "()I", sig := { parameters := [], returnType := some .int }, accessFlags := 0, code := some k2c2 }
def k2c3 : Code := { maxStack := 5, maxLocals := 1, code := prog_12_method_5_code, exceptionTable := #[], attributes := #[] }
def k2m3 : Method := { name := "next", desc := "()I", sig := { parameters := [], returnType := some .int }, accessFlags := 0, code := some k2c3 }
/-- com/example/keyer/keyer/KeyReader -/
def k2 : Class := { plain "com/example/keyer/keyer/KeyReader" (some 0) with
  accessFlags := 48
  interfaces := #[]
  cf := some (fileOf pool2 8 #[] #[{ accessFlags := 0, nameIndex := 5, descriptorIndex := 114, attributes := #[] }, { accessFlags := 0, nameIndex := 117, descriptorIndex := 118, attributes := #[] }, { accessFlags := 0, nameIndex := 19, descriptorIndex := 27, attributes := #[] }, { accessFlags := 0, nameIndex := 120, descriptorIndex := 27, attributes := #[] }] 48 2 #[] #[{ accessFlags := 26, nameIndex := 111, descriptorIndex := 112, attributes := #[] }, { accessFlags := 18, nameIndex := 11, descriptorIndex := 12, attributes := #[] }, { accessFlags := 2, nameIndex := 19, descriptorIndex := 16, attributes := #[] }, { accessFlags := 2, nameIndex := 15, descriptorIndex := 16, attributes := #[] }])
  fields := #[{ name := "REPLACEMENT", type := .char, accessFlags := 26, slot := 0, constantValue := 0 }, { name := "key", type := (.array .byte), accessFlags := 18, slot := 0, constantValue := 0 }, { name := "position", type := .int, accessFlags := 2, slot := 1, constantValue := 0 }, { name := "mask", type := .int, accessFlags := 2, slot := 2, constantValue := 0 }]
  methods := #[k2m0, k2m1, k2m2, k2m3]
  instanceTypes := #[(.array .byte), .int, .int]
  staticTypes := #[.char]
  resolved := Array.replicate 130 none
  statics := none }

def pool3 : Array CpInfo := pool [(1, u "java/lang/Cloneable"), (0, .class_ 1), (0, u "java/lang/Object"), (0, .class_ 3)] 3

/-- java/lang/Cloneable -/
def k3 : Class := { plain "java/lang/Cloneable" (some 0) with
  accessFlags := 1537
  interfaces := #[]
  cf := some (fileOf pool3 2 #[] #[] 1537 4 #[] #[])
  fields := #[]
  methods := #[]
  instanceTypes := #[]
  staticTypes := #[]
  resolved := Array.replicate 8 none
  statics := none }

def pool4 : Array CpInfo := pool [(1, u "java/io/Serializable"), (0, .class_ 1), (0, u "java/lang/Object"), (0, .class_ 3)] 3

/-- java/io/Serializable -/
def k4 : Class := { plain "java/io/Serializable" (some 0) with
  accessFlags := 1537
  interfaces := #[]
  cf := some (fileOf pool4 2 #[] #[] 1537 4 #[] #[])
  fields := #[]
  methods := #[]
  instanceTypes := #[]
  staticTypes := #[]
  resolved := Array.replicate 8 none
  statics := none }

/-- the primitive byte -/
def k5 : Class := { plain "byte" none with kind := .primitive 'B', accessFlags := 0x411 }
/-- [B -/
def k6 : Class := { plain "[B" (some 0) with kind := .array 5 .byte, interfaces := #[3, 4], accessFlags := 1041 }

/-- the primitive int -/
def k7 : Class := { plain "int" none with kind := .primitive 'I', accessFlags := 0x411 }
/-- [I -/
def k8 : Class := { plain "[I" (some 0) with kind := .array 7 .int, interfaces := #[3, 4], accessFlags := 1041 }

def heap : Heap := #[]
def classes : Array Class := #[k0, k1, k2, k3, k4, k5, k6, k7, k8]
def interned : List (Array UInt16 × Addr) := []
def slotsUsed : Nat := 0
def theMethod : MethodId := ⟨1, 2⟩
def args0 : Array Value := #[.int 1, .int 2, .int 3, .int 4, .int 5]
def aboutOver (below : List Frame) : State where
  vm := { classes := classes, interned := interned.toArray }
  heap := heap
  slotsUsed := slotsUsed
  threads := #[{ frames := .invoking theMethod args0 :: below }]
def below0 : List Frame := [.native { method := ⟨0, 0⟩, args := #[] }]
def about1 : State := aboutOver below0
def p0 : Program := .bare "" "" ""
def e0 : Env := launch0.env 0 0 0
theorem w_frames : about1.frames = Frame.invoking theMethod args0 :: below0 := rfl
set_option maxRecDepth 65536 in
theorem w_args : argsFit about1.vm theMethod args0 = true := by decide +kernel
set_option maxRecDepth 65536 in
theorem w_heap : heapFits about1 = true := by decide +kernel
set_option maxRecDepth 65536 in
theorem w_runnable : about1.curStatus? = some .runnable := by decide +kernel
set_option maxRecDepth 65536 in
theorem w_alone : about1.alone = true := by decide +kernel
set_option maxRecDepth 65536 in
theorem w_named : about1.methodNamed? x = some theMethod := by decide +kernel
set_option maxRecDepth 65536 in
theorem w_hears : about1.hears theMethod below0 = true := by decide +kernel
set_option maxRecDepth 65536 in
theorem w_ripe : about1.ripe theMethod args0 below0 = true := by decide +kernel
theorem w_running : about1.status = .running := rfl
set_option maxRecDepth 65536 in
theorem w_room : about1.hasRoom e0.platform room_1 = true :=
  launch0.hasRoom_least _ room_1 (by decide +kernel) (by decide +kernel) (by decide +kernel) (by decide +kernel) (by decide +kernel) (by decide +kernel)
theorem allAtoms_all (ts : List Jvm.Cond) (a : Array Jvm.Value) (st : Jvm.State) : (allAtoms ts).before a st = ts.all (fun c => c.before a st) := by
  induction ts with
  | nil => rfl
  | cons c t ih =>
    show (Jvm.Cond.and c (allAtoms t)).before a st = _
    rw [Jvm.Cond.before_and, ih, List.all_cons]
def words1 : List Jvm.Cond := Jvm.Cond.code x code maxLocals ret :: tables_1
/-- a 'code' word, met by the world's own term for the bytes: nothing is compared byte by byte -/
theorem code_word {y : MethodName} {bytes : ByteArray} {mx : Nat} {rt : Option FieldType} {a : Array Value} {s : State} {m : MethodId} {meth : Method} {c : Code} (h1 : s.methodNamed? y = some m) (h2 : s.vm.method? m = some meth) (h3 : meth.code = some c) (h4 : c.code = bytes)
    (h5 : (c.maxLocals == mx && c.exceptionTable.isEmpty && decide (c.maxStack ≤ mostOperands) && decide (meth.sig.returnType = rt) && !meth.locks && decide (parseMethodDescriptor y.desc = some meth.sig)) = true) : (Jvm.Cond.code y bytes mx rt).before a s = true := by
  simp only [Bool.and_eq_true, beq_iff_eq, Bool.not_eq_true', decide_eq_true_eq] at h5
  obtain ⟨⟨⟨⟨⟨g1, g2⟩, g3⟩, g4⟩, g5⟩, g6⟩ := h5
  simp [Cond.before, Cond.holds, Cond.value, h1, h2, h3, h4, g1, g2, g3, g4, g5, g6]
def isCode : Jvm.Cond → Bool
  | .code _ _ _ _ => true
  | _ => false
theorem all_split {L : List Jvm.Cond} {P : Jvm.Cond → Bool} (h1 : L.all (fun c => isCode c || P c) = true) (h2 : ∀ c ∈ L.filter isCode, P c = true) : L.all P = true := by
  refine List.all_eq_true.mpr fun c hc => ?_
  have h := List.all_eq_true.mp h1 c hc
  rcases Bool.eq_false_or_eq_true (isCode c) with hi | hi
  · exact h2 c (List.mem_filter.mpr ⟨hc, hi⟩)
  · simpa [hi] using h
set_option maxRecDepth 65536 in
theorem w_c0 : (Jvm.Cond.code x code maxLocals ret).before args0 about1 = true := code_word (m := ⟨1, 2⟩) (meth := k1m2) (c := k1c2) (by decide +kernel) rfl rfl rfl (by decide +kernel)
set_option maxRecDepth 65536 in
theorem w_c1 : (Jvm.Cond.code ({ cls := "com/example/keyer/keyer/KeyReader", name := "<init>", desc := "([B)V" } : Jvm.MethodName) prog_12_method_1_code (2 : Nat) (Option.none : Option Jvm.ClassFile.FieldType)).before args0 about1 = true := code_word (m := ⟨2, 0⟩) (meth := k2m0) (c := k2c0) (by decide +kernel) rfl rfl rfl (by decide +kernel)
set_option maxRecDepth 65536 in
theorem w_c2 : (Jvm.Cond.code ({ cls := "java/lang/Object", name := "<init>", desc := "()V" } : Jvm.MethodName) object_method_1_code (1 : Nat) (Option.none : Option Jvm.ClassFile.FieldType)).before args0 about1 = true := code_word (m := ⟨0, 0⟩) (meth := k0m0) (c := k0c0) (by decide +kernel) rfl rfl rfl (by decide +kernel)
set_option maxRecDepth 65536 in
theorem w_c3 : (Jvm.Cond.code ({ cls := "com/example/keyer/keyer/KeyReader", name := "next", desc := "()I" } : Jvm.MethodName) prog_12_method_5_code (1 : Nat) (Option.some Jvm.ClassFile.FieldType.int)).before args0 about1 = true := code_word (m := ⟨2, 3⟩) (meth := k2m3) (c := k2c3) (by decide +kernel) rfl rfl rfl (by decide +kernel)
set_option maxRecDepth 65536 in
theorem w_c4 : (Jvm.Cond.code ({ cls := "com/example/keyer/keyer/KeyReader", name := "invert", desc := "(Z)V" } : Jvm.MethodName) prog_12_method_2_code (2 : Nat) (Option.none : Option Jvm.ClassFile.FieldType)).before args0 about1 = true := code_word (m := ⟨2, 1⟩) (meth := k2m1) (c := k2c1) (by decide +kernel) rfl rfl rfl (by decide +kernel)
set_option maxRecDepth 65536 in
theorem w_c5 : (Jvm.Cond.code ({ cls := "com/example/keyer/keyer/KeyReaderInvertPinLaw", name := "expect", desc := "(IZ)I" } : Jvm.MethodName) method_2_code (3 : Nat) (Option.some Jvm.ClassFile.FieldType.int)).before args0 about1 = true := code_word (m := ⟨1, 1⟩) (meth := k1m1) (c := k1c1) (by decide +kernel) rfl rfl rfl (by decide +kernel)
set_option maxRecDepth 65536 in
theorem w_c6 : (Jvm.Cond.code ({ cls := "com/example/keyer/keyer/KeyReader", name := "position", desc := "()I" } : Jvm.MethodName) prog_12_method_3_code (1 : Nat) (Option.some Jvm.ClassFile.FieldType.int)).before args0 about1 = true := code_word (m := ⟨2, 2⟩) (meth := k2m2) (c := k2c2) (by decide +kernel) rfl rfl rfl (by decide +kernel)
def codes1 : List Jvm.Cond := [Jvm.Cond.code x code maxLocals ret, Jvm.Cond.code ({ cls := "com/example/keyer/keyer/KeyReader", name := "<init>", desc := "([B)V" } : Jvm.MethodName) prog_12_method_1_code (2 : Nat) (Option.none : Option Jvm.ClassFile.FieldType), Jvm.Cond.code ({ cls := "java/lang/Object", name := "<init>", desc := "()V" } : Jvm.MethodName) object_method_1_code (1 : Nat) (Option.none : Option Jvm.ClassFile.FieldType), Jvm.Cond.code ({ cls := "com/example/keyer/keyer/KeyReader", name := "next", desc := "()I" } : Jvm.MethodName) prog_12_method_5_code (1 : Nat) (Option.some Jvm.ClassFile.FieldType.int), Jvm.Cond.code ({ cls := "com/example/keyer/keyer/KeyReader", name := "invert", desc := "(Z)V" } : Jvm.MethodName) prog_12_method_2_code (2 : Nat) (Option.none : Option Jvm.ClassFile.FieldType), Jvm.Cond.code ({ cls := "com/example/keyer/keyer/KeyReaderInvertPinLaw", name := "expect", desc := "(IZ)I" } : Jvm.MethodName) method_2_code (3 : Nat) (Option.some Jvm.ClassFile.FieldType.int), Jvm.Cond.code ({ cls := "com/example/keyer/keyer/KeyReader", name := "position", desc := "()I" } : Jvm.MethodName) prog_12_method_3_code (1 : Nat) (Option.some Jvm.ClassFile.FieldType.int)]
set_option maxRecDepth 65536 in
theorem codes_eq : words1.filter isCode = codes1 := rfl
theorem w_codes : ∀ c ∈ words1.filter isCode, c.before args0 about1 = true := by
  rw [codes_eq]
  intro c hc
  simp only [codes1, List.mem_cons, List.not_mem_nil, or_false] at hc
  rcases hc with rfl | rfl | rfl | rfl | rfl | rfl | rfl
  · exact w_c0
  · exact w_c1
  · exact w_c2
  · exact w_c3
  · exact w_c4
  · exact w_c5
  · exact w_c6
set_option maxRecDepth 65536 in
theorem w_t1 : (words1.take 24).all (fun c => isCode c || c.before args0 about1) = true := by decide +kernel
set_option maxRecDepth 65536 in
theorem w_t2 : (words1.drop 24).all (fun c => isCode c || c.before args0 about1) = true := by decide +kernel
theorem w_tables : (allAtoms (Jvm.Cond.code x code maxLocals ret :: tables_1)).before args0 about1 = true := by
  rw [allAtoms_all]
  show words1.all (fun c => c.before args0 about1) = true
  refine all_split ?_ w_codes
  rw [← List.take_append_drop 24 words1, List.all_append, w_t1, w_t2]
  rfl
set_option maxRecDepth 65536 in
theorem w_case : (Jvm.Cond.and given_1 narrow_1).before args0 about1 = true := by decide +kernel
theorem w_applies : (headSpec (Jvm.Cond.code x code maxLocals ret :: tables_1) room_1).applies x e0.platform about1 = true :=
  (Spec.applies_iff w_frames).mpr ⟨w_running, w_runnable, w_alone, w_named, w_hears, w_ripe, w_room, w_tables⟩
theorem atStart : AtStart classFile x code maxLocals ret World_1 tables_1 room_1 Calls_1 rest_1 Pre_1 launch0 p0 e0 about1 theMethod args0 below0 :=
  ⟨lists_1, trivial, launch0.admits_env _ _ _, launch0.least_env, fairChoices_fair.cas, fairChoices_fair.clock, w_frames, w_args, w_heap, w_applies, trivial, trivial, w_case⟩
end start1
theorem witness_1 : WitnessClaimed_1 := ⟨start1.p0, start1.e0, start1.about1, start1.theMethod, start1.args0, start1.below0, start1.atStart⟩
end Jvm.Pilot.@@N@@
