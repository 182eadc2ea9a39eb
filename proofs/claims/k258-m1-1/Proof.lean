import JvmDerived
import JvmDerived.Pilot.@@N@@Statement
import JvmDerived.Pilot.@@N@@Code
set_option linter.unusedVariables false
set_option linter.unusedSimpArgs false
namespace Jvm.Pilot.@@N@@
open Jvm Jvm.ClassFile Sem Op Lib Jvm.Free Jvm.Stand Jvm.LawKit Jvm.RoadKit Bundle Jvm.Pilot.@@N@@.Jvm.D
section OwnKit
variable {p : Program} {l : Launch} {e : Env} {R : Room} {s : State} {m : MethodId} {args : Array Value} {below : List Frame} {meth : Method} {c : Code} {T : State} {cells slots : Nat} {P : State → Outcome → Prop}
variable {Z : State} {a0 : Array Value} {h h0 : Heap} {n0 : Nat} {own nm : String} {bytes : ByteArray} {maxL : Nat} {ret : Option FieldType}
variable {pc pc' : Nat} {Ls : Array Slot} {st : List Value}
/-- from the state U the run comes to an end that P allows -/
def own_Go (p : Program) (e : Env) (below : List Frame) (U : State) (P : State → Outcome → Prop) : Prop := ∃ a o, Steps p.tables e below U a ∧ P a o
theorem own_by {U U' : State} (q : ∀ t, Steps p.tables e below U' t → Steps p.tables e below U t) (G : own_Go p e below U' P) : own_Go p e below U P := by
  obtain ⟨a, o, h1, h2⟩ := G
  exact ⟨a, o, q a h1, h2⟩
/-- what stays the same in one body -/
def own_B (p : Program) (s : State) (m : MethodId) (meth : Method) (c : Code) (Z : State) (own nm : String) (bytes : ByteArray) (maxL : Nat) (ret : Option FieldType) : Prop :=
  p.tables.exec = Jvm.exec ∧ Z.Warmed39 s.vm ∧ c.maxLocals = maxL ∧ s.vm.findClass own = some m.cls ∧ meth.sig.returnType = ret ∧ meth.locks = false ∧ meth.name = nm ∧ c.code = bytes
/-- where the run stands: the state T, its heap h; nothing below n0 has been written -/
def own_S (p : Program) (l : Launch) (e : Env) (R : Room) (s : State) (m : MethodId) (args : Array Value) (below : List Frame) (meth : Method) (c : Code) (n0 : Nat) (T : State) (h : Heap) (cells slots : Nat) : Prop :=
  ∃ locs, Stand p l e R s m args below meth c T locs cells slots ∧ T.heap = h ∧ Fr n0 locs
/-- what a body owes at its end -/
def own_P (s : State) (below : List Frame) (n0 : Nat) (Q : Option Value → Heap → Prop) (k n : Nat) (a : State) (o : Outcome) : Prop :=
  a.status = .running ∧ Ended a below o ∧ ∃ v L, o = .returned v ∧ (Fr n0 L ∧ Q v a.heap) ∧ FrameEnd s o a L k n
theorem own_iload (B : own_B p s m meth c Z own nm bytes maxL ret) (X : own_S p l e R s m args below meth c n0 T h cells slots) {k : Nat} {v : Int32} (d : decode bytes pc = .ok (.iload k, 2)) (hp : pc + 2 = pc') (hl : Ls[k]? = some (.val (.int v)))
    (G : own_Go p e below (T.setTop (mkF m pc' Ls (.int v :: st))) P) : own_Go p e below (T.setTop (mkF m pc Ls (st))) P := by
  obtain ⟨locs, X, -, -⟩ := X
  subst hp
  exact own_by (fun _ => XS.iload X.here B.1 rfl (hb B.2.2.2.2.2.2.2 d) hl) G
theorem own_iloadN (B : own_B p s m meth c Z own nm bytes maxL ret) (X : own_S p l e R s m args below meth c n0 T h cells slots) {k : Fin 4} {v : Int32} (d : decode bytes pc = .ok (.iload_n k, 1)) (hp : pc + 1 = pc') (hl : Ls[k.val]? = some (.val (.int v)))
    (G : own_Go p e below (T.setTop (mkF m pc' Ls (.int v :: st))) P) : own_Go p e below (T.setTop (mkF m pc Ls (st))) P := by
  obtain ⟨locs, X, -, -⟩ := X
  subst hp
  exact own_by (fun _ => XS.iloadN X.here B.1 rfl (hb B.2.2.2.2.2.2.2 d) hl) G
theorem own_aload (B : own_B p s m meth c Z own nm bytes maxL ret) (X : own_S p l e R s m args below meth c n0 T h cells slots) {k : Nat} {v : Value} (d : decode bytes pc = .ok (.aload k, 2)) (hp : pc + 2 = pc') (hl : Ls[k]? = some (.val v)) (hv : v.isRef = true)
    (G : own_Go p e below (T.setTop (mkF m pc' Ls (v :: st))) P) : own_Go p e below (T.setTop (mkF m pc Ls (st))) P := by
  obtain ⟨locs, X, -, -⟩ := X
  subst hp
  exact own_by (fun _ => XS.aload X.here B.1 rfl (hb B.2.2.2.2.2.2.2 d) hl hv) G
theorem own_aloadN (B : own_B p s m meth c Z own nm bytes maxL ret) (X : own_S p l e R s m args below meth c n0 T h cells slots) {k : Fin 4} {v : Value} (d : decode bytes pc = .ok (.aload_n k, 1)) (hp : pc + 1 = pc') (hl : Ls[k.val]? = some (.val v)) (hv : v.isRef = true)
    (G : own_Go p e below (T.setTop (mkF m pc' Ls (v :: st))) P) : own_Go p e below (T.setTop (mkF m pc Ls (st))) P := by
  obtain ⟨locs, X, -, -⟩ := X
  subst hp
  exact own_by (fun _ => XS.aloadN X.here B.1 rfl (hb B.2.2.2.2.2.2.2 d) hl hv) G
theorem own_istore (B : own_B p s m meth c Z own nm bytes maxL ret) (X : own_S p l e R s m args below meth c n0 T h cells slots) {k : Nat} {v : Int32} {Ls' : Array Slot} (d : decode bytes pc = .ok (.istore k, 2)) (hp : pc + 2 = pc') (hl : storeLocals Ls k (.int v) = some Ls')
    (G : own_Go p e below (T.setTop (mkF m pc' Ls' st)) P) : own_Go p e below (T.setTop (mkF m pc Ls (.int v :: st))) P := by
  obtain ⟨locs, X, -, -⟩ := X
  subst hp
  exact own_by (fun _ => XS.istore X.here B.1 rfl (hb B.2.2.2.2.2.2.2 d) rfl hl) G
theorem own_istoreN (B : own_B p s m meth c Z own nm bytes maxL ret) (X : own_S p l e R s m args below meth c n0 T h cells slots) {k : Fin 4} {v : Int32} {Ls' : Array Slot} (d : decode bytes pc = .ok (.istore_n k, 1)) (hp : pc + 1 = pc') (hl : storeLocals Ls k.val (.int v) = some Ls')
    (G : own_Go p e below (T.setTop (mkF m pc' Ls' st)) P) : own_Go p e below (T.setTop (mkF m pc Ls (.int v :: st))) P := by
  obtain ⟨locs, X, -, -⟩ := X
  subst hp
  exact own_by (fun _ => XS.istoreN X.here B.1 rfl (hb B.2.2.2.2.2.2.2 d) rfl hl) G
theorem own_astore (B : own_B p s m meth c Z own nm bytes maxL ret) (X : own_S p l e R s m args below meth c n0 T h cells slots) {k : Nat} {v : Value} {Ls' : Array Slot} (d : decode bytes pc = .ok (.astore k, 2)) (hp : pc + 2 = pc') (hv : v.isRef = true) (hl : storeLocals Ls k (v) = some Ls')
    (G : own_Go p e below (T.setTop (mkF m pc' Ls' st)) P) : own_Go p e below (T.setTop (mkF m pc Ls (v :: st))) P := by
  obtain ⟨locs, X, -, -⟩ := X
  subst hp
  exact own_by (fun _ => XS.astore X.here B.1 rfl (hb B.2.2.2.2.2.2.2 d) rfl hv hl) G
theorem own_astoreN (B : own_B p s m meth c Z own nm bytes maxL ret) (X : own_S p l e R s m args below meth c n0 T h cells slots) {k : Fin 4} {v : Value} {Ls' : Array Slot} (d : decode bytes pc = .ok (.astore_n k, 1)) (hp : pc + 1 = pc') (hv : v.isRef = true) (hl : storeLocals Ls k.val (v) = some Ls')
    (G : own_Go p e below (T.setTop (mkF m pc' Ls' st)) P) : own_Go p e below (T.setTop (mkF m pc Ls (v :: st))) P := by
  obtain ⟨locs, X, -, -⟩ := X
  subst hp
  exact own_by (fun _ => XS.astoreN X.here B.1 rfl (hb B.2.2.2.2.2.2.2 d) rfl hv hl) G
theorem own_iinc (B : own_B p s m meth c Z own nm bytes maxL ret) (X : own_S p l e R s m args below meth c n0 T h cells slots) {k : Nat} {i : Int} {x z : Int32} {Ls' : Array Slot} (d : decode bytes pc = .ok (.iinc k i, 3)) (hp : pc + 3 = pc') (hl : Ls[k]? = some (.val (.int x))) (hz : x + Int32.ofInt i = z) (hs : storeLocals Ls k (.int z) = some Ls')
    (G : own_Go p e below (T.setTop (mkF m pc' Ls' st)) P) : own_Go p e below (T.setTop (mkF m pc Ls st)) P := by
  obtain ⟨locs, X, -, -⟩ := X
  subst hp hz
  exact own_by (fun _ => XS.iinc X.here B.1 rfl (hb B.2.2.2.2.2.2.2 d) hl hs) G
theorem own_iconst (B : own_B p s m meth c Z own nm bytes maxL ret) (X : own_S p l e R s m args below meth c n0 T h cells slots) {i : Int} {z : Int32} (d : decode bytes pc = .ok (.iconst i, 1)) (hp : pc + 1 = pc') (hz : Int32.ofInt i = z)
    (G : own_Go p e below (T.setTop (mkF m pc' Ls (.int z :: st))) P) : own_Go p e below (T.setTop (mkF m pc Ls (st))) P := by
  obtain ⟨locs, X, -, -⟩ := X
  subst hp
  subst hz
  exact own_by (fun _ => XS.iconst X.here B.1 rfl (hb B.2.2.2.2.2.2.2 d)) G
theorem own_bipush (B : own_B p s m meth c Z own nm bytes maxL ret) (X : own_S p l e R s m args below meth c n0 T h cells slots) {i : Int} {z : Int32} (d : decode bytes pc = .ok (.bipush i, 2)) (hp : pc + 2 = pc') (hz : (Int8.ofInt i).toInt32 = z)
    (G : own_Go p e below (T.setTop (mkF m pc' Ls (.int z :: st))) P) : own_Go p e below (T.setTop (mkF m pc Ls (st))) P := by
  obtain ⟨locs, X, -, -⟩ := X
  subst hp
  subst hz
  exact own_by (fun _ => XS.bipush X.here B.1 rfl (hb B.2.2.2.2.2.2.2 d)) G
theorem own_ldcI (B : own_B p s m meth c Z own nm bytes maxL ret) (X : own_S p l e R s m args below meth c n0 T h cells slots) {i : Nat} {z : Int32} (w : (Cond.constant own i z).before a0 Z = true) (d : decode bytes pc = .ok (.ldc i, 2)) (hp : pc + 2 = pc') 
    (G : own_Go p e below (T.setTop (mkF m pc' Ls (.int z :: st))) P) : own_Go p e below (T.setTop (mkF m pc Ls (st))) P := by
  obtain ⟨locs, X, -, -⟩ := X
  subst hp
  exact own_by (fun _ => X.ldcInt B.1 B.2.2.2.1 (mvT B.2.1 w) (g := mkF m pc Ls st) rfl (hb B.2.2.2.2.2.2.2 d) _) G
theorem own_iadd (B : own_B p s m meth c Z own nm bytes maxL ret) (X : own_S p l e R s m args below meth c n0 T h cells slots) {x y z : Int32} (d : decode bytes pc = .ok (.iadd, 1)) (hp : pc + 1 = pc') (hz : x + y = z)
    (G : own_Go p e below (T.setTop (mkF m pc' Ls (.int z :: st))) P) : own_Go p e below (T.setTop (mkF m pc Ls (.int y :: .int x :: st))) P := by
  obtain ⟨locs, X, -, -⟩ := X
  subst hp
  subst hz
  exact own_by (fun _ => XS.iadd X.here B.1 rfl (hb B.2.2.2.2.2.2.2 d) rfl) G
theorem own_imul (B : own_B p s m meth c Z own nm bytes maxL ret) (X : own_S p l e R s m args below meth c n0 T h cells slots) {x y z : Int32} (d : decode bytes pc = .ok (.imul, 1)) (hp : pc + 1 = pc') (hz : x * y = z)
    (G : own_Go p e below (T.setTop (mkF m pc' Ls (.int z :: st))) P) : own_Go p e below (T.setTop (mkF m pc Ls (.int y :: .int x :: st))) P := by
  obtain ⟨locs, X, -, -⟩ := X
  subst hp
  subst hz
  exact own_by (fun _ => XS.imul X.here B.1 rfl (hb B.2.2.2.2.2.2.2 d) rfl) G
theorem own_iand (B : own_B p s m meth c Z own nm bytes maxL ret) (X : own_S p l e R s m args below meth c n0 T h cells slots) {x y z : Int32} (d : decode bytes pc = .ok (.iand, 1)) (hp : pc + 1 = pc') (hz : x &&& y = z)
    (G : own_Go p e below (T.setTop (mkF m pc' Ls (.int z :: st))) P) : own_Go p e below (T.setTop (mkF m pc Ls (.int y :: .int x :: st))) P := by
  obtain ⟨locs, X, -, -⟩ := X
  subst hp
  subst hz
  exact own_by (fun _ => XS.iand X.here B.1 rfl (hb B.2.2.2.2.2.2.2 d) rfl) G
theorem own_ixor (B : own_B p s m meth c Z own nm bytes maxL ret) (X : own_S p l e R s m args below meth c n0 T h cells slots) {x y z : Int32} (d : decode bytes pc = .ok (.ixor, 1)) (hp : pc + 1 = pc') (hz : x ^^^ y = z)
    (G : own_Go p e below (T.setTop (mkF m pc' Ls (.int z :: st))) P) : own_Go p e below (T.setTop (mkF m pc Ls (.int y :: .int x :: st))) P := by
  obtain ⟨locs, X, -, -⟩ := X
  subst hp
  subst hz
  exact own_by (fun _ => XS.ixor X.here B.1 rfl (hb B.2.2.2.2.2.2.2 d) rfl) G
theorem own_iushr (B : own_B p s m meth c Z own nm bytes maxL ret) (X : own_S p l e R s m args below meth c n0 T h cells slots) {x y z : Int32} (d : decode bytes pc = .ok (.iushr, 1)) (hp : pc + 1 = pc') (hz : (x.toUInt32 >>> (y &&& 31).toUInt32).toInt32 = z)
    (G : own_Go p e below (T.setTop (mkF m pc' Ls (.int z :: st))) P) : own_Go p e below (T.setTop (mkF m pc Ls (.int y :: .int x :: st))) P := by
  obtain ⟨locs, X, -, -⟩ := X
  subst hp
  subst hz
  exact own_by (fun _ => XS.iushr X.here B.1 rfl (hb B.2.2.2.2.2.2.2 d) rfl) G
theorem own_goto (B : own_B p s m meth c Z own nm bytes maxL ret) (X : own_S p l e R s m args below meth c n0 T h cells slots) {o : Int} (d : decode bytes pc = .ok (.goto o, 3)) (ho : 0 ≤ (pc : Int) + o) (hp : ((pc : Int) + o).toNat = pc')
    (G : own_Go p e below (T.setTop (mkF m pc' Ls st)) P) : own_Go p e below (T.setTop (mkF m pc Ls st)) P := by
  obtain ⟨locs, X, -, -⟩ := X
  exact own_by (fun _ => XS.goto X.here B.1 rfl (pc0 := pc) rfl (hb B.2.2.2.2.2.2.2 d) ho hp) G
theorem own_ifYes (B : own_B p s m meth c Z own nm bytes maxL ret) (X : own_S p l e R s m args below meth c n0 T h cells slots) {cd : ClassFile.Cond} {o : Int} {x : Int32} (d : decode bytes pc = .ok (.ifCond cd o, 3)) (hc : ifCond.holds cd x = true) (ho : 0 ≤ (pc : Int) + o) (hp : ((pc : Int) + o).toNat = pc')
    (G : own_Go p e below (T.setTop (mkF m pc' Ls st)) P) : own_Go p e below (T.setTop (mkF m pc Ls (.int x :: st))) P := by
  obtain ⟨locs, X, -, -⟩ := X
  exact own_by (fun _ => XS.ifYes X.here B.1 rfl (pc0 := pc) rfl (hb B.2.2.2.2.2.2.2 d) rfl hc ho hp) G
theorem own_ifNo (B : own_B p s m meth c Z own nm bytes maxL ret) (X : own_S p l e R s m args below meth c n0 T h cells slots) {cd : ClassFile.Cond} {o : Int} {x : Int32} (d : decode bytes pc = .ok (.ifCond cd o, 3)) (hc : ifCond.holds cd x = false) (hp : pc + 3 = pc')
    (G : own_Go p e below (T.setTop (mkF m pc' Ls st)) P) : own_Go p e below (T.setTop (mkF m pc Ls (.int x :: st))) P := by
  obtain ⟨locs, X, -, -⟩ := X
  subst hp
  exact own_by (fun _ => XS.ifNo X.here B.1 rfl (hb B.2.2.2.2.2.2.2 d) rfl hc) G
theorem own_icmpYes (B : own_B p s m meth c Z own nm bytes maxL ret) (X : own_S p l e R s m args below meth c n0 T h cells slots) {cd : ClassFile.Cond} {o : Int} {x y : Int32} (d : decode bytes pc = .ok (.if_icmp cd o, 3)) (hc : if_icmp.holds cd x y = true) (ho : 0 ≤ (pc : Int) + o) (hp : ((pc : Int) + o).toNat = pc')
    (G : own_Go p e below (T.setTop (mkF m pc' Ls st)) P) : own_Go p e below (T.setTop (mkF m pc Ls (.int y :: .int x :: st))) P := by
  obtain ⟨locs, X, -, -⟩ := X
  exact own_by (fun _ => XS.icmpYes X.here B.1 rfl (pc0 := pc) rfl (hb B.2.2.2.2.2.2.2 d) rfl hc ho hp) G
theorem own_icmpNo (B : own_B p s m meth c Z own nm bytes maxL ret) (X : own_S p l e R s m args below meth c n0 T h cells slots) {cd : ClassFile.Cond} {o : Int} {x y : Int32} (d : decode bytes pc = .ok (.if_icmp cd o, 3)) (hc : if_icmp.holds cd x y = false) (hp : pc + 3 = pc')
    (G : own_Go p e below (T.setTop (mkF m pc' Ls st)) P) : own_Go p e below (T.setTop (mkF m pc Ls (.int y :: .int x :: st))) P := by
  obtain ⟨locs, X, -, -⟩ := X
  subst hp
  exact own_by (fun _ => XS.icmpNo X.here B.1 rfl (hb B.2.2.2.2.2.2.2 d) rfl hc) G
theorem own_arraylength (B : own_B p s m meth c Z own nm bytes maxL ret) (X : own_S p l e R s m args below meth c n0 T h cells slots) {a : Addr} {k : ClassId} {z : Int32} {vs : List Value} {dv : Value} {ty : FieldType} (V : Arv Z h a k ty z vs dv) (d : decode bytes pc = .ok (.arraylength, 1)) (hp : pc + 1 = pc')
    (G : own_Go p e below (T.setTop (mkF m pc' Ls (.int z :: st))) P) : own_Go p e below (T.setTop (mkF m pc Ls (.ref a :: st))) P := by
  obtain ⟨locs, X, eT, -⟩ := X
  subst hp
  obtain ⟨cl, A, -, S, N, -, -⟩ := V
  refine own_by (fun t ht => ?_) G
  refine X.arraylength B.1 (by rw [eT]; exact A.1) (State.isArrayOf_alike B.2.1.alike A.2.1) (g := mkF m pc Ls (.ref a :: st)) rfl rfl (hb B.2.2.2.2.2.2.2 d) _ ?_
  rw [len_of S N]; exact ht
theorem own_iaload (B : own_B p s m meth c Z own nm bytes maxL ret) (X : own_S p l e R s m args below meth c n0 T h cells slots) {a : Addr} {k : ClassId} {z : Int32} {vs : List Value} {dv : Value} {j : Int32} {v : Value} (V : Arv Z h a k .int z vs dv) (hj : ¬ j < 0 ∧ j < z) (hv : vs.getD j.toNatClampNeg dv = v) (d : decode bytes pc = .ok (.iaload, 1)) (hp : pc + 1 = pc')
    (G : own_Go p e below (T.setTop (mkF m pc' Ls (v :: st))) P) : own_Go p e below (T.setTop (mkF m pc Ls (.int j :: .ref a :: st))) P := by
  obtain ⟨locs, X, eT, -⟩ := X
  subst hp
  obtain ⟨cl, A, -, S, N, H, -⟩ := V
  have hin := inb_of S hj
  exact own_by (fun t => X.iaload B.1 (j := j) (v := v) (by rw [eT]; exact A.1) (State.isArrayOf_alike B.2.1.alike A.2.1) A.2.2 hin (H.at hin hv) (g := mkF m pc Ls (.int j :: .ref a :: st)) rfl rfl (hb B.2.2.2.2.2.2.2 d) t) G
theorem own_iastore (B : own_B p s m meth c Z own nm bytes maxL ret) (X : own_S p l e R s m args below meth c n0 T h cells slots) {a : Addr} {k : ClassId} {z : Int32} {vs : List Value} {dv : Value} {j : Int32} {x x' : Int32} (V : Arv Z h a k .int z vs dv) (ge : n0 ≤ a) (hj : ¬ j < 0 ∧ j < z) (i : Nat) (hi : j.toNatClampNeg = i) (hl : i < vs.length) (hz : x = x') (d : decode bytes pc = .ok (.iastore, 1)) (hp : pc + 1 = pc')
    (G : ∀ T' h', own_S p l e R s m args below meth c n0 T' h' cells slots → Wr h h' a i (.int x') → Arv Z h' a k .int z (vs.set i (.int x')) dv → own_Go p e below (T'.setTop (mkF m pc' Ls st)) P) : own_Go p e below (T.setTop (mkF m pc Ls (.int x :: .int j :: .ref a :: st))) P := by
  obtain ⟨locs, X, eT, N0⟩ := X
  subst hp hi hz
  obtain ⟨cl, A, q, S, N, H, F⟩ := V
  have hin := inb_of S hj
  obtain ⟨T', h', X', e', W, st'⟩ := stI X B.1 B.2.1 eT A (j := j) hin (g := mkF m pc Ls (.int x :: .int j :: .ref a :: st)) rfl rfl (hb B.2.2.2.2.2.2.2 d)
  exact own_by st' (G T' h' ⟨_, X', e', Fr.snoc X' N0 ge⟩ W (Arv.set A q S N H F rfl W _ rfl hl))
theorem own_newarray (B : own_B p s m meth c Z own nm bytes maxL ret) (X : own_S p l e R s m args below meth c n0 T h cells slots) {aty : ArrayType} {t : FieldType} (w : (Cond.arrayClass t).before a0 Z = true) (d : decode bytes pc = .ok (.newarray aty, 2)) (hp : pc + 2 = pc') (hty : newarray.typeOf aty = t) {z : Int32} (hz : ¬ z < 0) (cap : Nat) (hcap : z.toNatClampNeg ≤ cap) (hbig : cap * 8 ≤ 536870912) {k' n' : Nat} (hk : cells + 1 = k') (hn : slots + cap = n') (hkR : k' ≤ R.cells) (hnR : n' ≤ R.slots) (ad : String) (had : "[" ++ (newarray.typeOf aty).toString = ad) (dv : Value) (hdv : defaultValue t = dv)
    (G : ∀ T' h' b k, own_S p l e R s m args below meth c n0 T' h' k' n' → b = h.size → Ext h h' → Arv Z h' b k t z [] dv → Exa Z h' b ad → own_Go p e below (T'.setTop (mkF m pc' Ls (.ref b :: st))) P) : own_Go p e below (T.setTop (mkF m pc Ls (.int z :: st))) P := by
  obtain ⟨locs, X, eT, N0⟩ := X
  subst hp hk hn hdv hty
  obtain ⟨T', h', kA, X', e', E, A, A', st'⟩ := newPE X B.1 B.2.1 w eT (g := mkF m pc Ls (.int z :: st)) rfl (hb B.2.2.2.2.2.2.2 d) rfl hz (cap := cap) hcap hbig hkR hnR had
  exact own_by st' (G T' h' _ kA ⟨_, X', e', N0⟩ rfl E (Arv.new A hz) A')
theorem own_retI (B : own_B p s m meth c Z own nm bytes maxL (some .int)) (X : own_S p l e R s m args below meth c n0 T h cells slots) {Q : Option Value → Heap → Prop} {k n : Nat} {z : Int32} (d : decode bytes pc = .ok (.ireturn, 1)) (hk : cells ≤ k) (hn : slots ≤ n) (hq : Q (some (.int z)) h) : own_Go p e below (T.setTop (mkF m pc Ls (.int z :: st))) (own_P s below n0 Q k n) := by
  obtain ⟨locs, X, eT, N0⟩ := X
  obtain ⟨fs, hr, hrun, hended, hW, hsame⟩ := X.leave (v := (some (.int z))) (fun h => by rw [B.2.2.2.2.1] at h; cases h) B.2.2.2.2.2.1
  exact ⟨_, _, retOut X B.1 B.2.2.2.2.1 rfl (Or.inl ⟨rfl, Or.inl rfl, _, rfl⟩) (hb B.2.2.2.2.2.2.2 d) hr, hrun, hended, _, _, rfl, ⟨N0, by show Q _ T.heap; rw [eT]; exact hq⟩, ⟨_, rfl⟩, hW, hsame.mono hk hn⟩
theorem own_retN {t : FieldType} (B : own_B p s m meth c Z own nm bytes maxL (some t)) (X : own_S p l e R s m args below meth c n0 T h cells slots) {Q : Option Value → Heap → Prop} {k n : Nat} {z z' : Int32} (ht : t = .boolean ∨ t = .byte ∨ t = .char ∨ t = .short) (hz : nar t z = z') (d : decode bytes pc = .ok (.ireturn, 1)) (hk : cells ≤ k) (hn : slots ≤ n) (hq : Q (some (.int z')) h) : own_Go p e below (T.setTop (mkF m pc Ls (.int z :: st))) (own_P s below n0 Q k n) := by
  subst hz
  obtain ⟨locs, X, eT, N0⟩ := X
  obtain ⟨fs, hr, hrun, hended, hW, hsame⟩ := X.leave (v := (some (.int (nar t z)))) (fun h => by rw [B.2.2.2.2.1] at h; cases h) B.2.2.2.2.2.1
  exact ⟨_, _, retN X B.1 B.2.2.2.2.1 ht (hb B.2.2.2.2.2.2.2 d) hr, hrun, hended, _, _, rfl, ⟨N0, by show Q _ T.heap; rw [eT]; exact hq⟩, ⟨_, rfl⟩, hW, hsame.mono hk hn⟩
theorem own_enter {y : MethodName} {rm : Room} {ws : List Jvm.Cond} {as' : Array Value} {Q : Option Value → Heap → Prop} {F : MethodId → JFrame} (hpl : plainFor y = true) (hF : ∀ m, entryFrame m as' maxL = F m)
    (body : ∀ p e s m below meth c s₁, own_B p s m meth c Z y.cls y.name bytes maxL ret → own_S p l e rm s m as' below meth c n0 s₁ h0 0 0 → own_Go p e below (s₁.setTop (F m)) (own_P s below n0 Q rm.cells rm.slots)) :
    MetFree l y (head1 (Jvm.Cond.code y bytes maxL ret :: ws) rm) (fun a U => a = as' ∧ Z.Warmed39 U.vm ∧ U.heap = h0) (fun _ _ _ _ _ => True) (fun _ U o U' => ∃ v L, o = .returned v ∧ (Fr n0 L ∧ Q v U'.heap) ∧ FrameEnd U o U' L rm.cells rm.slots) := by
  refine MetFree.of_bodySF hpl hisR ?_
  intro p e s m args below meth c s₁ Bd hml0 hP hK
  obtain ⟨rfl, hZ, hh⟩ := hP
  have e0 : s₁.heap = h0 := by rw [← hh, Bd.state]; rfl
  have nm := (name_of_methodNamed Bd.named Bd.method).1
  obtain ⟨a, o, h1, h2⟩ := body p e s m below meth c s₁ ⟨Bd.exec, hZ, hml0, findClass_of_methodNamed Bd.named, Bd.returns, Bd.notSynchronized, nm, Bd.bytes⟩ ⟨[], Stand.of_body Bd, e0, Fr.nil n0⟩
  exact ⟨a, o, castTop (hF m) h1, h2⟩
theorem own_callS (B : own_B p s m meth c Z own nm bytes maxL ret) (X : own_S p l e R s m args below meth c n0 T h cells slots) {i : Nat} {y : MethodName} {yb : ByteArray} {yl : Nat} {yr : Option FieldType} (w1 : (Cond.methodLink own i y).before a0 Z = true) (w2 : (Cond.static y).before a0 Z = true) (w3 : (Cond.initialized y.cls).before a0 Z = true) (w4 : (Cond.code y yb yl yr).before a0 Z = true) (hy : y.cls ≠ "java/lang/invoke/MethodHandle" ∧ y.cls ≠ "java/lang/invoke/VarHandle") {rm : Room} {Q : Option Value → Heap → Prop} (argsL rest : List Value)
    (hM : MetFree l y (head1 [Jvm.Cond.code y yb yl yr] rm) (fun b U => b = argsL.toArray ∧ Z.Warmed39 U.vm ∧ U.heap = h) (fun _ _ _ _ _ => True) (fun _ U o U' => ∃ v L, o = .returned v ∧ (Fr n0 L ∧ Q v U'.heap) ∧ FrameEnd U o U' L rm.cells rm.slots))
    (W : Nat) (hf : rm.frames + 1 ≤ R.frames) (hl : W + (yl + 11) + rm.locals ≤ R.locals) (hsz : Ls.size = maxL) {ps : List FieldType} {rt : Option FieldType} (hpd : parseMethodDescriptor y.desc = some ⟨ps, rt⟩) (hln : argsL.length = ps.length) (hst : st = argsL.reverse ++ rest) (hW : (rest.map fun v => v.category).sum ≤ W) (d : decode bytes pc = .ok (.invokestatic i, 3)) (hp : pc + 3 = pc') {k' n' : Nat} (hk : cells + rm.cells = k') (hn : slots + rm.slots = n') (hkR : k' ≤ R.cells) (hnR : n' ≤ R.slots)
    (G : ∀ T' v h', own_S p l e R s m args below meth c n0 T' h' k' n' → Q v h' → own_Go p e below (T'.setTop (mkF m pc' Ls (v.toList ++ rest))) P) : own_Go p e below (T.setTop (mkF m pc Ls st)) P := by
  obtain ⟨locs, X, eT, N0⟩ := X
  subst hp hk hn
  have bk := backOf (p := p) (e := e) (below := below) (args := args) (len := 3) (W := W) (Q := fun v h' L => Fr n0 L ∧ Q v h') hM B.2.1 w4 w3 hf hl
  obtain ⟨v, vm₁, ⟨T', L', k1, n1⟩, hW1, X', ⟨Lc, hQ, l1, y1, z1⟩, stp⟩ := Jvm.LawKit.callS X B.1 (y := y) B.2.2.2.1 (mvT B.2.1 w1) (mvT B.2.1 w2) (mvT B.2.1 w3) (mvT B.2.1 w4) hy bk (g := mkF m pc Ls st) rfl (by rw [B.2.2.1]; exact hsz) (argsL := argsL) (rest := rest) (lenOf hpd hln) hst (by show 2 * 0 + _ ≤ _; omega) (hb B.2.2.2.2.2.2.2 d) (fun _ _ => ⟨rfl, eT, hkR, hnR⟩)
  dsimp only [Pt.U, Pt.locs, Pt.cells, Pt.slots] at X' l1 y1 z1 stp hQ
  subst l1 y1 z1
  exact own_by stp (G T' v _ ⟨_, X', rfl, N0.app hQ.1⟩ hQ.2)
theorem own_sz {h1 : Heap} {ws : List Addr} {b : Addr} (K : Keep h0 h1 ws) (g : b = h1.size) : h0.size ≤ b := g ▸ K.1
end OwnKit
section OwnNum
theorem own_w {a0 : Array Value} {Z : State} (hw : ∀ d ∈ tables_1, d.before a0 Z = true) (i : Nat) {d : Jvm.Cond} (hd : tables_1[i]? = some d) : d.before a0 Z = true := hw _ (List.mem_of_getElem? hd)
theorem own_o_mask {x m z : Int32} (h : x &&& m = z) (k : Nat) (hk : k ≤ 31) (hm : m.toBitVec.toNat = 2 ^ k - 1) : z.toInt = x.toInt % (2 ^ k : Nat) := h ▸ c_mask x m k hk hm
end OwnNum
theorem own_bsh {w : Nat} (x : BitVec w) (k : Nat) (hk : w ≤ 2 * k) : (x ^^^ x >>> k) ^^^ ((x ^^^ x >>> k) >>> k) = x := by
  ext i hi
  simp only [BitVec.getElem_xor, BitVec.getElem_ushiftRight, BitVec.getLsbD_xor, BitVec.getLsbD_ushiftRight]
  have : x.getLsbD (k + (k + i)) = false := BitVec.getLsbD_of_ge _ _ (by omega)
  rw [this]; simp
theorem own_bsh13 (x : BitVec 32) : (x ^^^ x >>> 13) ^^^ ((x ^^^ x >>> 13) >>> 13 ^^^ (x ^^^ x >>> 13) >>> 26) = x := by
  ext i hi
  simp only [BitVec.getElem_xor, BitVec.getElem_ushiftRight, BitVec.getLsbD_xor, BitVec.getLsbD_ushiftRight]
  have h1 : x.getLsbD (13 + (26 + i)) = false := BitVec.getLsbD_of_ge _ _ (by omega)
  have h2 : 13 + (13 + i) = 26 + i := by omega
  rw [h1, h2]; cases x[i] <;> cases x.getLsbD (13 + i) <;> cases x.getLsbD (26 + i) <;> rfl
theorem own_ush16 (x : Int32) : ((x.toUInt32 >>> ((16 : Int32) &&& 31).toUInt32).toInt32).toBitVec = x.toBitVec >>> 16 := by
  rw [show ((16 : Int32) &&& 31).toUInt32 = 16 from by decide]; rfl
theorem own_ush13 (x : Int32) : ((x.toUInt32 >>> ((13 : Int32) &&& 31).toUInt32).toInt32).toBitVec = x.toBitVec >>> 13 := by
  rw [show ((13 : Int32) &&& 31).toUInt32 = 13 from by decide]; rfl
theorem own_ush26 (x : Int32) : ((x.toUInt32 >>> ((26 : Int32) &&& 31).toUInt32).toInt32).toBitVec = x.toBitVec >>> 26 := by
  rw [show ((26 : Int32) &&& 31).toUInt32 = 26 from by decide]; rfl
theorem own_x16 {a b c d e : Int32} (h1 : (a.toUInt32 >>> ((16 : Int32) &&& 31).toUInt32).toInt32 = b) (h2 : a ^^^ b = c) (h3 : (c.toUInt32 >>> ((16 : Int32) &&& 31).toUInt32).toInt32 = d) (h4 : c ^^^ d = e) : e = a := by
  subst h1 h2 h3 h4
  apply Int32.toBitVec_inj.mp
  rw [Int32.toBitVec_xor, own_ush16, Int32.toBitVec_xor, own_ush16]
  exact own_bsh _ 16 (by decide)
theorem own_x13 {a b c d e f g : Int32} (h1 : (a.toUInt32 >>> ((13 : Int32) &&& 31).toUInt32).toInt32 = b) (h2 : a ^^^ b = c) (h3 : (c.toUInt32 >>> ((13 : Int32) &&& 31).toUInt32).toInt32 = d) (h4 : (c.toUInt32 >>> ((26 : Int32) &&& 31).toUInt32).toInt32 = e) (h5 : d ^^^ e = f) (h6 : c ^^^ f = g) : g = a := by
  subst h1 h2 h3 h4 h5 h6
  apply Int32.toBitVec_inj.mp
  simp only [Int32.toBitVec_xor, own_ush13, own_ush26]
  exact own_bsh13 _
theorem own_inv {x y z m n : Int32} (hmn : m * n = 1) (h1 : x * m = y) (h2 : y * n = z) : z = x := by
  subst h1 h2; rw [Int32.mul_assoc, hmn, Int32.mul_one]

theorem d1_0 : decode prog_62_method_13_code 0 = .ok (.aload_n 0, 1) := by decide +kernel
theorem d1_1 : decode prog_62_method_13_code 1 = .ok (.arraylength, 1) := by decide +kernel
theorem d1_2 : decode prog_62_method_13_code 2 = .ok (.istore_n 1, 1) := by decide +kernel
theorem d1_3 : decode prog_62_method_13_code 3 = .ok (.aload_n 0, 1) := by decide +kernel
theorem d1_4 : decode prog_62_method_13_code 4 = .ok (.astore_n 2, 1) := by decide +kernel
theorem d1_5 : decode prog_62_method_13_code 5 = .ok (.aload_n 2, 1) := by decide +kernel
theorem d1_6 : decode prog_62_method_13_code 6 = .ok (.arraylength, 1) := by decide +kernel
theorem d1_7 : decode prog_62_method_13_code 7 = .ok (.istore_n 3, 1) := by decide +kernel
theorem d1_8 : decode prog_62_method_13_code 8 = .ok (.iconst 0, 1) := by decide +kernel
theorem d1_9 : decode prog_62_method_13_code 9 = .ok (.istore 4, 2) := by decide +kernel
theorem d1_11 : decode prog_62_method_13_code 11 = .ok (.iload 4, 2) := by decide +kernel
theorem d1_13 : decode prog_62_method_13_code 13 = .ok (.iload_n 3, 1) := by decide +kernel
theorem d1_14 : decode prog_62_method_13_code 14 = .ok (.if_icmp .ge 23, 3) := by decide +kernel
theorem d1_37 : decode prog_62_method_13_code 37 = .ok (.iload_n 1, 1) := by decide +kernel
theorem d1_38 : decode prog_62_method_13_code 38 = .ok (.iload_n 1, 1) := by decide +kernel
theorem d1_39 : decode prog_62_method_13_code 39 = .ok (.bipush 16, 2) := by decide +kernel
theorem d1_41 : decode prog_62_method_13_code 41 = .ok (.iushr, 1) := by decide +kernel
theorem d1_42 : decode prog_62_method_13_code 42 = .ok (.ixor, 1) := by decide +kernel
theorem d1_43 : decode prog_62_method_13_code 43 = .ok (.istore_n 1, 1) := by decide +kernel
theorem d1_44 : decode prog_62_method_13_code 44 = .ok (.iload_n 1, 1) := by decide +kernel
theorem d1_45 : decode prog_62_method_13_code 45 = .ok (.ldc 80, 2) := by decide +kernel
theorem d1_47 : decode prog_62_method_13_code 47 = .ok (.imul, 1) := by decide +kernel
theorem d1_48 : decode prog_62_method_13_code 48 = .ok (.istore_n 1, 1) := by decide +kernel
theorem d1_49 : decode prog_62_method_13_code 49 = .ok (.iload_n 1, 1) := by decide +kernel
theorem d1_50 : decode prog_62_method_13_code 50 = .ok (.iload_n 1, 1) := by decide +kernel
theorem d1_51 : decode prog_62_method_13_code 51 = .ok (.bipush 13, 2) := by decide +kernel
theorem d1_53 : decode prog_62_method_13_code 53 = .ok (.iushr, 1) := by decide +kernel
theorem d1_54 : decode prog_62_method_13_code 54 = .ok (.ixor, 1) := by decide +kernel
theorem d1_55 : decode prog_62_method_13_code 55 = .ok (.istore_n 1, 1) := by decide +kernel
theorem d1_56 : decode prog_62_method_13_code 56 = .ok (.iload_n 1, 1) := by decide +kernel
theorem d1_57 : decode prog_62_method_13_code 57 = .ok (.ldc 81, 2) := by decide +kernel
theorem d1_59 : decode prog_62_method_13_code 59 = .ok (.imul, 1) := by decide +kernel
theorem d1_60 : decode prog_62_method_13_code 60 = .ok (.istore_n 1, 1) := by decide +kernel
theorem d1_61 : decode prog_62_method_13_code 61 = .ok (.iload_n 1, 1) := by decide +kernel
theorem d1_62 : decode prog_62_method_13_code 62 = .ok (.iload_n 1, 1) := by decide +kernel
theorem d1_63 : decode prog_62_method_13_code 63 = .ok (.bipush 16, 2) := by decide +kernel
theorem d1_65 : decode prog_62_method_13_code 65 = .ok (.iushr, 1) := by decide +kernel
theorem d1_66 : decode prog_62_method_13_code 66 = .ok (.ixor, 1) := by decide +kernel
theorem d1_67 : decode prog_62_method_13_code 67 = .ok (.ireturn, 1) := by decide +kernel
theorem pn_0 : plainName "com/example/bagwise/bagwise/Tuples" = true := by first | (simp [plainName, overriddenIn]; done) | decide +kernel
theorem pd_0 : parseMethodDescriptor "([I)I" = some ⟨[(.array .int)], some .int⟩ := by decide +kernel
theorem d2_0 : decode method_2_code 0 = .ok (.iload_n 0, 1) := by decide +kernel
theorem d2_1 : decode method_2_code 1 = .ok (.iload_n 0, 1) := by decide +kernel
theorem d2_2 : decode method_2_code 2 = .ok (.bipush 16, 2) := by decide +kernel
theorem d2_4 : decode method_2_code 4 = .ok (.iushr, 1) := by decide +kernel
theorem d2_5 : decode method_2_code 5 = .ok (.ixor, 1) := by decide +kernel
theorem d2_6 : decode method_2_code 6 = .ok (.istore_n 0, 1) := by decide +kernel
theorem d2_7 : decode method_2_code 7 = .ok (.iload_n 0, 1) := by decide +kernel
theorem d2_8 : decode method_2_code 8 = .ok (.ldc 7, 2) := by decide +kernel
theorem d2_10 : decode method_2_code 10 = .ok (.imul, 1) := by decide +kernel
theorem d2_11 : decode method_2_code 11 = .ok (.istore_n 0, 1) := by decide +kernel
theorem d2_12 : decode method_2_code 12 = .ok (.iload_n 0, 1) := by decide +kernel
theorem d2_13 : decode method_2_code 13 = .ok (.iload_n 0, 1) := by decide +kernel
theorem d2_14 : decode method_2_code 14 = .ok (.bipush 13, 2) := by decide +kernel
theorem d2_16 : decode method_2_code 16 = .ok (.iushr, 1) := by decide +kernel
theorem d2_17 : decode method_2_code 17 = .ok (.iload_n 0, 1) := by decide +kernel
theorem d2_18 : decode method_2_code 18 = .ok (.bipush 26, 2) := by decide +kernel
theorem d2_20 : decode method_2_code 20 = .ok (.iushr, 1) := by decide +kernel
theorem d2_21 : decode method_2_code 21 = .ok (.ixor, 1) := by decide +kernel
theorem d2_22 : decode method_2_code 22 = .ok (.ixor, 1) := by decide +kernel
theorem d2_23 : decode method_2_code 23 = .ok (.istore_n 0, 1) := by decide +kernel
theorem d2_24 : decode method_2_code 24 = .ok (.iload_n 0, 1) := by decide +kernel
theorem d2_25 : decode method_2_code 25 = .ok (.ldc 8, 2) := by decide +kernel
theorem d2_27 : decode method_2_code 27 = .ok (.imul, 1) := by decide +kernel
theorem d2_28 : decode method_2_code 28 = .ok (.istore_n 0, 1) := by decide +kernel
theorem d2_29 : decode method_2_code 29 = .ok (.iload_n 0, 1) := by decide +kernel
theorem d2_30 : decode method_2_code 30 = .ok (.iload_n 0, 1) := by decide +kernel
theorem d2_31 : decode method_2_code 31 = .ok (.bipush 16, 2) := by decide +kernel
theorem d2_33 : decode method_2_code 33 = .ok (.iushr, 1) := by decide +kernel
theorem d2_34 : decode method_2_code 34 = .ok (.ixor, 1) := by decide +kernel
theorem d2_35 : decode method_2_code 35 = .ok (.istore_n 0, 1) := by decide +kernel
theorem d2_36 : decode method_2_code 36 = .ok (.iload_n 0, 1) := by decide +kernel
theorem d2_37 : decode method_2_code 37 = .ok (.ireturn, 1) := by decide +kernel
theorem pn_1 : plainName "com/example/bagwise/bagwise/TuplesHashPinLaw" = true := by first | (simp [plainName, overriddenIn]; done) | decide +kernel
theorem pd_1 : parseMethodDescriptor "(I)I" = some ⟨[.int], some .int⟩ := by decide +kernel
theorem d1_17 : decode prog_62_method_13_code 17 = .ok (.aload_n 2, 1) := by decide +kernel
theorem d1_18 : decode prog_62_method_13_code 18 = .ok (.iload 4, 2) := by decide +kernel
theorem d1_20 : decode prog_62_method_13_code 20 = .ok (.iaload, 1) := by decide +kernel
theorem d1_21 : decode prog_62_method_13_code 21 = .ok (.istore 5, 2) := by decide +kernel
theorem d1_23 : decode prog_62_method_13_code 23 = .ok (.iload_n 1, 1) := by decide +kernel
theorem d1_24 : decode prog_62_method_13_code 24 = .ok (.iload 5, 2) := by decide +kernel
theorem d1_26 : decode prog_62_method_13_code 26 = .ok (.iadd, 1) := by decide +kernel
theorem d1_27 : decode prog_62_method_13_code 27 = .ok (.ldc 79, 2) := by decide +kernel
theorem d1_29 : decode prog_62_method_13_code 29 = .ok (.imul, 1) := by decide +kernel
theorem d1_30 : decode prog_62_method_13_code 30 = .ok (.istore_n 1, 1) := by decide +kernel
theorem d1_31 : decode prog_62_method_13_code 31 = .ok (.iinc 4 1, 3) := by decide +kernel
theorem d1_34 : decode prog_62_method_13_code 34 = .ok (.goto (-23), 3) := by decide +kernel
def Q_1 (Z : State) (w0 : Addr) (kw0 : ClassId) (h0 : Heap) (n0 : Nat) (v : Option Value) (h : Heap) : Prop :=
  (v = some (.int (0 : Int32)) ∧ h0 = h)
set_option maxRecDepth 65536 in
set_option maxHeartbeats 40000000 in
theorem rm_1 (l : Launch) (Z : State) (a0 : Array Value) (hw : ∀ d ∈ tables_1, d.before a0 Z = true) (ws : List Jvm.Cond) (w0 : Addr) (kw0 : ClassId) (h0 : Heap) (n0 : Nat) (Z0 : n0 ≤ h0.size) (E_w0 : Exa Z h0 w0 "[I") (V_w0 : Arv Z h0 w0 kw0 .int (0 : Int32) [] (.int (0 : Int32))) (g_w0 : n0 ≤ w0) :
    MetFree l (⟨"com/example/bagwise/bagwise/Tuples", "hash", "([I)I"⟩ : MethodName) (head1 (Jvm.Cond.code (⟨"com/example/bagwise/bagwise/Tuples", "hash", "([I)I"⟩ : MethodName) prog_62_method_13_code 6 (some .int) :: ws) ({ frames := 0, cells := 0, slots := 0, locals := 0 } : Room)) (fun a U => a = #[(.ref w0)] ∧ Z.Warmed39 U.vm ∧ U.heap = h0) (fun _ _ _ _ _ => True) (fun _ U o U' => ∃ v L, o = .returned v ∧ (Fr n0 L ∧ Q_1 Z w0 kw0 h0 n0 v U'.heap) ∧ FrameEnd U o U' L ({ frames := 0, cells := 0, slots := 0, locals := 0 } : Room).cells ({ frames := 0, cells := 0, slots := 0, locals := 0 } : Room).slots) := by
  refine own_enter (Q := Q_1 Z w0 kw0 h0 n0) (F := fun m => mkF m 0 #[.val (.ref w0), .unset, .unset, .unset, .unset, .unset] []) (plainFor_of_name pn_0) (fun m => by first | (simp [entryFrame, mkF, argsToLocals, Value.category]; done) | rfl) ?_
  intro p e s m below meth c s₁ B X0
  have K : Keep h0 h0 [] := Keep.refl h0 _
  refine own_aloadN (pc' := 1) B X0 d1_0 rfl rfl rfl ?_
  refine own_arraylength (pc' := 2) B X0 V_w0 d1_1 rfl ?_
  refine own_istoreN (pc' := 3) B X0 (Ls' := #[.val (.ref w0), .val (.int (0 : Int32)), .unset, .unset, .unset, .unset]) d1_2 rfl rfl ?_
  refine own_aloadN (pc' := 4) B X0 d1_3 rfl rfl rfl ?_
  refine own_astoreN (pc' := 5) B X0 (Ls' := #[.val (.ref w0), .val (.int (0 : Int32)), .val (.ref w0), .unset, .unset, .unset]) d1_4 rfl rfl rfl ?_
  refine own_aloadN (pc' := 6) B X0 d1_5 rfl rfl rfl ?_
  refine own_arraylength (pc' := 7) B X0 V_w0 d1_6 rfl ?_
  refine own_istoreN (pc' := 8) B X0 (Ls' := #[.val (.ref w0), .val (.int (0 : Int32)), .val (.ref w0), .val (.int (0 : Int32)), .unset, .unset]) d1_7 rfl rfl ?_
  refine own_iconst (pc' := 9) B X0 (z := (0 : Int32)) d1_8 rfl rfl ?_
  refine own_istore (pc' := 11) B X0 (Ls' := #[.val (.ref w0), .val (.int (0 : Int32)), .val (.ref w0), .val (.int (0 : Int32)), .val (.int (0 : Int32)), .unset]) d1_9 rfl rfl ?_
  refine own_iload (pc' := 13) B X0 d1_11 rfl rfl ?_
  refine own_iloadN (pc' := 14) B X0 d1_13 rfl rfl ?_
  refine own_icmpYes (pc' := 37) B X0 d1_14 (flt (by decide : ¬ ((0 : Int32) < (0 : Int32)))).2.1 (by decide) rfl ?_
  refine own_iloadN (pc' := 38) B X0 d1_37 rfl rfl ?_
  refine own_iloadN (pc' := 39) B X0 d1_38 rfl rfl ?_
  refine own_bipush (pc' := 41) B X0 (z := (16 : Int32)) d1_39 rfl (by decide) ?_
  refine own_iushr (pc' := 42) B X0 (z := (0 : Int32)) d1_41 rfl (by decide) ?_
  refine own_ixor (pc' := 43) B X0 (z := (0 : Int32)) d1_42 rfl (by decide) ?_
  refine own_istoreN (pc' := 44) B X0 (Ls' := #[.val (.ref w0), .val (.int (0 : Int32)), .val (.ref w0), .val (.int (0 : Int32)), .val (.int (0 : Int32)), .unset]) d1_43 rfl rfl ?_
  refine own_iloadN (pc' := 45) B X0 d1_44 rfl rfl ?_
  refine own_ldcI (pc' := 47) B X0 (own_w hw 6 rfl) d1_45 rfl ?_
  refine own_imul (pc' := 48) B X0 (z := (0 : Int32)) d1_47 rfl (by decide) ?_
  refine own_istoreN (pc' := 49) B X0 (Ls' := #[.val (.ref w0), .val (.int (0 : Int32)), .val (.ref w0), .val (.int (0 : Int32)), .val (.int (0 : Int32)), .unset]) d1_48 rfl rfl ?_
  refine own_iloadN (pc' := 50) B X0 d1_49 rfl rfl ?_
  refine own_iloadN (pc' := 51) B X0 d1_50 rfl rfl ?_
  refine own_bipush (pc' := 53) B X0 (z := (13 : Int32)) d1_51 rfl (by decide) ?_
  refine own_iushr (pc' := 54) B X0 (z := (0 : Int32)) d1_53 rfl (by decide) ?_
  refine own_ixor (pc' := 55) B X0 (z := (0 : Int32)) d1_54 rfl (by decide) ?_
  refine own_istoreN (pc' := 56) B X0 (Ls' := #[.val (.ref w0), .val (.int (0 : Int32)), .val (.ref w0), .val (.int (0 : Int32)), .val (.int (0 : Int32)), .unset]) d1_55 rfl rfl ?_
  refine own_iloadN (pc' := 57) B X0 d1_56 rfl rfl ?_
  refine own_ldcI (pc' := 59) B X0 (own_w hw 7 rfl) d1_57 rfl ?_
  refine own_imul (pc' := 60) B X0 (z := (0 : Int32)) d1_59 rfl (by decide) ?_
  refine own_istoreN (pc' := 61) B X0 (Ls' := #[.val (.ref w0), .val (.int (0 : Int32)), .val (.ref w0), .val (.int (0 : Int32)), .val (.int (0 : Int32)), .unset]) d1_60 rfl rfl ?_
  refine own_iloadN (pc' := 62) B X0 d1_61 rfl rfl ?_
  refine own_iloadN (pc' := 63) B X0 d1_62 rfl rfl ?_
  refine own_bipush (pc' := 65) B X0 (z := (16 : Int32)) d1_63 rfl (by decide) ?_
  refine own_iushr (pc' := 66) B X0 (z := (0 : Int32)) d1_65 rfl (by decide) ?_
  refine own_ixor (pc' := 67) B X0 (z := (0 : Int32)) d1_66 rfl (by decide) ?_
  exact own_retI B X0 d1_67 (by decide) (by decide) (⟨rfl, rfl⟩)
def Q_2 (Z : State)  (h0 : Heap) (n0 : Nat) (v : Option Value) (h : Heap) : Prop :=
  (v = some (.int (0 : Int32)) ∧ h0 = h)
set_option maxRecDepth 65536 in
set_option maxHeartbeats 40000000 in
theorem rm_2 (l : Launch) (Z : State) (a0 : Array Value) (hw : ∀ d ∈ tables_1, d.before a0 Z = true) (ws : List Jvm.Cond)  (h0 : Heap) (n0 : Nat) (Z0 : n0 ≤ h0.size)  :
    MetFree l (⟨"com/example/bagwise/bagwise/TuplesHashPinLaw", "unmix", "(I)I"⟩ : MethodName) (head1 (Jvm.Cond.code (⟨"com/example/bagwise/bagwise/TuplesHashPinLaw", "unmix", "(I)I"⟩ : MethodName) method_2_code 1 (some .int) :: ws) ({ frames := 0, cells := 0, slots := 0, locals := 0 } : Room)) (fun a U => a = #[(.int (0 : Int32))] ∧ Z.Warmed39 U.vm ∧ U.heap = h0) (fun _ _ _ _ _ => True) (fun _ U o U' => ∃ v L, o = .returned v ∧ (Fr n0 L ∧ Q_2 Z  h0 n0 v U'.heap) ∧ FrameEnd U o U' L ({ frames := 0, cells := 0, slots := 0, locals := 0 } : Room).cells ({ frames := 0, cells := 0, slots := 0, locals := 0 } : Room).slots) := by
  refine own_enter (Q := Q_2 Z  h0 n0) (F := fun m => mkF m 0 #[.val (.int (0 : Int32))] []) (plainFor_of_name pn_1) (fun m => by first | (simp [entryFrame, mkF, argsToLocals, Value.category]; done) | rfl) ?_
  intro p e s m below meth c s₁ B X0
  have K : Keep h0 h0 [] := Keep.refl h0 _
  refine own_iloadN (pc' := 1) B X0 d2_0 rfl rfl ?_
  refine own_iloadN (pc' := 2) B X0 d2_1 rfl rfl ?_
  refine own_bipush (pc' := 4) B X0 (z := (16 : Int32)) d2_2 rfl (by decide) ?_
  refine own_iushr (pc' := 5) B X0 (z := (0 : Int32)) d2_4 rfl (by decide) ?_
  refine own_ixor (pc' := 6) B X0 (z := (0 : Int32)) d2_5 rfl (by decide) ?_
  refine own_istoreN (pc' := 7) B X0 (Ls' := #[.val (.int (0 : Int32))]) d2_6 rfl rfl ?_
  refine own_iloadN (pc' := 8) B X0 d2_7 rfl rfl ?_
  refine own_ldcI (pc' := 10) B X0 (own_w hw 13 rfl) d2_8 rfl ?_
  refine own_imul (pc' := 11) B X0 (z := (0 : Int32)) d2_10 rfl (by decide) ?_
  refine own_istoreN (pc' := 12) B X0 (Ls' := #[.val (.int (0 : Int32))]) d2_11 rfl rfl ?_
  refine own_iloadN (pc' := 13) B X0 d2_12 rfl rfl ?_
  refine own_iloadN (pc' := 14) B X0 d2_13 rfl rfl ?_
  refine own_bipush (pc' := 16) B X0 (z := (13 : Int32)) d2_14 rfl (by decide) ?_
  refine own_iushr (pc' := 17) B X0 (z := (0 : Int32)) d2_16 rfl (by decide) ?_
  refine own_iloadN (pc' := 18) B X0 d2_17 rfl rfl ?_
  refine own_bipush (pc' := 20) B X0 (z := (26 : Int32)) d2_18 rfl (by decide) ?_
  refine own_iushr (pc' := 21) B X0 (z := (0 : Int32)) d2_20 rfl (by decide) ?_
  refine own_ixor (pc' := 22) B X0 (z := (0 : Int32)) d2_21 rfl (by decide) ?_
  refine own_ixor (pc' := 23) B X0 (z := (0 : Int32)) d2_22 rfl (by decide) ?_
  refine own_istoreN (pc' := 24) B X0 (Ls' := #[.val (.int (0 : Int32))]) d2_23 rfl rfl ?_
  refine own_iloadN (pc' := 25) B X0 d2_24 rfl rfl ?_
  refine own_ldcI (pc' := 27) B X0 (own_w hw 14 rfl) d2_25 rfl ?_
  refine own_imul (pc' := 28) B X0 (z := (0 : Int32)) d2_27 rfl (by decide) ?_
  refine own_istoreN (pc' := 29) B X0 (Ls' := #[.val (.int (0 : Int32))]) d2_28 rfl rfl ?_
  refine own_iloadN (pc' := 30) B X0 d2_29 rfl rfl ?_
  refine own_iloadN (pc' := 31) B X0 d2_30 rfl rfl ?_
  refine own_bipush (pc' := 33) B X0 (z := (16 : Int32)) d2_31 rfl (by decide) ?_
  refine own_iushr (pc' := 34) B X0 (z := (0 : Int32)) d2_33 rfl (by decide) ?_
  refine own_ixor (pc' := 35) B X0 (z := (0 : Int32)) d2_34 rfl (by decide) ?_
  refine own_istoreN (pc' := 36) B X0 (Ls' := #[.val (.int (0 : Int32))]) d2_35 rfl rfl ?_
  refine own_iloadN (pc' := 37) B X0 d2_36 rfl rfl ?_
  exact own_retI B X0 d2_37 (by decide) (by decide) (⟨rfl, rfl⟩)
def Q_3 (Z : State) (w0 : Addr) (kw0 : ClassId) (p2 : Int32) (h0 : Heap) (n0 : Nat) (v : Option Value) (h : Heap) : Prop :=
  (∃ (y1 : Int32) (y2 : Int32) (y3 : Int32) (y4 : Int32) (y5 : Int32) (y6 : Int32) (y7 : Int32) (y8 : Int32) (y9 : Int32) (y10 : Int32), (1 : Int32) + p2 = y1 ∧ y1 * (-1640531535 : Int32) = y2 ∧ (y2.toUInt32 >>> ((16 : Int32) &&& 31).toUInt32).toInt32 = y3 ∧ y2 ^^^ y3 = y4 ∧ y4 * (-2048144789 : Int32) = y5 ∧ (y5.toUInt32 >>> ((13 : Int32) &&& 31).toUInt32).toInt32 = y6 ∧ y5 ^^^ y6 = y7 ∧ y7 * (-1028477387 : Int32) = y8 ∧ (y8.toUInt32 >>> ((16 : Int32) &&& 31).toUInt32).toInt32 = y9 ∧ y8 ^^^ y9 = y10 ∧ v = some (.int y10) ∧ h0 = h)
set_option maxRecDepth 65536 in
set_option maxHeartbeats 40000000 in
theorem rm_3 (l : Launch) (Z : State) (a0 : Array Value) (hw : ∀ d ∈ tables_1, d.before a0 Z = true) (ws : List Jvm.Cond) (w0 : Addr) (kw0 : ClassId) (p2 : Int32) (h0 : Heap) (n0 : Nat) (Z0 : n0 ≤ h0.size) (E_w0 : Exa Z h0 w0 "[I") (V_w0 : Arv Z h0 w0 kw0 .int (1 : Int32) [(.int p2)] (.int (0 : Int32))) (g_w0 : n0 ≤ w0) :
    MetFree l (⟨"com/example/bagwise/bagwise/Tuples", "hash", "([I)I"⟩ : MethodName) (head1 (Jvm.Cond.code (⟨"com/example/bagwise/bagwise/Tuples", "hash", "([I)I"⟩ : MethodName) prog_62_method_13_code 6 (some .int) :: ws) ({ frames := 0, cells := 0, slots := 0, locals := 0 } : Room)) (fun a U => a = #[(.ref w0)] ∧ Z.Warmed39 U.vm ∧ U.heap = h0) (fun _ _ _ _ _ => True) (fun _ U o U' => ∃ v L, o = .returned v ∧ (Fr n0 L ∧ Q_3 Z w0 kw0 p2 h0 n0 v U'.heap) ∧ FrameEnd U o U' L ({ frames := 0, cells := 0, slots := 0, locals := 0 } : Room).cells ({ frames := 0, cells := 0, slots := 0, locals := 0 } : Room).slots) := by
  refine own_enter (Q := Q_3 Z w0 kw0 p2 h0 n0) (F := fun m => mkF m 0 #[.val (.ref w0), .unset, .unset, .unset, .unset, .unset] []) (plainFor_of_name pn_0) (fun m => by first | (simp [entryFrame, mkF, argsToLocals, Value.category]; done) | rfl) ?_
  intro p e s m below meth c s₁ B X0
  have K : Keep h0 h0 [] := Keep.refl h0 _
  refine own_aloadN (pc' := 1) B X0 d1_0 rfl rfl rfl ?_
  refine own_arraylength (pc' := 2) B X0 V_w0 d1_1 rfl ?_
  refine own_istoreN (pc' := 3) B X0 (Ls' := #[.val (.ref w0), .val (.int (1 : Int32)), .unset, .unset, .unset, .unset]) d1_2 rfl rfl ?_
  refine own_aloadN (pc' := 4) B X0 d1_3 rfl rfl rfl ?_
  refine own_astoreN (pc' := 5) B X0 (Ls' := #[.val (.ref w0), .val (.int (1 : Int32)), .val (.ref w0), .unset, .unset, .unset]) d1_4 rfl rfl rfl ?_
  refine own_aloadN (pc' := 6) B X0 d1_5 rfl rfl rfl ?_
  refine own_arraylength (pc' := 7) B X0 V_w0 d1_6 rfl ?_
  refine own_istoreN (pc' := 8) B X0 (Ls' := #[.val (.ref w0), .val (.int (1 : Int32)), .val (.ref w0), .val (.int (1 : Int32)), .unset, .unset]) d1_7 rfl rfl ?_
  refine own_iconst (pc' := 9) B X0 (z := (0 : Int32)) d1_8 rfl rfl ?_
  refine own_istore (pc' := 11) B X0 (Ls' := #[.val (.ref w0), .val (.int (1 : Int32)), .val (.ref w0), .val (.int (1 : Int32)), .val (.int (0 : Int32)), .unset]) d1_9 rfl rfl ?_
  refine own_iload (pc' := 13) B X0 d1_11 rfl rfl ?_
  refine own_iloadN (pc' := 14) B X0 d1_13 rfl rfl ?_
  refine own_icmpNo (pc' := 17) B X0 d1_14 (tlt (by decide : (0 : Int32) < (1 : Int32))).2.1 rfl ?_
  refine own_aloadN (pc' := 18) B X0 d1_17 rfl rfl rfl ?_
  refine own_iload (pc' := 20) B X0 d1_18 rfl rfl ?_
  refine own_iaload (pc' := 21) B X0 V_w0 (v := (.int p2)) ⟨by decide, by decide⟩ rfl d1_20 rfl ?_
  refine own_istore (pc' := 23) B X0 (Ls' := #[.val (.ref w0), .val (.int (1 : Int32)), .val (.ref w0), .val (.int (1 : Int32)), .val (.int (0 : Int32)), .val (.int p2)]) d1_21 rfl rfl ?_
  refine own_iloadN (pc' := 24) B X0 d1_23 rfl rfl ?_
  refine own_iload (pc' := 26) B X0 d1_24 rfl rfl ?_
  obtain ⟨y1, hy1⟩ : ∃ z : Int32, (1 : Int32) + p2 = z := ⟨_, rfl⟩
  refine own_iadd (pc' := 27) B X0 d1_26 rfl hy1 ?_
  refine own_ldcI (pc' := 29) B X0 (own_w hw 5 rfl) d1_27 rfl ?_
  obtain ⟨y2, hy2⟩ : ∃ z : Int32, y1 * (-1640531535 : Int32) = z := ⟨_, rfl⟩
  refine own_imul (pc' := 30) B X0 d1_29 rfl hy2 ?_
  refine own_istoreN (pc' := 31) B X0 (Ls' := #[.val (.ref w0), .val (.int y2), .val (.ref w0), .val (.int (1 : Int32)), .val (.int (0 : Int32)), .val (.int p2)]) d1_30 rfl rfl ?_
  refine own_iinc (pc' := 34) B X0 (Ls' := #[.val (.ref w0), .val (.int y2), .val (.ref w0), .val (.int (1 : Int32)), .val (.int (1 : Int32)), .val (.int p2)]) d1_31 rfl rfl (z := (1 : Int32)) (by decide) rfl ?_
  refine own_goto (pc' := 11) B X0 d1_34 (by decide) rfl ?_
  refine own_iload (pc' := 13) B X0 d1_11 rfl rfl ?_
  refine own_iloadN (pc' := 14) B X0 d1_13 rfl rfl ?_
  refine own_icmpYes (pc' := 37) B X0 d1_14 (flt (by decide : ¬ ((1 : Int32) < (1 : Int32)))).2.1 (by decide) rfl ?_
  refine own_iloadN (pc' := 38) B X0 d1_37 rfl rfl ?_
  refine own_iloadN (pc' := 39) B X0 d1_38 rfl rfl ?_
  refine own_bipush (pc' := 41) B X0 (z := (16 : Int32)) d1_39 rfl (by decide) ?_
  obtain ⟨y3, hy3⟩ : ∃ z : Int32, (y2.toUInt32 >>> ((16 : Int32) &&& 31).toUInt32).toInt32 = z := ⟨_, rfl⟩
  refine own_iushr (pc' := 42) B X0 d1_41 rfl hy3 ?_
  obtain ⟨y4, hy4⟩ : ∃ z : Int32, y2 ^^^ y3 = z := ⟨_, rfl⟩
  refine own_ixor (pc' := 43) B X0 d1_42 rfl hy4 ?_
  refine own_istoreN (pc' := 44) B X0 (Ls' := #[.val (.ref w0), .val (.int y4), .val (.ref w0), .val (.int (1 : Int32)), .val (.int (1 : Int32)), .val (.int p2)]) d1_43 rfl rfl ?_
  refine own_iloadN (pc' := 45) B X0 d1_44 rfl rfl ?_
  refine own_ldcI (pc' := 47) B X0 (own_w hw 6 rfl) d1_45 rfl ?_
  obtain ⟨y5, hy5⟩ : ∃ z : Int32, y4 * (-2048144789 : Int32) = z := ⟨_, rfl⟩
  refine own_imul (pc' := 48) B X0 d1_47 rfl hy5 ?_
  refine own_istoreN (pc' := 49) B X0 (Ls' := #[.val (.ref w0), .val (.int y5), .val (.ref w0), .val (.int (1 : Int32)), .val (.int (1 : Int32)), .val (.int p2)]) d1_48 rfl rfl ?_
  refine own_iloadN (pc' := 50) B X0 d1_49 rfl rfl ?_
  refine own_iloadN (pc' := 51) B X0 d1_50 rfl rfl ?_
  refine own_bipush (pc' := 53) B X0 (z := (13 : Int32)) d1_51 rfl (by decide) ?_
  obtain ⟨y6, hy6⟩ : ∃ z : Int32, (y5.toUInt32 >>> ((13 : Int32) &&& 31).toUInt32).toInt32 = z := ⟨_, rfl⟩
  refine own_iushr (pc' := 54) B X0 d1_53 rfl hy6 ?_
  obtain ⟨y7, hy7⟩ : ∃ z : Int32, y5 ^^^ y6 = z := ⟨_, rfl⟩
  refine own_ixor (pc' := 55) B X0 d1_54 rfl hy7 ?_
  refine own_istoreN (pc' := 56) B X0 (Ls' := #[.val (.ref w0), .val (.int y7), .val (.ref w0), .val (.int (1 : Int32)), .val (.int (1 : Int32)), .val (.int p2)]) d1_55 rfl rfl ?_
  refine own_iloadN (pc' := 57) B X0 d1_56 rfl rfl ?_
  refine own_ldcI (pc' := 59) B X0 (own_w hw 7 rfl) d1_57 rfl ?_
  obtain ⟨y8, hy8⟩ : ∃ z : Int32, y7 * (-1028477387 : Int32) = z := ⟨_, rfl⟩
  refine own_imul (pc' := 60) B X0 d1_59 rfl hy8 ?_
  refine own_istoreN (pc' := 61) B X0 (Ls' := #[.val (.ref w0), .val (.int y8), .val (.ref w0), .val (.int (1 : Int32)), .val (.int (1 : Int32)), .val (.int p2)]) d1_60 rfl rfl ?_
  refine own_iloadN (pc' := 62) B X0 d1_61 rfl rfl ?_
  refine own_iloadN (pc' := 63) B X0 d1_62 rfl rfl ?_
  refine own_bipush (pc' := 65) B X0 (z := (16 : Int32)) d1_63 rfl (by decide) ?_
  obtain ⟨y9, hy9⟩ : ∃ z : Int32, (y8.toUInt32 >>> ((16 : Int32) &&& 31).toUInt32).toInt32 = z := ⟨_, rfl⟩
  refine own_iushr (pc' := 66) B X0 d1_65 rfl hy9 ?_
  obtain ⟨y10, hy10⟩ : ∃ z : Int32, y8 ^^^ y9 = z := ⟨_, rfl⟩
  refine own_ixor (pc' := 67) B X0 d1_66 rfl hy10 ?_
  exact own_retI B X0 d1_67 (by decide) (by decide) (⟨y1, y2, y3, y4, y5, y6, y7, y8, y9, y10, hy1, hy2, hy3, hy4, hy5, hy6, hy7, hy8, hy9, hy10, rfl, rfl⟩)
def Q_4 (Z : State) (p0 : Int32) (h0 : Heap) (n0 : Nat) (v : Option Value) (h : Heap) : Prop :=
  (∃ (y1 : Int32) (y2 : Int32) (y3 : Int32) (y4 : Int32) (y5 : Int32) (y6 : Int32) (y7 : Int32) (y8 : Int32) (y9 : Int32) (y10 : Int32), (p0.toUInt32 >>> ((16 : Int32) &&& 31).toUInt32).toInt32 = y1 ∧ p0 ^^^ y1 = y2 ∧ y2 * (2127672349 : Int32) = y3 ∧ (y3.toUInt32 >>> ((13 : Int32) &&& 31).toUInt32).toInt32 = y4 ∧ (y3.toUInt32 >>> ((26 : Int32) &&& 31).toUInt32).toInt32 = y5 ∧ y4 ^^^ y5 = y6 ∧ y3 ^^^ y6 = y7 ∧ y7 * (-1513385405 : Int32) = y8 ∧ (y8.toUInt32 >>> ((16 : Int32) &&& 31).toUInt32).toInt32 = y9 ∧ y8 ^^^ y9 = y10 ∧ v = some (.int y10) ∧ h0 = h)
set_option maxRecDepth 65536 in
set_option maxHeartbeats 40000000 in
theorem rm_4 (l : Launch) (Z : State) (a0 : Array Value) (hw : ∀ d ∈ tables_1, d.before a0 Z = true) (ws : List Jvm.Cond) (p0 : Int32) (h0 : Heap) (n0 : Nat) (Z0 : n0 ≤ h0.size)  :
    MetFree l (⟨"com/example/bagwise/bagwise/TuplesHashPinLaw", "unmix", "(I)I"⟩ : MethodName) (head1 (Jvm.Cond.code (⟨"com/example/bagwise/bagwise/TuplesHashPinLaw", "unmix", "(I)I"⟩ : MethodName) method_2_code 1 (some .int) :: ws) ({ frames := 0, cells := 0, slots := 0, locals := 0 } : Room)) (fun a U => a = #[(.int p0)] ∧ Z.Warmed39 U.vm ∧ U.heap = h0) (fun _ _ _ _ _ => True) (fun _ U o U' => ∃ v L, o = .returned v ∧ (Fr n0 L ∧ Q_4 Z p0 h0 n0 v U'.heap) ∧ FrameEnd U o U' L ({ frames := 0, cells := 0, slots := 0, locals := 0 } : Room).cells ({ frames := 0, cells := 0, slots := 0, locals := 0 } : Room).slots) := by
  refine own_enter (Q := Q_4 Z p0 h0 n0) (F := fun m => mkF m 0 #[.val (.int p0)] []) (plainFor_of_name pn_1) (fun m => by first | (simp [entryFrame, mkF, argsToLocals, Value.category]; done) | rfl) ?_
  intro p e s m below meth c s₁ B X0
  have K : Keep h0 h0 [] := Keep.refl h0 _
  refine own_iloadN (pc' := 1) B X0 d2_0 rfl rfl ?_
  refine own_iloadN (pc' := 2) B X0 d2_1 rfl rfl ?_
  refine own_bipush (pc' := 4) B X0 (z := (16 : Int32)) d2_2 rfl (by decide) ?_
  obtain ⟨y1, hy1⟩ : ∃ z : Int32, (p0.toUInt32 >>> ((16 : Int32) &&& 31).toUInt32).toInt32 = z := ⟨_, rfl⟩
  refine own_iushr (pc' := 5) B X0 d2_4 rfl hy1 ?_
  obtain ⟨y2, hy2⟩ : ∃ z : Int32, p0 ^^^ y1 = z := ⟨_, rfl⟩
  refine own_ixor (pc' := 6) B X0 d2_5 rfl hy2 ?_
  refine own_istoreN (pc' := 7) B X0 (Ls' := #[.val (.int y2)]) d2_6 rfl rfl ?_
  refine own_iloadN (pc' := 8) B X0 d2_7 rfl rfl ?_
  refine own_ldcI (pc' := 10) B X0 (own_w hw 13 rfl) d2_8 rfl ?_
  obtain ⟨y3, hy3⟩ : ∃ z : Int32, y2 * (2127672349 : Int32) = z := ⟨_, rfl⟩
  refine own_imul (pc' := 11) B X0 d2_10 rfl hy3 ?_
  refine own_istoreN (pc' := 12) B X0 (Ls' := #[.val (.int y3)]) d2_11 rfl rfl ?_
  refine own_iloadN (pc' := 13) B X0 d2_12 rfl rfl ?_
  refine own_iloadN (pc' := 14) B X0 d2_13 rfl rfl ?_
  refine own_bipush (pc' := 16) B X0 (z := (13 : Int32)) d2_14 rfl (by decide) ?_
  obtain ⟨y4, hy4⟩ : ∃ z : Int32, (y3.toUInt32 >>> ((13 : Int32) &&& 31).toUInt32).toInt32 = z := ⟨_, rfl⟩
  refine own_iushr (pc' := 17) B X0 d2_16 rfl hy4 ?_
  refine own_iloadN (pc' := 18) B X0 d2_17 rfl rfl ?_
  refine own_bipush (pc' := 20) B X0 (z := (26 : Int32)) d2_18 rfl (by decide) ?_
  obtain ⟨y5, hy5⟩ : ∃ z : Int32, (y3.toUInt32 >>> ((26 : Int32) &&& 31).toUInt32).toInt32 = z := ⟨_, rfl⟩
  refine own_iushr (pc' := 21) B X0 d2_20 rfl hy5 ?_
  obtain ⟨y6, hy6⟩ : ∃ z : Int32, y4 ^^^ y5 = z := ⟨_, rfl⟩
  refine own_ixor (pc' := 22) B X0 d2_21 rfl hy6 ?_
  obtain ⟨y7, hy7⟩ : ∃ z : Int32, y3 ^^^ y6 = z := ⟨_, rfl⟩
  refine own_ixor (pc' := 23) B X0 d2_22 rfl hy7 ?_
  refine own_istoreN (pc' := 24) B X0 (Ls' := #[.val (.int y7)]) d2_23 rfl rfl ?_
  refine own_iloadN (pc' := 25) B X0 d2_24 rfl rfl ?_
  refine own_ldcI (pc' := 27) B X0 (own_w hw 14 rfl) d2_25 rfl ?_
  obtain ⟨y8, hy8⟩ : ∃ z : Int32, y7 * (-1513385405 : Int32) = z := ⟨_, rfl⟩
  refine own_imul (pc' := 28) B X0 d2_27 rfl hy8 ?_
  refine own_istoreN (pc' := 29) B X0 (Ls' := #[.val (.int y8)]) d2_28 rfl rfl ?_
  refine own_iloadN (pc' := 30) B X0 d2_29 rfl rfl ?_
  refine own_iloadN (pc' := 31) B X0 d2_30 rfl rfl ?_
  refine own_bipush (pc' := 33) B X0 (z := (16 : Int32)) d2_31 rfl (by decide) ?_
  obtain ⟨y9, hy9⟩ : ∃ z : Int32, (y8.toUInt32 >>> ((16 : Int32) &&& 31).toUInt32).toInt32 = z := ⟨_, rfl⟩
  refine own_iushr (pc' := 34) B X0 d2_33 rfl hy9 ?_
  obtain ⟨y10, hy10⟩ : ∃ z : Int32, y8 ^^^ y9 = z := ⟨_, rfl⟩
  refine own_ixor (pc' := 35) B X0 d2_34 rfl hy10 ?_
  refine own_istoreN (pc' := 36) B X0 (Ls' := #[.val (.int y10)]) d2_35 rfl rfl ?_
  refine own_iloadN (pc' := 37) B X0 d2_36 rfl rfl ?_
  exact own_retI B X0 d2_37 (by decide) (by decide) (⟨y1, y2, y3, y4, y5, y6, y7, y8, y9, y10, hy1, hy2, hy3, hy4, hy5, hy6, hy7, hy8, hy9, hy10, rfl, rfl⟩)
def Q_5 (Z : State) (w0 : Addr) (kw0 : ClassId) (p2 : Int32) (p3 : Int32) (h0 : Heap) (n0 : Nat) (v : Option Value) (h : Heap) : Prop :=
  (∃ (y1 : Int32) (y2 : Int32) (y3 : Int32) (y4 : Int32) (y5 : Int32) (y6 : Int32) (y7 : Int32) (y8 : Int32) (y9 : Int32) (y10 : Int32) (y11 : Int32) (y12 : Int32), (2 : Int32) + p2 = y1 ∧ y1 * (-1640531535 : Int32) = y2 ∧ y2 + p3 = y3 ∧ y3 * (-1640531535 : Int32) = y4 ∧ (y4.toUInt32 >>> ((16 : Int32) &&& 31).toUInt32).toInt32 = y5 ∧ y4 ^^^ y5 = y6 ∧ y6 * (-2048144789 : Int32) = y7 ∧ (y7.toUInt32 >>> ((13 : Int32) &&& 31).toUInt32).toInt32 = y8 ∧ y7 ^^^ y8 = y9 ∧ y9 * (-1028477387 : Int32) = y10 ∧ (y10.toUInt32 >>> ((16 : Int32) &&& 31).toUInt32).toInt32 = y11 ∧ y10 ^^^ y11 = y12 ∧ v = some (.int y12) ∧ h0 = h)
set_option maxRecDepth 65536 in
set_option maxHeartbeats 40000000 in
theorem rm_5 (l : Launch) (Z : State) (a0 : Array Value) (hw : ∀ d ∈ tables_1, d.before a0 Z = true) (ws : List Jvm.Cond) (w0 : Addr) (kw0 : ClassId) (p2 : Int32) (p3 : Int32) (h0 : Heap) (n0 : Nat) (Z0 : n0 ≤ h0.size) (E_w0 : Exa Z h0 w0 "[I") (V_w0 : Arv Z h0 w0 kw0 .int (2 : Int32) [(.int p2), (.int p3)] (.int (0 : Int32))) (g_w0 : n0 ≤ w0) :
    MetFree l (⟨"com/example/bagwise/bagwise/Tuples", "hash", "([I)I"⟩ : MethodName) (head1 (Jvm.Cond.code (⟨"com/example/bagwise/bagwise/Tuples", "hash", "([I)I"⟩ : MethodName) prog_62_method_13_code 6 (some .int) :: ws) ({ frames := 0, cells := 0, slots := 0, locals := 0 } : Room)) (fun a U => a = #[(.ref w0)] ∧ Z.Warmed39 U.vm ∧ U.heap = h0) (fun _ _ _ _ _ => True) (fun _ U o U' => ∃ v L, o = .returned v ∧ (Fr n0 L ∧ Q_5 Z w0 kw0 p2 p3 h0 n0 v U'.heap) ∧ FrameEnd U o U' L ({ frames := 0, cells := 0, slots := 0, locals := 0 } : Room).cells ({ frames := 0, cells := 0, slots := 0, locals := 0 } : Room).slots) := by
  refine own_enter (Q := Q_5 Z w0 kw0 p2 p3 h0 n0) (F := fun m => mkF m 0 #[.val (.ref w0), .unset, .unset, .unset, .unset, .unset] []) (plainFor_of_name pn_0) (fun m => by first | (simp [entryFrame, mkF, argsToLocals, Value.category]; done) | rfl) ?_
  intro p e s m below meth c s₁ B X0
  have K : Keep h0 h0 [] := Keep.refl h0 _
  refine own_aloadN (pc' := 1) B X0 d1_0 rfl rfl rfl ?_
  refine own_arraylength (pc' := 2) B X0 V_w0 d1_1 rfl ?_
  refine own_istoreN (pc' := 3) B X0 (Ls' := #[.val (.ref w0), .val (.int (2 : Int32)), .unset, .unset, .unset, .unset]) d1_2 rfl rfl ?_
  refine own_aloadN (pc' := 4) B X0 d1_3 rfl rfl rfl ?_
  refine own_astoreN (pc' := 5) B X0 (Ls' := #[.val (.ref w0), .val (.int (2 : Int32)), .val (.ref w0), .unset, .unset, .unset]) d1_4 rfl rfl rfl ?_
  refine own_aloadN (pc' := 6) B X0 d1_5 rfl rfl rfl ?_
  refine own_arraylength (pc' := 7) B X0 V_w0 d1_6 rfl ?_
  refine own_istoreN (pc' := 8) B X0 (Ls' := #[.val (.ref w0), .val (.int (2 : Int32)), .val (.ref w0), .val (.int (2 : Int32)), .unset, .unset]) d1_7 rfl rfl ?_
  refine own_iconst (pc' := 9) B X0 (z := (0 : Int32)) d1_8 rfl rfl ?_
  refine own_istore (pc' := 11) B X0 (Ls' := #[.val (.ref w0), .val (.int (2 : Int32)), .val (.ref w0), .val (.int (2 : Int32)), .val (.int (0 : Int32)), .unset]) d1_9 rfl rfl ?_
  refine own_iload (pc' := 13) B X0 d1_11 rfl rfl ?_
  refine own_iloadN (pc' := 14) B X0 d1_13 rfl rfl ?_
  refine own_icmpNo (pc' := 17) B X0 d1_14 (tlt (by decide : (0 : Int32) < (2 : Int32))).2.1 rfl ?_
  refine own_aloadN (pc' := 18) B X0 d1_17 rfl rfl rfl ?_
  refine own_iload (pc' := 20) B X0 d1_18 rfl rfl ?_
  refine own_iaload (pc' := 21) B X0 V_w0 (v := (.int p2)) ⟨by decide, by decide⟩ rfl d1_20 rfl ?_
  refine own_istore (pc' := 23) B X0 (Ls' := #[.val (.ref w0), .val (.int (2 : Int32)), .val (.ref w0), .val (.int (2 : Int32)), .val (.int (0 : Int32)), .val (.int p2)]) d1_21 rfl rfl ?_
  refine own_iloadN (pc' := 24) B X0 d1_23 rfl rfl ?_
  refine own_iload (pc' := 26) B X0 d1_24 rfl rfl ?_
  obtain ⟨y1, hy1⟩ : ∃ z : Int32, (2 : Int32) + p2 = z := ⟨_, rfl⟩
  refine own_iadd (pc' := 27) B X0 d1_26 rfl hy1 ?_
  refine own_ldcI (pc' := 29) B X0 (own_w hw 5 rfl) d1_27 rfl ?_
  obtain ⟨y2, hy2⟩ : ∃ z : Int32, y1 * (-1640531535 : Int32) = z := ⟨_, rfl⟩
  refine own_imul (pc' := 30) B X0 d1_29 rfl hy2 ?_
  refine own_istoreN (pc' := 31) B X0 (Ls' := #[.val (.ref w0), .val (.int y2), .val (.ref w0), .val (.int (2 : Int32)), .val (.int (0 : Int32)), .val (.int p2)]) d1_30 rfl rfl ?_
  refine own_iinc (pc' := 34) B X0 (Ls' := #[.val (.ref w0), .val (.int y2), .val (.ref w0), .val (.int (2 : Int32)), .val (.int (1 : Int32)), .val (.int p2)]) d1_31 rfl rfl (z := (1 : Int32)) (by decide) rfl ?_
  refine own_goto (pc' := 11) B X0 d1_34 (by decide) rfl ?_
  refine own_iload (pc' := 13) B X0 d1_11 rfl rfl ?_
  refine own_iloadN (pc' := 14) B X0 d1_13 rfl rfl ?_
  refine own_icmpNo (pc' := 17) B X0 d1_14 (tlt (by decide : (1 : Int32) < (2 : Int32))).2.1 rfl ?_
  refine own_aloadN (pc' := 18) B X0 d1_17 rfl rfl rfl ?_
  refine own_iload (pc' := 20) B X0 d1_18 rfl rfl ?_
  refine own_iaload (pc' := 21) B X0 V_w0 (v := (.int p3)) ⟨by decide, by decide⟩ rfl d1_20 rfl ?_
  refine own_istore (pc' := 23) B X0 (Ls' := #[.val (.ref w0), .val (.int y2), .val (.ref w0), .val (.int (2 : Int32)), .val (.int (1 : Int32)), .val (.int p3)]) d1_21 rfl rfl ?_
  refine own_iloadN (pc' := 24) B X0 d1_23 rfl rfl ?_
  refine own_iload (pc' := 26) B X0 d1_24 rfl rfl ?_
  obtain ⟨y3, hy3⟩ : ∃ z : Int32, y2 + p3 = z := ⟨_, rfl⟩
  refine own_iadd (pc' := 27) B X0 d1_26 rfl hy3 ?_
  refine own_ldcI (pc' := 29) B X0 (own_w hw 5 rfl) d1_27 rfl ?_
  obtain ⟨y4, hy4⟩ : ∃ z : Int32, y3 * (-1640531535 : Int32) = z := ⟨_, rfl⟩
  refine own_imul (pc' := 30) B X0 d1_29 rfl hy4 ?_
  refine own_istoreN (pc' := 31) B X0 (Ls' := #[.val (.ref w0), .val (.int y4), .val (.ref w0), .val (.int (2 : Int32)), .val (.int (1 : Int32)), .val (.int p3)]) d1_30 rfl rfl ?_
  refine own_iinc (pc' := 34) B X0 (Ls' := #[.val (.ref w0), .val (.int y4), .val (.ref w0), .val (.int (2 : Int32)), .val (.int (2 : Int32)), .val (.int p3)]) d1_31 rfl rfl (z := (2 : Int32)) (by decide) rfl ?_
  refine own_goto (pc' := 11) B X0 d1_34 (by decide) rfl ?_
  refine own_iload (pc' := 13) B X0 d1_11 rfl rfl ?_
  refine own_iloadN (pc' := 14) B X0 d1_13 rfl rfl ?_
  refine own_icmpYes (pc' := 37) B X0 d1_14 (flt (by decide : ¬ ((2 : Int32) < (2 : Int32)))).2.1 (by decide) rfl ?_
  refine own_iloadN (pc' := 38) B X0 d1_37 rfl rfl ?_
  refine own_iloadN (pc' := 39) B X0 d1_38 rfl rfl ?_
  refine own_bipush (pc' := 41) B X0 (z := (16 : Int32)) d1_39 rfl (by decide) ?_
  obtain ⟨y5, hy5⟩ : ∃ z : Int32, (y4.toUInt32 >>> ((16 : Int32) &&& 31).toUInt32).toInt32 = z := ⟨_, rfl⟩
  refine own_iushr (pc' := 42) B X0 d1_41 rfl hy5 ?_
  obtain ⟨y6, hy6⟩ : ∃ z : Int32, y4 ^^^ y5 = z := ⟨_, rfl⟩
  refine own_ixor (pc' := 43) B X0 d1_42 rfl hy6 ?_
  refine own_istoreN (pc' := 44) B X0 (Ls' := #[.val (.ref w0), .val (.int y6), .val (.ref w0), .val (.int (2 : Int32)), .val (.int (2 : Int32)), .val (.int p3)]) d1_43 rfl rfl ?_
  refine own_iloadN (pc' := 45) B X0 d1_44 rfl rfl ?_
  refine own_ldcI (pc' := 47) B X0 (own_w hw 6 rfl) d1_45 rfl ?_
  obtain ⟨y7, hy7⟩ : ∃ z : Int32, y6 * (-2048144789 : Int32) = z := ⟨_, rfl⟩
  refine own_imul (pc' := 48) B X0 d1_47 rfl hy7 ?_
  refine own_istoreN (pc' := 49) B X0 (Ls' := #[.val (.ref w0), .val (.int y7), .val (.ref w0), .val (.int (2 : Int32)), .val (.int (2 : Int32)), .val (.int p3)]) d1_48 rfl rfl ?_
  refine own_iloadN (pc' := 50) B X0 d1_49 rfl rfl ?_
  refine own_iloadN (pc' := 51) B X0 d1_50 rfl rfl ?_
  refine own_bipush (pc' := 53) B X0 (z := (13 : Int32)) d1_51 rfl (by decide) ?_
  obtain ⟨y8, hy8⟩ : ∃ z : Int32, (y7.toUInt32 >>> ((13 : Int32) &&& 31).toUInt32).toInt32 = z := ⟨_, rfl⟩
  refine own_iushr (pc' := 54) B X0 d1_53 rfl hy8 ?_
  obtain ⟨y9, hy9⟩ : ∃ z : Int32, y7 ^^^ y8 = z := ⟨_, rfl⟩
  refine own_ixor (pc' := 55) B X0 d1_54 rfl hy9 ?_
  refine own_istoreN (pc' := 56) B X0 (Ls' := #[.val (.ref w0), .val (.int y9), .val (.ref w0), .val (.int (2 : Int32)), .val (.int (2 : Int32)), .val (.int p3)]) d1_55 rfl rfl ?_
  refine own_iloadN (pc' := 57) B X0 d1_56 rfl rfl ?_
  refine own_ldcI (pc' := 59) B X0 (own_w hw 7 rfl) d1_57 rfl ?_
  obtain ⟨y10, hy10⟩ : ∃ z : Int32, y9 * (-1028477387 : Int32) = z := ⟨_, rfl⟩
  refine own_imul (pc' := 60) B X0 d1_59 rfl hy10 ?_
  refine own_istoreN (pc' := 61) B X0 (Ls' := #[.val (.ref w0), .val (.int y10), .val (.ref w0), .val (.int (2 : Int32)), .val (.int (2 : Int32)), .val (.int p3)]) d1_60 rfl rfl ?_
  refine own_iloadN (pc' := 62) B X0 d1_61 rfl rfl ?_
  refine own_iloadN (pc' := 63) B X0 d1_62 rfl rfl ?_
  refine own_bipush (pc' := 65) B X0 (z := (16 : Int32)) d1_63 rfl (by decide) ?_
  obtain ⟨y11, hy11⟩ : ∃ z : Int32, (y10.toUInt32 >>> ((16 : Int32) &&& 31).toUInt32).toInt32 = z := ⟨_, rfl⟩
  refine own_iushr (pc' := 66) B X0 d1_65 rfl hy11 ?_
  obtain ⟨y12, hy12⟩ : ∃ z : Int32, y10 ^^^ y11 = z := ⟨_, rfl⟩
  refine own_ixor (pc' := 67) B X0 d1_66 rfl hy12 ?_
  exact own_retI B X0 d1_67 (by decide) (by decide) (⟨y1, y2, y3, y4, y5, y6, y7, y8, y9, y10, y11, y12, hy1, hy2, hy3, hy4, hy5, hy6, hy7, hy8, hy9, hy10, hy11, hy12, rfl, rfl⟩)
def Q_6 (Z : State) (w0 : Addr) (kw0 : ClassId) (p2 : Int32) (p3 : Int32) (p4 : Int32) (h0 : Heap) (n0 : Nat) (v : Option Value) (h : Heap) : Prop :=
  (∃ (y1 : Int32) (y2 : Int32) (y3 : Int32) (y4 : Int32) (y5 : Int32) (y6 : Int32) (y7 : Int32) (y8 : Int32) (y9 : Int32) (y10 : Int32) (y11 : Int32) (y12 : Int32) (y13 : Int32) (y14 : Int32), (3 : Int32) + p2 = y1 ∧ y1 * (-1640531535 : Int32) = y2 ∧ y2 + p3 = y3 ∧ y3 * (-1640531535 : Int32) = y4 ∧ y4 + p4 = y5 ∧ y5 * (-1640531535 : Int32) = y6 ∧ (y6.toUInt32 >>> ((16 : Int32) &&& 31).toUInt32).toInt32 = y7 ∧ y6 ^^^ y7 = y8 ∧ y8 * (-2048144789 : Int32) = y9 ∧ (y9.toUInt32 >>> ((13 : Int32) &&& 31).toUInt32).toInt32 = y10 ∧ y9 ^^^ y10 = y11 ∧ y11 * (-1028477387 : Int32) = y12 ∧ (y12.toUInt32 >>> ((16 : Int32) &&& 31).toUInt32).toInt32 = y13 ∧ y12 ^^^ y13 = y14 ∧ v = some (.int y14) ∧ h0 = h)
set_option maxRecDepth 65536 in
set_option maxHeartbeats 40000000 in
theorem rm_6 (l : Launch) (Z : State) (a0 : Array Value) (hw : ∀ d ∈ tables_1, d.before a0 Z = true) (ws : List Jvm.Cond) (w0 : Addr) (kw0 : ClassId) (p2 : Int32) (p3 : Int32) (p4 : Int32) (h0 : Heap) (n0 : Nat) (Z0 : n0 ≤ h0.size) (E_w0 : Exa Z h0 w0 "[I") (V_w0 : Arv Z h0 w0 kw0 .int (3 : Int32) [(.int p2), (.int p3), (.int p4)] (.int (0 : Int32))) (g_w0 : n0 ≤ w0) :
    MetFree l (⟨"com/example/bagwise/bagwise/Tuples", "hash", "([I)I"⟩ : MethodName) (head1 (Jvm.Cond.code (⟨"com/example/bagwise/bagwise/Tuples", "hash", "([I)I"⟩ : MethodName) prog_62_method_13_code 6 (some .int) :: ws) ({ frames := 0, cells := 0, slots := 0, locals := 0 } : Room)) (fun a U => a = #[(.ref w0)] ∧ Z.Warmed39 U.vm ∧ U.heap = h0) (fun _ _ _ _ _ => True) (fun _ U o U' => ∃ v L, o = .returned v ∧ (Fr n0 L ∧ Q_6 Z w0 kw0 p2 p3 p4 h0 n0 v U'.heap) ∧ FrameEnd U o U' L ({ frames := 0, cells := 0, slots := 0, locals := 0 } : Room).cells ({ frames := 0, cells := 0, slots := 0, locals := 0 } : Room).slots) := by
  refine own_enter (Q := Q_6 Z w0 kw0 p2 p3 p4 h0 n0) (F := fun m => mkF m 0 #[.val (.ref w0), .unset, .unset, .unset, .unset, .unset] []) (plainFor_of_name pn_0) (fun m => by first | (simp [entryFrame, mkF, argsToLocals, Value.category]; done) | rfl) ?_
  intro p e s m below meth c s₁ B X0
  have K : Keep h0 h0 [] := Keep.refl h0 _
  refine own_aloadN (pc' := 1) B X0 d1_0 rfl rfl rfl ?_
  refine own_arraylength (pc' := 2) B X0 V_w0 d1_1 rfl ?_
  refine own_istoreN (pc' := 3) B X0 (Ls' := #[.val (.ref w0), .val (.int (3 : Int32)), .unset, .unset, .unset, .unset]) d1_2 rfl rfl ?_
  refine own_aloadN (pc' := 4) B X0 d1_3 rfl rfl rfl ?_
  refine own_astoreN (pc' := 5) B X0 (Ls' := #[.val (.ref w0), .val (.int (3 : Int32)), .val (.ref w0), .unset, .unset, .unset]) d1_4 rfl rfl rfl ?_
  refine own_aloadN (pc' := 6) B X0 d1_5 rfl rfl rfl ?_
  refine own_arraylength (pc' := 7) B X0 V_w0 d1_6 rfl ?_
  refine own_istoreN (pc' := 8) B X0 (Ls' := #[.val (.ref w0), .val (.int (3 : Int32)), .val (.ref w0), .val (.int (3 : Int32)), .unset, .unset]) d1_7 rfl rfl ?_
  refine own_iconst (pc' := 9) B X0 (z := (0 : Int32)) d1_8 rfl rfl ?_
  refine own_istore (pc' := 11) B X0 (Ls' := #[.val (.ref w0), .val (.int (3 : Int32)), .val (.ref w0), .val (.int (3 : Int32)), .val (.int (0 : Int32)), .unset]) d1_9 rfl rfl ?_
  refine own_iload (pc' := 13) B X0 d1_11 rfl rfl ?_
  refine own_iloadN (pc' := 14) B X0 d1_13 rfl rfl ?_
  refine own_icmpNo (pc' := 17) B X0 d1_14 (tlt (by decide : (0 : Int32) < (3 : Int32))).2.1 rfl ?_
  refine own_aloadN (pc' := 18) B X0 d1_17 rfl rfl rfl ?_
  refine own_iload (pc' := 20) B X0 d1_18 rfl rfl ?_
  refine own_iaload (pc' := 21) B X0 V_w0 (v := (.int p2)) ⟨by decide, by decide⟩ rfl d1_20 rfl ?_
  refine own_istore (pc' := 23) B X0 (Ls' := #[.val (.ref w0), .val (.int (3 : Int32)), .val (.ref w0), .val (.int (3 : Int32)), .val (.int (0 : Int32)), .val (.int p2)]) d1_21 rfl rfl ?_
  refine own_iloadN (pc' := 24) B X0 d1_23 rfl rfl ?_
  refine own_iload (pc' := 26) B X0 d1_24 rfl rfl ?_
  obtain ⟨y1, hy1⟩ : ∃ z : Int32, (3 : Int32) + p2 = z := ⟨_, rfl⟩
  refine own_iadd (pc' := 27) B X0 d1_26 rfl hy1 ?_
  refine own_ldcI (pc' := 29) B X0 (own_w hw 5 rfl) d1_27 rfl ?_
  obtain ⟨y2, hy2⟩ : ∃ z : Int32, y1 * (-1640531535 : Int32) = z := ⟨_, rfl⟩
  refine own_imul (pc' := 30) B X0 d1_29 rfl hy2 ?_
  refine own_istoreN (pc' := 31) B X0 (Ls' := #[.val (.ref w0), .val (.int y2), .val (.ref w0), .val (.int (3 : Int32)), .val (.int (0 : Int32)), .val (.int p2)]) d1_30 rfl rfl ?_
  refine own_iinc (pc' := 34) B X0 (Ls' := #[.val (.ref w0), .val (.int y2), .val (.ref w0), .val (.int (3 : Int32)), .val (.int (1 : Int32)), .val (.int p2)]) d1_31 rfl rfl (z := (1 : Int32)) (by decide) rfl ?_
  refine own_goto (pc' := 11) B X0 d1_34 (by decide) rfl ?_
  refine own_iload (pc' := 13) B X0 d1_11 rfl rfl ?_
  refine own_iloadN (pc' := 14) B X0 d1_13 rfl rfl ?_
  refine own_icmpNo (pc' := 17) B X0 d1_14 (tlt (by decide : (1 : Int32) < (3 : Int32))).2.1 rfl ?_
  refine own_aloadN (pc' := 18) B X0 d1_17 rfl rfl rfl ?_
  refine own_iload (pc' := 20) B X0 d1_18 rfl rfl ?_
  refine own_iaload (pc' := 21) B X0 V_w0 (v := (.int p3)) ⟨by decide, by decide⟩ rfl d1_20 rfl ?_
  refine own_istore (pc' := 23) B X0 (Ls' := #[.val (.ref w0), .val (.int y2), .val (.ref w0), .val (.int (3 : Int32)), .val (.int (1 : Int32)), .val (.int p3)]) d1_21 rfl rfl ?_
  refine own_iloadN (pc' := 24) B X0 d1_23 rfl rfl ?_
  refine own_iload (pc' := 26) B X0 d1_24 rfl rfl ?_
  obtain ⟨y3, hy3⟩ : ∃ z : Int32, y2 + p3 = z := ⟨_, rfl⟩
  refine own_iadd (pc' := 27) B X0 d1_26 rfl hy3 ?_
  refine own_ldcI (pc' := 29) B X0 (own_w hw 5 rfl) d1_27 rfl ?_
  obtain ⟨y4, hy4⟩ : ∃ z : Int32, y3 * (-1640531535 : Int32) = z := ⟨_, rfl⟩
  refine own_imul (pc' := 30) B X0 d1_29 rfl hy4 ?_
  refine own_istoreN (pc' := 31) B X0 (Ls' := #[.val (.ref w0), .val (.int y4), .val (.ref w0), .val (.int (3 : Int32)), .val (.int (1 : Int32)), .val (.int p3)]) d1_30 rfl rfl ?_
  refine own_iinc (pc' := 34) B X0 (Ls' := #[.val (.ref w0), .val (.int y4), .val (.ref w0), .val (.int (3 : Int32)), .val (.int (2 : Int32)), .val (.int p3)]) d1_31 rfl rfl (z := (2 : Int32)) (by decide) rfl ?_
  refine own_goto (pc' := 11) B X0 d1_34 (by decide) rfl ?_
  refine own_iload (pc' := 13) B X0 d1_11 rfl rfl ?_
  refine own_iloadN (pc' := 14) B X0 d1_13 rfl rfl ?_
  refine own_icmpNo (pc' := 17) B X0 d1_14 (tlt (by decide : (2 : Int32) < (3 : Int32))).2.1 rfl ?_
  refine own_aloadN (pc' := 18) B X0 d1_17 rfl rfl rfl ?_
  refine own_iload (pc' := 20) B X0 d1_18 rfl rfl ?_
  refine own_iaload (pc' := 21) B X0 V_w0 (v := (.int p4)) ⟨by decide, by decide⟩ rfl d1_20 rfl ?_
  refine own_istore (pc' := 23) B X0 (Ls' := #[.val (.ref w0), .val (.int y4), .val (.ref w0), .val (.int (3 : Int32)), .val (.int (2 : Int32)), .val (.int p4)]) d1_21 rfl rfl ?_
  refine own_iloadN (pc' := 24) B X0 d1_23 rfl rfl ?_
  refine own_iload (pc' := 26) B X0 d1_24 rfl rfl ?_
  obtain ⟨y5, hy5⟩ : ∃ z : Int32, y4 + p4 = z := ⟨_, rfl⟩
  refine own_iadd (pc' := 27) B X0 d1_26 rfl hy5 ?_
  refine own_ldcI (pc' := 29) B X0 (own_w hw 5 rfl) d1_27 rfl ?_
  obtain ⟨y6, hy6⟩ : ∃ z : Int32, y5 * (-1640531535 : Int32) = z := ⟨_, rfl⟩
  refine own_imul (pc' := 30) B X0 d1_29 rfl hy6 ?_
  refine own_istoreN (pc' := 31) B X0 (Ls' := #[.val (.ref w0), .val (.int y6), .val (.ref w0), .val (.int (3 : Int32)), .val (.int (2 : Int32)), .val (.int p4)]) d1_30 rfl rfl ?_
  refine own_iinc (pc' := 34) B X0 (Ls' := #[.val (.ref w0), .val (.int y6), .val (.ref w0), .val (.int (3 : Int32)), .val (.int (3 : Int32)), .val (.int p4)]) d1_31 rfl rfl (z := (3 : Int32)) (by decide) rfl ?_
  refine own_goto (pc' := 11) B X0 d1_34 (by decide) rfl ?_
  refine own_iload (pc' := 13) B X0 d1_11 rfl rfl ?_
  refine own_iloadN (pc' := 14) B X0 d1_13 rfl rfl ?_
  refine own_icmpYes (pc' := 37) B X0 d1_14 (flt (by decide : ¬ ((3 : Int32) < (3 : Int32)))).2.1 (by decide) rfl ?_
  refine own_iloadN (pc' := 38) B X0 d1_37 rfl rfl ?_
  refine own_iloadN (pc' := 39) B X0 d1_38 rfl rfl ?_
  refine own_bipush (pc' := 41) B X0 (z := (16 : Int32)) d1_39 rfl (by decide) ?_
  obtain ⟨y7, hy7⟩ : ∃ z : Int32, (y6.toUInt32 >>> ((16 : Int32) &&& 31).toUInt32).toInt32 = z := ⟨_, rfl⟩
  refine own_iushr (pc' := 42) B X0 d1_41 rfl hy7 ?_
  obtain ⟨y8, hy8⟩ : ∃ z : Int32, y6 ^^^ y7 = z := ⟨_, rfl⟩
  refine own_ixor (pc' := 43) B X0 d1_42 rfl hy8 ?_
  refine own_istoreN (pc' := 44) B X0 (Ls' := #[.val (.ref w0), .val (.int y8), .val (.ref w0), .val (.int (3 : Int32)), .val (.int (3 : Int32)), .val (.int p4)]) d1_43 rfl rfl ?_
  refine own_iloadN (pc' := 45) B X0 d1_44 rfl rfl ?_
  refine own_ldcI (pc' := 47) B X0 (own_w hw 6 rfl) d1_45 rfl ?_
  obtain ⟨y9, hy9⟩ : ∃ z : Int32, y8 * (-2048144789 : Int32) = z := ⟨_, rfl⟩
  refine own_imul (pc' := 48) B X0 d1_47 rfl hy9 ?_
  refine own_istoreN (pc' := 49) B X0 (Ls' := #[.val (.ref w0), .val (.int y9), .val (.ref w0), .val (.int (3 : Int32)), .val (.int (3 : Int32)), .val (.int p4)]) d1_48 rfl rfl ?_
  refine own_iloadN (pc' := 50) B X0 d1_49 rfl rfl ?_
  refine own_iloadN (pc' := 51) B X0 d1_50 rfl rfl ?_
  refine own_bipush (pc' := 53) B X0 (z := (13 : Int32)) d1_51 rfl (by decide) ?_
  obtain ⟨y10, hy10⟩ : ∃ z : Int32, (y9.toUInt32 >>> ((13 : Int32) &&& 31).toUInt32).toInt32 = z := ⟨_, rfl⟩
  refine own_iushr (pc' := 54) B X0 d1_53 rfl hy10 ?_
  obtain ⟨y11, hy11⟩ : ∃ z : Int32, y9 ^^^ y10 = z := ⟨_, rfl⟩
  refine own_ixor (pc' := 55) B X0 d1_54 rfl hy11 ?_
  refine own_istoreN (pc' := 56) B X0 (Ls' := #[.val (.ref w0), .val (.int y11), .val (.ref w0), .val (.int (3 : Int32)), .val (.int (3 : Int32)), .val (.int p4)]) d1_55 rfl rfl ?_
  refine own_iloadN (pc' := 57) B X0 d1_56 rfl rfl ?_
  refine own_ldcI (pc' := 59) B X0 (own_w hw 7 rfl) d1_57 rfl ?_
  obtain ⟨y12, hy12⟩ : ∃ z : Int32, y11 * (-1028477387 : Int32) = z := ⟨_, rfl⟩
  refine own_imul (pc' := 60) B X0 d1_59 rfl hy12 ?_
  refine own_istoreN (pc' := 61) B X0 (Ls' := #[.val (.ref w0), .val (.int y12), .val (.ref w0), .val (.int (3 : Int32)), .val (.int (3 : Int32)), .val (.int p4)]) d1_60 rfl rfl ?_
  refine own_iloadN (pc' := 62) B X0 d1_61 rfl rfl ?_
  refine own_iloadN (pc' := 63) B X0 d1_62 rfl rfl ?_
  refine own_bipush (pc' := 65) B X0 (z := (16 : Int32)) d1_63 rfl (by decide) ?_
  obtain ⟨y13, hy13⟩ : ∃ z : Int32, (y12.toUInt32 >>> ((16 : Int32) &&& 31).toUInt32).toInt32 = z := ⟨_, rfl⟩
  refine own_iushr (pc' := 66) B X0 d1_65 rfl hy13 ?_
  obtain ⟨y14, hy14⟩ : ∃ z : Int32, y12 ^^^ y13 = z := ⟨_, rfl⟩
  refine own_ixor (pc' := 67) B X0 d1_66 rfl hy14 ?_
  exact own_retI B X0 d1_67 (by decide) (by decide) (⟨y1, y2, y3, y4, y5, y6, y7, y8, y9, y10, y11, y12, y13, y14, hy1, hy2, hy3, hy4, hy5, hy6, hy7, hy8, hy9, hy10, hy11, hy12, hy13, hy14, rfl, rfl⟩)
def Q_0 (Z : State) (i0 : Int32) (i1 : Int32) (i2 : Int32) (i3 : Int32) (h0 : Heap) (n0 : Nat) (v : Option Value) (h : Heap) : Prop :=
  (v = some (.int (1 : Int32)))
set_option maxRecDepth 65536 in
set_option maxHeartbeats 40000000 in
theorem rm_0 (l : Launch) (Z : State) (a0 : Array Value) (hw : ∀ d ∈ tables_1, d.before a0 Z = true) (ws : List Jvm.Cond) (i0 : Int32) (i1 : Int32) (i2 : Int32) (i3 : Int32) (h0 : Heap) (n0 : Nat) (Z0 : n0 ≤ h0.size)  :
    MetFree l x (head1 (Jvm.Cond.code x code maxLocals ret :: ws) room_1) (fun a U => a = #[(.int i0), (.int i1), (.int i2), (.int i3)] ∧ Z.Warmed39 U.vm ∧ U.heap = h0) (fun _ _ _ _ _ => True) (fun _ U o U' => ∃ v L, o = .returned v ∧ (Fr n0 L ∧ Q_0 Z i0 i1 i2 i3 h0 n0 v U'.heap) ∧ FrameEnd U o U' L room_1.cells room_1.slots) := by
  refine own_enter (Q := Q_0 Z i0 i1 i2 i3 h0 n0) (F := fun m => mkF m 0 #[.val (.int i0), .val (.int i1), .val (.int i2), .val (.int i3), .unset, .unset, .unset, .unset] []) (plainFor_of_name pn_1) (fun m => by first | (simp [entryFrame, mkF, argsToLocals, Value.category, maxLocals]; done) | rfl) ?_
  intro p e s m below meth c s₁ B X0
  have K : Keep h0 h0 [] := Keep.refl h0 _
  refine own_iloadN (pc' := 1) B X0 at_0 rfl rfl ?_
  refine own_iconst (pc' := 2) B X0 (z := (3 : Int32)) at_1 rfl rfl ?_
  obtain ⟨y1, hy1⟩ : ∃ z : Int32, i3 &&& (3 : Int32) = z := ⟨_, rfl⟩
  refine own_iand (pc' := 3) B X0 at_2 rfl hy1 ?_
  have z2 : y1.toInt = 0 ∨ y1.toInt = 1 ∨ y1.toInt = 2 ∨ y1.toInt = 3 := by
    have o0 := own_o_mask hy1 2 (by decide) (by decide)
    have o1 := rng32 i3
    have o2 := rng32 y1
    have o3 : (3 : Int32).toInt = 3 := by decide
    omega
  rcases z2 with z2 | z2 | z2 | z2
  · obtain rfl : y1 = (0 : Int32) := Int32.toInt_inj.mp (z2.trans (by decide))
    refine own_istore (pc' := 5) B X0 (Ls' := #[.val (.int i0), .val (.int i1), .val (.int i2), .val (.int i3), .val (.int (0 : Int32)), .unset, .unset, .unset]) at_3 rfl rfl ?_
    refine own_iload (pc' := 7) B X0 at_5 rfl rfl ?_
    refine own_newarray (pc' := 9) B X0 (own_w hw 0 rfl) at_7 rfl rfl (by decide) 0 (by decide) (by decide) (k' := 1) (n' := 0) rfl rfl (by decide) (by decide) "[I" (by decide) (.int (0 : Int32)) rfl ?_
    intro T3 h3 b3 kb3 X3 g3 E3 V_b3 E_b3
    have sz_b3 : h0.size ≤ b3 := own_sz K g3
    have g_b3 : n0 ≤ b3 := Nat.le_trans Z0 sz_b3
    replace K := K.ext E3
    refine own_astore (pc' := 11) B X3 (Ls' := #[.val (.int i0), .val (.int i1), .val (.int i2), .val (.int i3), .val (.int (0 : Int32)), .val (.ref b3), .unset, .unset]) at_9 rfl rfl rfl ?_
    refine own_iload (pc' := 13) B X3 at_11 rfl rfl ?_
    refine own_ifYes (pc' := 21) B X3 at_13 ((if0 _ _).trans (flt (by decide : ¬ ((0 : Int32) < (0 : Int32)))).2.2.2) (by decide) rfl ?_
    refine own_iload (pc' := 23) B X3 at_21 rfl rfl ?_
    refine own_iconst (pc' := 24) B X3 (z := (1 : Int32)) at_23 rfl rfl ?_
    refine own_icmpYes (pc' := 32) B X3 at_24 (flt (by decide : ¬ ((1 : Int32) < (0 : Int32)))).2.2.2 (by decide) rfl ?_
    refine own_iload (pc' := 34) B X3 at_32 rfl rfl ?_
    refine own_iconst (pc' := 35) B X3 (z := (2 : Int32)) at_34 rfl rfl ?_
    refine own_icmpYes (pc' := 43) B X3 at_35 (flt (by decide : ¬ ((2 : Int32) < (0 : Int32)))).2.2.2 (by decide) rfl ?_
    refine own_aload (pc' := 45) B X3 at_43 rfl rfl rfl ?_
    refine own_callS (pc' := 48) B X3 (own_w hw 1 rfl) (own_w hw 2 rfl) (own_w hw 3 rfl) (own_w hw 4 rfl) (by decide) [(.ref b3)] [] (rm_1 l Z a0 hw [] b3 kb3 h3 n0 (Nat.le_trans Z0 K.1) E_b3 V_b3 g_b3) 0 (by decide) (by decide) rfl pd_0 rfl rfl (Nat.le_of_eq rfl) at_45 rfl (k' := 1) (n' := 0) rfl rfl (by decide) (by decide) ?_
    intro T4 v4 h4 X4 q4
    obtain ⟨rfl, rfl⟩ := q4
    show own_Go p e below (T4.setTop (mkF m 48 #[.val (.int i0), .val (.int i1), .val (.int i2), .val (.int i3), .val (.int (0 : Int32)), .val (.ref b3), .unset, .unset] [(.int (0 : Int32))])) _
    refine own_istore (pc' := 50) B X4 (Ls' := #[.val (.int i0), .val (.int i1), .val (.int i2), .val (.int i3), .val (.int (0 : Int32)), .val (.ref b3), .val (.int (0 : Int32)), .unset]) at_48 rfl rfl ?_
    refine own_iload (pc' := 52) B X4 at_50 rfl rfl ?_
    refine own_istore (pc' := 54) B X4 (Ls' := #[.val (.int i0), .val (.int i1), .val (.int i2), .val (.int i3), .val (.int (0 : Int32)), .val (.ref b3), .val (.int (0 : Int32)), .val (.int (0 : Int32))]) at_52 rfl rfl ?_
    refine own_iload (pc' := 56) B X4 at_54 rfl rfl ?_
    refine own_ifYes (pc' := 68) B X4 at_56 ((if0 _ _).trans (flt (by decide : ¬ ((0 : Int32) < (0 : Int32)))).2.2.2) (by decide) rfl ?_
    refine own_iload (pc' := 70) B X4 at_68 rfl rfl ?_
    refine own_iconst (pc' := 71) B X4 (z := (1 : Int32)) at_70 rfl rfl ?_
    refine own_icmpYes (pc' := 83) B X4 at_71 (flt (by decide : ¬ ((1 : Int32) < (0 : Int32)))).2.2.2 (by decide) rfl ?_
    refine own_iload (pc' := 85) B X4 at_83 rfl rfl ?_
    refine own_iconst (pc' := 86) B X4 (z := (2 : Int32)) at_85 rfl rfl ?_
    refine own_icmpYes (pc' := 98) B X4 at_86 (flt (by decide : ¬ ((2 : Int32) < (0 : Int32)))).2.2.2 (by decide) rfl ?_
    refine own_iload (pc' := 100) B X4 at_98 rfl rfl ?_
    refine own_callS (pc' := 103) B X4 (own_w hw 9 rfl) (own_w hw 10 rfl) (own_w hw 11 rfl) (own_w hw 12 rfl) (by decide) [(.int (0 : Int32))] [] (rm_2 l Z a0 hw []  h3 n0 (Nat.le_trans Z0 K.1) ) 0 (by decide) (by decide) rfl pd_1 rfl rfl (Nat.le_of_eq rfl) at_100 rfl (k' := 1) (n' := 0) rfl rfl (by decide) (by decide) ?_
    intro T5 v5 h5 X5 q5
    obtain ⟨rfl, rfl⟩ := q5
    show own_Go p e below (T5.setTop (mkF m 103 #[.val (.int i0), .val (.int i1), .val (.int i2), .val (.int i3), .val (.int (0 : Int32)), .val (.ref b3), .val (.int (0 : Int32)), .val (.int (0 : Int32))] [(.int (0 : Int32))])) _
    refine own_iload (pc' := 105) B X5 at_103 rfl rfl ?_
    refine own_icmpNo (pc' := 108) B X5 at_105 (teq (by decide : (0 : Int32) = (0 : Int32))).2 rfl ?_
    refine own_iconst (pc' := 109) B X5 (z := (1 : Int32)) at_108 rfl rfl ?_
    refine own_goto (pc' := 113) B X5 at_109 (by decide) rfl ?_
    exact own_retN B X5 (t := .boolean) (z' := (1 : Int32)) (by simp) (by decide) at_113 (by decide) (by decide) rfl
  · obtain rfl : y1 = (1 : Int32) := Int32.toInt_inj.mp (z2.trans (by decide))
    refine own_istore (pc' := 5) B X0 (Ls' := #[.val (.int i0), .val (.int i1), .val (.int i2), .val (.int i3), .val (.int (1 : Int32)), .unset, .unset, .unset]) at_3 rfl rfl ?_
    refine own_iload (pc' := 7) B X0 at_5 rfl rfl ?_
    refine own_newarray (pc' := 9) B X0 (own_w hw 0 rfl) at_7 rfl rfl (by decide) 1 (by decide) (by decide) (k' := 1) (n' := 1) rfl rfl (by decide) (by decide) "[I" (by decide) (.int (0 : Int32)) rfl ?_
    intro T6 h6 b6 kb6 X6 g6 E6 V_b6 E_b6
    have sz_b6 : h0.size ≤ b6 := own_sz K g6
    have g_b6 : n0 ≤ b6 := Nat.le_trans Z0 sz_b6
    replace K := K.ext E6
    replace V_b6 : Arv Z h6 b6 kb6 .int (1 : Int32) [(.int (0 : Int32))] (.int (0 : Int32)) := V_b6.pad (pad_rep [] (.int (0 : Int32)) 1)
    refine own_astore (pc' := 11) B X6 (Ls' := #[.val (.int i0), .val (.int i1), .val (.int i2), .val (.int i3), .val (.int (1 : Int32)), .val (.ref b6), .unset, .unset]) at_9 rfl rfl rfl ?_
    refine own_iload (pc' := 13) B X6 at_11 rfl rfl ?_
    refine own_ifNo (pc' := 16) B X6 at_13 ((if0 _ _).trans (tlt (by decide : (0 : Int32) < (1 : Int32))).2.2.2) rfl ?_
    refine own_aload (pc' := 18) B X6 at_16 rfl rfl rfl ?_
    refine own_iconst (pc' := 19) B X6 (z := (0 : Int32)) at_18 rfl rfl ?_
    refine own_iloadN (pc' := 20) B X6 at_19 rfl rfl ?_
    refine own_iastore (pc' := 21) B X6 (x' := i0) V_b6 g_b6 ⟨by decide, by decide⟩ 0 (by decide) (Nat.le_of_ble_eq_true rfl) rfl at_20 rfl ?_
    intro T7 h7 X7 W7 V_b6
    replace V_b6 : Arv Z h7 b6 kb6 .int (1 : Int32) [(.int i0)] (.int (0 : Int32)) := V_b6
    replace E_b6 := E_b6.wr W7
    replace K := K.wr W7 (Or.inr sz_b6)
    refine own_iload (pc' := 23) B X7 at_21 rfl rfl ?_
    refine own_iconst (pc' := 24) B X7 (z := (1 : Int32)) at_23 rfl rfl ?_
    refine own_icmpYes (pc' := 32) B X7 at_24 (flt (by decide : ¬ ((1 : Int32) < (1 : Int32)))).2.2.2 (by decide) rfl ?_
    refine own_iload (pc' := 34) B X7 at_32 rfl rfl ?_
    refine own_iconst (pc' := 35) B X7 (z := (2 : Int32)) at_34 rfl rfl ?_
    refine own_icmpYes (pc' := 43) B X7 at_35 (flt (by decide : ¬ ((2 : Int32) < (1 : Int32)))).2.2.2 (by decide) rfl ?_
    refine own_aload (pc' := 45) B X7 at_43 rfl rfl rfl ?_
    refine own_callS (pc' := 48) B X7 (own_w hw 1 rfl) (own_w hw 2 rfl) (own_w hw 3 rfl) (own_w hw 4 rfl) (by decide) [(.ref b6)] [] (rm_3 l Z a0 hw [] b6 kb6 (i0) h7 n0 (Nat.le_trans Z0 K.1) E_b6 V_b6 g_b6) 0 (by decide) (by decide) rfl pd_0 rfl rfl (Nat.le_of_eq rfl) at_45 rfl (k' := 1) (n' := 1) rfl rfl (by decide) (by decide) ?_
    intro T8 v8 h8 X8 q8
    obtain ⟨y9, y10, y11, y12, y13, y14, y15, y16, y17, y18, hy19, hy20, hy21, hy22, hy23, hy24, hy25, hy26, hy27, hy28, rfl, rfl⟩ := q8
    show own_Go p e below (T8.setTop (mkF m 48 #[.val (.int i0), .val (.int i1), .val (.int i2), .val (.int i3), .val (.int (1 : Int32)), .val (.ref b6), .unset, .unset] [(.int y18)])) _
    refine own_istore (pc' := 50) B X8 (Ls' := #[.val (.int i0), .val (.int i1), .val (.int i2), .val (.int i3), .val (.int (1 : Int32)), .val (.ref b6), .val (.int y18), .unset]) at_48 rfl rfl ?_
    refine own_iload (pc' := 52) B X8 at_50 rfl rfl ?_
    refine own_istore (pc' := 54) B X8 (Ls' := #[.val (.int i0), .val (.int i1), .val (.int i2), .val (.int i3), .val (.int (1 : Int32)), .val (.ref b6), .val (.int y18), .val (.int (1 : Int32))]) at_52 rfl rfl ?_
    refine own_iload (pc' := 56) B X8 at_54 rfl rfl ?_
    refine own_ifNo (pc' := 59) B X8 at_56 ((if0 _ _).trans (tlt (by decide : (0 : Int32) < (1 : Int32))).2.2.2) rfl ?_
    refine own_iload (pc' := 61) B X8 at_59 rfl rfl ?_
    refine own_iloadN (pc' := 62) B X8 at_61 rfl rfl ?_
    refine own_iadd (pc' := 63) B X8 at_62 rfl hy19 ?_
    refine own_ldcI (pc' := 65) B X8 (own_w hw 8 rfl) at_63 rfl ?_
    refine own_imul (pc' := 66) B X8 at_65 rfl hy20 ?_
    refine own_istore (pc' := 68) B X8 (Ls' := #[.val (.int i0), .val (.int i1), .val (.int i2), .val (.int i3), .val (.int (1 : Int32)), .val (.ref b6), .val (.int y18), .val (.int y10)]) at_66 rfl rfl ?_
    refine own_iload (pc' := 70) B X8 at_68 rfl rfl ?_
    refine own_iconst (pc' := 71) B X8 (z := (1 : Int32)) at_70 rfl rfl ?_
    refine own_icmpYes (pc' := 83) B X8 at_71 (flt (by decide : ¬ ((1 : Int32) < (1 : Int32)))).2.2.2 (by decide) rfl ?_
    refine own_iload (pc' := 85) B X8 at_83 rfl rfl ?_
    refine own_iconst (pc' := 86) B X8 (z := (2 : Int32)) at_85 rfl rfl ?_
    refine own_icmpYes (pc' := 98) B X8 at_86 (flt (by decide : ¬ ((2 : Int32) < (1 : Int32)))).2.2.2 (by decide) rfl ?_
    refine own_iload (pc' := 100) B X8 at_98 rfl rfl ?_
    refine own_callS (pc' := 103) B X8 (own_w hw 9 rfl) (own_w hw 10 rfl) (own_w hw 11 rfl) (own_w hw 12 rfl) (by decide) [(.int y18)] [] (rm_4 l Z a0 hw [] (y18) h7 n0 (Nat.le_trans Z0 K.1) ) 0 (by decide) (by decide) rfl pd_1 rfl rfl (Nat.le_of_eq rfl) at_100 rfl (k' := 1) (n' := 1) rfl rfl (by decide) (by decide) ?_
    intro T29 v29 h29 X29 q29
    obtain ⟨y30, y31, y32, y33, y34, y35, y36, y37, y38, y39, hy40, hy41, hy42, hy43, hy44, hy45, hy46, hy47, hy48, hy49, rfl, rfl⟩ := q29
    show own_Go p e below (T29.setTop (mkF m 103 #[.val (.int i0), .val (.int i1), .val (.int i2), .val (.int i3), .val (.int (1 : Int32)), .val (.ref b6), .val (.int y18), .val (.int y10)] [(.int y39)])) _
    refine own_iload (pc' := 105) B X29 at_103 rfl rfl ?_
    have c50 : y39 = y10 := by
      have e1 : y31 = y16 := own_x16 hy27 hy28 hy40 hy41
      rw [e1] at hy42
      have e2 : y32 = y15 := own_inv (n := (2127672349 : Int32)) (by decide) hy26 hy42
      rw [e2] at hy43 hy44 hy46
      have e3 : y36 = y13 := own_x13 hy24 hy25 hy43 hy44 hy45 hy46
      rw [e3] at hy47
      have e4 : y37 = y12 := own_inv (n := (-1513385405 : Int32)) (by decide) hy23 hy47
      rw [e4] at hy48 hy49
      exact own_x16 hy21 hy22 hy48 hy49
    refine own_icmpNo (pc' := 108) B X29 at_105 (teq c50).2 rfl ?_
    refine own_iconst (pc' := 109) B X29 (z := (1 : Int32)) at_108 rfl rfl ?_
    refine own_goto (pc' := 113) B X29 at_109 (by decide) rfl ?_
    exact own_retN B X29 (t := .boolean) (z' := (1 : Int32)) (by simp) (by decide) at_113 (by decide) (by decide) rfl
  · obtain rfl : y1 = (2 : Int32) := Int32.toInt_inj.mp (z2.trans (by decide))
    refine own_istore (pc' := 5) B X0 (Ls' := #[.val (.int i0), .val (.int i1), .val (.int i2), .val (.int i3), .val (.int (2 : Int32)), .unset, .unset, .unset]) at_3 rfl rfl ?_
    refine own_iload (pc' := 7) B X0 at_5 rfl rfl ?_
    refine own_newarray (pc' := 9) B X0 (own_w hw 0 rfl) at_7 rfl rfl (by decide) 2 (by decide) (by decide) (k' := 1) (n' := 2) rfl rfl (by decide) (by decide) "[I" (by decide) (.int (0 : Int32)) rfl ?_
    intro T51 h51 b51 kb51 X51 g51 E51 V_b51 E_b51
    have sz_b51 : h0.size ≤ b51 := own_sz K g51
    have g_b51 : n0 ≤ b51 := Nat.le_trans Z0 sz_b51
    replace K := K.ext E51
    replace V_b51 : Arv Z h51 b51 kb51 .int (2 : Int32) [(.int (0 : Int32)), (.int (0 : Int32))] (.int (0 : Int32)) := V_b51.pad (pad_rep [] (.int (0 : Int32)) 2)
    refine own_astore (pc' := 11) B X51 (Ls' := #[.val (.int i0), .val (.int i1), .val (.int i2), .val (.int i3), .val (.int (2 : Int32)), .val (.ref b51), .unset, .unset]) at_9 rfl rfl rfl ?_
    refine own_iload (pc' := 13) B X51 at_11 rfl rfl ?_
    refine own_ifNo (pc' := 16) B X51 at_13 ((if0 _ _).trans (tlt (by decide : (0 : Int32) < (2 : Int32))).2.2.2) rfl ?_
    refine own_aload (pc' := 18) B X51 at_16 rfl rfl rfl ?_
    refine own_iconst (pc' := 19) B X51 (z := (0 : Int32)) at_18 rfl rfl ?_
    refine own_iloadN (pc' := 20) B X51 at_19 rfl rfl ?_
    refine own_iastore (pc' := 21) B X51 (x' := i0) V_b51 g_b51 ⟨by decide, by decide⟩ 0 (by decide) (Nat.le_of_ble_eq_true rfl) rfl at_20 rfl ?_
    intro T52 h52 X52 W52 V_b51
    replace V_b51 : Arv Z h52 b51 kb51 .int (2 : Int32) [(.int i0), (.int (0 : Int32))] (.int (0 : Int32)) := V_b51
    replace E_b51 := E_b51.wr W52
    replace K := K.wr W52 (Or.inr sz_b51)
    refine own_iload (pc' := 23) B X52 at_21 rfl rfl ?_
    refine own_iconst (pc' := 24) B X52 (z := (1 : Int32)) at_23 rfl rfl ?_
    refine own_icmpNo (pc' := 27) B X52 at_24 (tlt (by decide : (1 : Int32) < (2 : Int32))).2.2.2 rfl ?_
    refine own_aload (pc' := 29) B X52 at_27 rfl rfl rfl ?_
    refine own_iconst (pc' := 30) B X52 (z := (1 : Int32)) at_29 rfl rfl ?_
    refine own_iloadN (pc' := 31) B X52 at_30 rfl rfl ?_
    refine own_iastore (pc' := 32) B X52 (x' := i1) V_b51 g_b51 ⟨by decide, by decide⟩ 1 (by decide) (Nat.le_of_ble_eq_true rfl) rfl at_31 rfl ?_
    intro T53 h53 X53 W53 V_b51
    replace V_b51 : Arv Z h53 b51 kb51 .int (2 : Int32) [(.int i0), (.int i1)] (.int (0 : Int32)) := V_b51
    replace E_b51 := E_b51.wr W53
    replace K := K.wr W53 (Or.inr sz_b51)
    refine own_iload (pc' := 34) B X53 at_32 rfl rfl ?_
    refine own_iconst (pc' := 35) B X53 (z := (2 : Int32)) at_34 rfl rfl ?_
    refine own_icmpYes (pc' := 43) B X53 at_35 (flt (by decide : ¬ ((2 : Int32) < (2 : Int32)))).2.2.2 (by decide) rfl ?_
    refine own_aload (pc' := 45) B X53 at_43 rfl rfl rfl ?_
    refine own_callS (pc' := 48) B X53 (own_w hw 1 rfl) (own_w hw 2 rfl) (own_w hw 3 rfl) (own_w hw 4 rfl) (by decide) [(.ref b51)] [] (rm_5 l Z a0 hw [] b51 kb51 (i0) (i1) h53 n0 (Nat.le_trans Z0 K.1) E_b51 V_b51 g_b51) 0 (by decide) (by decide) rfl pd_0 rfl rfl (Nat.le_of_eq rfl) at_45 rfl (k' := 1) (n' := 2) rfl rfl (by decide) (by decide) ?_
    intro T54 v54 h54 X54 q54
    obtain ⟨y55, y56, y57, y58, y59, y60, y61, y62, y63, y64, y65, y66, hy67, hy68, hy69, hy70, hy71, hy72, hy73, hy74, hy75, hy76, hy77, hy78, rfl, rfl⟩ := q54
    show own_Go p e below (T54.setTop (mkF m 48 #[.val (.int i0), .val (.int i1), .val (.int i2), .val (.int i3), .val (.int (2 : Int32)), .val (.ref b51), .unset, .unset] [(.int y66)])) _
    refine own_istore (pc' := 50) B X54 (Ls' := #[.val (.int i0), .val (.int i1), .val (.int i2), .val (.int i3), .val (.int (2 : Int32)), .val (.ref b51), .val (.int y66), .unset]) at_48 rfl rfl ?_
    refine own_iload (pc' := 52) B X54 at_50 rfl rfl ?_
    refine own_istore (pc' := 54) B X54 (Ls' := #[.val (.int i0), .val (.int i1), .val (.int i2), .val (.int i3), .val (.int (2 : Int32)), .val (.ref b51), .val (.int y66), .val (.int (2 : Int32))]) at_52 rfl rfl ?_
    refine own_iload (pc' := 56) B X54 at_54 rfl rfl ?_
    refine own_ifNo (pc' := 59) B X54 at_56 ((if0 _ _).trans (tlt (by decide : (0 : Int32) < (2 : Int32))).2.2.2) rfl ?_
    refine own_iload (pc' := 61) B X54 at_59 rfl rfl ?_
    refine own_iloadN (pc' := 62) B X54 at_61 rfl rfl ?_
    refine own_iadd (pc' := 63) B X54 at_62 rfl hy67 ?_
    refine own_ldcI (pc' := 65) B X54 (own_w hw 8 rfl) at_63 rfl ?_
    refine own_imul (pc' := 66) B X54 at_65 rfl hy68 ?_
    refine own_istore (pc' := 68) B X54 (Ls' := #[.val (.int i0), .val (.int i1), .val (.int i2), .val (.int i3), .val (.int (2 : Int32)), .val (.ref b51), .val (.int y66), .val (.int y56)]) at_66 rfl rfl ?_
    refine own_iload (pc' := 70) B X54 at_68 rfl rfl ?_
    refine own_iconst (pc' := 71) B X54 (z := (1 : Int32)) at_70 rfl rfl ?_
    refine own_icmpNo (pc' := 74) B X54 at_71 (tlt (by decide : (1 : Int32) < (2 : Int32))).2.2.2 rfl ?_
    refine own_iload (pc' := 76) B X54 at_74 rfl rfl ?_
    refine own_iloadN (pc' := 77) B X54 at_76 rfl rfl ?_
    refine own_iadd (pc' := 78) B X54 at_77 rfl hy69 ?_
    refine own_ldcI (pc' := 80) B X54 (own_w hw 8 rfl) at_78 rfl ?_
    refine own_imul (pc' := 81) B X54 at_80 rfl hy70 ?_
    refine own_istore (pc' := 83) B X54 (Ls' := #[.val (.int i0), .val (.int i1), .val (.int i2), .val (.int i3), .val (.int (2 : Int32)), .val (.ref b51), .val (.int y66), .val (.int y58)]) at_81 rfl rfl ?_
    refine own_iload (pc' := 85) B X54 at_83 rfl rfl ?_
    refine own_iconst (pc' := 86) B X54 (z := (2 : Int32)) at_85 rfl rfl ?_
    refine own_icmpYes (pc' := 98) B X54 at_86 (flt (by decide : ¬ ((2 : Int32) < (2 : Int32)))).2.2.2 (by decide) rfl ?_
    refine own_iload (pc' := 100) B X54 at_98 rfl rfl ?_
    refine own_callS (pc' := 103) B X54 (own_w hw 9 rfl) (own_w hw 10 rfl) (own_w hw 11 rfl) (own_w hw 12 rfl) (by decide) [(.int y66)] [] (rm_4 l Z a0 hw [] (y66) h53 n0 (Nat.le_trans Z0 K.1) ) 0 (by decide) (by decide) rfl pd_1 rfl rfl (Nat.le_of_eq rfl) at_100 rfl (k' := 1) (n' := 2) rfl rfl (by decide) (by decide) ?_
    intro T79 v79 h79 X79 q79
    obtain ⟨y80, y81, y82, y83, y84, y85, y86, y87, y88, y89, hy90, hy91, hy92, hy93, hy94, hy95, hy96, hy97, hy98, hy99, rfl, rfl⟩ := q79
    show own_Go p e below (T79.setTop (mkF m 103 #[.val (.int i0), .val (.int i1), .val (.int i2), .val (.int i3), .val (.int (2 : Int32)), .val (.ref b51), .val (.int y66), .val (.int y58)] [(.int y89)])) _
    refine own_iload (pc' := 105) B X79 at_103 rfl rfl ?_
    have c100 : y89 = y58 := by
      have e1 : y81 = y64 := own_x16 hy77 hy78 hy90 hy91
      rw [e1] at hy92
      have e2 : y82 = y63 := own_inv (n := (2127672349 : Int32)) (by decide) hy76 hy92
      rw [e2] at hy93 hy94 hy96
      have e3 : y86 = y61 := own_x13 hy74 hy75 hy93 hy94 hy95 hy96
      rw [e3] at hy97
      have e4 : y87 = y60 := own_inv (n := (-1513385405 : Int32)) (by decide) hy73 hy97
      rw [e4] at hy98 hy99
      exact own_x16 hy71 hy72 hy98 hy99
    refine own_icmpNo (pc' := 108) B X79 at_105 (teq c100).2 rfl ?_
    refine own_iconst (pc' := 109) B X79 (z := (1 : Int32)) at_108 rfl rfl ?_
    refine own_goto (pc' := 113) B X79 at_109 (by decide) rfl ?_
    exact own_retN B X79 (t := .boolean) (z' := (1 : Int32)) (by simp) (by decide) at_113 (by decide) (by decide) rfl
  · obtain rfl : y1 = (3 : Int32) := Int32.toInt_inj.mp (z2.trans (by decide))
    refine own_istore (pc' := 5) B X0 (Ls' := #[.val (.int i0), .val (.int i1), .val (.int i2), .val (.int i3), .val (.int (3 : Int32)), .unset, .unset, .unset]) at_3 rfl rfl ?_
    refine own_iload (pc' := 7) B X0 at_5 rfl rfl ?_
    refine own_newarray (pc' := 9) B X0 (own_w hw 0 rfl) at_7 rfl rfl (by decide) 3 (by decide) (by decide) (k' := 1) (n' := 3) rfl rfl (by decide) (by decide) "[I" (by decide) (.int (0 : Int32)) rfl ?_
    intro T101 h101 b101 kb101 X101 g101 E101 V_b101 E_b101
    have sz_b101 : h0.size ≤ b101 := own_sz K g101
    have g_b101 : n0 ≤ b101 := Nat.le_trans Z0 sz_b101
    replace K := K.ext E101
    replace V_b101 : Arv Z h101 b101 kb101 .int (3 : Int32) [(.int (0 : Int32)), (.int (0 : Int32)), (.int (0 : Int32))] (.int (0 : Int32)) := V_b101.pad (pad_rep [] (.int (0 : Int32)) 3)
    refine own_astore (pc' := 11) B X101 (Ls' := #[.val (.int i0), .val (.int i1), .val (.int i2), .val (.int i3), .val (.int (3 : Int32)), .val (.ref b101), .unset, .unset]) at_9 rfl rfl rfl ?_
    refine own_iload (pc' := 13) B X101 at_11 rfl rfl ?_
    refine own_ifNo (pc' := 16) B X101 at_13 ((if0 _ _).trans (tlt (by decide : (0 : Int32) < (3 : Int32))).2.2.2) rfl ?_
    refine own_aload (pc' := 18) B X101 at_16 rfl rfl rfl ?_
    refine own_iconst (pc' := 19) B X101 (z := (0 : Int32)) at_18 rfl rfl ?_
    refine own_iloadN (pc' := 20) B X101 at_19 rfl rfl ?_
    refine own_iastore (pc' := 21) B X101 (x' := i0) V_b101 g_b101 ⟨by decide, by decide⟩ 0 (by decide) (Nat.le_of_ble_eq_true rfl) rfl at_20 rfl ?_
    intro T102 h102 X102 W102 V_b101
    replace V_b101 : Arv Z h102 b101 kb101 .int (3 : Int32) [(.int i0), (.int (0 : Int32)), (.int (0 : Int32))] (.int (0 : Int32)) := V_b101
    replace E_b101 := E_b101.wr W102
    replace K := K.wr W102 (Or.inr sz_b101)
    refine own_iload (pc' := 23) B X102 at_21 rfl rfl ?_
    refine own_iconst (pc' := 24) B X102 (z := (1 : Int32)) at_23 rfl rfl ?_
    refine own_icmpNo (pc' := 27) B X102 at_24 (tlt (by decide : (1 : Int32) < (3 : Int32))).2.2.2 rfl ?_
    refine own_aload (pc' := 29) B X102 at_27 rfl rfl rfl ?_
    refine own_iconst (pc' := 30) B X102 (z := (1 : Int32)) at_29 rfl rfl ?_
    refine own_iloadN (pc' := 31) B X102 at_30 rfl rfl ?_
    refine own_iastore (pc' := 32) B X102 (x' := i1) V_b101 g_b101 ⟨by decide, by decide⟩ 1 (by decide) (Nat.le_of_ble_eq_true rfl) rfl at_31 rfl ?_
    intro T103 h103 X103 W103 V_b101
    replace V_b101 : Arv Z h103 b101 kb101 .int (3 : Int32) [(.int i0), (.int i1), (.int (0 : Int32))] (.int (0 : Int32)) := V_b101
    replace E_b101 := E_b101.wr W103
    replace K := K.wr W103 (Or.inr sz_b101)
    refine own_iload (pc' := 34) B X103 at_32 rfl rfl ?_
    refine own_iconst (pc' := 35) B X103 (z := (2 : Int32)) at_34 rfl rfl ?_
    refine own_icmpNo (pc' := 38) B X103 at_35 (tlt (by decide : (2 : Int32) < (3 : Int32))).2.2.2 rfl ?_
    refine own_aload (pc' := 40) B X103 at_38 rfl rfl rfl ?_
    refine own_iconst (pc' := 41) B X103 (z := (2 : Int32)) at_40 rfl rfl ?_
    refine own_iloadN (pc' := 42) B X103 at_41 rfl rfl ?_
    refine own_iastore (pc' := 43) B X103 (x' := i2) V_b101 g_b101 ⟨by decide, by decide⟩ 2 (by decide) (Nat.le_of_ble_eq_true rfl) rfl at_42 rfl ?_
    intro T104 h104 X104 W104 V_b101
    replace V_b101 : Arv Z h104 b101 kb101 .int (3 : Int32) [(.int i0), (.int i1), (.int i2)] (.int (0 : Int32)) := V_b101
    replace E_b101 := E_b101.wr W104
    replace K := K.wr W104 (Or.inr sz_b101)
    refine own_aload (pc' := 45) B X104 at_43 rfl rfl rfl ?_
    refine own_callS (pc' := 48) B X104 (own_w hw 1 rfl) (own_w hw 2 rfl) (own_w hw 3 rfl) (own_w hw 4 rfl) (by decide) [(.ref b101)] [] (rm_6 l Z a0 hw [] b101 kb101 (i0) (i1) (i2) h104 n0 (Nat.le_trans Z0 K.1) E_b101 V_b101 g_b101) 0 (by decide) (by decide) rfl pd_0 rfl rfl (Nat.le_of_eq rfl) at_45 rfl (k' := 1) (n' := 3) rfl rfl (by decide) (by decide) ?_
    intro T105 v105 h105 X105 q105
    obtain ⟨y106, y107, y108, y109, y110, y111, y112, y113, y114, y115, y116, y117, y118, y119, hy120, hy121, hy122, hy123, hy124, hy125, hy126, hy127, hy128, hy129, hy130, hy131, hy132, hy133, rfl, rfl⟩ := q105
    show own_Go p e below (T105.setTop (mkF m 48 #[.val (.int i0), .val (.int i1), .val (.int i2), .val (.int i3), .val (.int (3 : Int32)), .val (.ref b101), .unset, .unset] [(.int y119)])) _
    refine own_istore (pc' := 50) B X105 (Ls' := #[.val (.int i0), .val (.int i1), .val (.int i2), .val (.int i3), .val (.int (3 : Int32)), .val (.ref b101), .val (.int y119), .unset]) at_48 rfl rfl ?_
    refine own_iload (pc' := 52) B X105 at_50 rfl rfl ?_
    refine own_istore (pc' := 54) B X105 (Ls' := #[.val (.int i0), .val (.int i1), .val (.int i2), .val (.int i3), .val (.int (3 : Int32)), .val (.ref b101), .val (.int y119), .val (.int (3 : Int32))]) at_52 rfl rfl ?_
    refine own_iload (pc' := 56) B X105 at_54 rfl rfl ?_
    refine own_ifNo (pc' := 59) B X105 at_56 ((if0 _ _).trans (tlt (by decide : (0 : Int32) < (3 : Int32))).2.2.2) rfl ?_
    refine own_iload (pc' := 61) B X105 at_59 rfl rfl ?_
    refine own_iloadN (pc' := 62) B X105 at_61 rfl rfl ?_
    refine own_iadd (pc' := 63) B X105 at_62 rfl hy120 ?_
    refine own_ldcI (pc' := 65) B X105 (own_w hw 8 rfl) at_63 rfl ?_
    refine own_imul (pc' := 66) B X105 at_65 rfl hy121 ?_
    refine own_istore (pc' := 68) B X105 (Ls' := #[.val (.int i0), .val (.int i1), .val (.int i2), .val (.int i3), .val (.int (3 : Int32)), .val (.ref b101), .val (.int y119), .val (.int y107)]) at_66 rfl rfl ?_
    refine own_iload (pc' := 70) B X105 at_68 rfl rfl ?_
    refine own_iconst (pc' := 71) B X105 (z := (1 : Int32)) at_70 rfl rfl ?_
    refine own_icmpNo (pc' := 74) B X105 at_71 (tlt (by decide : (1 : Int32) < (3 : Int32))).2.2.2 rfl ?_
    refine own_iload (pc' := 76) B X105 at_74 rfl rfl ?_
    refine own_iloadN (pc' := 77) B X105 at_76 rfl rfl ?_
    refine own_iadd (pc' := 78) B X105 at_77 rfl hy122 ?_
    refine own_ldcI (pc' := 80) B X105 (own_w hw 8 rfl) at_78 rfl ?_
    refine own_imul (pc' := 81) B X105 at_80 rfl hy123 ?_
    refine own_istore (pc' := 83) B X105 (Ls' := #[.val (.int i0), .val (.int i1), .val (.int i2), .val (.int i3), .val (.int (3 : Int32)), .val (.ref b101), .val (.int y119), .val (.int y109)]) at_81 rfl rfl ?_
    refine own_iload (pc' := 85) B X105 at_83 rfl rfl ?_
    refine own_iconst (pc' := 86) B X105 (z := (2 : Int32)) at_85 rfl rfl ?_
    refine own_icmpNo (pc' := 89) B X105 at_86 (tlt (by decide : (2 : Int32) < (3 : Int32))).2.2.2 rfl ?_
    refine own_iload (pc' := 91) B X105 at_89 rfl rfl ?_
    refine own_iloadN (pc' := 92) B X105 at_91 rfl rfl ?_
    refine own_iadd (pc' := 93) B X105 at_92 rfl hy124 ?_
    refine own_ldcI (pc' := 95) B X105 (own_w hw 8 rfl) at_93 rfl ?_
    refine own_imul (pc' := 96) B X105 at_95 rfl hy125 ?_
    refine own_istore (pc' := 98) B X105 (Ls' := #[.val (.int i0), .val (.int i1), .val (.int i2), .val (.int i3), .val (.int (3 : Int32)), .val (.ref b101), .val (.int y119), .val (.int y111)]) at_96 rfl rfl ?_
    refine own_iload (pc' := 100) B X105 at_98 rfl rfl ?_
    refine own_callS (pc' := 103) B X105 (own_w hw 9 rfl) (own_w hw 10 rfl) (own_w hw 11 rfl) (own_w hw 12 rfl) (by decide) [(.int y119)] [] (rm_4 l Z a0 hw [] (y119) h104 n0 (Nat.le_trans Z0 K.1) ) 0 (by decide) (by decide) rfl pd_1 rfl rfl (Nat.le_of_eq rfl) at_100 rfl (k' := 1) (n' := 3) rfl rfl (by decide) (by decide) ?_
    intro T134 v134 h134 X134 q134
    obtain ⟨y135, y136, y137, y138, y139, y140, y141, y142, y143, y144, hy145, hy146, hy147, hy148, hy149, hy150, hy151, hy152, hy153, hy154, rfl, rfl⟩ := q134
    show own_Go p e below (T134.setTop (mkF m 103 #[.val (.int i0), .val (.int i1), .val (.int i2), .val (.int i3), .val (.int (3 : Int32)), .val (.ref b101), .val (.int y119), .val (.int y111)] [(.int y144)])) _
    refine own_iload (pc' := 105) B X134 at_103 rfl rfl ?_
    have c155 : y144 = y111 := by
      have e1 : y136 = y117 := own_x16 hy132 hy133 hy145 hy146
      rw [e1] at hy147
      have e2 : y137 = y116 := own_inv (n := (2127672349 : Int32)) (by decide) hy131 hy147
      rw [e2] at hy148 hy149 hy151
      have e3 : y141 = y114 := own_x13 hy129 hy130 hy148 hy149 hy150 hy151
      rw [e3] at hy152
      have e4 : y142 = y113 := own_inv (n := (-1513385405 : Int32)) (by decide) hy128 hy152
      rw [e4] at hy153 hy154
      exact own_x16 hy126 hy127 hy153 hy154
    refine own_icmpNo (pc' := 108) B X134 at_105 (teq c155).2 rfl ?_
    refine own_iconst (pc' := 109) B X134 (z := (1 : Int32)) at_108 rfl rfl ?_
    refine own_goto (pc' := 113) B X134 at_109 (by decide) rfl ?_
    exact own_retN B X134 (t := .boolean) (z' := (1 : Int32)) (by simp) (by decide) at_113 (by decide) (by decide) rfl
set_option maxRecDepth 65536 in
set_option maxHeartbeats 40000000 in
theorem comes_1 {Post : Tables → Env → Array Value → State → Outcome → State → Prop} (hpost : ∀ tb e args s v u, (limb_1_1.after args s (.returned v) u = true ∧ limb_1_2.after args s (.returned v) u = true ∧ True) → FrameEnd s (.returned v) u (Jvm.fieldLocs frame_1_writes args s ++ Jvm.arrayLocs frame_1_arrays args s ++ Jvm.staticLocs frame_1_statics s) 16 128 → Post tb e args s (.returned v) u) :
    ArmFor flags0 classFile x code maxLocals ret World_1 tables_1 room_1 Calls_1 rest_1 Pre_1 Post := by
  intro l hfl _ _ p e ha hc hk s m args below hf hA hF happ hP
  obtain ⟨hcalls, hrest, hpre⟩ := hP
  obtain ⟨-, -, -, hnamed, -, -, -, hat⟩ := (Spec.applies_iff hf).mp happ
  obtain ⟨hg, hn⟩ := and_e (Cond.before_iff.mp (show (Jvm.Cond.and given_1 narrow_1).before args s = true from hpre))
  obtain ⟨g1, g2⟩ := and_e hg
  obtain ⟨g3, g4⟩ := and_e g2
  obtain ⟨g5, g6⟩ := and_e g4
  obtain ⟨g7, g8⟩ := and_e g6
  obtain ⟨w0, w1, w2, w3, rfl⟩ : ∃ w0 w1 w2 w3 : Value, args = #[w0, w1, w2, w3] := by
    have hs : args.size = 4 := by simpa [Cond.value, given_1] using g1
    obtain ⟨L⟩ := args
    match L, hs with
    | [w0, w1, w2, w3], _ => exact ⟨w0, w1, w2, w3, rfl⟩
  have hw := fun d (hd : d ∈ tables_1) => atoms_spec (ws := Jvm.Cond.code x code maxLocals ret :: tables_1) hat d (List.mem_cons_of_mem _ hd)
  obtain ⟨i0, ei0⟩ := is_v g3
  obtain rfl : w0 = (.int i0) := Option.some.inj ei0
  obtain ⟨i1, ei1⟩ := is_v g5
  obtain rfl : w1 = (.int i1) := Option.some.inj ei1
  obtain ⟨i2, ei2⟩ := is_v g7
  obtain rfl : w2 = (.int i2) := Option.some.inj ei2
  obtain ⟨i3, ei3⟩ := is_v g8
  obtain rfl : w3 = (.int i3) := Option.some.inj ei3
  obtain ⟨n, o, h1, h2, h3, _, L, rfl, ⟨N, rfl⟩, hq⟩ := rm_0 l s _ hw tables_1 i0 i1 i2 i3 s.heap s.heap.size (Nat.le_refl _)  p e ha hc hk s m _ below hf ((Spec.applies_iff_loose hf).mp happ).1 ⟨rfl, State.Warmed39.refl s, rfl⟩ trivial
  refine ⟨n, _, h1, h2, h3, hpost _ _ _ _ _ _ ⟨Cond.after_iff.mpr rfl, Cond.after_iff.mpr (eq_i res_at (Term.int_eval (1)) rfl), trivial⟩ ⟨hq.1, hq.2.1, (hq.2.2.sift fun y hy => Or.inr (N y hy)).mono (by decide) (by decide)⟩⟩
theorem main_1_1 : Claimed_1_1 := comes_1 fun _ _ _ _ _ _ h hF => ⟨h.1, hF⟩
theorem main_1_2 : Claimed_1_2 := comes_1 fun _ _ _ _ _ _ h hF => ⟨h.2.1, hF⟩
end Jvm.Pilot.@@N@@
namespace Jvm.Pilot.@@N@@
open Jvm Jvm.ClassFile Sem Op Lib Jvm.Free Jvm.Stand Jvm.Pilot.@@N@@.Jvm.D
/-! MADE BY PROGRAM (witnessworld.py) out of the Statement's table words and the real class files: 9 classes; the members and pool entries that the words name. The judged class is class 1, her method 2. -/
namespace start1
open Jvm.ClassFile
def u (s : String) : CpInfo := .utf8 (stringToUtf16 s)
/-- a pool by its gaps: so many unusable entries, then the entry; so many at the end -/
def gap : Nat → List CpInfo → List CpInfo
  | 0, r => r
  | n + 1, r => .unusable :: gap n r
def poolList (es : List (Nat × CpInfo)) (last : Nat) : List CpInfo := es.foldr (fun e r => gap e.1 (e.2 :: r)) (gap last [])
def pool (es : List (Nat × CpInfo)) (last : Nat) : Array CpInfo := ⟨poolList es last⟩
def fileOf (pool : Array CpInfo) (this : Nat) (attrs : Array Attribute := #[]) (ms : Array MethodInfo := #[]) (fl : Nat := 33) (sup : Nat := 0) (ifs : Array Nat := #[]) (fds : Array FieldInfo := #[]) : ClassFile where
  minorVersion := 0
  majorVersion := 65
  constantPool := pool
  accessFlags := fl
  thisClass := this
  superClass := sup
  interfaces := ifs
  fields := fds
  methods := ms
  attributes := attrs
def plain (name : String) (sup : Option ClassId) : Class where
  name := name
  kind := .ordinary
  loader := none
  accessFlags := 33
  super := sup
  interfaces := #[]
  cf := none
  fields := #[]
  methods := #[]
  instanceTypes := #[]
  staticTypes := #[]
  resolved := #[]
  callSites := []
  init := .initialized
  statics := none
  mirror := none

def pool0 : Array CpInfo := pool [(5, u "<init>"), (0, u "()V"), (1, .class_ 10), (1, u "java/lang/Object")] 113

def k0m0 : Method := { name := "<init>", desc := "()V", sig := { parameters := [], returnType := none }, accessFlags := 1, code := none }
/-- java/lang/Object -/
def k0 : Class := { plain "java/lang/Object" none with
  accessFlags := 33
  interfaces := #[]
  cf := some (fileOf pool0 8 #[] #[{ accessFlags := 1, nameIndex := 5, descriptorIndex := 6, attributes := #[] }] 33 0 #[] #[])
  fields := #[]
  methods := #[k0m0]
  instanceTypes := #[]
  staticTypes := #[]
  resolved := Array.replicate 124 none
  statics := none }

def pool1 : Array CpInfo := pool [(2, .class_ 4), (1, u "java/lang/Object"), (0, u "<init>"), (0, u "()V"), (0, .integer 2127672349), (0, .integer 2781581891), (0, .methodref 10 11), (0, .class_ 12), (0, .nameAndType 13 14), (0, u "com/example/bagwise/bagwise/Tuples"), (0, u "hash"), (0, u "([I)I"), (0, .class_ 16), (0, u "com/example/bagwise/bagwise/TuplesHashPinLaw"), (0, .integer 2654435761), (0, .methodref 15 19), (0, .nameAndType 20 21), (0, u "unmix"), (0, u "(I)I"), (0, u "G"), (0, u "I"), (3, u "law"), (0, u "(IIII)Z")] 5

def k1m0 : Method := { name := "<init>", desc := "()V", sig := { parameters := [], returnType := none }, accessFlags := 1, code := none }
def k1c1 : Code := { maxStack := 4, maxLocals := 1, code := method_2_code, exceptionTable := #[], attributes := #[] }
def k1m1 : Method := { name := "unmix", desc := "(I)I", sig := { parameters := [.int], returnType := some .int }, accessFlags := 10, code := some k1c1 }
def k1c2 : Code := { maxStack := 3, maxLocals := 8, code := code, exceptionTable := #[], attributes := #[] }
def k1m2 : Method := { name := "law", desc := "(IIII)Z", sig := { parameters := [.int, .int, .int, .int], returnType := some .boolean }, accessFlags := 9, code := some k1c2 }
/-- com/example/bagwise/bagwise/TuplesHashPinLaw -/
def k1 : Class := { plain "com/example/bagwise/bagwise/TuplesHashPinLaw" (some 0) with
  accessFlags := 49
  interfaces := #[]
  cf := some (fileOf pool1 15 #[] #[{ accessFlags := 1, nameIndex := 5, descriptorIndex := 6, attributes := #[] }, { accessFlags := 10, nameIndex := 20, descriptorIndex := 21, attributes := #[] }, { accessFlags := 9, nameIndex := 27, descriptorIndex := 28, attributes := #[] }] 49 2 #[] #[{ accessFlags := 26, nameIndex := 22, descriptorIndex := 23, attributes := #[] }])
  fields := #[{ name := "G", type := .int, accessFlags := 26, slot := 0, constantValue := 0 }]
  methods := #[k1m0, k1m1, k1m2]
  instanceTypes := #[]
  staticTypes := #[.int]
  resolved := Array.replicate 34 none
  statics := none }

def pool2 : Array CpInfo := pool [(4, .class_ 6), (1, u "java/lang/Object"), (2, .class_ 10), (0, u "com/example/bagwise/bagwise/Tuples"), (2, u "slots"), (0, u "[J"), (2, u "arity"), (0, u "I"), (2, u "values"), (0, u "[I"), (2, u "size"), (8, u "hash"), (0, u "([I)I"), (2, u "recent"), (40, .integer 2654435761), (0, .integer 2246822507), (0, .integer 3266489909), (0, u "NONE"), (2, u "MAX_LENGTH"), (1, u "FIRST_CAPACITY"), (1, u "RECENT_AFTER"), (0, u "RECENT")] 16

def k2c0 : Code := { maxStack := 3, maxLocals := 6, code := prog_62_method_13_code, exceptionTable := #[], attributes := #[] }
def k2m0 : Method := { name := "hash", desc := "([I)I", sig := { parameters := [(.array .int)], returnType := some .int }, accessFlags := 8, code := some k2c0 }
/-- com/example/bagwise/bagwise/Tuples -/
def k2 : Class := { plain "com/example/bagwise/bagwise/Tuples" (some 0) with
  accessFlags := 48
  interfaces := #[]
  cf := some (fileOf pool2 9 #[] #[{ accessFlags := 8, nameIndex := 34, descriptorIndex := 35, attributes := #[] }] 48 4 #[] #[{ accessFlags := 24, nameIndex := 82, descriptorIndex := 18, attributes := #[] }, { accessFlags := 26, nameIndex := 85, descriptorIndex := 18, attributes := #[] }, { accessFlags := 26, nameIndex := 87, descriptorIndex := 18, attributes := #[] }, { accessFlags := 26, nameIndex := 89, descriptorIndex := 18, attributes := #[] }, { accessFlags := 26, nameIndex := 90, descriptorIndex := 18, attributes := #[] }, { accessFlags := 18, nameIndex := 17, descriptorIndex := 18, attributes := #[] }, { accessFlags := 2, nameIndex := 21, descriptorIndex := 22, attributes := #[] }, { accessFlags := 2, nameIndex := 25, descriptorIndex := 18, attributes := #[] }, { accessFlags := 2, nameIndex := 13, descriptorIndex := 14, attributes := #[] }, { accessFlags := 2, nameIndex := 38, descriptorIndex := 14, attributes := #[] }])
  fields := #[{ name := "NONE", type := .int, accessFlags := 24, slot := 0, constantValue := 0 }, { name := "MAX_LENGTH", type := .int, accessFlags := 26, slot := 1, constantValue := 0 }, { name := "FIRST_CAPACITY", type := .int, accessFlags := 26, slot := 2, constantValue := 0 }, { name := "RECENT_AFTER", type := .int, accessFlags := 26, slot := 3, constantValue := 0 }, { name := "RECENT", type := .int, accessFlags := 26, slot := 4, constantValue := 0 }, { name := "arity", type := .int, accessFlags := 18, slot := 0, constantValue := 0 }, { name := "values", type := (.array .int), accessFlags := 2, slot := 1, constantValue := 0 }, { name := "size", type := .int, accessFlags := 2, slot := 2, constantValue := 0 }, { name := "slots", type := (.array .long), accessFlags := 2, slot := 3, constantValue := 0 }, { name := "recent", type := (.array .long), accessFlags := 2, slot := 4, constantValue := 0 }]
  methods := #[k2m0]
  instanceTypes := #[.int, (.array .int), .int, (.array .long), (.array .long)]
  staticTypes := #[.int, .int, .int, .int, .int]
  resolved := Array.replicate 107 none
  statics := none }

def pool3 : Array CpInfo := pool [(1, u "java/lang/Cloneable"), (0, .class_ 1), (0, u "java/lang/Object"), (0, .class_ 3)] 3

/-- java/lang/Cloneable -/
def k3 : Class := { plain "java/lang/Cloneable" (some 0) with
  accessFlags := 1537
  interfaces := #[]
  cf := some (fileOf pool3 2 #[] #[] 1537 4 #[] #[])
  fields := #[]
  methods := #[]
  instanceTypes := #[]
  staticTypes := #[]
  resolved := Array.replicate 8 none
  statics := none }

def pool4 : Array CpInfo := pool [(1, u "java/io/Serializable"), (0, .class_ 1), (0, u "java/lang/Object"), (0, .class_ 3)] 3

/-- java/io/Serializable -/
def k4 : Class := { plain "java/io/Serializable" (some 0) with
  accessFlags := 1537
  interfaces := #[]
  cf := some (fileOf pool4 2 #[] #[] 1537 4 #[] #[])
  fields := #[]
  methods := #[]
  instanceTypes := #[]
  staticTypes := #[]
  resolved := Array.replicate 8 none
  statics := none }

/-- the primitive byte -/
def k5 : Class := { plain "byte" none with kind := .primitive 'B', accessFlags := 0x411 }
/-- [B -/
def k6 : Class := { plain "[B" (some 0) with kind := .array 5 .byte, interfaces := #[3, 4], accessFlags := 1041 }

/-- the primitive int -/
def k7 : Class := { plain "int" none with kind := .primitive 'I', accessFlags := 0x411 }
/-- [I -/
def k8 : Class := { plain "[I" (some 0) with kind := .array 7 .int, interfaces := #[3, 4], accessFlags := 1041 }

def heap : Heap := #[]
def classes : Array Class := #[k0, k1, k2, k3, k4, k5, k6, k7, k8]
def interned : List (Array UInt16 × Addr) := []
def slotsUsed : Nat := 0
def theMethod : MethodId := ⟨1, 2⟩
def args0 : Array Value := #[.int 1, .int 2, .int 3, .int 3]
def aboutOver (below : List Frame) : State where
  vm := { classes := classes, interned := interned.toArray }
  heap := heap
  slotsUsed := slotsUsed
  threads := #[{ frames := .invoking theMethod args0 :: below }]
def below0 : List Frame := [.native { method := ⟨0, 0⟩, args := #[] }]
def about1 : State := aboutOver below0
def p0 : Program := .bare "" "" ""
def e0 : Env := launch0.env 0 0 0
theorem w_frames : about1.frames = Frame.invoking theMethod args0 :: below0 := rfl
set_option maxRecDepth 65536 in
theorem w_args : argsFit about1.vm theMethod args0 = true := by decide +kernel
set_option maxRecDepth 65536 in
theorem w_heap : heapFits about1 = true := by decide +kernel
set_option maxRecDepth 65536 in
theorem w_runnable : about1.curStatus? = some .runnable := by decide +kernel
set_option maxRecDepth 65536 in
theorem w_alone : about1.alone = true := by decide +kernel
set_option maxRecDepth 65536 in
theorem w_named : about1.methodNamed? x = some theMethod := by decide +kernel
set_option maxRecDepth 65536 in
theorem w_hears : about1.hears theMethod below0 = true := by decide +kernel
set_option maxRecDepth 65536 in
theorem w_ripe : about1.ripe theMethod args0 below0 = true := by decide +kernel
theorem w_running : about1.status = .running := rfl
set_option maxRecDepth 65536 in
theorem w_room : about1.hasRoom e0.platform room_1 = true :=
  launch0.hasRoom_least _ room_1 (by decide +kernel) (by decide +kernel) (by decide +kernel) (by decide +kernel) (by decide +kernel) (by decide +kernel)
theorem allAtoms_all (ts : List Jvm.Cond) (a : Array Jvm.Value) (st : Jvm.State) : (allAtoms ts).before a st = ts.all (fun c => c.before a st) := by
  induction ts with
  | nil => rfl
  | cons c t ih =>
    show (Jvm.Cond.and c (allAtoms t)).before a st = _
    rw [Jvm.Cond.before_and, ih, List.all_cons]
def words1 : List Jvm.Cond := Jvm.Cond.code x code maxLocals ret :: tables_1
/-- a 'code' word, met by the world's own term for the bytes: nothing is compared byte by byte -/
theorem code_word {y : MethodName} {bytes : ByteArray} {mx : Nat} {rt : Option FieldType} {a : Array Value} {s : State} {m : MethodId} {meth : Method} {c : Code} (h1 : s.methodNamed? y = some m) (h2 : s.vm.method? m = some meth) (h3 : meth.code = some c) (h4 : c.code = bytes)
    (h5 : (c.maxLocals == mx && c.exceptionTable.isEmpty && decide (c.maxStack ≤ mostOperands) && decide (meth.sig.returnType = rt) && !meth.locks && decide (parseMethodDescriptor y.desc = some meth.sig)) = true) : (Jvm.Cond.code y bytes mx rt).before a s = true := by
  simp only [Bool.and_eq_true, beq_iff_eq, Bool.not_eq_true', decide_eq_true_eq] at h5
  obtain ⟨⟨⟨⟨⟨g1, g2⟩, g3⟩, g4⟩, g5⟩, g6⟩ := h5
  simp [Cond.before, Cond.holds, Cond.value, h1, h2, h3, h4, g1, g2, g3, g4, g5, g6]
def isCode : Jvm.Cond → Bool
  | .code _ _ _ _ => true
  | _ => false
theorem all_split {L : List Jvm.Cond} {P : Jvm.Cond → Bool} (h1 : L.all (fun c => isCode c || P c) = true) (h2 : ∀ c ∈ L.filter isCode, P c = true) : L.all P = true := by
  refine List.all_eq_true.mpr fun c hc => ?_
  have h := List.all_eq_true.mp h1 c hc
  rcases Bool.eq_false_or_eq_true (isCode c) with hi | hi
  · exact h2 c (List.mem_filter.mpr ⟨hc, hi⟩)
  · simpa [hi] using h
set_option maxRecDepth 65536 in
theorem w_c0 : (Jvm.Cond.code x code maxLocals ret).before args0 about1 = true := code_word (m := ⟨1, 2⟩) (meth := k1m2) (c := k1c2) (by decide +kernel) rfl rfl rfl (by decide +kernel)
set_option maxRecDepth 65536 in
theorem w_c1 : (Jvm.Cond.code ({ cls := "com/example/bagwise/bagwise/Tuples", name := "hash", desc := "([I)I" } : Jvm.MethodName) prog_62_method_13_code (6 : Nat) (Option.some Jvm.ClassFile.FieldType.int)).before args0 about1 = true := code_word (m := ⟨2, 0⟩) (meth := k2m0) (c := k2c0) (by decide +kernel) rfl rfl rfl (by decide +kernel)
set_option maxRecDepth 65536 in
theorem w_c2 : (Jvm.Cond.code ({ cls := "com/example/bagwise/bagwise/TuplesHashPinLaw", name := "unmix", desc := "(I)I" } : Jvm.MethodName) method_2_code (1 : Nat) (Option.some Jvm.ClassFile.FieldType.int)).before args0 about1 = true := code_word (m := ⟨1, 1⟩) (meth := k1m1) (c := k1c1) (by decide +kernel) rfl rfl rfl (by decide +kernel)
def codes1 : List Jvm.Cond := [Jvm.Cond.code x code maxLocals ret, Jvm.Cond.code ({ cls := "com/example/bagwise/bagwise/Tuples", name := "hash", desc := "([I)I" } : Jvm.MethodName) prog_62_method_13_code (6 : Nat) (Option.some Jvm.ClassFile.FieldType.int), Jvm.Cond.code ({ cls := "com/example/bagwise/bagwise/TuplesHashPinLaw", name := "unmix", desc := "(I)I" } : Jvm.MethodName) method_2_code (1 : Nat) (Option.some Jvm.ClassFile.FieldType.int)]
set_option maxRecDepth 65536 in
theorem codes_eq : words1.filter isCode = codes1 := rfl
theorem w_codes : ∀ c ∈ words1.filter isCode, c.before args0 about1 = true := by
  rw [codes_eq]
  intro c hc
  simp only [codes1, List.mem_cons, List.not_mem_nil, or_false] at hc
  rcases hc with rfl | rfl | rfl
  · exact w_c0
  · exact w_c1
  · exact w_c2
set_option maxRecDepth 65536 in
theorem w_t1 : words1.all (fun c => isCode c || c.before args0 about1) = true := by decide +kernel
theorem w_tables : (allAtoms (Jvm.Cond.code x code maxLocals ret :: tables_1)).before args0 about1 = true := by
  rw [allAtoms_all]
  show words1.all (fun c => c.before args0 about1) = true
  refine all_split ?_ w_codes
  rw [w_t1]
set_option maxRecDepth 65536 in
theorem w_case : (Jvm.Cond.and given_1 narrow_1).before args0 about1 = true := by decide +kernel
theorem w_applies : (headSpec (Jvm.Cond.code x code maxLocals ret :: tables_1) room_1).applies x e0.platform about1 = true :=
  (Spec.applies_iff w_frames).mpr ⟨w_running, w_runnable, w_alone, w_named, w_hears, w_ripe, w_room, w_tables⟩
theorem atStart : AtStart classFile x code maxLocals ret World_1 tables_1 room_1 Calls_1 rest_1 Pre_1 launch0 p0 e0 about1 theMethod args0 below0 :=
  ⟨lists_1, trivial, launch0.admits_env _ _ _, launch0.least_env, fairChoices_fair.cas, fairChoices_fair.clock, w_frames, w_args, w_heap, w_applies, trivial, trivial, w_case⟩
end start1
theorem witness_1 : WitnessClaimed_1 := ⟨start1.p0, start1.e0, start1.about1, start1.theMethod, start1.args0, start1.below0, start1.atStart⟩
end Jvm.Pilot.@@N@@
