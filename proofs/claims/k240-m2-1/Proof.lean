import JvmDerived
import JvmDerived.Pilot.@@N@@Statement
import JvmDerived.Pilot.@@N@@Code
set_option linter.unusedVariables false
set_option linter.unusedSimpArgs false
namespace Jvm.Pilot.@@N@@
open Jvm Jvm.ClassFile Sem Op Lib Jvm.Free Jvm.Stand Jvm.LawKit Jvm.RoadKit Bundle Jvm.Pilot.@@N@@.Jvm.D
section OwnKit
variable {p : Program} {l : Launch} {e : Env} {R : Room} {s : State} {m : MethodId} {args : Array Value} {below : List Frame} {meth : Method} {c : Code} {T : State} {cells slots : Nat} {P : State → Outcome → Prop}
variable {Z : State} {a0 : Array Value} {h h0 : Heap} {n0 : Nat} {own nm : String} {bytes : ByteArray} {maxL : Nat} {ret : Option FieldType}
variable {pc pc' : Nat} {Ls : Array Slot} {st : List Value}
/-- from the state U the run comes to an end that P allows -/
def own_Go (p : Program) (e : Env) (below : List Frame) (U : State) (P : State → Outcome → Prop) : Prop := ∃ a o, Steps p.tables e below U a ∧ P a o
theorem own_by {U U' : State} (q : ∀ t, Steps p.tables e below U' t → Steps p.tables e below U t) (G : own_Go p e below U' P) : own_Go p e below U P := by
  obtain ⟨a, o, h1, h2⟩ := G
  exact ⟨a, o, q a h1, h2⟩
/-- what stays the same in one body -/
def own_B (p : Program) (s : State) (m : MethodId) (meth : Method) (c : Code) (Z : State) (own nm : String) (bytes : ByteArray) (maxL : Nat) (ret : Option FieldType) : Prop :=
  p.tables.exec = Jvm.exec ∧ Z.Warmed39 s.vm ∧ c.maxLocals = maxL ∧ s.vm.findClass own = some m.cls ∧ meth.sig.returnType = ret ∧ meth.locks = false ∧ meth.name = nm ∧ c.code = bytes
/-- where the run stands: the state T, its heap h; nothing below n0 has been written -/
def own_S (p : Program) (l : Launch) (e : Env) (R : Room) (s : State) (m : MethodId) (args : Array Value) (below : List Frame) (meth : Method) (c : Code) (n0 : Nat) (T : State) (h : Heap) (cells slots : Nat) : Prop :=
  ∃ locs, Stand p l e R s m args below meth c T locs cells slots ∧ T.heap = h ∧ Fr n0 locs
/-- what a body owes at its end -/
def own_P (s : State) (below : List Frame) (n0 : Nat) (Q : Option Value → Heap → Prop) (k n : Nat) (a : State) (o : Outcome) : Prop :=
  a.status = .running ∧ Ended a below o ∧ ∃ v L, o = .returned v ∧ (Fr n0 L ∧ Q v a.heap) ∧ FrameEnd s o a L k n
theorem own_iload (B : own_B p s m meth c Z own nm bytes maxL ret) (X : own_S p l e R s m args below meth c n0 T h cells slots) {k : Nat} {v : Int32} (d : decode bytes pc = .ok (.iload k, 2)) (hp : pc + 2 = pc') (hl : Ls[k]? = some (.val (.int v)))
    (G : own_Go p e below (T.setTop (mkF m pc' Ls (.int v :: st))) P) : own_Go p e below (T.setTop (mkF m pc Ls (st))) P := by
  obtain ⟨locs, X, -, -⟩ := X
  subst hp
  exact own_by (fun _ => XS.iload X.here B.1 rfl (hb B.2.2.2.2.2.2.2 d) hl) G
theorem own_iloadN (B : own_B p s m meth c Z own nm bytes maxL ret) (X : own_S p l e R s m args below meth c n0 T h cells slots) {k : Fin 4} {v : Int32} (d : decode bytes pc = .ok (.iload_n k, 1)) (hp : pc + 1 = pc') (hl : Ls[k.val]? = some (.val (.int v)))
    (G : own_Go p e below (T.setTop (mkF m pc' Ls (.int v :: st))) P) : own_Go p e below (T.setTop (mkF m pc Ls (st))) P := by
  obtain ⟨locs, X, -, -⟩ := X
  subst hp
  exact own_by (fun _ => XS.iloadN X.here B.1 rfl (hb B.2.2.2.2.2.2.2 d) hl) G
theorem own_aload (B : own_B p s m meth c Z own nm bytes maxL ret) (X : own_S p l e R s m args below meth c n0 T h cells slots) {k : Nat} {v : Value} (d : decode bytes pc = .ok (.aload k, 2)) (hp : pc + 2 = pc') (hl : Ls[k]? = some (.val v)) (hv : v.isRef = true)
    (G : own_Go p e below (T.setTop (mkF m pc' Ls (v :: st))) P) : own_Go p e below (T.setTop (mkF m pc Ls (st))) P := by
  obtain ⟨locs, X, -, -⟩ := X
  subst hp
  exact own_by (fun _ => XS.aload X.here B.1 rfl (hb B.2.2.2.2.2.2.2 d) hl hv) G
theorem own_aloadN (B : own_B p s m meth c Z own nm bytes maxL ret) (X : own_S p l e R s m args below meth c n0 T h cells slots) {k : Fin 4} {v : Value} (d : decode bytes pc = .ok (.aload_n k, 1)) (hp : pc + 1 = pc') (hl : Ls[k.val]? = some (.val v)) (hv : v.isRef = true)
    (G : own_Go p e below (T.setTop (mkF m pc' Ls (v :: st))) P) : own_Go p e below (T.setTop (mkF m pc Ls (st))) P := by
  obtain ⟨locs, X, -, -⟩ := X
  subst hp
  exact own_by (fun _ => XS.aloadN X.here B.1 rfl (hb B.2.2.2.2.2.2.2 d) hl hv) G
theorem own_istore (B : own_B p s m meth c Z own nm bytes maxL ret) (X : own_S p l e R s m args below meth c n0 T h cells slots) {k : Nat} {v : Int32} {Ls' : Array Slot} (d : decode bytes pc = .ok (.istore k, 2)) (hp : pc + 2 = pc') (hl : storeLocals Ls k (.int v) = some Ls')
    (G : own_Go p e below (T.setTop (mkF m pc' Ls' st)) P) : own_Go p e below (T.setTop (mkF m pc Ls (.int v :: st))) P := by
  obtain ⟨locs, X, -, -⟩ := X
  subst hp
  exact own_by (fun _ => XS.istore X.here B.1 rfl (hb B.2.2.2.2.2.2.2 d) rfl hl) G
theorem own_istoreN (B : own_B p s m meth c Z own nm bytes maxL ret) (X : own_S p l e R s m args below meth c n0 T h cells slots) {k : Fin 4} {v : Int32} {Ls' : Array Slot} (d : decode bytes pc = .ok (.istore_n k, 1)) (hp : pc + 1 = pc') (hl : storeLocals Ls k.val (.int v) = some Ls')
    (G : own_Go p e below (T.setTop (mkF m pc' Ls' st)) P) : own_Go p e below (T.setTop (mkF m pc Ls (.int v :: st))) P := by
  obtain ⟨locs, X, -, -⟩ := X
  subst hp
  exact own_by (fun _ => XS.istoreN X.here B.1 rfl (hb B.2.2.2.2.2.2.2 d) rfl hl) G
theorem own_astore (B : own_B p s m meth c Z own nm bytes maxL ret) (X : own_S p l e R s m args below meth c n0 T h cells slots) {k : Nat} {v : Value} {Ls' : Array Slot} (d : decode bytes pc = .ok (.astore k, 2)) (hp : pc + 2 = pc') (hv : v.isRef = true) (hl : storeLocals Ls k (v) = some Ls')
    (G : own_Go p e below (T.setTop (mkF m pc' Ls' st)) P) : own_Go p e below (T.setTop (mkF m pc Ls (v :: st))) P := by
  obtain ⟨locs, X, -, -⟩ := X
  subst hp
  exact own_by (fun _ => XS.astore X.here B.1 rfl (hb B.2.2.2.2.2.2.2 d) rfl hv hl) G
theorem own_astoreN (B : own_B p s m meth c Z own nm bytes maxL ret) (X : own_S p l e R s m args below meth c n0 T h cells slots) {k : Fin 4} {v : Value} {Ls' : Array Slot} (d : decode bytes pc = .ok (.astore_n k, 1)) (hp : pc + 1 = pc') (hv : v.isRef = true) (hl : storeLocals Ls k.val (v) = some Ls')
    (G : own_Go p e below (T.setTop (mkF m pc' Ls' st)) P) : own_Go p e below (T.setTop (mkF m pc Ls (v :: st))) P := by
  obtain ⟨locs, X, -, -⟩ := X
  subst hp
  exact own_by (fun _ => XS.astoreN X.here B.1 rfl (hb B.2.2.2.2.2.2.2 d) rfl hv hl) G
theorem own_iinc (B : own_B p s m meth c Z own nm bytes maxL ret) (X : own_S p l e R s m args below meth c n0 T h cells slots) {k : Nat} {i : Int} {x z : Int32} {Ls' : Array Slot} (d : decode bytes pc = .ok (.iinc k i, 3)) (hp : pc + 3 = pc') (hl : Ls[k]? = some (.val (.int x))) (hz : x + Int32.ofInt i = z) (hs : storeLocals Ls k (.int z) = some Ls')
    (G : own_Go p e below (T.setTop (mkF m pc' Ls' st)) P) : own_Go p e below (T.setTop (mkF m pc Ls st)) P := by
  obtain ⟨locs, X, -, -⟩ := X
  subst hp hz
  exact own_by (fun _ => XS.iinc X.here B.1 rfl (hb B.2.2.2.2.2.2.2 d) hl hs) G
theorem own_iconst (B : own_B p s m meth c Z own nm bytes maxL ret) (X : own_S p l e R s m args below meth c n0 T h cells slots) {i : Int} {z : Int32} (d : decode bytes pc = .ok (.iconst i, 1)) (hp : pc + 1 = pc') (hz : Int32.ofInt i = z)
    (G : own_Go p e below (T.setTop (mkF m pc' Ls (.int z :: st))) P) : own_Go p e below (T.setTop (mkF m pc Ls (st))) P := by
  obtain ⟨locs, X, -, -⟩ := X
  subst hp
  subst hz
  exact own_by (fun _ => XS.iconst X.here B.1 rfl (hb B.2.2.2.2.2.2.2 d)) G
theorem own_bipush (B : own_B p s m meth c Z own nm bytes maxL ret) (X : own_S p l e R s m args below meth c n0 T h cells slots) {i : Int} {z : Int32} (d : decode bytes pc = .ok (.bipush i, 2)) (hp : pc + 2 = pc') (hz : (Int8.ofInt i).toInt32 = z)
    (G : own_Go p e below (T.setTop (mkF m pc' Ls (.int z :: st))) P) : own_Go p e below (T.setTop (mkF m pc Ls (st))) P := by
  obtain ⟨locs, X, -, -⟩ := X
  subst hp
  subst hz
  exact own_by (fun _ => XS.bipush X.here B.1 rfl (hb B.2.2.2.2.2.2.2 d)) G
theorem own_ldcI (B : own_B p s m meth c Z own nm bytes maxL ret) (X : own_S p l e R s m args below meth c n0 T h cells slots) {i : Nat} {z : Int32} (w : (Cond.constant own i z).before a0 Z = true) (d : decode bytes pc = .ok (.ldc i, 2)) (hp : pc + 2 = pc') 
    (G : own_Go p e below (T.setTop (mkF m pc' Ls (.int z :: st))) P) : own_Go p e below (T.setTop (mkF m pc Ls (st))) P := by
  obtain ⟨locs, X, -, -⟩ := X
  subst hp
  exact own_by (fun _ => X.ldcInt B.1 B.2.2.2.1 (mvT B.2.1 w) (g := mkF m pc Ls st) rfl (hb B.2.2.2.2.2.2.2 d) _) G
theorem own_iadd (B : own_B p s m meth c Z own nm bytes maxL ret) (X : own_S p l e R s m args below meth c n0 T h cells slots) {x y z : Int32} (d : decode bytes pc = .ok (.iadd, 1)) (hp : pc + 1 = pc') (hz : x + y = z)
    (G : own_Go p e below (T.setTop (mkF m pc' Ls (.int z :: st))) P) : own_Go p e below (T.setTop (mkF m pc Ls (.int y :: .int x :: st))) P := by
  obtain ⟨locs, X, -, -⟩ := X
  subst hp
  subst hz
  exact own_by (fun _ => XS.iadd X.here B.1 rfl (hb B.2.2.2.2.2.2.2 d) rfl) G
theorem own_imul (B : own_B p s m meth c Z own nm bytes maxL ret) (X : own_S p l e R s m args below meth c n0 T h cells slots) {x y z : Int32} (d : decode bytes pc = .ok (.imul, 1)) (hp : pc + 1 = pc') (hz : x * y = z)
    (G : own_Go p e below (T.setTop (mkF m pc' Ls (.int z :: st))) P) : own_Go p e below (T.setTop (mkF m pc Ls (.int y :: .int x :: st))) P := by
  obtain ⟨locs, X, -, -⟩ := X
  subst hp
  subst hz
  exact own_by (fun _ => XS.imul X.here B.1 rfl (hb B.2.2.2.2.2.2.2 d) rfl) G
theorem own_iand (B : own_B p s m meth c Z own nm bytes maxL ret) (X : own_S p l e R s m args below meth c n0 T h cells slots) {x y z : Int32} (d : decode bytes pc = .ok (.iand, 1)) (hp : pc + 1 = pc') (hz : x &&& y = z)
    (G : own_Go p e below (T.setTop (mkF m pc' Ls (.int z :: st))) P) : own_Go p e below (T.setTop (mkF m pc Ls (.int y :: .int x :: st))) P := by
  obtain ⟨locs, X, -, -⟩ := X
  subst hp
  subst hz
  exact own_by (fun _ => XS.iand X.here B.1 rfl (hb B.2.2.2.2.2.2.2 d) rfl) G
theorem own_iushr (B : own_B p s m meth c Z own nm bytes maxL ret) (X : own_S p l e R s m args below meth c n0 T h cells slots) {x y z : Int32} (d : decode bytes pc = .ok (.iushr, 1)) (hp : pc + 1 = pc') (hz : (x.toUInt32 >>> (y &&& 31).toUInt32).toInt32 = z)
    (G : own_Go p e below (T.setTop (mkF m pc' Ls (.int z :: st))) P) : own_Go p e below (T.setTop (mkF m pc Ls (.int y :: .int x :: st))) P := by
  obtain ⟨locs, X, -, -⟩ := X
  subst hp
  subst hz
  exact own_by (fun _ => XS.iushr X.here B.1 rfl (hb B.2.2.2.2.2.2.2 d) rfl) G
theorem own_dup (B : own_B p s m meth c Z own nm bytes maxL ret) (X : own_S p l e R s m args below meth c n0 T h cells slots) {v : Value} (d : decode bytes pc = .ok (.dup, 1)) (hp : pc + 1 = pc') (hv : v.category = 1)
    (G : own_Go p e below (T.setTop (mkF m pc' Ls (v :: v :: st))) P) : own_Go p e below (T.setTop (mkF m pc Ls (v :: st))) P := by
  obtain ⟨locs, X, -, -⟩ := X
  subst hp
  exact own_by (fun _ => XS.dup X.here B.1 rfl (hb B.2.2.2.2.2.2.2 d) rfl hv) G
theorem own_pop (B : own_B p s m meth c Z own nm bytes maxL ret) (X : own_S p l e R s m args below meth c n0 T h cells slots) {v : Value} (d : decode bytes pc = .ok (.pop, 1)) (hp : pc + 1 = pc') (hv : v.category = 1)
    (G : own_Go p e below (T.setTop (mkF m pc' Ls (st))) P) : own_Go p e below (T.setTop (mkF m pc Ls (v :: st))) P := by
  obtain ⟨locs, X, -, -⟩ := X
  subst hp
  exact own_by (fun _ => XS.pop X.here B.1 rfl (hb B.2.2.2.2.2.2.2 d) rfl hv) G
theorem own_dup2 (B : own_B p s m meth c Z own nm bytes maxL ret) (X : own_S p l e R s m args below meth c n0 T h cells slots) {v w : Value} (d : decode bytes pc = .ok (.dup2, 1)) (hp : pc + 1 = pc') (hv : v.category = 1) (hw : w.category = 1)
    (G : own_Go p e below (T.setTop (mkF m pc' Ls (v :: w :: v :: w :: st))) P) : own_Go p e below (T.setTop (mkF m pc Ls (v :: w :: st))) P := by
  obtain ⟨locs, X, -, -⟩ := X
  subst hp
  refine own_by (fun t ht => ?_) G
  have hd := hb B.2.2.2.2.2.2.2 d
  have hx := B.1
  jvm_step X.here [X.here.top, hx, hd, hv, hw]
  exact ht
theorem own_goto (B : own_B p s m meth c Z own nm bytes maxL ret) (X : own_S p l e R s m args below meth c n0 T h cells slots) {o : Int} (d : decode bytes pc = .ok (.goto o, 3)) (ho : 0 ≤ (pc : Int) + o) (hp : ((pc : Int) + o).toNat = pc')
    (G : own_Go p e below (T.setTop (mkF m pc' Ls st)) P) : own_Go p e below (T.setTop (mkF m pc Ls st)) P := by
  obtain ⟨locs, X, -, -⟩ := X
  exact own_by (fun _ => XS.goto X.here B.1 rfl (pc0 := pc) rfl (hb B.2.2.2.2.2.2.2 d) ho hp) G
theorem own_ifYes (B : own_B p s m meth c Z own nm bytes maxL ret) (X : own_S p l e R s m args below meth c n0 T h cells slots) {cd : ClassFile.Cond} {o : Int} {x : Int32} (d : decode bytes pc = .ok (.ifCond cd o, 3)) (hc : ifCond.holds cd x = true) (ho : 0 ≤ (pc : Int) + o) (hp : ((pc : Int) + o).toNat = pc')
    (G : own_Go p e below (T.setTop (mkF m pc' Ls st)) P) : own_Go p e below (T.setTop (mkF m pc Ls (.int x :: st))) P := by
  obtain ⟨locs, X, -, -⟩ := X
  exact own_by (fun _ => XS.ifYes X.here B.1 rfl (pc0 := pc) rfl (hb B.2.2.2.2.2.2.2 d) rfl hc ho hp) G
theorem own_ifNo (B : own_B p s m meth c Z own nm bytes maxL ret) (X : own_S p l e R s m args below meth c n0 T h cells slots) {cd : ClassFile.Cond} {o : Int} {x : Int32} (d : decode bytes pc = .ok (.ifCond cd o, 3)) (hc : ifCond.holds cd x = false) (hp : pc + 3 = pc')
    (G : own_Go p e below (T.setTop (mkF m pc' Ls st)) P) : own_Go p e below (T.setTop (mkF m pc Ls (.int x :: st))) P := by
  obtain ⟨locs, X, -, -⟩ := X
  subst hp
  exact own_by (fun _ => XS.ifNo X.here B.1 rfl (hb B.2.2.2.2.2.2.2 d) rfl hc) G
theorem own_icmpYes (B : own_B p s m meth c Z own nm bytes maxL ret) (X : own_S p l e R s m args below meth c n0 T h cells slots) {cd : ClassFile.Cond} {o : Int} {x y : Int32} (d : decode bytes pc = .ok (.if_icmp cd o, 3)) (hc : if_icmp.holds cd x y = true) (ho : 0 ≤ (pc : Int) + o) (hp : ((pc : Int) + o).toNat = pc')
    (G : own_Go p e below (T.setTop (mkF m pc' Ls st)) P) : own_Go p e below (T.setTop (mkF m pc Ls (.int y :: .int x :: st))) P := by
  obtain ⟨locs, X, -, -⟩ := X
  exact own_by (fun _ => XS.icmpYes X.here B.1 rfl (pc0 := pc) rfl (hb B.2.2.2.2.2.2.2 d) rfl hc ho hp) G
theorem own_icmpNo (B : own_B p s m meth c Z own nm bytes maxL ret) (X : own_S p l e R s m args below meth c n0 T h cells slots) {cd : ClassFile.Cond} {o : Int} {x y : Int32} (d : decode bytes pc = .ok (.if_icmp cd o, 3)) (hc : if_icmp.holds cd x y = false) (hp : pc + 3 = pc')
    (G : own_Go p e below (T.setTop (mkF m pc' Ls st)) P) : own_Go p e below (T.setTop (mkF m pc Ls (.int y :: .int x :: st))) P := by
  obtain ⟨locs, X, -, -⟩ := X
  subst hp
  exact own_by (fun _ => XS.icmpNo X.here B.1 rfl (hb B.2.2.2.2.2.2.2 d) rfl hc) G
theorem own_arraylength (B : own_B p s m meth c Z own nm bytes maxL ret) (X : own_S p l e R s m args below meth c n0 T h cells slots) {a : Addr} {k : ClassId} {z : Int32} {vs : List Value} {dv : Value} {ty : FieldType} (V : Arv Z h a k ty z vs dv) (d : decode bytes pc = .ok (.arraylength, 1)) (hp : pc + 1 = pc')
    (G : own_Go p e below (T.setTop (mkF m pc' Ls (.int z :: st))) P) : own_Go p e below (T.setTop (mkF m pc Ls (.ref a :: st))) P := by
  obtain ⟨locs, X, eT, -⟩ := X
  subst hp
  obtain ⟨cl, A, -, S, N, -, -⟩ := V
  refine own_by (fun t ht => ?_) G
  refine X.arraylength B.1 (by rw [eT]; exact A.1) (State.isArrayOf_alike B.2.1.alike A.2.1) (g := mkF m pc Ls (.ref a :: st)) rfl rfl (hb B.2.2.2.2.2.2.2 d) _ ?_
  rw [len_of S N]; exact ht
theorem own_iaload (B : own_B p s m meth c Z own nm bytes maxL ret) (X : own_S p l e R s m args below meth c n0 T h cells slots) {a : Addr} {k : ClassId} {z : Int32} {vs : List Value} {dv : Value} {j : Int32} {v : Value} (V : Arv Z h a k .int z vs dv) (hj : ¬ j < 0 ∧ j < z) (hv : vs.getD j.toNatClampNeg dv = v) (d : decode bytes pc = .ok (.iaload, 1)) (hp : pc + 1 = pc')
    (G : own_Go p e below (T.setTop (mkF m pc' Ls (v :: st))) P) : own_Go p e below (T.setTop (mkF m pc Ls (.int j :: .ref a :: st))) P := by
  obtain ⟨locs, X, eT, -⟩ := X
  subst hp
  obtain ⟨cl, A, -, S, N, H, -⟩ := V
  have hin := inb_of S hj
  exact own_by (fun t => X.iaload B.1 (j := j) (v := v) (by rw [eT]; exact A.1) (State.isArrayOf_alike B.2.1.alike A.2.1) A.2.2 hin (H.at hin hv) (g := mkF m pc Ls (.int j :: .ref a :: st)) rfl rfl (hb B.2.2.2.2.2.2.2 d) t) G
theorem own_iastore (B : own_B p s m meth c Z own nm bytes maxL ret) (X : own_S p l e R s m args below meth c n0 T h cells slots) {a : Addr} {k : ClassId} {z : Int32} {vs : List Value} {dv : Value} {j : Int32} {x x' : Int32} (V : Arv Z h a k .int z vs dv) (ge : n0 ≤ a) (hj : ¬ j < 0 ∧ j < z) (i : Nat) (hi : j.toNatClampNeg = i) (hl : i < vs.length) (hz : x = x') (d : decode bytes pc = .ok (.iastore, 1)) (hp : pc + 1 = pc')
    (G : ∀ T' h', own_S p l e R s m args below meth c n0 T' h' cells slots → Wr h h' a i (.int x') → Arv Z h' a k .int z (vs.set i (.int x')) dv → own_Go p e below (T'.setTop (mkF m pc' Ls st)) P) : own_Go p e below (T.setTop (mkF m pc Ls (.int x :: .int j :: .ref a :: st))) P := by
  obtain ⟨locs, X, eT, N0⟩ := X
  subst hp hi hz
  obtain ⟨cl, A, q, S, N, H, F⟩ := V
  have hin := inb_of S hj
  obtain ⟨T', h', X', e', W, st'⟩ := stI X B.1 B.2.1 eT A (j := j) hin (g := mkF m pc Ls (.int x :: .int j :: .ref a :: st)) rfl rfl (hb B.2.2.2.2.2.2.2 d)
  exact own_by st' (G T' h' ⟨_, X', e', Fr.snoc X' N0 ge⟩ W (Arv.set A q S N H F rfl W _ rfl hl))
theorem own_newarray (B : own_B p s m meth c Z own nm bytes maxL ret) (X : own_S p l e R s m args below meth c n0 T h cells slots) {aty : ArrayType} {t : FieldType} (w : (Cond.arrayClass t).before a0 Z = true) (d : decode bytes pc = .ok (.newarray aty, 2)) (hp : pc + 2 = pc') (hty : newarray.typeOf aty = t) {z : Int32} (hz : ¬ z < 0) (cap : Nat) (hcap : z.toNatClampNeg ≤ cap) (hbig : cap * 8 ≤ 536870912) {k' n' : Nat} (hk : cells + 1 = k') (hn : slots + cap = n') (hkR : k' ≤ R.cells) (hnR : n' ≤ R.slots) (ad : String) (had : "[" ++ (newarray.typeOf aty).toString = ad) (dv : Value) (hdv : defaultValue t = dv)
    (G : ∀ T' h' b k, own_S p l e R s m args below meth c n0 T' h' k' n' → b = h.size → Ext h h' → Arv Z h' b k t z [] dv → Exa Z h' b ad → own_Go p e below (T'.setTop (mkF m pc' Ls (.ref b :: st))) P) : own_Go p e below (T.setTop (mkF m pc Ls (.int z :: st))) P := by
  obtain ⟨locs, X, eT, N0⟩ := X
  subst hp hk hn hdv hty
  obtain ⟨T', h', kA, X', e', E, A, A', st'⟩ := newPE X B.1 B.2.1 w eT (g := mkF m pc Ls (.int z :: st)) rfl (hb B.2.2.2.2.2.2.2 d) rfl hz (cap := cap) hcap hbig hkR hnR had
  exact own_by st' (G T' h' _ kA ⟨_, X', e', N0⟩ rfl E (Arv.new A hz) A')
theorem own_new (B : own_B p s m meth c Z own nm bytes maxL ret) (X : own_S p l e R s m args below meth c n0 T h cells slots) {C : String} {i n : Nat} (w : (Cond.classLink own i C).before a0 Z = true) (wi : (Cond.instantiable C n).before a0 Z = true) (wz : (Cond.initialized C).before a0 Z = true) (d : decode bytes pc = .ok (.new i, 3)) (hp : pc + 3 = pc') {k' n' : Nat} (hk : cells + 1 = k') (hn : slots + n = n') (hkR : k' ≤ R.cells) (hnR : n' ≤ R.slots)
    (G : ∀ T' h' b, own_S p l e R s m args below meth c n0 T' h' k' n' → b = h.size → Ext h h' → Exa Z h' b C → (∀ {O f t : String} {ty : FieldType}, Laid Z a0 C O f t → parseFieldDescriptor t = some ty → Fld Z h' b O f t (defaultValue ty)) → own_Go p e below (T'.setTop (mkF m pc' Ls (.ref b :: st))) P) : own_Go p e below (T.setTop (mkF m pc Ls st)) P := by
  obtain ⟨locs, X, eT, N0⟩ := X
  subst hp hk hn
  obtain ⟨T', h', X', e', E, A, D, -, st'⟩ := newO X B.1 B.2.1 B.2.2.2.1 w wi wz eT (g := mkF m pc Ls st) rfl (hb B.2.2.2.2.2.2.2 d) hkR hnR
  exact own_by st' (G T' h' _ ⟨_, X', e', N0⟩ rfl E A D)
theorem own_objinit (B : own_B p s m meth c Z own nm bytes maxL ret) (X : own_S p l e R s m args below meth c n0 T h cells slots) {i : Nat} {a : Addr} (w1 : (Cond.methodLink own i Lib.objectInit).before a0 Z = true) (w2 : (Cond.instanceMethod Lib.objectInit).before a0 Z = true) (w3 : (Cond.code Lib.objectInit ⟨#[0xb1]⟩ 1 none).before a0 Z = true) (d : decode bytes pc = .ok (.invokespecial i, 3)) (hp : pc + 3 = pc') (hsz : Ls.size = maxL) (hf : 1 ≤ R.frames) (W : Nat) (hW : (st.map fun v => v.category).sum ≤ W) (hl : W + 12 ≤ R.locals)
    (G : ∀ T', own_S p l e R s m args below meth c n0 T' h cells slots → own_Go p e below (T'.setTop (mkF m pc' Ls st)) P) : own_Go p e below (T.setTop (mkF m pc Ls (.ref a :: st))) P := by
  obtain ⟨locs, X, eT, N0⟩ := X
  subst hp
  obtain ⟨T', X', e', st'⟩ := initO X B.1 B.2.1 B.2.2.2.1 w1 w2 w3 eT (g := mkF m pc Ls (.ref a :: st)) rfl (by rw [B.2.2.1]; exact hsz) rfl (hb B.2.2.2.2.2.2.2 d) hf (W := W) (by show 2 * 0 + _ ≤ _; omega) hl
  exact own_by st' (G T' ⟨_, X', e', N0⟩)
theorem own_getfield (B : own_B p s m meth c Z own nm bytes maxL ret) (X : own_S p l e R s m args below meth c n0 T h cells slots) {R0 O n t : String} {host : String} {i : Nat} {a : Addr} {v : Value} (w : (Cond.fieldLink own i R0 n t).before a0 Z = true ∨ (Cond.fieldLinkNest own i R0 n t host).before a0 Z = true) (via : Via Z R0 O n t) (F : Fld Z h a O n t v) (d : decode bytes pc = .ok (.getfield i, 3)) (hp : pc + 3 = pc')
    (G : ∀ T', own_S p l e R s m args below meth c n0 T' h cells slots → own_Go p e below (T'.setTop (mkF m pc' Ls (v :: st))) P) : own_Go p e below (T.setTop (mkF m pc Ls (.ref a :: st))) P := by
  obtain ⟨locs, X, eT, N0⟩ := X
  subst hp
  obtain ⟨T', X', e', st'⟩ := getF X B.1 B.2.1 B.2.2.2.1 w via eT F (g := mkF m pc Ls (.ref a :: st)) rfl rfl (hb B.2.2.2.2.2.2.2 d)
  exact own_by st' (G T' ⟨_, X', e', N0⟩)
theorem own_putfield (B : own_B p s m meth c Z own nm bytes maxL ret) (X : own_S p l e R s m args below meth c n0 T h cells slots) {R0 O n t C : String} {host : String} {i kk : Nat} {ty : FieldType} {a : Addr} {v old : Value} (w : (Cond.fieldLink own i R0 n t).before a0 Z = true ∨ (Cond.fieldLinkNest own i R0 n t host).before a0 Z = true) (via : Via Z R0 O n t) (F : Fld Z h a O n t old) (E : Exa Z h a C) (ge : n0 ≤ a) (L : (Cond.lays C O n t).before a0 Z = true ∨ ((Cond.laysFinal C O n t).before a0 Z = true ∧ own = O ∧ nm = "<init>")) (wi : (Cond.instantiable C kk).before a0 Z = true) (hty : parseFieldDescriptor t = some ty) (hn : narrow ty v = v) (hf : fits ty v = true) (d : decode bytes pc = .ok (.putfield i, 3)) (hp : pc + 3 = pc')
    (G : ∀ T' h', own_S p l e R s m args below meth c n0 T' h' cells slots → Wr h h' a (Jvm.RoadKit.slotOf Z O n t) v → Fld Z h' a O n t v → own_Go p e below (T'.setTop (mkF m pc' Ls st)) P) : own_Go p e below (T.setTop (mkF m pc Ls (v :: .ref a :: st))) P := by
  obtain ⟨locs, X, eT, N0⟩ := X
  subst hp
  obtain ⟨T', h', X', e', W, st'⟩ := putF X B.1 B.2.1 B.2.2.2.1 w via eT F E (L.imp id fun q => ⟨q.1, q.2.1, B.2.2.2.2.2.2.1.trans q.2.2⟩) wi hty hn hf (g := mkF m pc Ls (v :: .ref a :: st)) rfl rfl (hb B.2.2.2.2.2.2.2 d)
  exact own_by st' (G T' h' ⟨_, X', e', Fr.snoc X' N0 ge⟩ W (F.same W))
theorem own_arraycopy (B : own_B p s m meth c Z own nm bytes maxL ret) (X : own_S p l e R s m args below meth c n0 T h cells slots) {i : Nat} (w1 : (Cond.methodLink own i Jvm.Stand.acN).before a0 Z = true) (w2 : (Cond.native Jvm.Stand.acN).before a0 Z = true) (w3 : (Cond.static Jvm.Stand.acN).before a0 Z = true) (w4 : (Cond.initialized "java/lang/System").before a0 Z = true) {a b : Addr} {k k' : ClassId} {ty : FieldType} {z z' sp dp nn : Int32} {vs vd us rs : List Value} {dv dd : Value} (A : Arv Z h a k ty z vs dv) (A' : Arv Z h b k' ty z' vd dd) (hty : refKind ty = false) (ge : n0 ≤ b) (h1 : ¬ sp < 0) (h2 : ¬ dp < 0) (h3 : ¬ nn < 0) (h4 : sp.toNatClampNeg + nn.toNatClampNeg ≤ z.toNatClampNeg) (h5 : dp.toNatClampNeg + nn.toNatClampNeg ≤ z'.toNatClampNeg) (hus : us = (List.range nn.toNatClampNeg).map fun i => vs.getD (sp.toNatClampNeg + i) dv) (hl : dp.toNatClampNeg + nn.toNatClampNeg ≤ vd.length) (hrs : vd.take dp.toNatClampNeg ++ us ++ vd.drop (dp.toNatClampNeg + nn.toNatClampNeg) = rs) (d : decode bytes pc = .ok (.invokestatic i, 3)) (hp : pc + 3 = pc') (hsz : Ls.size = maxL) (hf : 1 ≤ R.frames) (W : Nat) (hW : (st.map fun v => v.category).sum ≤ W) (hlo : W + (nativeFrameWords "java/lang/System" "arraycopy" 5 + 11) ≤ R.locals)
    (G : ∀ T' h', own_S p l e R s m args below meth c n0 T' h' cells slots → Keep h h' [b] → Arv Z h' b k' ty z' rs dd → own_Go p e below (T'.setTop (mkF m pc' Ls st)) P) : own_Go p e below (T.setTop (mkF m pc Ls (.int nn :: .int dp :: .ref b :: .int sp :: .ref a :: st))) P := by
  obtain ⟨locs, X, eT, N0⟩ := X
  subst hp hrs
  obtain ⟨T', h', L, X', e', N', K, V, st'⟩ := cpA X B.1 B.2.1 B.2.2.2.1 w1 w2 w3 w4 eT A A' (Or.inl ⟨rfl, hty⟩) h1 h2 h3 h4 h5 hus hl N0 ge (g := mkF m pc Ls (.int nn :: .int dp :: .ref b :: .int sp :: .ref a :: st)) rfl (by rw [B.2.2.1]; exact hsz) rfl (hb B.2.2.2.2.2.2.2 d) hf (W := W) (by show 2 * 0 + _ ≤ _; omega) hlo
  exact own_by st' (G T' h' ⟨_, X', e', N'⟩ K V)
theorem own_retI (B : own_B p s m meth c Z own nm bytes maxL (some .int)) (X : own_S p l e R s m args below meth c n0 T h cells slots) {Q : Option Value → Heap → Prop} {k n : Nat} {z : Int32} (d : decode bytes pc = .ok (.ireturn, 1)) (hk : cells ≤ k) (hn : slots ≤ n) (hq : Q (some (.int z)) h) : own_Go p e below (T.setTop (mkF m pc Ls (.int z :: st))) (own_P s below n0 Q k n) := by
  obtain ⟨locs, X, eT, N0⟩ := X
  obtain ⟨fs, hr, hrun, hended, hW, hsame⟩ := X.leave (v := (some (.int z))) (fun h => by rw [B.2.2.2.2.1] at h; cases h) B.2.2.2.2.2.1
  exact ⟨_, _, retOut X B.1 B.2.2.2.2.1 rfl (Or.inl ⟨rfl, Or.inl rfl, _, rfl⟩) (hb B.2.2.2.2.2.2.2 d) hr, hrun, hended, _, _, rfl, ⟨N0, by show Q _ T.heap; rw [eT]; exact hq⟩, ⟨_, rfl⟩, hW, hsame.mono hk hn⟩
theorem own_retN {t : FieldType} (B : own_B p s m meth c Z own nm bytes maxL (some t)) (X : own_S p l e R s m args below meth c n0 T h cells slots) {Q : Option Value → Heap → Prop} {k n : Nat} {z z' : Int32} (ht : t = .boolean ∨ t = .byte ∨ t = .char ∨ t = .short) (hz : nar t z = z') (d : decode bytes pc = .ok (.ireturn, 1)) (hk : cells ≤ k) (hn : slots ≤ n) (hq : Q (some (.int z')) h) : own_Go p e below (T.setTop (mkF m pc Ls (.int z :: st))) (own_P s below n0 Q k n) := by
  subst hz
  obtain ⟨locs, X, eT, N0⟩ := X
  obtain ⟨fs, hr, hrun, hended, hW, hsame⟩ := X.leave (v := (some (.int (nar t z)))) (fun h => by rw [B.2.2.2.2.1] at h; cases h) B.2.2.2.2.2.1
  exact ⟨_, _, retN X B.1 B.2.2.2.2.1 ht (hb B.2.2.2.2.2.2.2 d) hr, hrun, hended, _, _, rfl, ⟨N0, by show Q _ T.heap; rw [eT]; exact hq⟩, ⟨_, rfl⟩, hW, hsame.mono hk hn⟩
theorem own_retA {t : FieldType} (B : own_B p s m meth c Z own nm bytes maxL (some t)) (X : own_S p l e R s m args below meth c n0 T h cells slots) {Q : Option Value → Heap → Prop} {k n : Nat} {w : Value} (ht : t.isReference = true) (hw : w.isRef = true) (hnw : narrow t w = w) (d : decode bytes pc = .ok (.areturn, 1)) (hk : cells ≤ k) (hn : slots ≤ n) (hq : Q (some w) h) : own_Go p e below (T.setTop (mkF m pc Ls (w :: st))) (own_P s below n0 Q k n) := by
  obtain ⟨locs, X, eT, N0⟩ := X
  obtain ⟨fs, hr, hrun, hended, hW, hsame⟩ := X.leave (v := (some w)) (fun h => by rw [B.2.2.2.2.1] at h; cases h) B.2.2.2.2.2.1
  exact ⟨_, _, retOut X B.1 B.2.2.2.2.1 hnw (Or.inr (Or.inr (Or.inr (Or.inr ⟨rfl, ht, hw⟩)))) (hb B.2.2.2.2.2.2.2 d) hr, hrun, hended, _, _, rfl, ⟨N0, by show Q _ T.heap; rw [eT]; exact hq⟩, ⟨_, rfl⟩, hW, hsame.mono hk hn⟩
theorem own_ret (B : own_B p s m meth c Z own nm bytes maxL none) (X : own_S p l e R s m args below meth c n0 T h cells slots) {Q : Option Value → Heap → Prop} {k n : Nat} (d : decode bytes pc = .ok (.return_, 1)) (hk : cells ≤ k) (hn : slots ≤ n) (hq : Q none h) : own_Go p e below (T.setTop (mkF m pc Ls [])) (own_P s below n0 Q k n) := by
  obtain ⟨locs, X, eT, N0⟩ := X
  obtain ⟨fs, hr, hrun, hended, hW, hsame⟩ := X.leave (v := none) (fun _ => rfl) B.2.2.2.2.2.1
  exact ⟨_, _, X.returnOut B.1 B.2.2.2.2.1 (hb B.2.2.2.2.2.2.2 d) hr, hrun, hended, _, _, rfl, ⟨N0, by show Q _ T.heap; rw [eT]; exact hq⟩, ⟨_, rfl⟩, hW, hsame.mono hk hn⟩
theorem own_enter {y : MethodName} {rm : Room} {ws : List Jvm.Cond} {as' : Array Value} {Q : Option Value → Heap → Prop} {F : MethodId → JFrame} (hpl : plainFor y = true) (hF : ∀ m, entryFrame m as' maxL = F m)
    (body : ∀ p e s m below meth c s₁, own_B p s m meth c Z y.cls y.name bytes maxL ret → own_S p l e rm s m as' below meth c n0 s₁ h0 0 0 → own_Go p e below (s₁.setTop (F m)) (own_P s below n0 Q rm.cells rm.slots)) :
    MetFree l y (head1 (Jvm.Cond.code y bytes maxL ret :: ws) rm) (fun a U => a = as' ∧ Z.Warmed39 U.vm ∧ U.heap = h0) (fun _ _ _ _ _ => True) (fun _ U o U' => ∃ v L, o = .returned v ∧ (Fr n0 L ∧ Q v U'.heap) ∧ FrameEnd U o U' L rm.cells rm.slots) := by
  refine MetFree.of_bodySF hpl hisR ?_
  intro p e s m args below meth c s₁ Bd hml0 hP hK
  obtain ⟨rfl, hZ, hh⟩ := hP
  have e0 : s₁.heap = h0 := by rw [← hh, Bd.state]; rfl
  have nm := (name_of_methodNamed Bd.named Bd.method).1
  obtain ⟨a, o, h1, h2⟩ := body p e s m below meth c s₁ ⟨Bd.exec, hZ, hml0, findClass_of_methodNamed Bd.named, Bd.returns, Bd.notSynchronized, nm, Bd.bytes⟩ ⟨[], Stand.of_body Bd, e0, Fr.nil n0⟩
  exact ⟨a, o, castTop (hF m) h1, h2⟩
theorem own_callS (B : own_B p s m meth c Z own nm bytes maxL ret) (X : own_S p l e R s m args below meth c n0 T h cells slots) {i : Nat} {y : MethodName} {yb : ByteArray} {yl : Nat} {yr : Option FieldType} (w1 : (Cond.methodLink own i y).before a0 Z = true) (w2 : (Cond.static y).before a0 Z = true) (w3 : (Cond.initialized y.cls).before a0 Z = true) (w4 : (Cond.code y yb yl yr).before a0 Z = true) (hy : y.cls ≠ "java/lang/invoke/MethodHandle" ∧ y.cls ≠ "java/lang/invoke/VarHandle") {rm : Room} {Q : Option Value → Heap → Prop} (argsL rest : List Value)
    (hM : MetFree l y (head1 [Jvm.Cond.code y yb yl yr] rm) (fun b U => b = argsL.toArray ∧ Z.Warmed39 U.vm ∧ U.heap = h) (fun _ _ _ _ _ => True) (fun _ U o U' => ∃ v L, o = .returned v ∧ (Fr n0 L ∧ Q v U'.heap) ∧ FrameEnd U o U' L rm.cells rm.slots))
    (W : Nat) (hf : rm.frames + 1 ≤ R.frames) (hl : W + (yl + 11) + rm.locals ≤ R.locals) (hsz : Ls.size = maxL) {ps : List FieldType} {rt : Option FieldType} (hpd : parseMethodDescriptor y.desc = some ⟨ps, rt⟩) (hln : argsL.length = ps.length) (hst : st = argsL.reverse ++ rest) (hW : (rest.map fun v => v.category).sum ≤ W) (d : decode bytes pc = .ok (.invokestatic i, 3)) (hp : pc + 3 = pc') {k' n' : Nat} (hk : cells + rm.cells = k') (hn : slots + rm.slots = n') (hkR : k' ≤ R.cells) (hnR : n' ≤ R.slots)
    (G : ∀ T' v h', own_S p l e R s m args below meth c n0 T' h' k' n' → Q v h' → own_Go p e below (T'.setTop (mkF m pc' Ls (v.toList ++ rest))) P) : own_Go p e below (T.setTop (mkF m pc Ls st)) P := by
  obtain ⟨locs, X, eT, N0⟩ := X
  subst hp hk hn
  have bk := backOf (p := p) (e := e) (below := below) (args := args) (len := 3) (W := W) (Q := fun v h' L => Fr n0 L ∧ Q v h') hM B.2.1 w4 w3 hf hl
  obtain ⟨v, vm₁, ⟨T', L', k1, n1⟩, hW1, X', ⟨Lc, hQ, l1, y1, z1⟩, stp⟩ := Jvm.LawKit.callS X B.1 (y := y) B.2.2.2.1 (mvT B.2.1 w1) (mvT B.2.1 w2) (mvT B.2.1 w3) (mvT B.2.1 w4) hy bk (g := mkF m pc Ls st) rfl (by rw [B.2.2.1]; exact hsz) (argsL := argsL) (rest := rest) (lenOf hpd hln) hst (by show 2 * 0 + _ ≤ _; omega) (hb B.2.2.2.2.2.2.2 d) (fun _ _ => ⟨rfl, eT, hkR, hnR⟩)
  dsimp only [Pt.U, Pt.locs, Pt.cells, Pt.slots] at X' l1 y1 z1 stp hQ
  subst l1 y1 z1
  exact own_by stp (G T' v _ ⟨_, X', rfl, N0.app hQ.1⟩ hQ.2)
theorem own_callI (B : own_B p s m meth c Z own nm bytes maxL ret) (X : own_S p l e R s m args below meth c n0 T h cells slots) {i : Nat} {y : MethodName} {yb : ByteArray} {yl : Nat} {yr : Option FieldType} (hyn : y.name = "<init>") (hyr : yr = none) (w1 : (Cond.methodLink own i y).before a0 Z = true) (w2 : (Cond.instanceMethod y).before a0 Z = true) (w3 : (Cond.initialized y.cls).before a0 Z = true) (w4 : (Cond.code y yb yl yr).before a0 Z = true) (hy : y.cls ≠ "java/lang/invoke/MethodHandle" ∧ y.cls ≠ "java/lang/invoke/VarHandle") {rm : Room} {Q : Option Value → Heap → Prop} {a : Addr} (argsL rest : List Value)
    (hM : MetFree l y (head1 [Jvm.Cond.code y yb yl yr] rm) (fun b U => b = (Value.ref a :: argsL).toArray ∧ Z.Warmed39 U.vm ∧ U.heap = h) (fun _ _ _ _ _ => True) (fun _ U o U' => ∃ v L, o = .returned v ∧ (Fr n0 L ∧ Q v U'.heap) ∧ FrameEnd U o U' L rm.cells rm.slots))
    (W : Nat) (hf : rm.frames + 1 ≤ R.frames) (hl : W + (yl + 11) + rm.locals ≤ R.locals) (hsz : Ls.size = maxL) {ps : List FieldType} {rt : Option FieldType} (hpd : parseMethodDescriptor y.desc = some ⟨ps, rt⟩) (hln : argsL.length = ps.length) (hst : st = argsL.reverse ++ .ref a :: rest) (hW : (rest.map fun v => v.category).sum ≤ W) (d : decode bytes pc = .ok (.invokespecial i, 3)) (hp : pc + 3 = pc') {k' n' : Nat} (hk : cells + rm.cells = k') (hn : slots + rm.slots = n') (hkR : k' ≤ R.cells) (hnR : n' ≤ R.slots)
    (G : ∀ T' v h', own_S p l e R s m args below meth c n0 T' h' k' n' → Q v h' → own_Go p e below (T'.setTop (mkF m pc' Ls (v.toList ++ rest))) P) : own_Go p e below (T.setTop (mkF m pc Ls st)) P := by
  obtain ⟨locs, X, eT, N0⟩ := X
  subst hp hk hn
  have bk := backOf (p := p) (e := e) (below := below) (args := args) (len := 3) (W := W) (Q := fun v h' L => Fr n0 L ∧ Q v h') hM B.2.1 w4 w3 hf hl
  subst hyr
  obtain ⟨v, vm₁, ⟨T', L', k1, n1⟩, hW1, X', ⟨Lc, hQ, l1, y1, z1⟩, stp⟩ := X.specialBack B.1 (y := y) hyn B.2.2.2.1 (mvT B.2.1 w1) (mvT B.2.1 w2) (mvT B.2.1 w4) hy bk (g := mkF m pc Ls st) rfl (by rw [B.2.2.1]; exact hsz) (Steps.refl _) (a := a) (argsL := argsL) (rest := rest) (lenOf hpd hln) hst (by show 2 * 0 + _ ≤ _; omega) (hb B.2.2.2.2.2.2.2 d) (fun _ _ => ⟨rfl, eT, hkR, hnR⟩)
  dsimp only [Pt.U, Pt.locs, Pt.cells, Pt.slots] at X' l1 y1 z1 stp hQ
  subst l1 y1 z1
  exact own_by (fun _ k => stp.trans k) (G T' v _ ⟨_, X', rfl, N0.app hQ.1⟩ hQ.2)
theorem own_callV (B : own_B p s m meth c Z own nm bytes maxL ret) (X : own_S p l e R s m args below meth c n0 T h cells slots) {i : Nat} {a : Addr} {y : MethodName} {yb : ByteArray} {yl : Nat} {yr : Option FieldType} {C : String} (w1 : (Cond.methodLink own i y).before a0 Z = true) (w2 : (Cond.declares y).before a0 Z = true) (w5 : (Cond.selects C y y).before a0 Z = true) (w6 : (Cond.instanceMethod y).before a0 Z = true) (w3 : (Cond.initialized y.cls).before a0 Z = true) (w4 : (Cond.code y yb yl yr).before a0 Z = true) (E : Exa Z h a C) (hy : y.cls ≠ "java/lang/invoke/MethodHandle" ∧ y.cls ≠ "java/lang/invoke/VarHandle") {rm : Room} {Q : Option Value → Heap → Prop} (argsL rest : List Value)
    (hM : MetFree l y (head1 [Jvm.Cond.code y yb yl yr] rm) (fun b U => b = (Value.ref a :: argsL).toArray ∧ Z.Warmed39 U.vm ∧ U.heap = h) (fun _ _ _ _ _ => True) (fun _ U o U' => ∃ v L, o = .returned v ∧ (Fr n0 L ∧ Q v U'.heap) ∧ FrameEnd U o U' L rm.cells rm.slots))
    (W : Nat) (hf : rm.frames + 1 ≤ R.frames) (hl : W + (yl + 11) + rm.locals ≤ R.locals) (hsz : Ls.size = maxL) {ps : List FieldType} {rt : Option FieldType} (hpd : parseMethodDescriptor y.desc = some ⟨ps, rt⟩) (hln : argsL.length = ps.length) (hst : st = argsL.reverse ++ .ref a :: rest) (hW : (rest.map fun v => v.category).sum ≤ W) (d : decode bytes pc = .ok (.invokevirtual i, 3)) (hp : pc + 3 = pc') {k' n' : Nat} (hk : cells + rm.cells = k') (hn : slots + rm.slots = n') (hkR : k' ≤ R.cells) (hnR : n' ≤ R.slots)
    (G : ∀ T' v h', own_S p l e R s m args below meth c n0 T' h' k' n' → Q v h' → own_Go p e below (T'.setTop (mkF m pc' Ls (v.toList ++ rest))) P) : own_Go p e below (T.setTop (mkF m pc Ls st)) P := by
  obtain ⟨locs, X, eT, N0⟩ := X
  subst hp hk hn
  have bk := backOf (p := p) (e := e) (below := below) (args := args) (len := 3) (W := W) (Q := fun v h' L => Fr n0 L ∧ Q v h') hM B.2.1 w4 w3 hf hl
  obtain ⟨cq, kq, qa, qb, qc⟩ := isOf B.2.1 eT E
  obtain ⟨v, vm₁, ⟨T', L', k1, n1⟩, hW1, X', ⟨Lc, hQ, l1, y1, z1⟩, stp⟩ := X.virtualBack B.1 (y := y) (z := y) B.2.2.2.1 (mvT B.2.1 w1) (mvT B.2.1 w2) (notFace_of_selects (args := #[]) (mvT B.2.1 w5)) (mvT B.2.1 w5) (mvT B.2.1 w6) hy bk qa qc (g := mkF m pc Ls st) rfl (by rw [B.2.2.1]; exact hsz) (Steps.refl _) (argsL := argsL) (rest := rest) (lenOf hpd hln) hst (by show 2 * 0 + _ ≤ _; omega) (hb B.2.2.2.2.2.2.2 d) (fun _ _ => ⟨rfl, eT, hkR, hnR⟩)
  dsimp only [Pt.U, Pt.locs, Pt.cells, Pt.slots] at X' l1 y1 z1 stp hQ
  subst l1 y1 z1
  exact own_by (fun _ k => stp.trans k) (G T' v _ ⟨_, X', rfl, N0.app hQ.1⟩ hQ.2)
theorem own_callP (B : own_B p s m meth c Z own nm bytes maxL ret) (X : own_S p l e R s m args below meth c n0 T h cells slots) {i : Nat} {a : Addr} {y : MethodName} {yb : ByteArray} {yl : Nat} {yr : Option FieldType} {n : Nat} (w1 : (Cond.methodLink own i y).before a0 Z = true) (w2 : (Cond.instanceMethod y).before a0 Z = true) (w5 : (Cond.privateMethod y).before a0 Z = true) (w6 : (Cond.instantiable y.cls n).before a0 Z = true) (w3 : (Cond.initialized y.cls).before a0 Z = true) (w4 : (Cond.code y yb yl yr).before a0 Z = true) (E : Exa Z h a y.cls) (hy : y.cls ≠ "java/lang/invoke/MethodHandle" ∧ y.cls ≠ "java/lang/invoke/VarHandle") {rm : Room} {Q : Option Value → Heap → Prop} (argsL rest : List Value)
    (hM : MetFree l y (head1 [Jvm.Cond.code y yb yl yr] rm) (fun b U => b = (Value.ref a :: argsL).toArray ∧ Z.Warmed39 U.vm ∧ U.heap = h) (fun _ _ _ _ _ => True) (fun _ U o U' => ∃ v L, o = .returned v ∧ (Fr n0 L ∧ Q v U'.heap) ∧ FrameEnd U o U' L rm.cells rm.slots))
    (W : Nat) (hf : rm.frames + 1 ≤ R.frames) (hl : W + (yl + 11) + rm.locals ≤ R.locals) (hsz : Ls.size = maxL) {ps : List FieldType} {rt : Option FieldType} (hpd : parseMethodDescriptor y.desc = some ⟨ps, rt⟩) (hln : argsL.length = ps.length) (hst : st = argsL.reverse ++ .ref a :: rest) (hW : (rest.map fun v => v.category).sum ≤ W) (d : decode bytes pc = .ok (.invokevirtual i, 3)) (hp : pc + 3 = pc') {k' n' : Nat} (hk : cells + rm.cells = k') (hn : slots + rm.slots = n') (hkR : k' ≤ R.cells) (hnR : n' ≤ R.slots)
    (G : ∀ T' v h', own_S p l e R s m args below meth c n0 T' h' k' n' → Q v h' → own_Go p e below (T'.setTop (mkF m pc' Ls (v.toList ++ rest))) P) : own_Go p e below (T.setTop (mkF m pc Ls st)) P := by
  obtain ⟨locs, X, eT, N0⟩ := X
  subst hp hk hn
  have bk := backOf (p := p) (e := e) (below := below) (args := args) (len := 3) (W := W) (Q := fun v h' L => Fr n0 L ∧ Q v h') hM B.2.1 w4 w3 hf hl
  obtain ⟨cq, q1, q2⟩ := E.cell
  have hpr := Cond.privateMethod_at (mvP B.2.1 w5 (args := #[]))
  have wi : (Cond.instantiable y.cls n).before #[] s = true := mvT B.2.1 w6
  obtain ⟨ci, ki, i1, i2, i3, i4, -⟩ := Cond.instantiable_spec wi
  have hsel : (Cond.selects y.cls y y).before args s = true := selects_self_of_private i1 i2 (by cases hh : ki.isInterface <;> simp [hh] at i4 ⊢) hpr (mvT B.2.1 w2) hy
  obtain ⟨v, vm₁, ⟨T', L', k1, n1⟩, hW1, X', ⟨Lc, hQ, l1, y1, z1⟩, stp⟩ := X.privateBack B.1 (y := y) B.2.2.2.1 (mvT B.2.1 w1) (mvT B.2.1 w2) hsel hpr (mvT B.2.1 w4) hy bk (g := mkF m pc Ls st) rfl (by rw [B.2.2.1]; exact hsz) (Steps.refl _) (a := a) (by rw [eT]; exact q1) q2 (argsL := argsL) (rest := rest) (lenOf hpd hln) hst (by show 2 * 0 + _ ≤ _; omega) (hb B.2.2.2.2.2.2.2 d) (fun _ _ => ⟨rfl, eT, hkR, hnR⟩)
  dsimp only [Pt.U, Pt.locs, Pt.cells, Pt.slots] at X' l1 y1 z1 stp hQ
  subst l1 y1 z1
  exact own_by (fun _ k => stp.trans k) (G T' v _ ⟨_, X', rfl, N0.app hQ.1⟩ hQ.2)
theorem own_sz {h1 : Heap} {ws : List Addr} {b : Addr} (K : Keep h0 h1 ws) (g : b = h1.size) : h0.size ≤ b := g ▸ K.1
theorem own_ne {h1 : Heap} {x b : Addr} (q : x < h1.size) (g : b = h1.size) : x ≠ b := fun u => by rw [u, g] at q; exact Nat.lt_irrefl _ q
theorem own_ne' {h1 : Heap} {x b : Addr} (q : x < h1.size) (g : h1.size ≤ b) : x ≠ b := Nat.ne_of_lt (Nat.lt_of_lt_of_le q g)
end OwnKit
section OwnNum
theorem own_w {a0 : Array Value} {Z : State} (hw : ∀ d ∈ tables_1, d.before a0 Z = true) (i : Nat) {d : Jvm.Cond} (hd : tables_1[i]? = some d) : d.before a0 Z = true := hw _ (List.mem_of_getElem? hd)
theorem own_irr (x : Int32) : ¬ x < x := by rw [Int32.lt_iff_toInt_lt]; omega
theorem own_lt {x y : Int32} (h : x < y) : x.toInt < y.toInt := Int32.lt_iff_toInt_lt.mp h
theorem own_nlt {x y : Int32} (h : ¬ x < y) : ¬ x.toInt < y.toInt := fun q => h (Int32.lt_iff_toInt_lt.mpr q)
theorem own_eqI {x y : Int32} (h : x.toInt = y.toInt) : x = y := Int32.toInt_inj.mp h
theorem own_o_mask {x m z : Int32} (h : x &&& m = z) (k : Nat) (hk : k ≤ 31) (hm : m.toBitVec.toNat = 2 ^ k - 1) : z.toInt = x.toInt % (2 ^ k : Nat) := h ▸ c_mask x m k hk hm
theorem own_o_and {x m z : Int32} (h : x &&& m = z) (hm : 0 ≤ m.toInt) : 0 ≤ z.toInt ∧ z.toInt ≤ m.toInt := h ▸ c_and x m hm
end OwnNum
set_option maxRecDepth 65536
set_option maxHeartbeats 4000000
abbrev own_M (l : Launch) (Z : State) (y : MethodName) (bytes : ByteArray) (maxL : Nat) (ret : Option FieldType) (ws : List Jvm.Cond) (rm : Room) (A : Array Value) (h0 : Heap) (n0 : Nat) (Q : Option Value → Heap → Prop) : Prop :=
  MetFree l y (head1 (Jvm.Cond.code y bytes maxL ret :: ws) rm) (fun a U => a = A ∧ Z.Warmed39 U.vm ∧ U.heap = h0) (fun _ _ _ _ _ => True) (fun _ U o U' => ∃ v L, o = .returned v ∧ (Fr n0 L ∧ Q v U'.heap) ∧ FrameEnd U o U' L rm.cells rm.slots)
theorem own_enter' {l : Launch} {Z : State} {bytes : ByteArray} {maxL : Nat} {ret : Option FieldType} {h0 : Heap} {n0 : Nat} {y : MethodName} {rm : Room} {ws : List Jvm.Cond} {as' : Array Value} {Q : Option Value → Heap → Prop} {F : MethodId → JFrame} (hpl : plainFor y = true)
    (body : ∀ p e s m below meth c s₁, own_B p s m meth c Z y.cls y.name bytes maxL ret → own_S p l e rm s m as' below meth c n0 s₁ h0 0 0 → own_Go p e below (s₁.setTop (F m)) (own_P s below n0 Q rm.cells rm.slots))
    (hF : ∀ m, entryFrame m as' maxL = F m := by (intro m; first | (simp [entryFrame, mkF, argsToLocals, Value.category]; done) | rfl)) :
    own_M l Z y bytes maxL ret ws rm as' h0 n0 Q := own_enter hpl hF body
def own_F_step (a0 : Int32) (a1 : Int32) (a2 : Int32) (a3 : Int32) (a4 : Int32) : Int32 := (if a1 = a2 then a0 else (if a4 < a3 then (if a0 = a1 then a1 else (if a0 = a2 then a1 else a0)) else (if a3 = a4 then (if a1 < a2 then (if a0 = a1 then a1 else (if a0 = a2 then a1 else a0)) else (if a0 = a1 then a2 else (if a0 = a2 then a2 else a0))) else (if a0 = a1 then a2 else (if a0 = a2 then a2 else a0)))))
def own_F_grown (a0 : Int32) (a1 : Int32) (a2 : Int32) (a3 : Int32) (a4 : Int32) (a5 : Int32) : Int32 := (if a2 = a3 then a1 else (if a0 = a2 then (a4 + a5) else (if a0 = a3 then (a4 + a5) else a1)))
def own_G_step (a0 : Int32) (a1 : Int32) (a2 : Int32) (a3 : Int32) (a4 : Int32) : Int32 := if a1 = a2 then a0 else if a4 < a3 ∨ (a3 = a4 ∧ a1 < a2) then (if a0 = a1 ∨ a0 = a2 then a1 else a0) else (if a0 = a1 ∨ a0 = a2 then a2 else a0)
def own_G_grown (a0 : Int32) (a1 : Int32) (a2 : Int32) (a3 : Int32) (a4 : Int32) (a5 : Int32) : Int32 := if a2 = a3 then a1 else if a0 = a2 ∨ a0 = a3 then a4 + a5 else a1
theorem own_step_g (a0 a1 a2 a3 a4 : Int32) : own_F_step a0 a1 a2 a3 a4 = own_G_step a0 a1 a2 a3 a4 := by
  unfold own_F_step own_G_step
  (repeat' split) <;> simp_all [-Int32.not_lt]
theorem own_grown_g (a0 a1 a2 a3 a4 a5 : Int32) : own_F_grown a0 a1 a2 a3 a4 a5 = own_G_grown a0 a1 a2 a3 a4 a5 := by
  unfold own_F_grown own_G_grown
  (repeat' split) <;> simp_all [-Int32.not_lt]
def own_In (n x : Int32) : Prop := ¬ x < 0 ∧ x < n
def own_upd (q : Int32 → Int32) (a v : Int32) : Int32 → Int32 := fun x => if x = a then v else q x
def own_it (q : Int32 → Int32) : Nat → Int32 → Int32
  | 0, x => x
  | k + 1, x => own_it q k (q x)
def own_Inv (n : Int32) (q s R S : Int32 → Int32) (k : Nat) : Prop := (∀ x, own_it q k x = R x) ∧ (∀ x, q (R x) = R x) ∧ (∀ x, R (q x) = R x) ∧ (∀ x, s (R x) = S x) ∧ (∀ x, own_In n x → own_In n (q x)) ∧ (∀ x, ¬ own_In n x → q x = x ∧ s x = 1) ∧ (∀ x, own_In 8 x → own_In 8 (R x)) ∧ ¬ n < 0 ∧ n < 15
def own_nR (R S : Int32 → Int32) (c d : Int32) : Int32 → Int32 := fun x => own_F_step (R x) (R c) (R d) (S c) (S d)
def own_nS (R S : Int32 → Int32) (c d : Int32) : Int32 → Int32 := fun x => own_F_grown (R x) (S x) (R c) (R d) (S c) (S d)
theorem own_upd_at (q : Int32 → Int32) (a v : Int32) : own_upd q a v a = v := if_pos rfl
theorem own_upd_ne {q : Int32 → Int32} {a v x : Int32} (h : ¬ x = a) : own_upd q a v x = q x := if_neg h
theorem own_it_fix {q : Int32 → Int32} {x : Int32} (h : q x = x) : ∀ k, own_it q k x = x
  | 0 => rfl
  | k + 1 => by rw [own_it, h]; exact own_it_fix h k
theorem own_it_in {n : Int32} {q : Int32 → Int32} (h : ∀ x, own_In n x → own_In n (q x)) : ∀ k x, own_In n x → own_In n (own_it q k x)
  | 0, _, hx => hx
  | k + 1, x, hx => own_it_in h k (q x) (h x hx)
theorem own_inv_in {n : Int32} {q s R S : Int32 → Int32} {k : Nat} (I : own_Inv n q s R S k) {x : Int32} (hx : own_In n x) : own_In n (R x) := by
  rw [← I.1 x]; exact own_it_in I.2.2.2.2.1 k x hx
theorem own_inv_out {n : Int32} {q s R S : Int32 → Int32} {k : Nat} (I : own_Inv n q s R S k) {x : Int32} (hx : ¬ own_In n x) : R x = x := by
  rw [← I.1 x]; exact own_it_fix (I.2.2.2.2.2.1 x hx).1 k
theorem own_inv_id {n : Int32} {q s R S : Int32 → Int32} {k : Nat} (I : own_Inv n q s R S k) (x : Int32) : R (R x) = R x := by
  rw [← I.1 (R x)]; exact own_it_fix (I.2.1 x) k
theorem own_it_upd {n : Int32} {q s R S : Int32 → Int32} {k : Nat} (I : own_Inv n q s R S k) (a : Int32) : ∀ j x, own_it q j x = R x → own_it (own_upd q a (R a)) j x = R x := by
  have hid := own_inv_id I
  obtain ⟨i1, i2, i3, i4, i5, i6, i7, i8⟩ := I
  have f : ∀ x, own_upd q a (R a) (R x) = R x := fun x => by
    by_cases e : R x = a
    · rw [e, own_upd_at, ← e, hid]
    · rw [own_upd_ne e, i2]
  intro j
  induction j with
  | zero => intro x h; exact h
  | succ j ih =>
    intro x h
    rw [own_it]
    by_cases e : x = a
    · rw [e, own_upd_at]; exact own_it_fix (f a) j
    · rw [own_upd_ne e]
      rw [own_it] at h
      rw [ih (q x) (h.trans (i3 x).symm), i3]
theorem own_inv_comp {n : Int32} {q s R S : Int32 → Int32} {k : Nat} (I : own_Inv n q s R S k) {a : Int32} (ha : own_In n a) : own_Inv n (own_upd q a (R a)) s R S k := by
  have hid := own_inv_id I
  have hin := own_inv_in I ha
  obtain ⟨i1, i2, i3, i4, i5, i6, i7, i8⟩ := I
  have f : ∀ x, own_upd q a (R a) (R x) = R x := fun x => by
    by_cases e : R x = a
    · rw [e, own_upd_at, ← e, hid]
    · rw [own_upd_ne e, i2]
  have g : ∀ x, R (own_upd q a (R a) x) = R x := fun x => by
    by_cases e : x = a
    · rw [e, own_upd_at, hid]
    · rw [own_upd_ne e, i3]
  have w : ∀ j x, own_it q j x = R x → own_it (own_upd q a (R a)) j x = R x := by
    intro j
    induction j with
    | zero => intro x h; exact h
    | succ j ih =>
      intro x h
      rw [own_it]
      by_cases e : x = a
      · rw [e, own_upd_at]; exact own_it_fix (f a) j
      · rw [own_upd_ne e]
        rw [own_it] at h
        rw [ih (q x) (h.trans (i3 x).symm), i3]
  refine ⟨fun x => w k x (i1 x), f, g, i4, fun x hx => ?_, fun x hx => ?_, i7, i8⟩
  · by_cases e : x = a
    · rw [e, own_upd_at]; exact hin
    · rw [own_upd_ne e]; exact i5 x hx
  · have e : ¬ x = a := fun e => hx (e ▸ ha)
    rw [own_upd_ne e]; exact i6 x hx
theorem own_inv_grow {n n' : Int32} {q s R S : Int32 → Int32} {k : Nat} (I : own_Inv n q s R S k) (h : ¬ n' < n) (h' : n' < 15) : own_Inv n' q s R S k := by
  obtain ⟨i1, i2, i3, i4, i5, i6, i7, i8, i9⟩ := I
  have up : ∀ x, own_In n x → own_In n' x := fun x hx => ⟨hx.1, by have := hx.2; rw [Int32.lt_iff_toInt_lt] at h this ⊢; omega⟩
  refine ⟨i1, i2, i3, i4, fun x hx => ?_, fun x hx => i6 x fun y => hx (up x y), i7, by rw [Int32.lt_iff_toInt_lt] at h i8 ⊢; omega, h'⟩
  by_cases e : own_In n x
  · exact up _ (i5 x e)
  · rw [(i6 x e).1]; exact hx
theorem own_inv_eq {n : Int32} {q s R S : Int32 → Int32} {k : Nat} {c d : Int32} (I : own_Inv n q s R S k) (e : R c = R d) : own_Inv n q s (own_nR R S c d) (own_nS R S c d) k := by
  have h1 : own_nR R S c d = R := funext fun x => by rw [own_nR, own_step_g, own_G_step, if_pos e]
  have h2 : own_nS R S c d = S := funext fun x => by rw [own_nS, own_grown_g, own_G_grown, if_pos e]
  rw [h1, h2]; exact I
/-- two roots made one -/
theorem own_inv_link {n : Int32} {q s R S R' S' : Int32 → Int32} {k : Nat} {a b : Int32} (I : own_Inv n q s R S k) (ha : R a = a) (hb : R b = b) (ne : ¬ a = b) (na : own_In n a) (nb : own_In n b) (ea : own_In 8 a) (hR : ∀ x, R' x = if R x = a ∨ R x = b then a else R x) (hS : ∀ x, S' x = if R x = a ∨ R x = b then s a + s b else S x) : own_Inv n (own_upd q b a) (own_upd s a (s a + s b)) R' S' (k + 1) := by
  have hid := own_inv_id I
  obtain ⟨i1, i2, i3, i4, i5, i6, i7, i8⟩ := I
  have qa : q a = a := by have := i2 a; rwa [ha] at this
  have qb : q b = b := by have := i2 b; rwa [hb] at this
  have ua : own_upd q b a a = a := by rw [own_upd_ne ne]; exact qa
  have w1 : ∀ j x, own_it q j x = R x → ¬ R x = b → own_it (own_upd q b a) j x = R x := by
    intro j
    induction j with
    | zero => intro x h _; exact h
    | succ j ih =>
      intro x h nx
      rw [own_it] at h ⊢
      have e : ¬ x = b := fun e => nx (by rw [e]; exact hb)
      rw [own_upd_ne e, ih (q x) (h.trans (i3 x).symm) (by rw [i3]; exact nx), i3]
  have w2 : ∀ j x, own_it q j x = b → own_it (own_upd q b a) (j + 1) x = a := by
    intro j
    induction j with
    | zero => intro x h; rw [own_it] at h; rw [h, own_it, own_it, own_upd_at]
    | succ j ih =>
      intro x h
      rw [own_it]
      by_cases e : x = b
      · rw [e, own_upd_at]; exact own_it_fix ua _
      · rw [own_upd_ne e]; exact ih (q x) h
  have lift : ∀ (f : Int32 → Int32) j x, own_it f (j + 1) x = f (own_it f j x) := by
    intro f j
    induction j with
    | zero => intro x; rfl
    | succ j ih => intro x; rw [own_it, ih]; rfl
  refine ⟨fun x => ?_, fun x => ?_, fun x => ?_, fun x => ?_, fun x hx => ?_, fun x hx => ?_, fun x hx => ?_, i8⟩
  · rw [hR]
    by_cases e : R x = b
    · rw [if_pos (Or.inr e)]; exact w2 k x ((i1 x).trans e)
    · rw [lift, w1 k x (i1 x) e, own_upd_ne e, i2]
      by_cases e' : R x = a
      · rw [if_pos (Or.inl e')]; exact e'
      · rw [if_neg (fun h => h.elim e' e)]
  · rw [hR]
    by_cases e : R x = a ∨ R x = b
    · rw [if_pos e]; exact ua
    · rw [if_neg e, own_upd_ne (fun h => e (Or.inr h))]; exact i2 x
  · by_cases e : x = b
    · rw [e, own_upd_at, hR a, hR b, ha, hb, if_pos (Or.inl rfl), if_pos (Or.inr rfl)]
    · rw [own_upd_ne e, hR (q x), hR x, i3]
  · rw [hR, hS]
    by_cases e : R x = a ∨ R x = b
    · rw [if_pos e, if_pos e, own_upd_at]
    · rw [if_neg e, if_neg e, own_upd_ne (fun h => e (Or.inl h))]; exact i4 x
  · by_cases e : x = b
    · rw [e, own_upd_at]; exact na
    · rw [own_upd_ne e]; exact i5 x hx
  · have e1 : ¬ x = b := fun e => hx (e ▸ nb)
    have e2 : ¬ x = a := fun e => hx (e ▸ na)
    rw [own_upd_ne e1, own_upd_ne e2]; exact i6 x hx
  · rw [hR]
    split
    · exact ea
    · exact i7 x hx
theorem own_inv_join1 {n : Int32} {q s R S : Int32 → Int32} {k : Nat} {c d : Int32} (I : own_Inv n q s R S k) (ne : ¬ R c = R d) (nc : own_In n (R c)) (nd : own_In n (R d)) (ec : own_In 8 c) (h : S d < S c ∨ (S c = S d ∧ R c < R d)) : own_Inv n (own_upd q (R d) (R c)) (own_upd s (R c) (s (R c) + s (R d))) (own_nR R S c d) (own_nS R S c d) (k + 1) := by
  have i4 := I.2.2.2.1
  refine own_inv_link I (own_inv_id I c) (own_inv_id I d) ne nc nd (I.2.2.2.2.2.2.1 c ec) (fun x => ?_) (fun x => ?_)
  · rw [own_nR, own_step_g, own_G_step, if_neg ne, if_pos h]
  · rw [own_nS, own_grown_g, own_G_grown, if_neg ne, i4, i4]
theorem own_inv_join2 {n : Int32} {q s R S : Int32 → Int32} {k : Nat} {c d : Int32} (I : own_Inv n q s R S k) (ne : ¬ R c = R d) (nc : own_In n (R c)) (nd : own_In n (R d)) (ed : own_In 8 d) (h : ¬ (S d < S c ∨ (S c = S d ∧ R c < R d))) : own_Inv n (own_upd q (R c) (R d)) (own_upd s (R d) (s (R d) + s (R c))) (own_nR R S c d) (own_nS R S c d) (k + 1) := by
  have i4 := I.2.2.2.1
  refine own_inv_link I (own_inv_id I d) (own_inv_id I c) (fun e => ne e.symm) nd nc (I.2.2.2.2.2.2.1 d ed) (fun x => ?_) (fun x => ?_)
  · rw [own_nR, own_step_g, own_G_step, if_neg ne, if_neg h]
    simp only [Or.comm]
  · rw [own_nS, own_grown_g, own_G_grown, if_neg ne, i4, i4, Int32.add_comm]
    simp only [Or.comm]
section OwnAl
variable {p : Program} {l : Launch} {e : Env} {R : Room} {s : State} {m : MethodId} {args : Array Value} {below : List Frame} {meth : Method} {c : Code} {T : State} {cells slots : Nat} {P : State → Outcome → Prop}
variable {Z : State} {a0 : Array Value} {h h' h0 : Heap} {n0 : Nat} {own nm : String} {bytes : ByteArray} {maxL : Nat} {ret : Option FieldType}
variable {pc pc' : Nat} {Ls : Array Slot} {st : List Value} {a b : Addr} {n z : Int32} {q : Int32 → Int32}
/-- an array of n numbers, the j-th q j -/
def own_Fn (Z : State) (h : Heap) (a : Addr) (n : Int32) (q : Int32 → Int32) : Prop := ∃ k vs, Arv Z h a k .int n vs (.int 0) ∧ vs.length = n.toNatClampNeg ∧ ∀ j : Int32, own_In n j → vs.getD j.toNatClampNeg (.int 0) = .int (q j)
theorem own_Fn.lt (F : own_Fn Z h a n q) : a < h.size := by obtain ⟨k, vs, A, -⟩ := F; exact A.lt
theorem own_Fn.ext (F : own_Fn Z h a n q) (E : Ext h h') : own_Fn Z h' a n q := by obtain ⟨k, vs, A, r⟩ := F; exact ⟨k, vs, A.ext E, r⟩
theorem own_Fn.other {sl : Nat} {v : Value} (F : own_Fn Z h b n q) (W : Wr h h' a sl v) (ne : b ≠ a) : own_Fn Z h' b n q := by obtain ⟨k, vs, A, r⟩ := F; exact ⟨k, vs, A.other W ne, r⟩
theorem own_Fn.keep {ws : List Addr} (F : own_Fn Z h a n q) (K : Keep h h' ws) (ni : a ∉ ws) : own_Fn Z h' a n q := by obtain ⟨k, vs, A, r⟩ := F; exact ⟨k, vs, A.keep K ni, r⟩
theorem own_Fn.nn (F : own_Fn Z h a n q) : ¬ n < 0 := by obtain ⟨k, vs, ⟨cl, -, -, -, N, -⟩, -⟩ := F; exact N
theorem own_nat_inj {x y : Int32} (hx : ¬ x < 0) (hy : ¬ y < 0) (h : x.toNatClampNeg = y.toNatClampNeg) : x = y := by
  rw [Int32.lt_iff_toInt_lt] at hx hy
  have e : (0 : Int32).toInt = 0 := by decide
  simp only [Int32.toNatClampNeg] at h
  exact Int32.toInt_inj.mp (by omega)
theorem own_nat_lt {x y : Int32} (hx : ¬ x < 0) (h : x < y) : x.toNatClampNeg < y.toNatClampNeg := by
  rw [Int32.lt_iff_toInt_lt] at hx h
  have e : (0 : Int32).toInt = 0 := by decide
  simp only [Int32.toNatClampNeg]
  omega
theorem own_arraylengthFn (B : own_B p s m meth c Z own nm bytes maxL ret) (X : own_S p l e R s m args below meth c n0 T h cells slots) (V : own_Fn Z h a n q) (d : decode bytes pc = .ok (.arraylength, 1)) (hp : pc + 1 = pc')
    (G : own_Go p e below (T.setTop (mkF m pc' Ls (.int n :: st))) P) : own_Go p e below (T.setTop (mkF m pc Ls (.ref a :: st))) P := by
  obtain ⟨k, vs, A, -⟩ := V
  exact own_arraylength B X A d hp G
theorem own_ialoadFn (B : own_B p s m meth c Z own nm bytes maxL ret) (X : own_S p l e R s m args below meth c n0 T h cells slots) {j y : Int32} (V : own_Fn Z h a n q) (hj : own_In n j) (hy : q j = y) (d : decode bytes pc = .ok (.iaload, 1)) (hp : pc + 1 = pc')
    (G : own_Go p e below (T.setTop (mkF m pc' Ls (.int y :: st))) P) : own_Go p e below (T.setTop (mkF m pc Ls (.int j :: .ref a :: st))) P := by
  obtain ⟨k, vs, A, -, r⟩ := V
  exact own_iaload B X A hj ((r j hj).trans (by rw [hy])) d hp G
theorem own_iastoreFn (B : own_B p s m meth c Z own nm bytes maxL ret) (X : own_S p l e R s m args below meth c n0 T h cells slots) {j x : Int32} (V : own_Fn Z h a n q) (ge : n0 ≤ a) (hj : own_In n j) (d : decode bytes pc = .ok (.iastore, 1)) (hp : pc + 1 = pc')
    (G : ∀ T' h', own_S p l e R s m args below meth c n0 T' h' cells slots → Wr h h' a j.toNatClampNeg (.int x) → own_Fn Z h' a n (own_upd q j x) → own_Go p e below (T'.setTop (mkF m pc' Ls st)) P) : own_Go p e below (T.setTop (mkF m pc Ls (.int x :: .int j :: .ref a :: st))) P := by
  obtain ⟨k, vs, A, hl, r⟩ := V
  have hlt : j.toNatClampNeg < vs.length := by rw [hl]; exact own_nat_lt hj.1 hj.2
  refine own_iastore B X (x' := x) A ge hj j.toNatClampNeg rfl hlt rfl d hp ?_
  intro T' h' X' W A'
  refine G T' h' X' W ⟨k, _, A', by rw [List.length_set]; exact hl, fun i hi => ?_⟩
  by_cases e : i = j
  · subst e
    rw [own_upd_at]
    simp [List.getD_eq_getElem?_getD, List.getElem?_set, hlt]
  · have ne : j.toNatClampNeg ≠ i.toNatClampNeg := fun h => e (own_nat_inj hi.1 hj.1 h.symm)
    rw [own_upd_ne e, ← r i hi]
    simp only [List.getD_eq_getElem?_getD]
    rw [List.getElem?_set_ne ne]
end OwnAl
section OwnAl2
variable {p : Program} {l : Launch} {e : Env} {R : Room} {s : State} {m : MethodId} {args : Array Value} {below : List Frame} {meth : Method} {c : Code} {T : State} {cells slots : Nat} {P : State → Outcome → Prop}
variable {Z : State} {a0 : Array Value} {h h' h0 : Heap} {n0 : Nat} {own nm : String} {bytes : ByteArray} {maxL : Nat} {ret : Option FieldType}
variable {pc pc' : Nat} {Ls : Array Slot} {st : List Value} {a b : Addr} {n n' z : Int32} {q q' : Int32 → Int32}
theorem own_Fn.congr (F : own_Fn Z h a n q) (e : ∀ j, own_In n j → q j = q' j) : own_Fn Z h a n q' := by
  obtain ⟨k, vs, A, hl, r⟩ := F
  exact ⟨k, vs, A, hl, fun j hj => by rw [← e j hj]; exact r j hj⟩
theorem own_nat_le {x y : Int32} (h : ¬ y < x) : x.toNatClampNeg ≤ y.toNatClampNeg := by
  rw [Int32.lt_iff_toInt_lt] at h
  simp only [Int32.toNatClampNeg]
  omega
theorem own_Fn.ofArv {k : ClassId} {vs : List Value} (A : Arv Z h a k .int n vs (.int 0)) (e : ∀ j : Int32, own_In n j → vs.getD j.toNatClampNeg (.int 0) = .int (q j)) (hl : vs.length = n.toNatClampNeg) : own_Fn Z h a n q := ⟨k, vs, A, hl, e⟩
theorem own_Fn.zero {k : ClassId} (A : Arv Z h a k .int 0 [] (.int 0)) : own_Fn Z h a 0 q := ⟨k, [], A, by decide, fun j hj => absurd hj.2 hj.1⟩
theorem own_arraycopyFn (B : own_B p s m meth c Z own nm bytes maxL ret) (X : own_S p l e R s m args below meth c n0 T h cells slots) {i : Nat} (w1 : (Cond.methodLink own i Jvm.Stand.acN).before a0 Z = true) (w2 : (Cond.native Jvm.Stand.acN).before a0 Z = true) (w3 : (Cond.static Jvm.Stand.acN).before a0 Z = true) (w4 : (Cond.initialized "java/lang/System").before a0 Z = true) {k' : ClassId} (V : own_Fn Z h a n q) (A' : Arv Z h b k' .int n' [] (.int 0)) (ge : n0 ≤ b) (hn : ¬ n' < n) (d : decode bytes pc = .ok (.invokestatic i, 3)) (hp : pc + 3 = pc') (hsz : Ls.size = maxL) (hf : 1 ≤ R.frames) (W : Nat) (hW : (st.map fun v => v.category).sum ≤ W) (hlo : W + (nativeFrameWords "java/lang/System" "arraycopy" 5 + 11) ≤ R.locals)
    (G : ∀ T' h', own_S p l e R s m args below meth c n0 T' h' cells slots → Keep h h' [b] → own_Fn Z h' b n' (fun x => if x < n then q x else 0) → own_Go p e below (T'.setTop (mkF m pc' Ls st)) P) : own_Go p e below (T.setTop (mkF m pc Ls (.int n :: .int 0 :: .ref b :: .int 0 :: .ref a :: st))) P := by
  have nn := V.nn
  obtain ⟨k, vs, A, hl, r⟩ := V
  have e0 : (0 : Int32).toNatClampNeg = 0 := by decide
  have le := own_nat_le hn
  have A2 : Arv Z h b k' .int n' (List.replicate n'.toNatClampNeg (.int 0)) (.int 0) := A'.pad (fun i => by
    simp only [List.getD_eq_getElem?_getD, List.getElem?_replicate]
    split <;> simp)
  refine own_arraycopy B X w1 w2 w3 w4 A A2 rfl ge (by decide) (by decide) nn (by rw [e0]; omega) (by rw [e0]; omega) rfl (by rw [e0, List.length_replicate]; omega) rfl d hp hsz hf W hW hlo ?_
  intro T' h' X' K A3
  refine G T' h' X' K ⟨_, _, A3, ?_, fun j hj => ?_⟩
  · simp only [e0, List.length_append, List.length_take, List.length_map, List.length_range, List.length_drop, List.length_replicate]; omega
  · have hj' := own_nat_lt hj.1 hj.2
    by_cases hc : j < n
    · have hc' := own_nat_lt hj.1 hc
      show _ = Value.int (if j < n then q j else 0)
      rw [if_pos hc, ← r j ⟨hj.1, hc⟩]
      simp only [e0, List.take_zero, List.nil_append, List.getD_eq_getElem?_getD]
      rw [List.getElem?_append_left (by simpa using hc')]
      simp [hc']
    · have hc' := own_nat_le hc
      show _ = Value.int (if j < n then q j else 0)
      rw [if_neg hc]
      simp only [e0, List.take_zero, List.nil_append, List.getD_eq_getElem?_getD]
      rw [List.getElem?_append_right (by simpa using hc')]
      simp [List.getElem?_drop, List.getElem?_replicate]
      split <;> rfl
end OwnAl2
section OwnAl3
variable {Z : State} {h h' h0 : Heap} {al a : Addr}
abbrev oAl : String := "com/example/ordal/ordal/Aliases"
/-- nothing that stood below al has been written -/
def own_K (h0 h : Heap) (al : Addr) : Prop := ∃ ws, Keep h0 h ws ∧ ∀ a ∈ ws, al ≤ a
theorem own_K.refl : own_K h h al := ⟨[], Keep.refl h [], all0⟩
theorem own_K.ext (K : own_K h0 h al) (E : Ext h h') : own_K h0 h' al := by obtain ⟨ws, K, q⟩ := K; exact ⟨ws, K.ext E, q⟩
theorem own_K.keep {vs : List Addr} (K : own_K h0 h al) (K' : Keep h h' vs) (hv : ∀ a ∈ vs, al ≤ a) : own_K h0 h' al := by
  obtain ⟨ws, K, q⟩ := K
  have K1 : Keep h0 h (ws ++ vs) := ⟨K.1, fun x c hx ni => K.2.1 x c hx fun m => ni (List.mem_append_left _ m), K.2.2⟩
  exact ⟨ws ++ vs, K1.trans K' fun x hx => Or.inl (List.mem_append_right _ hx), fun a ha => (List.mem_append.mp ha).elim (q a) (hv a)⟩
theorem own_K.trans (K : own_K h0 h al) (K' : own_K h h' al) : own_K h0 h' al := by obtain ⟨vs, K', hv⟩ := K'; exact K.keep K' hv
theorem own_K.wr {sl : Nat} {v : Value} (K : own_K h0 h al) (W : Wr h h' a sl v) (g : al ≤ a) : own_K h0 h' al := K.keep (Keep.of_wr W) (allS g all0)
theorem own_K.le (K : own_K h0 h al) : h0.size ≤ h.size := by obtain ⟨ws, K, -⟩ := K; exact K.1
theorem own_K.arv {k : ClassId} {ty : FieldType} {z : Int32} {vs : List Value} {dv : Value} (K : own_K h h' al) (V : Arv Z h a k ty z vs dv) (q : a < al) : Arv Z h' a k ty z vs dv := by
  obtain ⟨ws, K, r⟩ := K
  exact V.keep K fun m => Nat.lt_irrefl _ (Nat.lt_of_lt_of_le q (r a m))
/-- an object of the class, with its three arrays -/
def own_A (Z : State) (h : Heap) (al pa sa ra : Addr) (n : Int32) (q s r : Int32 → Int32) : Prop := Exa Z h al oAl ∧ Fld Z h al oAl "parents" "[I" (.ref pa) ∧ Fld Z h al oAl "sizes" "[I" (.ref sa) ∧ Fld Z h al oAl "rings" "[I" (.ref ra) ∧ own_Fn Z h pa n q ∧ own_Fn Z h sa n s ∧ own_Fn Z h ra n r ∧ al < pa ∧ al < sa ∧ al < ra ∧ pa ≠ sa ∧ pa ≠ ra ∧ sa ≠ ra
/-- it holds the groups that R and S tell of -/
def own_AL (Z : State) (h : Heap) (al : Addr) (R S : Int32 → Int32) : Prop := ∃ pa sa ra n q s r k, own_A Z h al pa sa ra n q s r ∧ own_Inv n q s R S k
theorem own_inv0 : own_Inv 0 (fun x => x) (fun _ => 1) (fun x => x) (fun _ => 1) 0 := ⟨fun _ => rfl, fun _ => rfl, fun _ => rfl, fun _ => rfl, fun _ h => h, fun _ _ => ⟨rfl, rfl⟩, fun _ h => h, by decide, by decide⟩
theorem own_AL.exa {R S : Int32 → Int32} (A : own_AL Z h al R S) : Exa Z h al oAl := by obtain ⟨_, _, _, _, _, _, _, _, A, _⟩ := A; exact A.1
theorem own_K.exa {C : String} (K : own_K h h' al) (E : Exa Z h a C) : Exa Z h' a C := by obtain ⟨ws, K, -⟩ := K; exact E.keep K
theorem own_Kk (K : Keep h0 h []) (K' : own_K h h' al) (q : h0.size ≤ al) : Keep h0 h' [] := by obtain ⟨ws, K', r⟩ := K'; exact K.trans K' fun x hx => Or.inr (Nat.le_trans q (r x hx))
def own_R1 (a b : Int32) : Int32 → Int32 := own_nR (fun x => x) (fun _ => 1) a b
def own_S1 (a b : Int32) : Int32 → Int32 := own_nS (fun x => x) (fun _ => 1) a b
def own_R2 (a b c d : Int32) : Int32 → Int32 := own_nR (own_R1 a b) (own_S1 a b) c d
def own_S2 (a b c d : Int32) : Int32 → Int32 := own_nS (own_R1 a b) (own_S1 a b) c d
def own_R3 (a b c d e f : Int32) : Int32 → Int32 := own_nR (own_R2 a b c d) (own_S2 a b c d) e f
def own_S3 (a b c d e f : Int32) : Int32 → Int32 := own_nS (own_R2 a b c d) (own_S2 a b c d) e f
end OwnAl3
section OwnAl4
variable {n n' n2 np need i i' c d mx x : Int32} {q q1 : Int32 → Int32}
theorem own_lt0 (h : i < 0) (nn : ¬ n < 0) : i < n := by
  rw [Int32.lt_iff_toInt_lt] at h nn ⊢
  omega
theorem own_bounds (nn : ¬ n < 0) (hneed : need < 9) (c1 : n < need) (hn2 : (2 : Int32) * n = n2) (hnp : (if need < n2 then n2 else need) = np) : n < np ∧ ¬ np < need ∧ np < 15 := by
  have o := c_imul (2 : Int32) n
  rw [hn2] at o
  have e2 : (2 : Int32).toInt = 2 := by decide
  have e9 : (9 : Int32).toInt = 9 := by decide
  have e15 : (15 : Int32).toInt = 15 := by decide
  have e0 : (0 : Int32).toInt = 0 := by decide
  have r := rng32 n2
  rw [e2] at o
  split at hnp <;> subst hnp <;> simp only [Int32.lt_iff_toInt_lt] at * <;> omega
theorem own_succ (hi : i + (1 : Int32) = i') (h : i < np) : i'.toInt = i.toInt + 1 := by
  have o := c_iadd i (1 : Int32)
  rw [hi] at o
  have e1 : (1 : Int32).toInt = 1 := by decide
  have r := rng32 i'
  have r2 := rng32 i
  have r3 := rng32 np
  rw [Int32.lt_iff_toInt_lt] at h
  omega
theorem own_step1 (ti : i'.toInt = i.toInt + 1) (h : ¬ i < n) : ¬ i' < n := by
  rw [Int32.lt_iff_toInt_lt] at h ⊢
  omega
theorem own_step2 (ti : i'.toInt = i.toInt + 1) (h : i < np) : ¬ np < i' := by
  rw [Int32.lt_iff_toInt_lt] at h ⊢
  omega
theorem own_fill {v : Int32} (ti : i'.toInt = i.toInt + 1) (h : ∀ x, own_In i x → q1 x = q x) (hi : q i = v) : ∀ x, own_In i' x → own_upd q1 i v x = q x := by
  intro x hx
  by_cases e : x = i
  · rw [e, own_upd_at, hi]
  · rw [own_upd_ne e]
    refine h x ⟨hx.1, ?_⟩
    have h1 := hx.2
    have h2 : ¬ x.toInt = i.toInt := fun u => e (Int32.toInt_inj.mp u)
    rw [Int32.lt_iff_toInt_lt] at h1 ⊢
    omega
theorem own_need (ec : own_In 8 c) (ed : own_In 8 d) (hmx : (if c < d then d else c) = mx) (h : mx + (1 : Int32) = need) : need < 9 ∧ c < need ∧ d < need := by
  obtain ⟨c0, c8⟩ := ec
  obtain ⟨d0, d8⟩ := ed
  have o := c_iadd mx (1 : Int32)
  rw [h] at o
  have e1 : (1 : Int32).toInt = 1 := by decide
  have e8 : (8 : Int32).toInt = 8 := by decide
  have e9 : (9 : Int32).toInt = 9 := by decide
  have e0 : (0 : Int32).toInt = 0 := by decide
  have r := rng32 need
  split at hmx <;> subst hmx <;> simp only [Int32.lt_iff_toInt_lt] at * <;> omega
theorem own_lt_need (h : x < need) (h' : ¬ n' < need) : x < n' := by
  rw [Int32.lt_iff_toInt_lt] at h h' ⊢
  omega
theorem own_in8 {z : Int32} (h : x &&& (7 : Int32) = z) : own_In 8 z := by
  have o := own_o_mask h 3 (by decide) (by decide)
  have e8 : (8 : Int32).toInt = 8 := by decide
  have e0 : (0 : Int32).toInt = 0 := by decide
  constructor <;> rw [Int32.lt_iff_toInt_lt] <;> omega
theorem own_nn7 {z : Int32} (h : x &&& (7 : Int32) = z) : ¬ z < 0 := (own_in8 h).1
theorem own_nnM {z : Int32} (h : x &&& (2147483647 : Int32) = z) : ¬ z < 0 := by
  have o := own_o_and h (by decide)
  have e0 : (0 : Int32).toInt = 0 := by decide
  rw [Int32.lt_iff_toInt_lt]
  omega
end OwnAl4
theorem d12_0 : decode jdk_29_method_65_code 0 = .ok (.iload_n 0, 1) := by decide +kernel
theorem d12_1 : decode jdk_29_method_65_code 1 = .ok (.iload_n 1, 1) := by decide +kernel
theorem d12_2 : decode jdk_29_method_65_code 2 = .ok (.if_icmp .lt 7, 3) := by decide +kernel
theorem d12_9 : decode jdk_29_method_65_code 9 = .ok (.iload_n 1, 1) := by decide +kernel
theorem d12_10 : decode jdk_29_method_65_code 10 = .ok (.ireturn, 1) := by decide +kernel
theorem d12_5 : decode jdk_29_method_65_code 5 = .ok (.iload_n 0, 1) := by decide +kernel
theorem d12_6 : decode jdk_29_method_65_code 6 = .ok (.goto 4, 3) := by decide +kernel
theorem d15_0 : decode jdk_29_method_69_code 0 = .ok (.iload_n 0, 1) := by decide +kernel
theorem d15_1 : decode jdk_29_method_69_code 1 = .ok (.iload_n 1, 1) := by decide +kernel
theorem d15_2 : decode jdk_29_method_69_code 2 = .ok (.if_icmp .gt 7, 3) := by decide +kernel
theorem d15_9 : decode jdk_29_method_69_code 9 = .ok (.iload_n 1, 1) := by decide +kernel
theorem d15_10 : decode jdk_29_method_69_code 10 = .ok (.ireturn, 1) := by decide +kernel
theorem d15_5 : decode jdk_29_method_69_code 5 = .ok (.iload_n 0, 1) := by decide +kernel
theorem d15_6 : decode jdk_29_method_69_code 6 = .ok (.goto 4, 3) := by decide +kernel
theorem wpn_0 : plainName "java/util/Arrays" = true := by first | (simp [plainName, overriddenIn]; done) | decide +kernel
theorem d14_0 : decode jdk_65_method_123_code 0 = .ok (.iload_n 1, 1) := by decide +kernel
theorem d14_1 : decode jdk_65_method_123_code 1 = .ok (.aload_n 0, 1) := by decide +kernel
theorem d14_2 : decode jdk_65_method_123_code 2 = .ok (.arraylength, 1) := by decide +kernel
theorem d14_3 : decode jdk_65_method_123_code 3 = .ok (.if_icmp .ne 11, 3) := by decide +kernel
theorem d14_14 : decode jdk_65_method_123_code 14 = .ok (.iload_n 1, 1) := by decide +kernel
theorem d14_15 : decode jdk_65_method_123_code 15 = .ok (.newarray .int, 2) := by decide +kernel
theorem d14_17 : decode jdk_65_method_123_code 17 = .ok (.astore_n 2, 1) := by decide +kernel
theorem d14_18 : decode jdk_65_method_123_code 18 = .ok (.aload_n 0, 1) := by decide +kernel
theorem d14_19 : decode jdk_65_method_123_code 19 = .ok (.iconst 0, 1) := by decide +kernel
theorem d14_20 : decode jdk_65_method_123_code 20 = .ok (.aload_n 2, 1) := by decide +kernel
theorem d14_21 : decode jdk_65_method_123_code 21 = .ok (.iconst 0, 1) := by decide +kernel
theorem d14_22 : decode jdk_65_method_123_code 22 = .ok (.aload_n 0, 1) := by decide +kernel
theorem d14_23 : decode jdk_65_method_123_code 23 = .ok (.arraylength, 1) := by decide +kernel
theorem d14_24 : decode jdk_65_method_123_code 24 = .ok (.iload_n 1, 1) := by decide +kernel
theorem d14_25 : decode jdk_65_method_123_code 25 = .ok (.invokestatic 304, 3) := by decide +kernel
theorem wpd_0 : parseMethodDescriptor "(II)I" = some ⟨[.int, .int], some .int⟩ := by decide +kernel
theorem d14_28 : decode jdk_65_method_123_code 28 = .ok (.invokestatic 150, 3) := by decide +kernel
theorem d14_31 : decode jdk_65_method_123_code 31 = .ok (.aload_n 2, 1) := by decide +kernel
theorem d14_32 : decode jdk_65_method_123_code 32 = .ok (.areturn, 1) := by decide +kernel
theorem wpn_1 : plainName "com/example/ordal/ordal/Aliases" = true := by first | (simp [plainName, overriddenIn]; done) | decide +kernel
theorem d4_33 : decode prog_1_method_2_code 33 = .ok (.iload_n 3, 1) := by decide +kernel
theorem d4_34 : decode prog_1_method_2_code 34 = .ok (.iload_n 2, 1) := by decide +kernel
theorem d4_35 : decode prog_1_method_2_code 35 = .ok (.if_icmp .eq 24, 3) := by decide +kernel
theorem d4_59 : decode prog_1_method_2_code 59 = .ok (.iload_n 2, 1) := by decide +kernel
theorem d4_60 : decode prog_1_method_2_code 60 = .ok (.ireturn, 1) := by decide +kernel
theorem d4_38 : decode prog_1_method_2_code 38 = .ok (.aload_n 0, 1) := by decide +kernel
theorem d4_39 : decode prog_1_method_2_code 39 = .ok (.getfield 7, 3) := by decide +kernel
theorem d4_42 : decode prog_1_method_2_code 42 = .ok (.iload_n 3, 1) := by decide +kernel
theorem d4_43 : decode prog_1_method_2_code 43 = .ok (.iaload, 1) := by decide +kernel
theorem d4_44 : decode prog_1_method_2_code 44 = .ok (.istore 4, 2) := by decide +kernel
theorem d4_46 : decode prog_1_method_2_code 46 = .ok (.aload_n 0, 1) := by decide +kernel
theorem d4_47 : decode prog_1_method_2_code 47 = .ok (.getfield 7, 3) := by decide +kernel
theorem d4_50 : decode prog_1_method_2_code 50 = .ok (.iload_n 3, 1) := by decide +kernel
theorem d4_51 : decode prog_1_method_2_code 51 = .ok (.iload_n 2, 1) := by decide +kernel
theorem d4_52 : decode prog_1_method_2_code 52 = .ok (.iastore, 1) := by decide +kernel
theorem d4_53 : decode prog_1_method_2_code 53 = .ok (.iload 4, 2) := by decide +kernel
theorem d4_55 : decode prog_1_method_2_code 55 = .ok (.istore_n 3, 1) := by decide +kernel
theorem d4_56 : decode prog_1_method_2_code 56 = .ok (.goto (-23), 3) := by decide +kernel
theorem d4_31 : decode prog_1_method_2_code 31 = .ok (.iload_n 1, 1) := by decide +kernel
theorem d4_32 : decode prog_1_method_2_code 32 = .ok (.istore_n 3, 1) := by decide +kernel
theorem d4_2 : decode prog_1_method_2_code 2 = .ok (.iload_n 2, 1) := by decide +kernel
theorem d4_3 : decode prog_1_method_2_code 3 = .ok (.aload_n 0, 1) := by decide +kernel
theorem d4_4 : decode prog_1_method_2_code 4 = .ok (.getfield 7, 3) := by decide +kernel
theorem d4_7 : decode prog_1_method_2_code 7 = .ok (.arraylength, 1) := by decide +kernel
theorem d4_8 : decode prog_1_method_2_code 8 = .ok (.if_icmp .ge 23, 3) := by decide +kernel
theorem d4_11 : decode prog_1_method_2_code 11 = .ok (.aload_n 0, 1) := by decide +kernel
theorem d4_12 : decode prog_1_method_2_code 12 = .ok (.getfield 7, 3) := by decide +kernel
theorem d4_15 : decode prog_1_method_2_code 15 = .ok (.iload_n 2, 1) := by decide +kernel
theorem d4_16 : decode prog_1_method_2_code 16 = .ok (.iaload, 1) := by decide +kernel
theorem d4_17 : decode prog_1_method_2_code 17 = .ok (.iload_n 2, 1) := by decide +kernel
theorem d4_18 : decode prog_1_method_2_code 18 = .ok (.if_icmp .eq 13, 3) := by decide +kernel
theorem d4_21 : decode prog_1_method_2_code 21 = .ok (.aload_n 0, 1) := by decide +kernel
theorem d4_22 : decode prog_1_method_2_code 22 = .ok (.getfield 7, 3) := by decide +kernel
theorem d4_25 : decode prog_1_method_2_code 25 = .ok (.iload_n 2, 1) := by decide +kernel
theorem d4_26 : decode prog_1_method_2_code 26 = .ok (.iaload, 1) := by decide +kernel
theorem d4_27 : decode prog_1_method_2_code 27 = .ok (.istore_n 2, 1) := by decide +kernel
theorem d4_28 : decode prog_1_method_2_code 28 = .ok (.goto (-26), 3) := by decide +kernel
theorem d4_0 : decode prog_1_method_2_code 0 = .ok (.iload_n 1, 1) := by decide +kernel
theorem d4_1 : decode prog_1_method_2_code 1 = .ok (.istore_n 2, 1) := by decide +kernel
theorem d13_0 : decode prog_1_method_7_code 0 = .ok (.aload_n 0, 1) := by decide +kernel
theorem d13_1 : decode prog_1_method_7_code 1 = .ok (.getfield 7, 3) := by decide +kernel
theorem d13_4 : decode prog_1_method_7_code 4 = .ok (.arraylength, 1) := by decide +kernel
theorem d13_5 : decode prog_1_method_7_code 5 = .ok (.istore_n 2, 1) := by decide +kernel
theorem d13_6 : decode prog_1_method_7_code 6 = .ok (.iload_n 1, 1) := by decide +kernel
theorem d13_7 : decode prog_1_method_7_code 7 = .ok (.iload_n 2, 1) := by decide +kernel
theorem d13_8 : decode prog_1_method_7_code 8 = .ok (.if_icmp .le 88, 3) := by decide +kernel
theorem d13_11 : decode prog_1_method_7_code 11 = .ok (.iload_n 1, 1) := by decide +kernel
theorem d13_12 : decode prog_1_method_7_code 12 = .ok (.iconst 2, 1) := by decide +kernel
theorem d13_13 : decode prog_1_method_7_code 13 = .ok (.iload_n 2, 1) := by decide +kernel
theorem d13_14 : decode prog_1_method_7_code 14 = .ok (.imul, 1) := by decide +kernel
theorem d13_15 : decode prog_1_method_7_code 15 = .ok (.invokestatic 23, 3) := by decide +kernel
theorem d13_18 : decode prog_1_method_7_code 18 = .ok (.istore_n 3, 1) := by decide +kernel
theorem d13_19 : decode prog_1_method_7_code 19 = .ok (.aload_n 0, 1) := by decide +kernel
theorem d13_20 : decode prog_1_method_7_code 20 = .ok (.aload_n 0, 1) := by decide +kernel
theorem d13_21 : decode prog_1_method_7_code 21 = .ok (.getfield 7, 3) := by decide +kernel
theorem d13_24 : decode prog_1_method_7_code 24 = .ok (.iload_n 3, 1) := by decide +kernel
theorem d13_25 : decode prog_1_method_7_code 25 = .ok (.invokestatic 42, 3) := by decide +kernel
theorem wpd_1 : parseMethodDescriptor "([II)[I" = some ⟨[(.array .int), .int], some (.array .int)⟩ := by decide +kernel
theorem d13_28 : decode prog_1_method_7_code 28 = .ok (.putfield 7, 3) := by decide +kernel
theorem d13_31 : decode prog_1_method_7_code 31 = .ok (.aload_n 0, 1) := by decide +kernel
theorem d13_32 : decode prog_1_method_7_code 32 = .ok (.aload_n 0, 1) := by decide +kernel
theorem d13_33 : decode prog_1_method_7_code 33 = .ok (.getfield 13, 3) := by decide +kernel
theorem d13_36 : decode prog_1_method_7_code 36 = .ok (.iload_n 3, 1) := by decide +kernel
theorem d13_37 : decode prog_1_method_7_code 37 = .ok (.invokestatic 42, 3) := by decide +kernel
theorem d13_40 : decode prog_1_method_7_code 40 = .ok (.putfield 13, 3) := by decide +kernel
theorem d13_43 : decode prog_1_method_7_code 43 = .ok (.aload_n 0, 1) := by decide +kernel
theorem d13_44 : decode prog_1_method_7_code 44 = .ok (.aload_n 0, 1) := by decide +kernel
theorem d13_45 : decode prog_1_method_7_code 45 = .ok (.getfield 16, 3) := by decide +kernel
theorem d13_48 : decode prog_1_method_7_code 48 = .ok (.iload_n 3, 1) := by decide +kernel
theorem d13_49 : decode prog_1_method_7_code 49 = .ok (.invokestatic 42, 3) := by decide +kernel
theorem d13_52 : decode prog_1_method_7_code 52 = .ok (.putfield 16, 3) := by decide +kernel
theorem d13_55 : decode prog_1_method_7_code 55 = .ok (.iload_n 2, 1) := by decide +kernel
theorem d13_56 : decode prog_1_method_7_code 56 = .ok (.istore 4, 2) := by decide +kernel
theorem d13_58 : decode prog_1_method_7_code 58 = .ok (.iload 4, 2) := by decide +kernel
theorem d13_60 : decode prog_1_method_7_code 60 = .ok (.iload_n 3, 1) := by decide +kernel
theorem d13_61 : decode prog_1_method_7_code 61 = .ok (.if_icmp .ge 35, 3) := by decide +kernel
theorem d13_96 : decode prog_1_method_7_code 96 = .ok (.return_, 1) := by decide +kernel
theorem d13_64 : decode prog_1_method_7_code 64 = .ok (.aload_n 0, 1) := by decide +kernel
theorem d13_65 : decode prog_1_method_7_code 65 = .ok (.getfield 7, 3) := by decide +kernel
theorem d13_68 : decode prog_1_method_7_code 68 = .ok (.iload 4, 2) := by decide +kernel
theorem d13_70 : decode prog_1_method_7_code 70 = .ok (.iload 4, 2) := by decide +kernel
theorem d13_72 : decode prog_1_method_7_code 72 = .ok (.iastore, 1) := by decide +kernel
theorem d13_73 : decode prog_1_method_7_code 73 = .ok (.aload_n 0, 1) := by decide +kernel
theorem d13_74 : decode prog_1_method_7_code 74 = .ok (.getfield 13, 3) := by decide +kernel
theorem d13_77 : decode prog_1_method_7_code 77 = .ok (.iload 4, 2) := by decide +kernel
theorem d13_79 : decode prog_1_method_7_code 79 = .ok (.iconst 1, 1) := by decide +kernel
theorem d13_80 : decode prog_1_method_7_code 80 = .ok (.iastore, 1) := by decide +kernel
theorem d13_81 : decode prog_1_method_7_code 81 = .ok (.aload_n 0, 1) := by decide +kernel
theorem d13_82 : decode prog_1_method_7_code 82 = .ok (.getfield 16, 3) := by decide +kernel
theorem d13_85 : decode prog_1_method_7_code 85 = .ok (.iload 4, 2) := by decide +kernel
theorem d13_87 : decode prog_1_method_7_code 87 = .ok (.iload 4, 2) := by decide +kernel
theorem d13_89 : decode prog_1_method_7_code 89 = .ok (.iastore, 1) := by decide +kernel
theorem d13_90 : decode prog_1_method_7_code 90 = .ok (.iinc 4 1, 3) := by decide +kernel
theorem d13_93 : decode prog_1_method_7_code 93 = .ok (.goto (-35), 3) := by decide +kernel
theorem d3_0 : decode prog_1_method_3_code 0 = .ok (.aload_n 0, 1) := by decide +kernel
theorem d3_1 : decode prog_1_method_3_code 1 = .ok (.iload_n 1, 1) := by decide +kernel
theorem d3_2 : decode prog_1_method_3_code 2 = .ok (.invokevirtual 19, 3) := by decide +kernel
theorem wpd_2 : parseMethodDescriptor "(I)I" = some ⟨[.int], some .int⟩ := by decide +kernel
theorem d3_5 : decode prog_1_method_3_code 5 = .ok (.istore_n 3, 1) := by decide +kernel
theorem d3_6 : decode prog_1_method_3_code 6 = .ok (.aload_n 0, 1) := by decide +kernel
theorem d3_7 : decode prog_1_method_3_code 7 = .ok (.iload_n 2, 1) := by decide +kernel
theorem d3_8 : decode prog_1_method_3_code 8 = .ok (.invokevirtual 19, 3) := by decide +kernel
theorem d3_11 : decode prog_1_method_3_code 11 = .ok (.istore 4, 2) := by decide +kernel
theorem d3_13 : decode prog_1_method_3_code 13 = .ok (.iload_n 3, 1) := by decide +kernel
theorem d3_14 : decode prog_1_method_3_code 14 = .ok (.iload 4, 2) := by decide +kernel
theorem d3_16 : decode prog_1_method_3_code 16 = .ok (.if_icmp .ne 5, 3) := by decide +kernel
theorem d3_19 : decode prog_1_method_3_code 19 = .ok (.iconst 0, 1) := by decide +kernel
theorem d3_20 : decode prog_1_method_3_code 20 = .ok (.ireturn, 1) := by decide +kernel
theorem d3_21 : decode prog_1_method_3_code 21 = .ok (.aload_n 0, 1) := by decide +kernel
theorem d3_22 : decode prog_1_method_3_code 22 = .ok (.iload_n 3, 1) := by decide +kernel
theorem d3_23 : decode prog_1_method_3_code 23 = .ok (.iload 4, 2) := by decide +kernel
theorem d3_25 : decode prog_1_method_3_code 25 = .ok (.invokestatic 23, 3) := by decide +kernel
theorem d3_28 : decode prog_1_method_3_code 28 = .ok (.iconst 1, 1) := by decide +kernel
theorem d3_29 : decode prog_1_method_3_code 29 = .ok (.iadd, 1) := by decide +kernel
theorem d3_30 : decode prog_1_method_3_code 30 = .ok (.invokevirtual 29, 3) := by decide +kernel
theorem wpd_3 : parseMethodDescriptor "(I)V" = some ⟨[.int], none⟩ := by decide +kernel
theorem d3_104 : decode prog_1_method_3_code 104 = .ok (.aload_n 0, 1) := by decide +kernel
theorem d3_105 : decode prog_1_method_3_code 105 = .ok (.getfield 7, 3) := by decide +kernel
theorem d3_108 : decode prog_1_method_3_code 108 = .ok (.iload 7, 2) := by decide +kernel
theorem d3_110 : decode prog_1_method_3_code 110 = .ok (.iload 6, 2) := by decide +kernel
theorem d3_112 : decode prog_1_method_3_code 112 = .ok (.iastore, 1) := by decide +kernel
theorem d3_113 : decode prog_1_method_3_code 113 = .ok (.aload_n 0, 1) := by decide +kernel
theorem d3_114 : decode prog_1_method_3_code 114 = .ok (.getfield 13, 3) := by decide +kernel
theorem d3_117 : decode prog_1_method_3_code 117 = .ok (.iload 6, 2) := by decide +kernel
theorem d3_119 : decode prog_1_method_3_code 119 = .ok (.dup2, 1) := by decide +kernel
theorem d3_120 : decode prog_1_method_3_code 120 = .ok (.iaload, 1) := by decide +kernel
theorem d3_121 : decode prog_1_method_3_code 121 = .ok (.aload_n 0, 1) := by decide +kernel
theorem d3_122 : decode prog_1_method_3_code 122 = .ok (.getfield 13, 3) := by decide +kernel
theorem d3_125 : decode prog_1_method_3_code 125 = .ok (.iload 7, 2) := by decide +kernel
theorem d3_127 : decode prog_1_method_3_code 127 = .ok (.iaload, 1) := by decide +kernel
theorem d3_128 : decode prog_1_method_3_code 128 = .ok (.iadd, 1) := by decide +kernel
theorem d3_129 : decode prog_1_method_3_code 129 = .ok (.iastore, 1) := by decide +kernel
theorem d3_130 : decode prog_1_method_3_code 130 = .ok (.aload_n 0, 1) := by decide +kernel
theorem d3_131 : decode prog_1_method_3_code 131 = .ok (.getfield 16, 3) := by decide +kernel
theorem d3_134 : decode prog_1_method_3_code 134 = .ok (.iload 6, 2) := by decide +kernel
theorem d3_136 : decode prog_1_method_3_code 136 = .ok (.iaload, 1) := by decide +kernel
theorem d3_137 : decode prog_1_method_3_code 137 = .ok (.istore 8, 2) := by decide +kernel
theorem d3_139 : decode prog_1_method_3_code 139 = .ok (.aload_n 0, 1) := by decide +kernel
theorem d3_140 : decode prog_1_method_3_code 140 = .ok (.getfield 16, 3) := by decide +kernel
theorem d3_143 : decode prog_1_method_3_code 143 = .ok (.iload 6, 2) := by decide +kernel
theorem d3_145 : decode prog_1_method_3_code 145 = .ok (.aload_n 0, 1) := by decide +kernel
theorem d3_146 : decode prog_1_method_3_code 146 = .ok (.getfield 16, 3) := by decide +kernel
theorem d3_149 : decode prog_1_method_3_code 149 = .ok (.iload 7, 2) := by decide +kernel
theorem d3_151 : decode prog_1_method_3_code 151 = .ok (.iaload, 1) := by decide +kernel
theorem d3_152 : decode prog_1_method_3_code 152 = .ok (.iastore, 1) := by decide +kernel
theorem d3_153 : decode prog_1_method_3_code 153 = .ok (.aload_n 0, 1) := by decide +kernel
theorem d3_154 : decode prog_1_method_3_code 154 = .ok (.getfield 16, 3) := by decide +kernel
theorem d3_157 : decode prog_1_method_3_code 157 = .ok (.iload 7, 2) := by decide +kernel
theorem d3_159 : decode prog_1_method_3_code 159 = .ok (.iload 8, 2) := by decide +kernel
theorem d3_161 : decode prog_1_method_3_code 161 = .ok (.iastore, 1) := by decide +kernel
theorem d3_162 : decode prog_1_method_3_code 162 = .ok (.iconst 1, 1) := by decide +kernel
theorem d3_163 : decode prog_1_method_3_code 163 = .ok (.ireturn, 1) := by decide +kernel
theorem d3_76 : decode prog_1_method_3_code 76 = .ok (.istore 5, 2) := by decide +kernel
theorem d3_78 : decode prog_1_method_3_code 78 = .ok (.iload 5, 2) := by decide +kernel
theorem d3_80 : decode prog_1_method_3_code 80 = .ok (.ifCond .eq 7, 3) := by decide +kernel
theorem d3_83 : decode prog_1_method_3_code 83 = .ok (.iload_n 3, 1) := by decide +kernel
theorem d3_84 : decode prog_1_method_3_code 84 = .ok (.goto 5, 3) := by decide +kernel
theorem d3_89 : decode prog_1_method_3_code 89 = .ok (.istore 6, 2) := by decide +kernel
theorem d3_91 : decode prog_1_method_3_code 91 = .ok (.iload 5, 2) := by decide +kernel
theorem d3_93 : decode prog_1_method_3_code 93 = .ok (.ifCond .eq 8, 3) := by decide +kernel
theorem d3_96 : decode prog_1_method_3_code 96 = .ok (.iload 4, 2) := by decide +kernel
theorem d3_98 : decode prog_1_method_3_code 98 = .ok (.goto 4, 3) := by decide +kernel
theorem d3_102 : decode prog_1_method_3_code 102 = .ok (.istore 7, 2) := by decide +kernel
theorem d3_87 : decode prog_1_method_3_code 87 = .ok (.iload 4, 2) := by decide +kernel
theorem d3_101 : decode prog_1_method_3_code 101 = .ok (.iload_n 3, 1) := by decide +kernel
theorem d3_33 : decode prog_1_method_3_code 33 = .ok (.aload_n 0, 1) := by decide +kernel
theorem d3_34 : decode prog_1_method_3_code 34 = .ok (.getfield 13, 3) := by decide +kernel
theorem d3_37 : decode prog_1_method_3_code 37 = .ok (.iload_n 3, 1) := by decide +kernel
theorem d3_38 : decode prog_1_method_3_code 38 = .ok (.iaload, 1) := by decide +kernel
theorem d3_39 : decode prog_1_method_3_code 39 = .ok (.aload_n 0, 1) := by decide +kernel
theorem d3_40 : decode prog_1_method_3_code 40 = .ok (.getfield 13, 3) := by decide +kernel
theorem d3_43 : decode prog_1_method_3_code 43 = .ok (.iload 4, 2) := by decide +kernel
theorem d3_45 : decode prog_1_method_3_code 45 = .ok (.iaload, 1) := by decide +kernel
theorem d3_46 : decode prog_1_method_3_code 46 = .ok (.if_icmp .gt 25, 3) := by decide +kernel
theorem d3_71 : decode prog_1_method_3_code 71 = .ok (.iconst 1, 1) := by decide +kernel
theorem d3_72 : decode prog_1_method_3_code 72 = .ok (.goto 4, 3) := by decide +kernel
theorem d3_49 : decode prog_1_method_3_code 49 = .ok (.aload_n 0, 1) := by decide +kernel
theorem d3_50 : decode prog_1_method_3_code 50 = .ok (.getfield 13, 3) := by decide +kernel
theorem d3_53 : decode prog_1_method_3_code 53 = .ok (.iload_n 3, 1) := by decide +kernel
theorem d3_54 : decode prog_1_method_3_code 54 = .ok (.iaload, 1) := by decide +kernel
theorem d3_55 : decode prog_1_method_3_code 55 = .ok (.aload_n 0, 1) := by decide +kernel
theorem d3_56 : decode prog_1_method_3_code 56 = .ok (.getfield 13, 3) := by decide +kernel
theorem d3_59 : decode prog_1_method_3_code 59 = .ok (.iload 4, 2) := by decide +kernel
theorem d3_61 : decode prog_1_method_3_code 61 = .ok (.iaload, 1) := by decide +kernel
theorem d3_62 : decode prog_1_method_3_code 62 = .ok (.if_icmp .ne 13, 3) := by decide +kernel
theorem d3_65 : decode prog_1_method_3_code 65 = .ok (.iload_n 3, 1) := by decide +kernel
theorem d3_66 : decode prog_1_method_3_code 66 = .ok (.iload 4, 2) := by decide +kernel
theorem d3_68 : decode prog_1_method_3_code 68 = .ok (.if_icmp .ge 7, 3) := by decide +kernel
theorem d3_75 : decode prog_1_method_3_code 75 = .ok (.iconst 0, 1) := by decide +kernel
def Q_max (Z : State) (x : Int32) (y : Int32) (h0 : Heap) (v : Option Value) (h : Heap) : Prop := v = some (.int (if x < y then y else x)) ∧ h0 = h
theorem rm_max (l : Launch) (Z : State) (a0 : Array Value) (hw : ∀ d ∈ tables_1, d.before a0 Z = true) (ws : List Jvm.Cond) (x y : Int32) (h0 : Heap) (n0 : Nat)  :
    own_M l Z (⟨"java/lang/Math", "max", "(II)I"⟩ : MethodName) jdk_29_method_65_code 2 (some .int) ws ({ frames := 0, cells := 0, slots := 0, locals := 0 } : Room) #[(.int x), (.int y)] h0 n0 (Q_max Z x y h0) := by
  refine own_enter' (Q := Q_max Z x y h0) (F := fun m => mkF m 0 #[.val (.int x), .val (.int y)] []) (Jvm.Free.JP.mathPlain rfl (by decide +kernel)) ?_
  intro p e s m below meth c s₁ B X0
  refine own_iloadN (pc' := 1) B X0 d12_0 rfl rfl ?_
  refine own_iloadN (pc' := 2) B X0 d12_1 rfl rfl ?_
  by_cases c1 : x < y
  · refine own_icmpYes (pc' := 9) B X0 d12_2 (tlt c1).1 (by decide) rfl ?_
    refine own_iloadN (pc' := 10) B X0 d12_9 rfl rfl ?_
    exact own_retI B X0 d12_10 (by decide) (by decide) ⟨by rw [if_pos c1], rfl⟩
  · refine own_icmpNo (pc' := 5) B X0 d12_2 (flt c1).1 rfl ?_
    refine own_iloadN (pc' := 6) B X0 d12_5 rfl rfl ?_
    refine own_goto (pc' := 10) B X0 d12_6 (by decide) rfl ?_
    exact own_retI B X0 d12_10 (by decide) (by decide) ⟨by rw [if_neg c1], rfl⟩
def Q_min (Z : State) (x : Int32) (y : Int32) (h0 : Heap) (v : Option Value) (h : Heap) : Prop := v = some (.int (if y < x then y else x)) ∧ h0 = h
theorem rm_min (l : Launch) (Z : State) (a0 : Array Value) (hw : ∀ d ∈ tables_1, d.before a0 Z = true) (ws : List Jvm.Cond) (x y : Int32) (h0 : Heap) (n0 : Nat)  :
    own_M l Z (⟨"java/lang/Math", "min", "(II)I"⟩ : MethodName) jdk_29_method_69_code 2 (some .int) ws ({ frames := 0, cells := 0, slots := 0, locals := 0 } : Room) #[(.int x), (.int y)] h0 n0 (Q_min Z x y h0) := by
  refine own_enter' (Q := Q_min Z x y h0) (F := fun m => mkF m 0 #[.val (.int x), .val (.int y)] []) (Jvm.Free.JP.mathPlain rfl (by decide +kernel)) ?_
  intro p e s m below meth c s₁ B X0
  refine own_iloadN (pc' := 1) B X0 d15_0 rfl rfl ?_
  refine own_iloadN (pc' := 2) B X0 d15_1 rfl rfl ?_
  by_cases c1 : y < x
  · refine own_icmpYes (pc' := 9) B X0 d15_2 (tlt c1).2.2.1 (by decide) rfl ?_
    refine own_iloadN (pc' := 10) B X0 d15_9 rfl rfl ?_
    exact own_retI B X0 d15_10 (by decide) (by decide) ⟨by rw [if_pos c1], rfl⟩
  · refine own_icmpNo (pc' := 5) B X0 d15_2 (flt c1).2.2.1 rfl ?_
    refine own_iloadN (pc' := 6) B X0 d15_5 rfl rfl ?_
    refine own_goto (pc' := 10) B X0 d15_6 (by decide) rfl ?_
    exact own_retI B X0 d15_10 (by decide) (by decide) ⟨by rw [if_neg c1], rfl⟩
def Q_copy (Z : State) (n : Int32) (n' : Int32) (q : Int32 → Int32) (h0 : Heap) (v : Option Value) (h : Heap) : Prop := ∃ b, v = some (.ref b) ∧ Keep h0 h [] ∧ h0.size ≤ b ∧ own_Fn Z h b n' (fun x => if x < n then q x else 0)
theorem rm_copy (l : Launch) (Z : State) (a0 : Array Value) (hw : ∀ d ∈ tables_1, d.before a0 Z = true) (ws : List Jvm.Cond) (a : Addr) (n n' : Int32) (q : Int32 → Int32) (h0 : Heap) (n0 : Nat) (Z0 : n0 ≤ h0.size) (V_a : own_Fn Z h0 a n q) (hlt : n < n') (h15 : n' < 15) :
    own_M l Z (⟨"java/util/Arrays", "copyOf", "([II)[I"⟩ : MethodName) jdk_65_method_123_code 3 (some (.array .int)) ws ({ frames := 1, cells := 1, slots := 14, locals := 60 } : Room) #[(.ref a), (.int n')] h0 n0 (Q_copy Z n n' q h0) := by
  have nn' : ¬ n' < 0 := by
    have nn := V_a.nn
    rw [Int32.lt_iff_toInt_lt] at hlt nn ⊢
    omega
  have ng : ¬ n' < n := fun q => own_irr _ (Int32.lt_trans q hlt)
  have cap : n'.toNatClampNeg ≤ 14 := by
    have := own_lt h15
    have e : (15 : Int32).toInt = 15 := by decide
    simp only [Int32.toNatClampNeg]
    omega
  refine own_enter' (Q := Q_copy Z n n' q h0) (F := fun m => mkF m 0 #[.val (.ref a), .val (.int n'), .unset] []) (plainFor_of_name wpn_0) ?_
  intro p e s m below meth c s₁ B X0
  refine own_iloadN (pc' := 1) B X0 d14_0 rfl rfl ?_
  refine own_aloadN (pc' := 2) B X0 d14_1 rfl rfl rfl ?_
  refine own_arraylengthFn (pc' := 3) B X0 V_a d14_2 rfl ?_
  refine own_icmpYes (pc' := 14) B X0 d14_3 (feq (fun q => own_irr _ (q ▸ hlt))).2 (by decide) rfl ?_
  refine own_iloadN (pc' := 15) B X0 d14_14 rfl rfl ?_
  refine own_newarray (pc' := 17) B X0 (own_w hw 0 rfl) d14_15 rfl rfl nn' 14 cap (by decide) (k' := 1) (n' := 14) rfl rfl (by decide) (by decide) "[I" (by decide) (.int (0 : Int32)) rfl ?_
  intro T1 h1 b kb X1 gb Eb A_b E_b
  replace V_a := V_a.ext Eb
  have g_b : n0 ≤ b := gb ▸ Z0
  refine own_astoreN (pc' := 18) B X1 (Ls' := #[.val (.ref a), .val (.int n'), .val (.ref b)]) d14_17 rfl rfl rfl ?_
  refine own_aloadN (pc' := 19) B X1 d14_18 rfl rfl rfl ?_
  refine own_iconst (pc' := 20) B X1 (z := (0 : Int32)) d14_19 rfl rfl ?_
  refine own_aloadN (pc' := 21) B X1 d14_20 rfl rfl rfl ?_
  refine own_iconst (pc' := 22) B X1 (z := (0 : Int32)) d14_21 rfl rfl ?_
  refine own_aloadN (pc' := 23) B X1 d14_22 rfl rfl rfl ?_
  refine own_arraylengthFn (pc' := 24) B X1 V_a d14_23 rfl ?_
  refine own_iloadN (pc' := 25) B X1 d14_24 rfl rfl ?_
  refine own_callS (pc' := 28) B X1 (own_w hw 62 rfl) (own_w hw 63 rfl) (own_w hw 52 rfl) (own_w hw 64 rfl) (by decide) [(.int n), (.int n')] [(.int (0 : Int32)), (.ref b), (.int (0 : Int32)), (.ref a)] (rm_min l Z a0 hw [] n n' h1 n0) 4 (by decide) (by decide) rfl wpd_0 rfl rfl (Nat.le_of_eq rfl) d14_25 rfl (k' := 1) (n' := 14) rfl rfl (by decide) (by decide) ?_
  intro T2 v2 h2 X2 q2
  obtain ⟨rfl, rfl⟩ := q2
  rw [if_neg ng]
  show own_Go p e below (T2.setTop (mkF m 28 #[.val (.ref a), .val (.int n'), .val (.ref b)] [(.int n), (.int (0 : Int32)), (.ref b), (.int (0 : Int32)), (.ref a)])) _
  refine own_arraycopyFn (pc' := 31) B X2 (own_w hw 65 rfl) (own_w hw 68 rfl) (own_w hw 66 rfl) (own_w hw 67 rfl) V_a A_b g_b ng d14_28 rfl rfl (by decide) 0 (Nat.le_of_eq rfl) (by decide) ?_
  intro T3 h3 X3 Kc V_b
  refine own_aloadN (pc' := 32) B X3 d14_31 rfl rfl rfl ?_
  exact own_retA B X3 (t := (.array .int)) rfl rfl rfl d14_32 (by decide) (by decide) ⟨b, rfl, Keep.trans (Keep.ext (Keep.refl h0 []) Eb) Kc (allS (Or.inr (Nat.le_of_eq gb.symm)) all0), Nat.le_of_eq gb.symm, V_b⟩
def Q_rep (Z : State) (al : Addr) (R S : Int32 → Int32) (x : Int32) (h0 : Heap) (v : Option Value) (h : Heap) : Prop := v = some (.int (R x)) ∧ own_K h0 h al ∧ own_AL Z h al R S
theorem rm_rep (l : Launch) (Z : State) (a0 : Array Value) (hw : ∀ d ∈ tables_1, d.before a0 Z = true) (ws : List Jvm.Cond) (al : Addr) (R S : Int32 → Int32) (x : Int32) (h0 : Heap) (n0 : Nat) (A : own_AL Z h0 al R S) (g : n0 ≤ al) (hx : ¬ x < 0) :
    own_M l Z (⟨"com/example/ordal/ordal/Aliases", "representative", "(I)I"⟩ : MethodName) prog_1_method_2_code 5 (some .int) ws ({ frames := 0, cells := 0, slots := 0, locals := 0 } : Room) #[(.ref al), (.int x)] h0 n0 (Q_rep Z al R S x h0) := by
  obtain ⟨pa, sa, ra, n, q, s', r, k, ⟨E_al, F_parents, F_sizes, F_rings, V_pa, V_sa, V_ra, l_pa, l_sa, l_ra, n_pa_sa, n_pa_ra, n_sa_ra⟩, I⟩ := A
  obtain ⟨rx, hrx⟩ : ∃ z : Int32, R x = z := ⟨_, rfl⟩
  refine own_enter' (Q := Q_rep Z al R S x h0) (F := fun m => mkF m 0 #[.val (.ref al), .val (.int x), .unset, .unset, .unset] []) (plainFor_of_name wpn_1) ?_
  intro p e s m below meth c s₁ B X0
  have L2 : ∀ (j : Nat) (y : Int32) (sl : Slot) (q : Int32 → Int32) (T : State) (h : Heap), (sl = .unset ∨ ∃ z : Int32, sl = .val (.int z)) → own_S p l e ({ frames := 0, cells := 0, slots := 0, locals := 0 } : Room) s m #[(.ref al), (.int x)] below meth c n0 T h 0 0 → own_K h0 h al → own_A Z h al pa sa ra n q s' r → own_Inv n q s' R S k → own_it q j y = rx → R y = rx → own_Go p e below (T.setTop (mkF m 33 #[.val (.ref al), .val (.int x), .val (.int rx), .val (.int y), sl] [])) (own_P s below n0 (Q_rep Z al R S x h0) ({ frames := 0, cells := 0, slots := 0, locals := 0 } : Room).cells ({ frames := 0, cells := 0, slots := 0, locals := 0 } : Room).slots) := by
    intro j
    induction j using Nat.strongRecOn with
    | _ j ih =>
    intro y sl q T h hsl X K A I hit hR
    obtain ⟨E_al, F_parents, F_sizes, F_rings, V_pa, V_sa, V_ra, l_pa, l_sa, l_ra, n_pa_sa, n_pa_ra, n_sa_ra⟩ := A
    refine own_iloadN (pc' := 34) B X d4_33 rfl rfl ?_
    refine own_iloadN (pc' := 35) B X d4_34 rfl rfl ?_
    by_cases c1 : y = rx
    · refine own_icmpYes (pc' := 59) B X d4_35 (teq c1).1 (by decide) rfl ?_
      refine own_iloadN (pc' := 60) B X d4_59 rfl rfl ?_
      exact own_retI B X d4_60 (by decide) (by decide) ⟨by rw [hrx], K, pa, sa, ra, n, q, s', r, k, ⟨E_al, F_parents, F_sizes, F_rings, V_pa, V_sa, V_ra, l_pa, l_sa, l_ra, n_pa_sa, n_pa_ra, n_sa_ra⟩, I⟩
    · refine own_icmpNo (pc' := 38) B X d4_35 (feq c1).1 rfl ?_
      have hin : own_In n y := Classical.byContradiction fun u => c1 ((own_inv_out I u).symm.trans hR)
      obtain ⟨y', hy'⟩ : ∃ z : Int32, q y = z := ⟨_, rfl⟩
      refine own_aloadN (pc' := 39) B X d4_38 rfl rfl rfl ?_
      refine own_getfield (pc' := 42) B X (host := "") (Or.inl (own_w hw 11 rfl)) Via.refl F_parents d4_39 rfl ?_
      intro T4 X4
      refine own_iloadN (pc' := 43) B X4 d4_42 rfl rfl ?_
      refine own_ialoadFn (pc' := 44) B X4 (y := y') V_pa hin hy' d4_43 rfl ?_
      refine own_istore (pc' := 46) B X4 (Ls' := #[.val (.ref al), .val (.int x), .val (.int rx), .val (.int y), .val (.int y')]) d4_44 rfl (by rcases hsl with rfl | ⟨z, rfl⟩ <;> rfl) ?_
      refine own_aloadN (pc' := 47) B X4 d4_46 rfl rfl rfl ?_
      refine own_getfield (pc' := 50) B X4 (host := "") (Or.inl (own_w hw 11 rfl)) Via.refl F_parents d4_47 rfl ?_
      intro T5 X5
      refine own_iloadN (pc' := 51) B X5 d4_50 rfl rfl ?_
      refine own_iloadN (pc' := 52) B X5 d4_51 rfl rfl ?_
      refine own_iastoreFn (pc' := 53) B X5 V_pa (Nat.le_trans g (Nat.le_of_lt l_pa)) hin d4_52 rfl ?_
      intro T6 h6 X6 W6 V_pa
      replace E_al := E_al.wr W6
      replace F_parents := F_parents.other W6 (Or.inl (Nat.ne_of_lt l_pa))
      replace F_sizes := F_sizes.other W6 (Or.inl (Nat.ne_of_lt l_pa))
      replace F_rings := F_rings.other W6 (Or.inl (Nat.ne_of_lt l_pa))
      replace V_sa := V_sa.other W6 (Ne.symm n_pa_sa)
      replace V_ra := V_ra.other W6 (Ne.symm n_pa_ra)
      replace K := K.wr W6 (Nat.le_of_lt l_pa)
      refine own_iload (pc' := 55) B X6 d4_53 rfl rfl ?_
      refine own_istoreN (pc' := 56) B X6 (Ls' := #[.val (.ref al), .val (.int x), .val (.int rx), .val (.int y'), .val (.int y')]) d4_55 rfl rfl ?_
      refine own_goto (pc' := 33) B X6 d4_56 (by decide) rfl ?_
      cases j with
      | zero => exact absurd hit c1
      | succ j =>
        have i3 : R y' = R y := hy' ▸ I.2.2.1 y
        have hit' : own_it (own_upd q y (R y)) j y' = R y' := own_it_upd I y j y' (by rw [i3, hR, ← hy']; exact hit)
        rw [i3, hR] at hit'
        have I' := own_inv_comp I hin
        rw [hR] at I'
        exact ih j (Nat.lt_succ_self j) y' _ _ T6 h6 (Or.inr ⟨_, rfl⟩) X6 K ⟨E_al, F_parents, F_sizes, F_rings, V_pa, V_sa, V_ra, l_pa, l_sa, l_ra, n_pa_sa, n_pa_ra, n_sa_ra⟩ I' hit' (i3.trans hR)
  have L1 : ∀ (j : Nat) (y : Int32) (T : State), own_S p l e ({ frames := 0, cells := 0, slots := 0, locals := 0 } : Room) s m #[(.ref al), (.int x)] below meth c n0 T h0 0 0 → own_it q j y = rx → R y = rx → ¬ y < 0 → own_Go p e below (T.setTop (mkF m 2 #[.val (.ref al), .val (.int x), .val (.int y), .unset, .unset] [])) (own_P s below n0 (Q_rep Z al R S x h0) ({ frames := 0, cells := 0, slots := 0, locals := 0 } : Room).cells ({ frames := 0, cells := 0, slots := 0, locals := 0 } : Room).slots) := by
    intro j
    induction j using Nat.strongRecOn with
    | _ j ih =>
    intro y T X hit hR hy0
    have ex : y = rx → ∀ (T : State), own_S p l e ({ frames := 0, cells := 0, slots := 0, locals := 0 } : Room) s m #[(.ref al), (.int x)] below meth c n0 T h0 0 0 → own_Go p e below (T.setTop (mkF m 31 #[.val (.ref al), .val (.int x), .val (.int y), .unset, .unset] [])) (own_P s below n0 (Q_rep Z al R S x h0) ({ frames := 0, cells := 0, slots := 0, locals := 0 } : Room).cells ({ frames := 0, cells := 0, slots := 0, locals := 0 } : Room).slots) := by
      intro ey T X
      rw [ey]
      refine own_iloadN (pc' := 32) B X d4_31 rfl rfl ?_
      refine own_istoreN (pc' := 33) B X (Ls' := #[.val (.ref al), .val (.int x), .val (.int rx), .val (.int x), .unset]) d4_32 rfl rfl ?_
      exact L2 k x _ q T h0 (Or.inl rfl) X own_K.refl ⟨E_al, F_parents, F_sizes, F_rings, V_pa, V_sa, V_ra, l_pa, l_sa, l_ra, n_pa_sa, n_pa_ra, n_sa_ra⟩ I ((I.1 x).trans hrx) hrx
    refine own_iloadN (pc' := 3) B X d4_2 rfl rfl ?_
    refine own_aloadN (pc' := 4) B X d4_3 rfl rfl rfl ?_
    refine own_getfield (pc' := 7) B X (host := "") (Or.inl (own_w hw 11 rfl)) Via.refl F_parents d4_4 rfl ?_
    intro T7 X7
    refine own_arraylengthFn (pc' := 8) B X7 V_pa d4_7 rfl ?_
    by_cases c1 : y < n
    · refine own_icmpNo (pc' := 11) B X7 d4_8 (tlt c1).2.1 rfl ?_
      obtain ⟨y', hy'⟩ : ∃ z : Int32, q y = z := ⟨_, rfl⟩
      refine own_aloadN (pc' := 12) B X7 d4_11 rfl rfl rfl ?_
      refine own_getfield (pc' := 15) B X7 (host := "") (Or.inl (own_w hw 11 rfl)) Via.refl F_parents d4_12 rfl ?_
      intro T8 X8
      refine own_iloadN (pc' := 16) B X8 d4_15 rfl rfl ?_
      refine own_ialoadFn (pc' := 17) B X8 (y := y') V_pa ⟨hy0, c1⟩ hy' d4_16 rfl ?_
      refine own_iloadN (pc' := 18) B X8 d4_17 rfl rfl ?_
      by_cases c2 : y' = y
      · refine own_icmpYes (pc' := 31) B X8 d4_18 (teq c2).1 (by decide) rfl ?_
        have ee : R y = y := (I.1 y).symm.trans (own_it_fix (hy'.trans c2) k)
        exact ex (ee.symm.trans hR) T8 X8
      · refine own_icmpNo (pc' := 21) B X8 d4_18 (feq c2).1 rfl ?_
        refine own_aloadN (pc' := 22) B X8 d4_21 rfl rfl rfl ?_
        refine own_getfield (pc' := 25) B X8 (host := "") (Or.inl (own_w hw 11 rfl)) Via.refl F_parents d4_22 rfl ?_
        intro T9 X9
        refine own_iloadN (pc' := 26) B X9 d4_25 rfl rfl ?_
        refine own_ialoadFn (pc' := 27) B X9 (y := y') V_pa ⟨hy0, c1⟩ hy' d4_26 rfl ?_
        refine own_istoreN (pc' := 28) B X9 (Ls' := #[.val (.ref al), .val (.int x), .val (.int y'), .unset, .unset]) d4_27 rfl rfl ?_
        refine own_goto (pc' := 2) B X9 d4_28 (by decide) rfl ?_
        cases j with
        | zero => exact absurd (by rw [← hy', show y = R x from Eq.trans hit hrx.symm]; exact I.2.1 x) c2
        | succ j => exact ih j (Nat.lt_succ_self j) y' T9 X9 (hy' ▸ hit) ((hy' ▸ I.2.2.1 y : R y' = R y).trans hR) (hy' ▸ (I.2.2.2.2.1 y ⟨hy0, c1⟩).1)
    · refine own_icmpYes (pc' := 31) B X7 d4_8 (flt c1).2.1 (by decide) rfl ?_
      exact ex ((own_inv_out I (fun u => c1 u.2)).symm.trans hR) T7 X7
  refine own_iloadN (pc' := 1) B X0 d4_0 rfl rfl ?_
  refine own_istoreN (pc' := 2) B X0 (Ls' := #[.val (.ref al), .val (.int x), .val (.int x), .unset, .unset]) d4_1 rfl rfl ?_
  exact L1 k x s₁ X0 ((I.1 x).trans hrx) hrx hx
def Q_grow (Z : State) (al : Addr) (pa : Addr) (sa : Addr) (ra : Addr) (n : Int32) (q : Int32 → Int32) (s' : Int32 → Int32) (r : Int32 → Int32) (need : Int32) (h0 : Heap) (v : Option Value) (h : Heap) : Prop := v = none ∧ own_K h0 h al ∧ ∃ pa sa ra n' r, own_A Z h al pa sa ra n' q s' r ∧ ¬ n' < n ∧ ¬ n' < need ∧ n' < 15
theorem rm_grow (l : Launch) (Z : State) (a0 : Array Value) (hw : ∀ d ∈ tables_1, d.before a0 Z = true) (ws : List Jvm.Cond) (al pa sa ra : Addr) (n : Int32) (q s' r : Int32 → Int32) (need : Int32) (h0 : Heap) (n0 : Nat) (Z0 : n0 ≤ h0.size) (A : own_A Z h0 al pa sa ra n q s' r) (g : n0 ≤ al) (hq : ∀ x, ¬ own_In n x → q x = x) (hs : ∀ x, ¬ own_In n x → s' x = 1) (hn : n < 15) (hneed : need < 9) :
    own_M l Z (⟨"com/example/ordal/ordal/Aliases", "grow", "(I)V"⟩ : MethodName) prog_1_method_7_code 5 none ws ({ frames := 2, cells := 3, slots := 42, locals := 90 } : Room) #[(.ref al), (.int need)] h0 n0 (Q_grow Z al pa sa ra n q s' r need h0) := by
  obtain ⟨E_al, F_parents, F_sizes, F_rings, V_pa, V_sa, V_ra, l_pa, l_sa, l_ra, n_pa_sa, n_pa_ra, n_sa_ra⟩ := A
  have nn := V_pa.nn
  refine own_enter' (Q := Q_grow Z al pa sa ra n q s' r need h0) (F := fun m => mkF m 0 #[.val (.ref al), .val (.int need), .unset, .unset, .unset] []) (plainFor_of_name wpn_1) ?_
  intro p e s m below meth c s₁ B X0
  refine own_aloadN (pc' := 1) B X0 d13_0 rfl rfl rfl ?_
  refine own_getfield (pc' := 4) B X0 (host := "") (Or.inl (own_w hw 11 rfl)) Via.refl F_parents d13_1 rfl ?_
  intro T10 X10
  refine own_arraylengthFn (pc' := 5) B X10 V_pa d13_4 rfl ?_
  refine own_istoreN (pc' := 6) B X10 (Ls' := #[.val (.ref al), .val (.int need), .val (.int n), .unset, .unset]) d13_5 rfl rfl ?_
  refine own_iloadN (pc' := 7) B X10 d13_6 rfl rfl ?_
  refine own_iloadN (pc' := 8) B X10 d13_7 rfl rfl ?_
  by_cases c1 : n < need
  · obtain ⟨n2, hn2⟩ : ∃ z : Int32, (2 : Int32) * n = z := ⟨_, rfl⟩
    refine own_icmpNo (pc' := 11) B X10 d13_8 (tlt c1).2.2.2 rfl ?_
    refine own_iloadN (pc' := 12) B X10 d13_11 rfl rfl ?_
    refine own_iconst (pc' := 13) B X10 (z := (2 : Int32)) d13_12 rfl rfl ?_
    refine own_iloadN (pc' := 14) B X10 d13_13 rfl rfl ?_
    refine own_imul (pc' := 15) B X10 d13_14 rfl hn2 ?_
    refine own_callS (pc' := 18) B X10 (own_w hw 50 rfl) (own_w hw 51 rfl) (own_w hw 52 rfl) (own_w hw 53 rfl) (by decide) [(.int need), (.int n2)] [] (rm_max l Z a0 hw [] need n2 h0 n0) 0 (by decide) (by decide) rfl wpd_0 rfl rfl (Nat.le_of_eq rfl) d13_15 rfl (k' := 0) (n' := 0) rfl rfl (by decide) (by decide) ?_
    intro T11 v11 h11 X11 q11
    obtain ⟨rfl, rfl⟩ := q11
    obtain ⟨np, hnp⟩ : ∃ z : Int32, (if need < n2 then n2 else need) = z := ⟨_, rfl⟩
    rw [hnp]
    have bd : n < np ∧ ¬ np < need ∧ np < 15 := own_bounds nn hneed c1 hn2 hnp
    clear hnp
    have K : own_K h0 h0 al := own_K.refl
    show own_Go p e below (T11.setTop (mkF m 18 #[.val (.ref al), .val (.int need), .val (.int n), .unset, .unset] [(.int np)])) _
    refine own_istoreN (pc' := 19) B X11 (Ls' := #[.val (.ref al), .val (.int need), .val (.int n), .val (.int np), .unset]) d13_18 rfl rfl ?_
    refine own_aloadN (pc' := 20) B X11 d13_19 rfl rfl rfl ?_
    refine own_aloadN (pc' := 21) B X11 d13_20 rfl rfl rfl ?_
    refine own_getfield (pc' := 24) B X11 (host := "") (Or.inl (own_w hw 11 rfl)) Via.refl F_parents d13_21 rfl ?_
    intro T12 X12
    refine own_iloadN (pc' := 25) B X12 d13_24 rfl rfl ?_
    refine own_callS (pc' := 28) B X12 (own_w hw 58 rfl) (own_w hw 59 rfl) (own_w hw 60 rfl) (own_w hw 61 rfl) (by decide) [(.ref pa), (.int np)] [(.ref al)] (rm_copy l Z a0 hw [] pa n np q h0 n0 Z0 V_pa bd.1 bd.2.2) 1 (by decide) (by decide) rfl wpd_1 rfl rfl (Nat.le_of_eq rfl) d13_25 rfl (k' := 1) (n' := 14) rfl rfl (by decide) (by decide) ?_
    intro T13 v13 h13 X13 q13
    have t_pa := V_pa.lt
    have t_sa := V_sa.lt
    have t_ra := V_ra.lt
    have t_al := E_al.lt
    obtain ⟨pb, rfl, K13, z_pb, V_pb⟩ := q13
    have n_pa_pb : pa ≠ pb := own_ne' t_pa z_pb
    have n_sa_pb : sa ≠ pb := own_ne' t_sa z_pb
    have n_ra_pb : ra ≠ pb := own_ne' t_ra z_pb
    have l_pb : al < pb := Nat.lt_of_lt_of_le t_al z_pb
    replace K := K.keep K13 all0
    replace E_al := E_al.keep K13
    replace F_parents := F_parents.keep K13 nin0
    replace F_sizes := F_sizes.keep K13 nin0
    replace F_rings := F_rings.keep K13 nin0
    replace V_pa := V_pa.keep K13 nin0
    replace V_sa := V_sa.keep K13 nin0
    replace V_ra := V_ra.keep K13 nin0
    show own_Go p e below (T13.setTop (mkF m 28 #[.val (.ref al), .val (.int need), .val (.int n), .val (.int np), .unset] [(.ref pb), (.ref al)])) _
    refine own_putfield (pc' := 31) B X13 (host := "") (Or.inl (own_w hw 11 rfl)) Via.refl F_parents E_al g (Or.inl (own_w hw 12 rfl)) (own_w hw 3 rfl) (ty := (.array .int)) (by decide) rfl rfl d13_28 rfl ?_
    intro T14 h14 X14 W14 F_parents
    replace E_al := E_al.wr W14
    replace F_sizes := F_sizes.other W14 (Or.inr (slot_ne (Or.inl (own_w hw 14 rfl)) (Or.inl (own_w hw 12 rfl)) (by decide) (t := (.array .int)) (t' := (.array .int)) (by decide) (by decide)))
    replace F_rings := F_rings.other W14 (Or.inr (slot_ne (Or.inl (own_w hw 16 rfl)) (Or.inl (own_w hw 12 rfl)) (by decide) (t := (.array .int)) (t' := (.array .int)) (by decide) (by decide)))
    replace V_pa := V_pa.other W14 (Nat.ne_of_gt l_pa)
    replace V_sa := V_sa.other W14 (Nat.ne_of_gt l_sa)
    replace V_ra := V_ra.other W14 (Nat.ne_of_gt l_ra)
    replace V_pb := V_pb.other W14 (Nat.ne_of_gt l_pb)
    replace K := K.wr W14 (Nat.le_refl _)
    refine own_aloadN (pc' := 32) B X14 d13_31 rfl rfl rfl ?_
    refine own_aloadN (pc' := 33) B X14 d13_32 rfl rfl rfl ?_
    refine own_getfield (pc' := 36) B X14 (host := "") (Or.inl (own_w hw 13 rfl)) Via.refl F_sizes d13_33 rfl ?_
    intro T15 X15
    refine own_iloadN (pc' := 37) B X15 d13_36 rfl rfl ?_
    refine own_callS (pc' := 40) B X15 (own_w hw 58 rfl) (own_w hw 59 rfl) (own_w hw 60 rfl) (own_w hw 61 rfl) (by decide) [(.ref sa), (.int np)] [(.ref al)] (rm_copy l Z a0 hw [] sa n np s' h14 n0 (Nat.le_trans Z0 K.le) V_sa bd.1 bd.2.2) 1 (by decide) (by decide) rfl wpd_1 rfl rfl (Nat.le_of_eq rfl) d13_37 rfl (k' := 2) (n' := 28) rfl rfl (by decide) (by decide) ?_
    intro T16 v16 h16 X16 q16
    have t_sa := V_sa.lt
    have t_ra := V_ra.lt
    have t_pb := V_pb.lt
    have t_al := E_al.lt
    obtain ⟨sb, rfl, K16, z_sb, V_sb⟩ := q16
    have n_sa_sb : sa ≠ sb := own_ne' t_sa z_sb
    have n_ra_sb : ra ≠ sb := own_ne' t_ra z_sb
    have n_pb_sb : pb ≠ sb := own_ne' t_pb z_sb
    have l_sb : al < sb := Nat.lt_of_lt_of_le t_al z_sb
    replace K := K.keep K16 all0
    replace E_al := E_al.keep K16
    replace F_parents := F_parents.keep K16 nin0
    replace F_sizes := F_sizes.keep K16 nin0
    replace F_rings := F_rings.keep K16 nin0
    replace V_sa := V_sa.keep K16 nin0
    replace V_ra := V_ra.keep K16 nin0
    replace V_pb := V_pb.keep K16 nin0
    show own_Go p e below (T16.setTop (mkF m 40 #[.val (.ref al), .val (.int need), .val (.int n), .val (.int np), .unset] [(.ref sb), (.ref al)])) _
    refine own_putfield (pc' := 43) B X16 (host := "") (Or.inl (own_w hw 13 rfl)) Via.refl F_sizes E_al g (Or.inl (own_w hw 14 rfl)) (own_w hw 3 rfl) (ty := (.array .int)) (by decide) rfl rfl d13_40 rfl ?_
    intro T17 h17 X17 W17 F_sizes
    replace E_al := E_al.wr W17
    replace F_parents := F_parents.other W17 (Or.inr (slot_ne (Or.inl (own_w hw 12 rfl)) (Or.inl (own_w hw 14 rfl)) (by decide) (t := (.array .int)) (t' := (.array .int)) (by decide) (by decide)))
    replace F_rings := F_rings.other W17 (Or.inr (slot_ne (Or.inl (own_w hw 16 rfl)) (Or.inl (own_w hw 14 rfl)) (by decide) (t := (.array .int)) (t' := (.array .int)) (by decide) (by decide)))
    replace V_sa := V_sa.other W17 (Nat.ne_of_gt l_sa)
    replace V_ra := V_ra.other W17 (Nat.ne_of_gt l_ra)
    replace V_pb := V_pb.other W17 (Nat.ne_of_gt l_pb)
    replace V_sb := V_sb.other W17 (Nat.ne_of_gt l_sb)
    replace K := K.wr W17 (Nat.le_refl _)
    refine own_aloadN (pc' := 44) B X17 d13_43 rfl rfl rfl ?_
    refine own_aloadN (pc' := 45) B X17 d13_44 rfl rfl rfl ?_
    refine own_getfield (pc' := 48) B X17 (host := "") (Or.inl (own_w hw 15 rfl)) Via.refl F_rings d13_45 rfl ?_
    intro T18 X18
    refine own_iloadN (pc' := 49) B X18 d13_48 rfl rfl ?_
    refine own_callS (pc' := 52) B X18 (own_w hw 58 rfl) (own_w hw 59 rfl) (own_w hw 60 rfl) (own_w hw 61 rfl) (by decide) [(.ref ra), (.int np)] [(.ref al)] (rm_copy l Z a0 hw [] ra n np r h17 n0 (Nat.le_trans Z0 K.le) V_ra bd.1 bd.2.2) 1 (by decide) (by decide) rfl wpd_1 rfl rfl (Nat.le_of_eq rfl) d13_49 rfl (k' := 3) (n' := 42) rfl rfl (by decide) (by decide) ?_
    intro T19 v19 h19 X19 q19
    have t_ra := V_ra.lt
    have t_pb := V_pb.lt
    have t_sb := V_sb.lt
    have t_al := E_al.lt
    obtain ⟨rb, rfl, K19, z_rb, V_rb⟩ := q19
    have n_ra_rb : ra ≠ rb := own_ne' t_ra z_rb
    have n_pb_rb : pb ≠ rb := own_ne' t_pb z_rb
    have n_sb_rb : sb ≠ rb := own_ne' t_sb z_rb
    have l_rb : al < rb := Nat.lt_of_lt_of_le t_al z_rb
    replace K := K.keep K19 all0
    replace E_al := E_al.keep K19
    replace F_parents := F_parents.keep K19 nin0
    replace F_sizes := F_sizes.keep K19 nin0
    replace F_rings := F_rings.keep K19 nin0
    replace V_ra := V_ra.keep K19 nin0
    replace V_pb := V_pb.keep K19 nin0
    replace V_sb := V_sb.keep K19 nin0
    show own_Go p e below (T19.setTop (mkF m 52 #[.val (.ref al), .val (.int need), .val (.int n), .val (.int np), .unset] [(.ref rb), (.ref al)])) _
    refine own_putfield (pc' := 55) B X19 (host := "") (Or.inl (own_w hw 15 rfl)) Via.refl F_rings E_al g (Or.inl (own_w hw 16 rfl)) (own_w hw 3 rfl) (ty := (.array .int)) (by decide) rfl rfl d13_52 rfl ?_
    intro T20 h20 X20 W20 F_rings
    replace E_al := E_al.wr W20
    replace F_parents := F_parents.other W20 (Or.inr (slot_ne (Or.inl (own_w hw 12 rfl)) (Or.inl (own_w hw 16 rfl)) (by decide) (t := (.array .int)) (t' := (.array .int)) (by decide) (by decide)))
    replace F_sizes := F_sizes.other W20 (Or.inr (slot_ne (Or.inl (own_w hw 14 rfl)) (Or.inl (own_w hw 16 rfl)) (by decide) (t := (.array .int)) (t' := (.array .int)) (by decide) (by decide)))
    replace V_ra := V_ra.other W20 (Nat.ne_of_gt l_ra)
    replace V_pb := V_pb.other W20 (Nat.ne_of_gt l_pb)
    replace V_sb := V_sb.other W20 (Nat.ne_of_gt l_sb)
    replace V_rb := V_rb.other W20 (Nat.ne_of_gt l_rb)
    replace K := K.wr W20 (Nat.le_refl _)
    refine own_iloadN (pc' := 56) B X20 d13_55 rfl rfl ?_
    refine own_istore (pc' := 58) B X20 (Ls' := #[.val (.ref al), .val (.int need), .val (.int n), .val (.int np), .val (.int n)]) d13_56 rfl rfl ?_
    have L : ∀ (j : Nat) (i : Int32) (q1 s1 r1 : Int32 → Int32) (T : State) (h : Heap), own_S p l e ({ frames := 2, cells := 3, slots := 42, locals := 90 } : Room) s m #[(.ref al), (.int need)] below meth c n0 T h 3 42 → own_K h0 h al → own_A Z h al pb sb rb np q1 s1 r1 → ¬ i < n → ¬ np < i → np.toInt - i.toInt = j → (∀ x, own_In i x → q1 x = q x) → (∀ x, own_In i x → s1 x = s' x) → own_Go p e below (T.setTop (mkF m 58 #[.val (.ref al), .val (.int need), .val (.int n), .val (.int np), .val (.int i)] [])) (own_P s below n0 (Q_grow Z al pa sa ra n q s' r need h0) ({ frames := 2, cells := 3, slots := 42, locals := 90 } : Room).cells ({ frames := 2, cells := 3, slots := 42, locals := 90 } : Room).slots) := by
      intro j
      induction j with
      | zero =>
        intro i q1 s1 r1 T h X K A in1 in2 hj hq1 hs1
        obtain ⟨E_al, F_parents, F_sizes, F_rings, V_pb, V_sb, V_rb, l_pb, l_sb, l_rb, n_pb_sb, n_pb_rb, n_sb_rb⟩ := A
        refine own_iload (pc' := 60) B X d13_58 rfl rfl ?_
        refine own_iloadN (pc' := 61) B X d13_60 rfl rfl ?_
        have c2 : ¬ i < np := by
          rw [Int32.lt_iff_toInt_lt]
          omega
        refine own_icmpYes (pc' := 96) B X d13_61 (flt c2).2.1 (by decide) rfl ?_
        have ee : i = np := own_eqI (by have := own_nlt in2; have := own_nlt c2; omega)
        rw [ee] at hq1 hs1
        replace V_pb := V_pb.congr hq1
        replace V_sb := V_sb.congr hs1
        exact own_ret B X d13_96 (by decide) (by decide) ⟨rfl, K, pb, sb, rb, np, r1, ⟨E_al, F_parents, F_sizes, F_rings, V_pb, V_sb, V_rb, l_pb, l_sb, l_rb, n_pb_sb, n_pb_rb, n_sb_rb⟩, fun u => own_irr _ (Int32.lt_trans u bd.1), bd.2⟩
      | succ j ih =>
        intro i q1 s1 r1 T h X K A in1 in2 hj hq1 hs1
        obtain ⟨E_al, F_parents, F_sizes, F_rings, V_pb, V_sb, V_rb, l_pb, l_sb, l_rb, n_pb_sb, n_pb_rb, n_sb_rb⟩ := A
        have c2 : i < np := by
          rw [Int32.lt_iff_toInt_lt]
          omega
        have hi : own_In np i := ⟨fun u => in1 (own_lt0 u nn), c2⟩
        obtain ⟨i', hi'⟩ : ∃ z : Int32, i + (1 : Int32) = z := ⟨_, rfl⟩
        have ti : i'.toInt = i.toInt + 1 := own_succ hi' c2
        refine own_iload (pc' := 60) B X d13_58 rfl rfl ?_
        refine own_iloadN (pc' := 61) B X d13_60 rfl rfl ?_
        refine own_icmpNo (pc' := 64) B X d13_61 (tlt c2).2.1 rfl ?_
        refine own_aloadN (pc' := 65) B X d13_64 rfl rfl rfl ?_
        refine own_getfield (pc' := 68) B X (host := "") (Or.inl (own_w hw 11 rfl)) Via.refl F_parents d13_65 rfl ?_
        intro T21 X21
        refine own_iload (pc' := 70) B X21 d13_68 rfl rfl ?_
        refine own_iload (pc' := 72) B X21 d13_70 rfl rfl ?_
        refine own_iastoreFn (pc' := 73) B X21 V_pb (Nat.le_trans g (Nat.le_of_lt l_pb)) hi d13_72 rfl ?_
        intro T22 h22 X22 W22 V_pb
        replace E_al := E_al.wr W22
        replace F_parents := F_parents.other W22 (Or.inl (Nat.ne_of_lt l_pb))
        replace F_sizes := F_sizes.other W22 (Or.inl (Nat.ne_of_lt l_pb))
        replace F_rings := F_rings.other W22 (Or.inl (Nat.ne_of_lt l_pb))
        replace V_sb := V_sb.other W22 (Ne.symm n_pb_sb)
        replace V_rb := V_rb.other W22 (Ne.symm n_pb_rb)
        replace K := K.wr W22 (Nat.le_of_lt l_pb)
        refine own_aloadN (pc' := 74) B X22 d13_73 rfl rfl rfl ?_
        refine own_getfield (pc' := 77) B X22 (host := "") (Or.inl (own_w hw 13 rfl)) Via.refl F_sizes d13_74 rfl ?_
        intro T23 X23
        refine own_iload (pc' := 79) B X23 d13_77 rfl rfl ?_
        refine own_iconst (pc' := 80) B X23 (z := (1 : Int32)) d13_79 rfl rfl ?_
        refine own_iastoreFn (pc' := 81) B X23 V_sb (Nat.le_trans g (Nat.le_of_lt l_sb)) hi d13_80 rfl ?_
        intro T24 h24 X24 W24 V_sb
        replace E_al := E_al.wr W24
        replace F_parents := F_parents.other W24 (Or.inl (Nat.ne_of_lt l_sb))
        replace F_sizes := F_sizes.other W24 (Or.inl (Nat.ne_of_lt l_sb))
        replace F_rings := F_rings.other W24 (Or.inl (Nat.ne_of_lt l_sb))
        replace V_pb := V_pb.other W24 n_pb_sb
        replace V_rb := V_rb.other W24 (Ne.symm n_sb_rb)
        replace K := K.wr W24 (Nat.le_of_lt l_sb)
        refine own_aloadN (pc' := 82) B X24 d13_81 rfl rfl rfl ?_
        refine own_getfield (pc' := 85) B X24 (host := "") (Or.inl (own_w hw 15 rfl)) Via.refl F_rings d13_82 rfl ?_
        intro T25 X25
        refine own_iload (pc' := 87) B X25 d13_85 rfl rfl ?_
        refine own_iload (pc' := 89) B X25 d13_87 rfl rfl ?_
        refine own_iastoreFn (pc' := 90) B X25 V_rb (Nat.le_trans g (Nat.le_of_lt l_rb)) hi d13_89 rfl ?_
        intro T26 h26 X26 W26 V_rb
        replace E_al := E_al.wr W26
        replace F_parents := F_parents.other W26 (Or.inl (Nat.ne_of_lt l_rb))
        replace F_sizes := F_sizes.other W26 (Or.inl (Nat.ne_of_lt l_rb))
        replace F_rings := F_rings.other W26 (Or.inl (Nat.ne_of_lt l_rb))
        replace V_pb := V_pb.other W26 n_pb_rb
        replace V_sb := V_sb.other W26 n_sb_rb
        replace K := K.wr W26 (Nat.le_of_lt l_rb)
        refine own_iinc (pc' := 93) B X26 (Ls' := #[.val (.ref al), .val (.int need), .val (.int n), .val (.int np), .val (.int i')]) d13_90 rfl rfl hi' rfl ?_
        refine own_goto (pc' := 58) B X26 d13_93 (by decide) rfl ?_
        have ni : ¬ own_In n i := fun u => in1 u.2
        exact ih i' _ _ _ T26 h26 X26 K ⟨E_al, F_parents, F_sizes, F_rings, V_pb, V_sb, V_rb, l_pb, l_sb, l_rb, n_pb_sb, n_pb_rb, n_sb_rb⟩ (own_step1 ti in1) (own_step2 ti c2) (by omega) (own_fill ti hq1 (hq i ni)) (own_fill ti hs1 (hs i ni))
    obtain ⟨j, hj⟩ : ∃ j : Nat, np.toInt - n.toInt = j := ⟨(np.toInt - n.toInt).toNat, by have := own_lt bd.1; omega⟩
    exact L j n _ _ _ T20 h20 X20 K ⟨E_al, F_parents, F_sizes, F_rings, V_pb, V_sb, V_rb, l_pb, l_sb, l_rb, n_pb_sb, n_pb_rb, n_sb_rb⟩ (own_irr _) (fun u => own_irr _ (Int32.lt_trans u bd.1)) hj (fun x hx => if_pos hx.2) (fun x hx => if_pos hx.2)
  · refine own_icmpYes (pc' := 96) B X10 d13_8 (flt c1).2.2.2 (by decide) rfl ?_
    exact own_ret B X10 d13_96 (by decide) (by decide) ⟨rfl, own_K.refl, pa, sa, ra, n, r, ⟨E_al, F_parents, F_sizes, F_rings, V_pa, V_sa, V_ra, l_pa, l_sa, l_ra, n_pa_sa, n_pa_ra, n_sa_ra⟩, own_irr _, c1, hn⟩
def Q_join (Z : State) (al : Addr) (R : Int32 → Int32) (S : Int32 → Int32) (c : Int32) (d : Int32) (h0 : Heap) (v : Option Value) (h : Heap) : Prop := ∃ b : Int32, v = some (.int b) ∧ own_K h0 h al ∧ own_AL Z h al (own_nR R S c d) (own_nS R S c d)
theorem rm_join (l : Launch) (Z : State) (a0 : Array Value) (hw : ∀ d ∈ tables_1, d.before a0 Z = true) (ws : List Jvm.Cond) (al : Addr) (R S : Int32 → Int32) (c d : Int32) (h0 : Heap) (n0 : Nat) (Z0 : n0 ≤ h0.size) (A : own_AL Z h0 al R S) (g : n0 ≤ al) (hc : own_In 8 c) (hd : own_In 8 d) :
    own_M l Z (⟨"com/example/ordal/ordal/Aliases", "join", "(II)Z"⟩ : MethodName) prog_1_method_3_code 9 (some .boolean) ws ({ frames := 3, cells := 3, slots := 42, locals := 120 } : Room) #[(.ref al), (.int c), (.int d)] h0 n0 (Q_join Z al R S c d h0) := by
  have Z0' := Z0
  obtain ⟨c', hc'⟩ : ∃ z : Int32, R c = z := ⟨_, rfl⟩
  obtain ⟨d', hd'⟩ : ∃ z : Int32, R d = z := ⟨_, rfl⟩
  have E_al : Exa Z h0 al oAl := by obtain ⟨_, _, _, _, _, _, _, _, A, _⟩ := A; exact A.1
  refine own_enter' (Q := Q_join Z al R S c d h0) (F := fun m => mkF m 0 #[.val (.ref al), .val (.int c), .val (.int d), .unset, .unset, .unset, .unset, .unset, .unset] []) (plainFor_of_name wpn_1) ?_
  intro p e s m below meth cc s₁ B X0
  have K : own_K h0 h0 al := own_K.refl
  refine own_aloadN (pc' := 1) B X0 d3_0 rfl rfl rfl ?_
  refine own_iloadN (pc' := 2) B X0 d3_1 rfl rfl ?_
  refine own_callV (pc' := 5) B X0 (own_w hw 22 rfl) (own_w hw 23 rfl) (own_w hw 25 rfl) (own_w hw 24 rfl) (own_w hw 4 rfl) (own_w hw 26 rfl) E_al (by decide) [(.int c)] [] (rm_rep l Z a0 hw [] al R S c h0 n0 A g hc.1) 0 (by decide) (by decide) rfl wpd_2 rfl rfl (Nat.le_of_eq rfl) d3_2 rfl (k' := 0) (n' := 0) rfl rfl (by decide) (by decide) ?_
  intro T27 v27 h27 X27 q27
  clear A
  obtain ⟨rfl, K27, A⟩ := q27
  replace K := K.trans K27
  replace E_al : Exa Z h27 al oAl := by obtain ⟨_, _, _, _, _, _, _, _, A, _⟩ := A; exact A.1
  rw [hc']
  show own_Go p e below (T27.setTop (mkF m 5 #[.val (.ref al), .val (.int c), .val (.int d), .unset, .unset, .unset, .unset, .unset, .unset] [(.int c')])) _
  refine own_istoreN (pc' := 6) B X27 (Ls' := #[.val (.ref al), .val (.int c), .val (.int d), .val (.int c'), .unset, .unset, .unset, .unset, .unset]) d3_5 rfl rfl ?_
  refine own_aloadN (pc' := 7) B X27 d3_6 rfl rfl rfl ?_
  refine own_iloadN (pc' := 8) B X27 d3_7 rfl rfl ?_
  refine own_callV (pc' := 11) B X27 (own_w hw 22 rfl) (own_w hw 23 rfl) (own_w hw 25 rfl) (own_w hw 24 rfl) (own_w hw 4 rfl) (own_w hw 26 rfl) E_al (by decide) [(.int d)] [] (rm_rep l Z a0 hw [] al R S d h27 n0 A g hd.1) 0 (by decide) (by decide) rfl wpd_2 rfl rfl (Nat.le_of_eq rfl) d3_8 rfl (k' := 0) (n' := 0) rfl rfl (by decide) (by decide) ?_
  intro T28 v28 h28 X28 q28
  clear A
  obtain ⟨rfl, K28, A⟩ := q28
  replace K := K.trans K28
  replace E_al : Exa Z h28 al oAl := by obtain ⟨_, _, _, _, _, _, _, _, A, _⟩ := A; exact A.1
  rw [hd']
  show own_Go p e below (T28.setTop (mkF m 11 #[.val (.ref al), .val (.int c), .val (.int d), .val (.int c'), .unset, .unset, .unset, .unset, .unset] [(.int d')])) _
  refine own_istore (pc' := 13) B X28 (Ls' := #[.val (.ref al), .val (.int c), .val (.int d), .val (.int c'), .val (.int d'), .unset, .unset, .unset, .unset]) d3_11 rfl rfl ?_
  refine own_iloadN (pc' := 14) B X28 d3_13 rfl rfl ?_
  refine own_iload (pc' := 16) B X28 d3_14 rfl rfl ?_
  obtain ⟨pa, sa, ra, n, q, s', r, k, A, I⟩ := A
  by_cases c1 : c' = d'
  · refine own_icmpNo (pc' := 19) B X28 d3_16 (teq c1).2 rfl ?_
    refine own_iconst (pc' := 20) B X28 (z := (0 : Int32)) d3_19 rfl rfl ?_
    exact own_retN B X28 (t := .boolean) (z' := (0 : Int32)) (by simp) (by decide) d3_20 (by decide) (by decide) ⟨_, rfl, K, pa, sa, ra, n, q, s', r, k, A, own_inv_eq I (by rw [hc', hd']; exact c1)⟩
  · refine own_icmpYes (pc' := 21) B X28 d3_16 (feq c1).2 (by decide) rfl ?_
    refine own_aloadN (pc' := 22) B X28 d3_21 rfl rfl rfl ?_
    refine own_iloadN (pc' := 23) B X28 d3_22 rfl rfl ?_
    refine own_iload (pc' := 25) B X28 d3_23 rfl rfl ?_
    refine own_callS (pc' := 28) B X28 (own_w hw 50 rfl) (own_w hw 51 rfl) (own_w hw 52 rfl) (own_w hw 53 rfl) (by decide) [(.int c'), (.int d')] [(.ref al)] (rm_max l Z a0 hw [] c' d' h28 n0) 1 (by decide) (by decide) rfl wpd_0 rfl rfl (Nat.le_of_eq rfl) d3_25 rfl (k' := 0) (n' := 0) rfl rfl (by decide) (by decide) ?_
    intro T29 v29 h29 X29 q29
    obtain ⟨rfl, rfl⟩ := q29
    obtain ⟨mx, hmx⟩ : ∃ z : Int32, (if c' < d' then d' else c') = z := ⟨_, rfl⟩
    rw [hmx]
    show own_Go p e below (T29.setTop (mkF m 28 #[.val (.ref al), .val (.int c), .val (.int d), .val (.int c'), .val (.int d'), .unset, .unset, .unset, .unset] [(.int mx), (.ref al)])) _
    obtain ⟨need, hneed⟩ : ∃ z : Int32, mx + (1 : Int32) = z := ⟨_, rfl⟩
    have ec : own_In 8 c' := hc' ▸ I.2.2.2.2.2.2.1 c hc
    have ed : own_In 8 d' := hd' ▸ I.2.2.2.2.2.2.1 d hd
    have bd := own_need ec ed hmx hneed
    refine own_iconst (pc' := 29) B X29 (z := (1 : Int32)) d3_28 rfl rfl ?_
    refine own_iadd (pc' := 30) B X29 d3_29 rfl hneed ?_
    refine own_callP (pc' := 33) B X29 (own_w hw 54 rfl) (own_w hw 55 rfl) (own_w hw 56 rfl) (own_w hw 3 rfl) (own_w hw 4 rfl) (own_w hw 57 rfl) E_al (by decide) [(.int need)] [] (rm_grow l Z a0 hw [] al pa sa ra n q s' r need h28 n0 (Nat.le_trans Z0 K.le) A g (fun x hx => (I.2.2.2.2.2.1 x hx).1) (fun x hx => (I.2.2.2.2.2.1 x hx).2) I.2.2.2.2.2.2.2.2 bd.1) 0 (by decide) (by decide) rfl wpd_3 rfl rfl (Nat.le_of_eq rfl) d3_30 rfl (k' := 3) (n' := 42) rfl rfl (by decide) (by decide) ?_
    intro T30 v30 h30 X30 q30
    clear A
    obtain ⟨rfl, K30, pb, sb, rb, n', r', A, b1, b2, b3⟩ := q30
    replace K := K.trans K30
    replace I := own_inv_grow I b1 b3
    obtain ⟨E_al, F_parents, F_sizes, F_rings, V_pb, V_sb, V_rb, l_pb, l_sb, l_rb, n_pb_sb, n_pb_rb, n_sb_rb⟩ := A
    show own_Go p e below (T30.setTop (mkF m 33 #[.val (.ref al), .val (.int c), .val (.int d), .val (.int c'), .val (.int d'), .unset, .unset, .unset, .unset] [])) _
    have nc : own_In n' c' := ⟨ec.1, own_lt_need bd.2.1 b2⟩
    have nd : own_In n' d' := ⟨ed.1, own_lt_need bd.2.2 b2⟩
    have sc : s' c' = S c := hc' ▸ I.2.2.2.1 c
    have sd : s' d' = S d := hd' ▸ I.2.2.2.1 d
    have TL : ∀ (fl kp gn : Int32) (T : State), own_S p l e ({ frames := 3, cells := 3, slots := 42, locals := 120 } : Room) s m #[(.ref al), (.int c), (.int d)] below meth cc n0 T h30 3 42 → own_In n' kp → own_In n' gn → own_Inv n' (own_upd q gn kp) (own_upd s' kp (s' kp + s' gn)) (own_nR R S c d) (own_nS R S c d) (k + 1) → own_Go p e below (T.setTop (mkF m 104 #[.val (.ref al), .val (.int c), .val (.int d), .val (.int c'), .val (.int d'), .val (.int fl), .val (.int kp), .val (.int gn), .unset] [])) (own_P s below n0 (Q_join Z al R S c d h0) ({ frames := 3, cells := 3, slots := 42, locals := 120 } : Room).cells ({ frames := 3, cells := 3, slots := 42, locals := 120 } : Room).slots) := by
      intro fl kp gn T X nk ng I'
      obtain ⟨a1, ha1⟩ : ∃ z : Int32, s' kp = z := ⟨_, rfl⟩
      obtain ⟨a2, ha2⟩ : ∃ z : Int32, s' gn = z := ⟨_, rfl⟩
      obtain ⟨a3, ha3⟩ : ∃ z : Int32, a1 + a2 = z := ⟨_, rfl⟩
      rw [ha1, ha2, ha3] at I'
      refine own_aloadN (pc' := 105) B X d3_104 rfl rfl rfl ?_
      refine own_getfield (pc' := 108) B X (host := "") (Or.inl (own_w hw 11 rfl)) Via.refl F_parents d3_105 rfl ?_
      intro T31 X31
      refine own_iload (pc' := 110) B X31 d3_108 rfl rfl ?_
      refine own_iload (pc' := 112) B X31 d3_110 rfl rfl ?_
      refine own_iastoreFn (pc' := 113) B X31 V_pb (Nat.le_trans g (Nat.le_of_lt l_pb)) ng d3_112 rfl ?_
      intro T32 h32 X32 W32 V_pb
      replace E_al := E_al.wr W32
      replace F_parents := F_parents.other W32 (Or.inl (Nat.ne_of_lt l_pb))
      replace F_sizes := F_sizes.other W32 (Or.inl (Nat.ne_of_lt l_pb))
      replace F_rings := F_rings.other W32 (Or.inl (Nat.ne_of_lt l_pb))
      replace V_sb := V_sb.other W32 (Ne.symm n_pb_sb)
      replace V_rb := V_rb.other W32 (Ne.symm n_pb_rb)
      replace K := K.wr W32 (Nat.le_of_lt l_pb)
      refine own_aloadN (pc' := 114) B X32 d3_113 rfl rfl rfl ?_
      refine own_getfield (pc' := 117) B X32 (host := "") (Or.inl (own_w hw 13 rfl)) Via.refl F_sizes d3_114 rfl ?_
      intro T33 X33
      refine own_iload (pc' := 119) B X33 d3_117 rfl rfl ?_
      refine own_dup2 (pc' := 120) B X33 d3_119 rfl rfl rfl ?_
      refine own_ialoadFn (pc' := 121) B X33 (y := a1) V_sb nk ha1 d3_120 rfl ?_
      refine own_aloadN (pc' := 122) B X33 d3_121 rfl rfl rfl ?_
      refine own_getfield (pc' := 125) B X33 (host := "") (Or.inl (own_w hw 13 rfl)) Via.refl F_sizes d3_122 rfl ?_
      intro T34 X34
      refine own_iload (pc' := 127) B X34 d3_125 rfl rfl ?_
      refine own_ialoadFn (pc' := 128) B X34 (y := a2) V_sb ng ha2 d3_127 rfl ?_
      refine own_iadd (pc' := 129) B X34 d3_128 rfl ha3 ?_
      refine own_iastoreFn (pc' := 130) B X34 V_sb (Nat.le_trans g (Nat.le_of_lt l_sb)) nk d3_129 rfl ?_
      intro T35 h35 X35 W35 V_sb
      replace E_al := E_al.wr W35
      replace F_parents := F_parents.other W35 (Or.inl (Nat.ne_of_lt l_sb))
      replace F_sizes := F_sizes.other W35 (Or.inl (Nat.ne_of_lt l_sb))
      replace F_rings := F_rings.other W35 (Or.inl (Nat.ne_of_lt l_sb))
      replace V_pb := V_pb.other W35 n_pb_sb
      replace V_rb := V_rb.other W35 (Ne.symm n_sb_rb)
      replace K := K.wr W35 (Nat.le_of_lt l_sb)
      refine own_aloadN (pc' := 131) B X35 d3_130 rfl rfl rfl ?_
      refine own_getfield (pc' := 134) B X35 (host := "") (Or.inl (own_w hw 15 rfl)) Via.refl F_rings d3_131 rfl ?_
      intro T36 X36
      refine own_iload (pc' := 136) B X36 d3_134 rfl rfl ?_
      obtain ⟨a4, ha4⟩ : ∃ z : Int32, r' kp = z := ⟨_, rfl⟩
      refine own_ialoadFn (pc' := 137) B X36 (y := a4) V_rb nk ha4 d3_136 rfl ?_
      refine own_istore (pc' := 139) B X36 (Ls' := #[.val (.ref al), .val (.int c), .val (.int d), .val (.int c'), .val (.int d'), .val (.int fl), .val (.int kp), .val (.int gn), .val (.int a4)]) d3_137 rfl rfl ?_
      refine own_aloadN (pc' := 140) B X36 d3_139 rfl rfl rfl ?_
      refine own_getfield (pc' := 143) B X36 (host := "") (Or.inl (own_w hw 15 rfl)) Via.refl F_rings d3_140 rfl ?_
      intro T37 X37
      refine own_iload (pc' := 145) B X37 d3_143 rfl rfl ?_
      refine own_aloadN (pc' := 146) B X37 d3_145 rfl rfl rfl ?_
      refine own_getfield (pc' := 149) B X37 (host := "") (Or.inl (own_w hw 15 rfl)) Via.refl F_rings d3_146 rfl ?_
      intro T38 X38
      refine own_iload (pc' := 151) B X38 d3_149 rfl rfl ?_
      obtain ⟨a5, ha5⟩ : ∃ z : Int32, r' gn = z := ⟨_, rfl⟩
      refine own_ialoadFn (pc' := 152) B X38 (y := a5) V_rb ng ha5 d3_151 rfl ?_
      refine own_iastoreFn (pc' := 153) B X38 V_rb (Nat.le_trans g (Nat.le_of_lt l_rb)) nk d3_152 rfl ?_
      intro T39 h39 X39 W39 V_rb
      replace E_al := E_al.wr W39
      replace F_parents := F_parents.other W39 (Or.inl (Nat.ne_of_lt l_rb))
      replace F_sizes := F_sizes.other W39 (Or.inl (Nat.ne_of_lt l_rb))
      replace F_rings := F_rings.other W39 (Or.inl (Nat.ne_of_lt l_rb))
      replace V_pb := V_pb.other W39 n_pb_rb
      replace V_sb := V_sb.other W39 n_sb_rb
      replace K := K.wr W39 (Nat.le_of_lt l_rb)
      refine own_aloadN (pc' := 154) B X39 d3_153 rfl rfl rfl ?_
      refine own_getfield (pc' := 157) B X39 (host := "") (Or.inl (own_w hw 15 rfl)) Via.refl F_rings d3_154 rfl ?_
      intro T40 X40
      refine own_iload (pc' := 159) B X40 d3_157 rfl rfl ?_
      refine own_iload (pc' := 161) B X40 d3_159 rfl rfl ?_
      refine own_iastoreFn (pc' := 162) B X40 V_rb (Nat.le_trans g (Nat.le_of_lt l_rb)) ng d3_161 rfl ?_
      intro T41 h41 X41 W41 V_rb
      replace E_al := E_al.wr W41
      replace F_parents := F_parents.other W41 (Or.inl (Nat.ne_of_lt l_rb))
      replace F_sizes := F_sizes.other W41 (Or.inl (Nat.ne_of_lt l_rb))
      replace F_rings := F_rings.other W41 (Or.inl (Nat.ne_of_lt l_rb))
      replace V_pb := V_pb.other W41 n_pb_rb
      replace V_sb := V_sb.other W41 n_sb_rb
      replace K := K.wr W41 (Nat.le_of_lt l_rb)
      refine own_iconst (pc' := 163) B X41 (z := (1 : Int32)) d3_162 rfl rfl ?_
      exact own_retN B X41 (t := .boolean) (z' := (1 : Int32)) (by simp) (by decide) d3_163 (by decide) (by decide) ⟨_, rfl, K, pb, sb, rb, n', _, _, _, k + 1, ⟨E_al, F_parents, F_sizes, F_rings, V_pb, V_sb, V_rb, l_pb, l_sb, l_rb, n_pb_sb, n_pb_rb, n_sb_rb⟩, I'⟩
    have J1 : (S d < S c ∨ (S c = S d ∧ R c < R d)) → ∀ (T : State), own_S p l e ({ frames := 3, cells := 3, slots := 42, locals := 120 } : Room) s m #[(.ref al), (.int c), (.int d)] below meth cc n0 T h30 3 42 → own_Go p e below (T.setTop (mkF m 76 #[.val (.ref al), .val (.int c), .val (.int d), .val (.int c'), .val (.int d'), .unset, .unset, .unset, .unset] [(.int (1 : Int32))])) (own_P s below n0 (Q_join Z al R S c d h0) ({ frames := 3, cells := 3, slots := 42, locals := 120 } : Room).cells ({ frames := 3, cells := 3, slots := 42, locals := 120 } : Room).slots) := by
      intro hh T X
      refine own_istore (pc' := 78) B X (Ls' := #[.val (.ref al), .val (.int c), .val (.int d), .val (.int c'), .val (.int d'), .val (.int (1 : Int32)), .unset, .unset, .unset]) d3_76 rfl rfl ?_
      refine own_iload (pc' := 80) B X d3_78 rfl rfl ?_
      refine own_ifNo (pc' := 83) B X d3_80 ((if0 _ _).trans (feq (by decide : ¬ (1 : Int32) = 0)).1) rfl ?_
      refine own_iloadN (pc' := 84) B X d3_83 rfl rfl ?_
      refine own_goto (pc' := 89) B X d3_84 (by decide) rfl ?_
      refine own_istore (pc' := 91) B X (Ls' := #[.val (.ref al), .val (.int c), .val (.int d), .val (.int c'), .val (.int d'), .val (.int (1 : Int32)), .val (.int c'), .unset, .unset]) d3_89 rfl rfl ?_
      refine own_iload (pc' := 93) B X d3_91 rfl rfl ?_
      refine own_ifNo (pc' := 96) B X d3_93 ((if0 _ _).trans (feq (by decide : ¬ (1 : Int32) = 0)).1) rfl ?_
      refine own_iload (pc' := 98) B X d3_96 rfl rfl ?_
      refine own_goto (pc' := 102) B X d3_98 (by decide) rfl ?_
      refine own_istore (pc' := 104) B X (Ls' := #[.val (.ref al), .val (.int c), .val (.int d), .val (.int c'), .val (.int d'), .val (.int (1 : Int32)), .val (.int c'), .val (.int d'), .unset]) d3_102 rfl rfl ?_
      have I' := own_inv_join1 I (by rw [hc', hd']; exact c1) (by rw [hc']; exact nc) (by rw [hd']; exact nd) hc hh
      rw [hc', hd'] at I'
      exact TL _ _ _ T X nc nd I'
    have J0 : (¬ (S d < S c ∨ (S c = S d ∧ R c < R d))) → ∀ (T : State), own_S p l e ({ frames := 3, cells := 3, slots := 42, locals := 120 } : Room) s m #[(.ref al), (.int c), (.int d)] below meth cc n0 T h30 3 42 → own_Go p e below (T.setTop (mkF m 76 #[.val (.ref al), .val (.int c), .val (.int d), .val (.int c'), .val (.int d'), .unset, .unset, .unset, .unset] [(.int (0 : Int32))])) (own_P s below n0 (Q_join Z al R S c d h0) ({ frames := 3, cells := 3, slots := 42, locals := 120 } : Room).cells ({ frames := 3, cells := 3, slots := 42, locals := 120 } : Room).slots) := by
      intro hh T X
      refine own_istore (pc' := 78) B X (Ls' := #[.val (.ref al), .val (.int c), .val (.int d), .val (.int c'), .val (.int d'), .val (.int (0 : Int32)), .unset, .unset, .unset]) d3_76 rfl rfl ?_
      refine own_iload (pc' := 80) B X d3_78 rfl rfl ?_
      refine own_ifYes (pc' := 87) B X d3_80 ((if0 _ _).trans (teq (rfl : (0 : Int32) = 0)).1) (by decide) rfl ?_
      refine own_iload (pc' := 89) B X d3_87 rfl rfl ?_
      refine own_istore (pc' := 91) B X (Ls' := #[.val (.ref al), .val (.int c), .val (.int d), .val (.int c'), .val (.int d'), .val (.int (0 : Int32)), .val (.int d'), .unset, .unset]) d3_89 rfl rfl ?_
      refine own_iload (pc' := 93) B X d3_91 rfl rfl ?_
      refine own_ifYes (pc' := 101) B X d3_93 ((if0 _ _).trans (teq (rfl : (0 : Int32) = 0)).1) (by decide) rfl ?_
      refine own_iloadN (pc' := 102) B X d3_101 rfl rfl ?_
      refine own_istore (pc' := 104) B X (Ls' := #[.val (.ref al), .val (.int c), .val (.int d), .val (.int c'), .val (.int d'), .val (.int (0 : Int32)), .val (.int d'), .val (.int c'), .unset]) d3_102 rfl rfl ?_
      have I' := own_inv_join2 I (by rw [hc', hd']; exact c1) (by rw [hc']; exact nc) (by rw [hd']; exact nd) hd hh
      rw [hc', hd'] at I'
      exact TL _ _ _ T X nd nc I'
    refine own_aloadN (pc' := 34) B X30 d3_33 rfl rfl rfl ?_
    refine own_getfield (pc' := 37) B X30 (host := "") (Or.inl (own_w hw 13 rfl)) Via.refl F_sizes d3_34 rfl ?_
    intro T42 X42
    refine own_iloadN (pc' := 38) B X42 d3_37 rfl rfl ?_
    refine own_ialoadFn (pc' := 39) B X42 (y := S c) V_sb nc sc d3_38 rfl ?_
    refine own_aloadN (pc' := 40) B X42 d3_39 rfl rfl rfl ?_
    refine own_getfield (pc' := 43) B X42 (host := "") (Or.inl (own_w hw 13 rfl)) Via.refl F_sizes d3_40 rfl ?_
    intro T43 X43
    refine own_iload (pc' := 45) B X43 d3_43 rfl rfl ?_
    refine own_ialoadFn (pc' := 46) B X43 (y := S d) V_sb nd sd d3_45 rfl ?_
    by_cases c2 : S d < S c
    · refine own_icmpYes (pc' := 71) B X43 d3_46 (tlt c2).2.2.1 (by decide) rfl ?_
      refine own_iconst (pc' := 72) B X43 (z := (1 : Int32)) d3_71 rfl rfl ?_
      refine own_goto (pc' := 76) B X43 d3_72 (by decide) rfl ?_
      exact J1 (Or.inl c2) T43 X43
    · refine own_icmpNo (pc' := 49) B X43 d3_46 (flt c2).2.2.1 rfl ?_
      refine own_aloadN (pc' := 50) B X43 d3_49 rfl rfl rfl ?_
      refine own_getfield (pc' := 53) B X43 (host := "") (Or.inl (own_w hw 13 rfl)) Via.refl F_sizes d3_50 rfl ?_
      intro T44 X44
      refine own_iloadN (pc' := 54) B X44 d3_53 rfl rfl ?_
      refine own_ialoadFn (pc' := 55) B X44 (y := S c) V_sb nc sc d3_54 rfl ?_
      refine own_aloadN (pc' := 56) B X44 d3_55 rfl rfl rfl ?_
      refine own_getfield (pc' := 59) B X44 (host := "") (Or.inl (own_w hw 13 rfl)) Via.refl F_sizes d3_56 rfl ?_
      intro T45 X45
      refine own_iload (pc' := 61) B X45 d3_59 rfl rfl ?_
      refine own_ialoadFn (pc' := 62) B X45 (y := S d) V_sb nd sd d3_61 rfl ?_
      by_cases c3 : S c = S d
      · refine own_icmpNo (pc' := 65) B X45 d3_62 (teq c3).2 rfl ?_
        refine own_iloadN (pc' := 66) B X45 d3_65 rfl rfl ?_
        refine own_iload (pc' := 68) B X45 d3_66 rfl rfl ?_
        by_cases c4 : c' < d'
        · refine own_icmpNo (pc' := 71) B X45 d3_68 (tlt c4).2.1 rfl ?_
          refine own_iconst (pc' := 72) B X45 (z := (1 : Int32)) d3_71 rfl rfl ?_
          refine own_goto (pc' := 76) B X45 d3_72 (by decide) rfl ?_
          exact J1 (Or.inr ⟨c3, by rw [hc', hd']; exact c4⟩) T45 X45
        · refine own_icmpYes (pc' := 75) B X45 d3_68 (flt c4).2.1 (by decide) rfl ?_
          refine own_iconst (pc' := 76) B X45 (z := (0 : Int32)) d3_75 rfl rfl ?_
          exact J0 (fun u => u.elim c2 fun u => c4 (by rw [← hc', ← hd']; exact u.2)) T45 X45
      · refine own_icmpYes (pc' := 75) B X45 d3_62 (feq c3).2 (by decide) rfl ?_
        refine own_iconst (pc' := 76) B X45 (z := (0 : Int32)) d3_75 rfl rfl ?_
        exact J0 (fun u => u.elim c2 fun u => c3 u.1) T45 X45
theorem d1_0 : decode prog_1_method_1_code 0 = .ok (.aload_n 0, 1) := by decide +kernel
theorem d1_1 : decode prog_1_method_1_code 1 = .ok (.invokespecial 1, 3) := by decide +kernel
theorem d1_4 : decode prog_1_method_1_code 4 = .ok (.aload_n 0, 1) := by decide +kernel
theorem d1_5 : decode prog_1_method_1_code 5 = .ok (.iconst 0, 1) := by decide +kernel
theorem d1_6 : decode prog_1_method_1_code 6 = .ok (.newarray .int, 2) := by decide +kernel
theorem d1_8 : decode prog_1_method_1_code 8 = .ok (.putfield 7, 3) := by decide +kernel
theorem d1_11 : decode prog_1_method_1_code 11 = .ok (.aload_n 0, 1) := by decide +kernel
theorem d1_12 : decode prog_1_method_1_code 12 = .ok (.iconst 0, 1) := by decide +kernel
theorem d1_13 : decode prog_1_method_1_code 13 = .ok (.newarray .int, 2) := by decide +kernel
theorem d1_15 : decode prog_1_method_1_code 15 = .ok (.putfield 13, 3) := by decide +kernel
theorem d1_18 : decode prog_1_method_1_code 18 = .ok (.aload_n 0, 1) := by decide +kernel
theorem d1_19 : decode prog_1_method_1_code 19 = .ok (.iconst 0, 1) := by decide +kernel
theorem d1_20 : decode prog_1_method_1_code 20 = .ok (.newarray .int, 2) := by decide +kernel
theorem d1_22 : decode prog_1_method_1_code 22 = .ok (.putfield 16, 3) := by decide +kernel
theorem d1_25 : decode prog_1_method_1_code 25 = .ok (.return_, 1) := by decide +kernel
theorem pn_0 : plainName "com/example/ordal/ordal/Aliases" = true := by first | (simp [plainName, overriddenIn]; done) | decide +kernel
theorem pd_0 : parseMethodDescriptor "()V" = some ⟨[], none⟩ := by decide +kernel
theorem pd_1 : parseMethodDescriptor "(II)Z" = some ⟨[.int, .int], some .boolean⟩ := by decide +kernel
theorem pd_2 : parseMethodDescriptor "(I)I" = some ⟨[.int], some .int⟩ := by decide +kernel
theorem d5_0 : decode method_9_code 0 = .ok (.aload_n 0, 1) := by decide +kernel
theorem d5_1 : decode method_9_code 1 = .ok (.iload_n 1, 1) := by decide +kernel
theorem d5_2 : decode method_9_code 2 = .ok (.invokestatic 39, 3) := by decide +kernel
theorem d6_0 : decode method_7_code 0 = .ok (.aload_n 0, 1) := by decide +kernel
theorem d6_1 : decode method_7_code 1 = .ok (.iload_n 1, 1) := by decide +kernel
theorem d6_2 : decode method_7_code 2 = .ok (.invokestatic 33, 3) := by decide +kernel
theorem d7_0 : decode method_5_code 0 = .ok (.iload_n 1, 1) := by decide +kernel
theorem d7_1 : decode method_5_code 1 = .ok (.aload_n 0, 1) := by decide +kernel
theorem d7_2 : decode method_5_code 2 = .ok (.iconst 0, 1) := by decide +kernel
theorem d7_3 : decode method_5_code 3 = .ok (.iaload, 1) := by decide +kernel
theorem d7_4 : decode method_5_code 4 = .ok (.aload_n 0, 1) := by decide +kernel
theorem d7_5 : decode method_5_code 5 = .ok (.iconst 1, 1) := by decide +kernel
theorem d7_6 : decode method_5_code 6 = .ok (.iaload, 1) := by decide +kernel
theorem d7_7 : decode method_5_code 7 = .ok (.iconst 1, 1) := by decide +kernel
theorem d7_8 : decode method_5_code 8 = .ok (.iconst 1, 1) := by decide +kernel
theorem d7_9 : decode method_5_code 9 = .ok (.invokestatic 25, 3) := by decide +kernel
theorem d8_0 : decode method_3_code 0 = .ok (.iload_n 1, 1) := by decide +kernel
theorem d8_1 : decode method_3_code 1 = .ok (.iload_n 2, 1) := by decide +kernel
theorem d8_2 : decode method_3_code 2 = .ok (.if_icmp .ne 5, 3) := by decide +kernel
theorem d8_5 : decode method_3_code 5 = .ok (.iload_n 0, 1) := by decide +kernel
theorem d8_6 : decode method_3_code 6 = .ok (.ireturn, 1) := by decide +kernel
theorem d8_7 : decode method_3_code 7 = .ok (.iload_n 3, 1) := by decide +kernel
theorem d8_8 : decode method_3_code 8 = .ok (.iload 4, 2) := by decide +kernel
theorem d8_10 : decode method_3_code 10 = .ok (.if_icmp .gt 14, 3) := by decide +kernel
theorem d8_24 : decode method_3_code 24 = .ok (.iload_n 1, 1) := by decide +kernel
theorem d8_25 : decode method_3_code 25 = .ok (.goto 4, 3) := by decide +kernel
theorem d8_29 : decode method_3_code 29 = .ok (.istore 5, 2) := by decide +kernel
theorem d8_31 : decode method_3_code 31 = .ok (.iload_n 0, 1) := by decide +kernel
theorem d8_32 : decode method_3_code 32 = .ok (.iload_n 1, 1) := by decide +kernel
theorem d8_33 : decode method_3_code 33 = .ok (.if_icmp .eq 8, 3) := by decide +kernel
theorem d8_41 : decode method_3_code 41 = .ok (.iload 5, 2) := by decide +kernel
theorem d8_43 : decode method_3_code 43 = .ok (.goto 4, 3) := by decide +kernel
theorem d8_47 : decode method_3_code 47 = .ok (.ireturn, 1) := by decide +kernel
theorem d8_36 : decode method_3_code 36 = .ok (.iload_n 0, 1) := by decide +kernel
theorem d8_37 : decode method_3_code 37 = .ok (.iload_n 2, 1) := by decide +kernel
theorem d8_38 : decode method_3_code 38 = .ok (.if_icmp .ne 8, 3) := by decide +kernel
theorem d8_46 : decode method_3_code 46 = .ok (.iload_n 0, 1) := by decide +kernel
theorem d8_13 : decode method_3_code 13 = .ok (.iload_n 3, 1) := by decide +kernel
theorem d8_14 : decode method_3_code 14 = .ok (.iload 4, 2) := by decide +kernel
theorem d8_16 : decode method_3_code 16 = .ok (.if_icmp .ne 12, 3) := by decide +kernel
theorem d8_19 : decode method_3_code 19 = .ok (.iload_n 1, 1) := by decide +kernel
theorem d8_20 : decode method_3_code 20 = .ok (.iload_n 2, 1) := by decide +kernel
theorem d8_21 : decode method_3_code 21 = .ok (.if_icmp .ge 7, 3) := by decide +kernel
theorem d8_28 : decode method_3_code 28 = .ok (.iload_n 2, 1) := by decide +kernel
theorem pn_1 : plainName "com/example/ordal/ordal/AliasesRepresentativePinLaw" = true := by first | (simp [plainName, overriddenIn]; done) | decide +kernel
theorem pd_3 : parseMethodDescriptor "(IIIII)I" = some ⟨[.int, .int, .int, .int, .int], some .int⟩ := by decide +kernel
theorem d7_12 : decode method_5_code 12 = .ok (.ireturn, 1) := by decide +kernel
theorem pd_4 : parseMethodDescriptor "([II)I" = some ⟨[(.array .int), .int], some .int⟩ := by decide +kernel
theorem d6_5 : decode method_7_code 5 = .ok (.aload_n 0, 1) := by decide +kernel
theorem d6_6 : decode method_7_code 6 = .ok (.aload_n 0, 1) := by decide +kernel
theorem d6_7 : decode method_7_code 7 = .ok (.iconst 2, 1) := by decide +kernel
theorem d6_8 : decode method_7_code 8 = .ok (.iaload, 1) := by decide +kernel
theorem d6_9 : decode method_7_code 9 = .ok (.invokestatic 33, 3) := by decide +kernel
theorem d6_12 : decode method_7_code 12 = .ok (.aload_n 0, 1) := by decide +kernel
theorem d6_13 : decode method_7_code 13 = .ok (.aload_n 0, 1) := by decide +kernel
theorem d6_14 : decode method_7_code 14 = .ok (.iconst 3, 1) := by decide +kernel
theorem d6_15 : decode method_7_code 15 = .ok (.iaload, 1) := by decide +kernel
theorem d6_16 : decode method_7_code 16 = .ok (.invokestatic 33, 3) := by decide +kernel
theorem d6_19 : decode method_7_code 19 = .ok (.aload_n 0, 1) := by decide +kernel
theorem d6_20 : decode method_7_code 20 = .ok (.aload_n 0, 1) := by decide +kernel
theorem d6_21 : decode method_7_code 21 = .ok (.iconst 2, 1) := by decide +kernel
theorem d6_22 : decode method_7_code 22 = .ok (.iaload, 1) := by decide +kernel
theorem d6_23 : decode method_7_code 23 = .ok (.invokestatic 36, 3) := by decide +kernel
theorem d9_0 : decode method_6_code 0 = .ok (.iload_n 1, 1) := by decide +kernel
theorem d9_1 : decode method_6_code 1 = .ok (.iconst 1, 1) := by decide +kernel
theorem d9_2 : decode method_6_code 2 = .ok (.aload_n 0, 1) := by decide +kernel
theorem d9_3 : decode method_6_code 3 = .ok (.iconst 0, 1) := by decide +kernel
theorem d9_4 : decode method_6_code 4 = .ok (.iaload, 1) := by decide +kernel
theorem d9_5 : decode method_6_code 5 = .ok (.aload_n 0, 1) := by decide +kernel
theorem d9_6 : decode method_6_code 6 = .ok (.iconst 1, 1) := by decide +kernel
theorem d9_7 : decode method_6_code 7 = .ok (.iaload, 1) := by decide +kernel
theorem d9_8 : decode method_6_code 8 = .ok (.iconst 1, 1) := by decide +kernel
theorem d9_9 : decode method_6_code 9 = .ok (.iconst 1, 1) := by decide +kernel
theorem d9_10 : decode method_6_code 10 = .ok (.invokestatic 29, 3) := by decide +kernel
theorem d10_0 : decode method_4_code 0 = .ok (.iload_n 2, 1) := by decide +kernel
theorem d10_1 : decode method_4_code 1 = .ok (.iload_n 3, 1) := by decide +kernel
theorem d10_2 : decode method_4_code 2 = .ok (.if_icmp .eq 19, 3) := by decide +kernel
theorem d10_21 : decode method_4_code 21 = .ok (.iload_n 1, 1) := by decide +kernel
theorem d10_22 : decode method_4_code 22 = .ok (.ireturn, 1) := by decide +kernel
theorem d10_5 : decode method_4_code 5 = .ok (.iload_n 0, 1) := by decide +kernel
theorem d10_6 : decode method_4_code 6 = .ok (.iload_n 2, 1) := by decide +kernel
theorem d10_7 : decode method_4_code 7 = .ok (.if_icmp .eq 8, 3) := by decide +kernel
theorem d10_15 : decode method_4_code 15 = .ok (.iload 4, 2) := by decide +kernel
theorem d10_17 : decode method_4_code 17 = .ok (.iload 5, 2) := by decide +kernel
theorem d10_19 : decode method_4_code 19 = .ok (.iadd, 1) := by decide +kernel
theorem d10_20 : decode method_4_code 20 = .ok (.ireturn, 1) := by decide +kernel
theorem d10_10 : decode method_4_code 10 = .ok (.iload_n 0, 1) := by decide +kernel
theorem d10_11 : decode method_4_code 11 = .ok (.iload_n 3, 1) := by decide +kernel
theorem d10_12 : decode method_4_code 12 = .ok (.if_icmp .ne 9, 3) := by decide +kernel
theorem pd_5 : parseMethodDescriptor "(IIIIII)I" = some ⟨[.int, .int, .int, .int, .int, .int], some .int⟩ := by decide +kernel
theorem d9_13 : decode method_6_code 13 = .ok (.ireturn, 1) := by decide +kernel
theorem d6_26 : decode method_7_code 26 = .ok (.aload_n 0, 1) := by decide +kernel
theorem d6_27 : decode method_7_code 27 = .ok (.aload_n 0, 1) := by decide +kernel
theorem d6_28 : decode method_7_code 28 = .ok (.iconst 3, 1) := by decide +kernel
theorem d6_29 : decode method_7_code 29 = .ok (.iaload, 1) := by decide +kernel
theorem d6_30 : decode method_7_code 30 = .ok (.invokestatic 36, 3) := by decide +kernel
theorem d6_33 : decode method_7_code 33 = .ok (.invokestatic 25, 3) := by decide +kernel
theorem d6_36 : decode method_7_code 36 = .ok (.ireturn, 1) := by decide +kernel
theorem d5_5 : decode method_9_code 5 = .ok (.aload_n 0, 1) := by decide +kernel
theorem d5_6 : decode method_9_code 6 = .ok (.aload_n 0, 1) := by decide +kernel
theorem d5_7 : decode method_9_code 7 = .ok (.iconst 4, 1) := by decide +kernel
theorem d5_8 : decode method_9_code 8 = .ok (.iaload, 1) := by decide +kernel
theorem d5_9 : decode method_9_code 9 = .ok (.invokestatic 39, 3) := by decide +kernel
theorem d5_12 : decode method_9_code 12 = .ok (.aload_n 0, 1) := by decide +kernel
theorem d5_13 : decode method_9_code 13 = .ok (.aload_n 0, 1) := by decide +kernel
theorem d5_14 : decode method_9_code 14 = .ok (.iconst 5, 1) := by decide +kernel
theorem d5_15 : decode method_9_code 15 = .ok (.iaload, 1) := by decide +kernel
theorem d5_16 : decode method_9_code 16 = .ok (.invokestatic 39, 3) := by decide +kernel
theorem d5_19 : decode method_9_code 19 = .ok (.aload_n 0, 1) := by decide +kernel
theorem d5_20 : decode method_9_code 20 = .ok (.aload_n 0, 1) := by decide +kernel
theorem d5_21 : decode method_9_code 21 = .ok (.iconst 4, 1) := by decide +kernel
theorem d5_22 : decode method_9_code 22 = .ok (.iaload, 1) := by decide +kernel
theorem d5_23 : decode method_9_code 23 = .ok (.invokestatic 42, 3) := by decide +kernel
theorem d11_0 : decode method_8_code 0 = .ok (.aload_n 0, 1) := by decide +kernel
theorem d11_1 : decode method_8_code 1 = .ok (.iload_n 1, 1) := by decide +kernel
theorem d11_2 : decode method_8_code 2 = .ok (.invokestatic 33, 3) := by decide +kernel
theorem d11_5 : decode method_8_code 5 = .ok (.aload_n 0, 1) := by decide +kernel
theorem d11_6 : decode method_8_code 6 = .ok (.iload_n 1, 1) := by decide +kernel
theorem d11_7 : decode method_8_code 7 = .ok (.invokestatic 36, 3) := by decide +kernel
theorem d11_10 : decode method_8_code 10 = .ok (.aload_n 0, 1) := by decide +kernel
theorem d11_11 : decode method_8_code 11 = .ok (.aload_n 0, 1) := by decide +kernel
theorem d11_12 : decode method_8_code 12 = .ok (.iconst 2, 1) := by decide +kernel
theorem d11_13 : decode method_8_code 13 = .ok (.iaload, 1) := by decide +kernel
theorem d11_14 : decode method_8_code 14 = .ok (.invokestatic 33, 3) := by decide +kernel
theorem d11_17 : decode method_8_code 17 = .ok (.aload_n 0, 1) := by decide +kernel
theorem d11_18 : decode method_8_code 18 = .ok (.aload_n 0, 1) := by decide +kernel
theorem d11_19 : decode method_8_code 19 = .ok (.iconst 3, 1) := by decide +kernel
theorem d11_20 : decode method_8_code 20 = .ok (.iaload, 1) := by decide +kernel
theorem d11_21 : decode method_8_code 21 = .ok (.invokestatic 33, 3) := by decide +kernel
theorem d11_24 : decode method_8_code 24 = .ok (.aload_n 0, 1) := by decide +kernel
theorem d11_25 : decode method_8_code 25 = .ok (.aload_n 0, 1) := by decide +kernel
theorem d11_26 : decode method_8_code 26 = .ok (.iconst 2, 1) := by decide +kernel
theorem d11_27 : decode method_8_code 27 = .ok (.iaload, 1) := by decide +kernel
theorem d11_28 : decode method_8_code 28 = .ok (.invokestatic 36, 3) := by decide +kernel
theorem d11_31 : decode method_8_code 31 = .ok (.aload_n 0, 1) := by decide +kernel
theorem d11_32 : decode method_8_code 32 = .ok (.aload_n 0, 1) := by decide +kernel
theorem d11_33 : decode method_8_code 33 = .ok (.iconst 3, 1) := by decide +kernel
theorem d11_34 : decode method_8_code 34 = .ok (.iaload, 1) := by decide +kernel
theorem d11_35 : decode method_8_code 35 = .ok (.invokestatic 36, 3) := by decide +kernel
theorem d11_38 : decode method_8_code 38 = .ok (.invokestatic 29, 3) := by decide +kernel
theorem d11_41 : decode method_8_code 41 = .ok (.ireturn, 1) := by decide +kernel
theorem d5_26 : decode method_9_code 26 = .ok (.aload_n 0, 1) := by decide +kernel
theorem d5_27 : decode method_9_code 27 = .ok (.aload_n 0, 1) := by decide +kernel
theorem d5_28 : decode method_9_code 28 = .ok (.iconst 5, 1) := by decide +kernel
theorem d5_29 : decode method_9_code 29 = .ok (.iaload, 1) := by decide +kernel
theorem d5_30 : decode method_9_code 30 = .ok (.invokestatic 42, 3) := by decide +kernel
theorem d5_33 : decode method_9_code 33 = .ok (.invokestatic 25, 3) := by decide +kernel
theorem d5_36 : decode method_9_code 36 = .ok (.ireturn, 1) := by decide +kernel
def Q_1 (Z : State) (w0 : Addr) (h0 : Heap) (n0 : Nat) (v : Option Value) (h : Heap) : Prop :=
  (∃ (b2 : Addr) (kb2 : ClassId) (b4 : Addr) (kb4 : ClassId) (b6 : Addr) (kb6 : ClassId), v = none ∧ Keep h0 h [w0] ∧ h0.size ≤ b2 ∧ h0.size ≤ b4 ∧ h0.size ≤ b6 ∧ b2 ≠ b4 ∧ b2 ≠ b6 ∧ b4 ≠ b6 ∧ Exa Z h w0 "com/example/ordal/ordal/Aliases" ∧ Fld Z h w0 "com/example/ordal/ordal/Aliases" "parents" "[I" (.ref b2) ∧ Fld Z h w0 "com/example/ordal/ordal/Aliases" "sizes" "[I" (.ref b4) ∧ Fld Z h w0 "com/example/ordal/ordal/Aliases" "rings" "[I" (.ref b6) ∧ Exa Z h b2 "[I" ∧ Arv Z h b2 kb2 .int (0 : Int32) [] (.int (0 : Int32)) ∧ Exa Z h b4 "[I" ∧ Arv Z h b4 kb4 .int (0 : Int32) [] (.int (0 : Int32)) ∧ Exa Z h b6 "[I" ∧ Arv Z h b6 kb6 .int (0 : Int32) [] (.int (0 : Int32)))
set_option maxRecDepth 65536 in
set_option maxHeartbeats 40000000 in
theorem rm_1 (l : Launch) (Z : State) (a0 : Array Value) (hw : ∀ d ∈ tables_1, d.before a0 Z = true) (ws : List Jvm.Cond) (w0 : Addr) (h0 : Heap) (n0 : Nat) (Z0 : n0 ≤ h0.size) (E_w0 : Exa Z h0 w0 "com/example/ordal/ordal/Aliases") (F_w0_parents : Fld Z h0 w0 "com/example/ordal/ordal/Aliases" "parents" "[I" .null) (F_w0_sizes : Fld Z h0 w0 "com/example/ordal/ordal/Aliases" "sizes" "[I" .null) (F_w0_rings : Fld Z h0 w0 "com/example/ordal/ordal/Aliases" "rings" "[I" .null) (g_w0 : n0 ≤ w0) :
    MetFree l (⟨"com/example/ordal/ordal/Aliases", "<init>", "()V"⟩ : MethodName) (head1 (Jvm.Cond.code (⟨"com/example/ordal/ordal/Aliases", "<init>", "()V"⟩ : MethodName) prog_1_method_1_code 1 none :: ws) ({ frames := 1, cells := 3, slots := 0, locals := 12 } : Room)) (fun a U => a = #[(.ref w0)] ∧ Z.Warmed39 U.vm ∧ U.heap = h0) (fun _ _ _ _ _ => True) (fun _ U o U' => ∃ v L, o = .returned v ∧ (Fr n0 L ∧ Q_1 Z w0 h0 n0 v U'.heap) ∧ FrameEnd U o U' L ({ frames := 1, cells := 3, slots := 0, locals := 12 } : Room).cells ({ frames := 1, cells := 3, slots := 0, locals := 12 } : Room).slots) := by
  refine own_enter (Q := Q_1 Z w0 h0 n0) (F := fun m => mkF m 0 #[.val (.ref w0)] []) (plainFor_of_name pn_0) (fun m => by first | (simp [entryFrame, mkF, argsToLocals, Value.category]; done) | rfl) ?_
  intro p e s m below meth c s₁ B X0
  have K : Keep h0 h0 [w0] := Keep.refl h0 _
  refine own_aloadN (pc' := 1) B X0 d1_0 rfl rfl rfl ?_
  refine own_objinit (pc' := 4) B X0 (own_w hw 8 rfl) (own_w hw 9 rfl) (own_w hw 10 rfl) d1_1 rfl rfl (by decide) 0 (Nat.le_of_eq rfl) (by decide) ?_
  intro T1 X1
  refine own_aloadN (pc' := 5) B X1 d1_4 rfl rfl rfl ?_
  refine own_iconst (pc' := 6) B X1 (z := (0 : Int32)) d1_5 rfl rfl ?_
  refine own_newarray (pc' := 8) B X1 (own_w hw 0 rfl) d1_6 rfl rfl (by decide) 0 (by decide) (by decide) (k' := 1) (n' := 0) rfl rfl (by decide) (by decide) "[I" (by decide) (.int (0 : Int32)) rfl ?_
  intro T2 h2 b2 kb2 X2 g2 E2 V_b2 E_b2
  have ne_w0_b2 : w0 ≠ b2 := own_ne E_w0.lt g2
  have sz_b2 : h0.size ≤ b2 := own_sz K g2
  have g_b2 : n0 ≤ b2 := Nat.le_trans Z0 sz_b2
  replace K := K.ext E2
  replace E_w0 := E_w0.ext E2
  replace F_w0_parents := F_w0_parents.ext E2
  replace F_w0_sizes := F_w0_sizes.ext E2
  replace F_w0_rings := F_w0_rings.ext E2
  refine own_putfield (pc' := 11) B X2 (host := "") (Or.inl (own_w hw 11 rfl)) Via.refl F_w0_parents E_w0 g_w0 (Or.inl (own_w hw 12 rfl)) (own_w hw 3 rfl) (ty := (.array .int)) (by decide) rfl rfl d1_8 rfl ?_
  intro T3 h3 X3 W3 F_w0_parents
  replace E_w0 := E_w0.wr W3
  replace F_w0_sizes := F_w0_sizes.other W3 (Or.inr (slot_ne (Or.inl (own_w hw 14 rfl)) (Or.inl (own_w hw 12 rfl)) (by decide) (t := (.array .int)) (t' := (.array .int)) (by decide) (by decide)))
  replace F_w0_rings := F_w0_rings.other W3 (Or.inr (slot_ne (Or.inl (own_w hw 16 rfl)) (Or.inl (own_w hw 12 rfl)) (by decide) (t := (.array .int)) (t' := (.array .int)) (by decide) (by decide)))
  replace E_b2 := E_b2.wr W3
  replace V_b2 := V_b2.other W3 (Ne.symm ne_w0_b2)
  replace K := K.wr W3 (Or.inl (List.mem_of_getElem? (i := 0) rfl))
  refine own_aloadN (pc' := 12) B X3 d1_11 rfl rfl rfl ?_
  refine own_iconst (pc' := 13) B X3 (z := (0 : Int32)) d1_12 rfl rfl ?_
  refine own_newarray (pc' := 15) B X3 (own_w hw 0 rfl) d1_13 rfl rfl (by decide) 0 (by decide) (by decide) (k' := 2) (n' := 0) rfl rfl (by decide) (by decide) "[I" (by decide) (.int (0 : Int32)) rfl ?_
  intro T4 h4 b4 kb4 X4 g4 E4 V_b4 E_b4
  have ne_w0_b4 : w0 ≠ b4 := own_ne E_w0.lt g4
  have ne_b2_b4 : b2 ≠ b4 := own_ne E_b2.lt g4
  have sz_b4 : h0.size ≤ b4 := own_sz K g4
  have g_b4 : n0 ≤ b4 := Nat.le_trans Z0 sz_b4
  replace K := K.ext E4
  replace E_w0 := E_w0.ext E4
  replace F_w0_parents := F_w0_parents.ext E4
  replace F_w0_sizes := F_w0_sizes.ext E4
  replace F_w0_rings := F_w0_rings.ext E4
  replace E_b2 := E_b2.ext E4
  replace V_b2 := V_b2.ext E4
  refine own_putfield (pc' := 18) B X4 (host := "") (Or.inl (own_w hw 13 rfl)) Via.refl F_w0_sizes E_w0 g_w0 (Or.inl (own_w hw 14 rfl)) (own_w hw 3 rfl) (ty := (.array .int)) (by decide) rfl rfl d1_15 rfl ?_
  intro T5 h5 X5 W5 F_w0_sizes
  replace E_w0 := E_w0.wr W5
  replace F_w0_parents := F_w0_parents.other W5 (Or.inr (slot_ne (Or.inl (own_w hw 12 rfl)) (Or.inl (own_w hw 14 rfl)) (by decide) (t := (.array .int)) (t' := (.array .int)) (by decide) (by decide)))
  replace F_w0_rings := F_w0_rings.other W5 (Or.inr (slot_ne (Or.inl (own_w hw 16 rfl)) (Or.inl (own_w hw 14 rfl)) (by decide) (t := (.array .int)) (t' := (.array .int)) (by decide) (by decide)))
  replace E_b2 := E_b2.wr W5
  replace V_b2 := V_b2.other W5 (Ne.symm ne_w0_b2)
  replace E_b4 := E_b4.wr W5
  replace V_b4 := V_b4.other W5 (Ne.symm ne_w0_b4)
  replace K := K.wr W5 (Or.inl (List.mem_of_getElem? (i := 0) rfl))
  refine own_aloadN (pc' := 19) B X5 d1_18 rfl rfl rfl ?_
  refine own_iconst (pc' := 20) B X5 (z := (0 : Int32)) d1_19 rfl rfl ?_
  refine own_newarray (pc' := 22) B X5 (own_w hw 0 rfl) d1_20 rfl rfl (by decide) 0 (by decide) (by decide) (k' := 3) (n' := 0) rfl rfl (by decide) (by decide) "[I" (by decide) (.int (0 : Int32)) rfl ?_
  intro T6 h6 b6 kb6 X6 g6 E6 V_b6 E_b6
  have ne_w0_b6 : w0 ≠ b6 := own_ne E_w0.lt g6
  have ne_b2_b6 : b2 ≠ b6 := own_ne E_b2.lt g6
  have ne_b4_b6 : b4 ≠ b6 := own_ne E_b4.lt g6
  have sz_b6 : h0.size ≤ b6 := own_sz K g6
  have g_b6 : n0 ≤ b6 := Nat.le_trans Z0 sz_b6
  replace K := K.ext E6
  replace E_w0 := E_w0.ext E6
  replace F_w0_parents := F_w0_parents.ext E6
  replace F_w0_sizes := F_w0_sizes.ext E6
  replace F_w0_rings := F_w0_rings.ext E6
  replace E_b2 := E_b2.ext E6
  replace V_b2 := V_b2.ext E6
  replace E_b4 := E_b4.ext E6
  replace V_b4 := V_b4.ext E6
  refine own_putfield (pc' := 25) B X6 (host := "") (Or.inl (own_w hw 15 rfl)) Via.refl F_w0_rings E_w0 g_w0 (Or.inl (own_w hw 16 rfl)) (own_w hw 3 rfl) (ty := (.array .int)) (by decide) rfl rfl d1_22 rfl ?_
  intro T7 h7 X7 W7 F_w0_rings
  replace E_w0 := E_w0.wr W7
  replace F_w0_parents := F_w0_parents.other W7 (Or.inr (slot_ne (Or.inl (own_w hw 12 rfl)) (Or.inl (own_w hw 16 rfl)) (by decide) (t := (.array .int)) (t' := (.array .int)) (by decide) (by decide)))
  replace F_w0_sizes := F_w0_sizes.other W7 (Or.inr (slot_ne (Or.inl (own_w hw 14 rfl)) (Or.inl (own_w hw 16 rfl)) (by decide) (t := (.array .int)) (t' := (.array .int)) (by decide) (by decide)))
  replace E_b2 := E_b2.wr W7
  replace V_b2 := V_b2.other W7 (Ne.symm ne_w0_b2)
  replace E_b4 := E_b4.wr W7
  replace V_b4 := V_b4.other W7 (Ne.symm ne_w0_b4)
  replace E_b6 := E_b6.wr W7
  replace V_b6 := V_b6.other W7 (Ne.symm ne_w0_b6)
  replace K := K.wr W7 (Or.inl (List.mem_of_getElem? (i := 0) rfl))
  exact own_ret B X7 d1_25 (by decide) (by decide) (⟨b2, kb2, b4, kb4, b6, kb6, rfl, K, sz_b2, sz_b4, sz_b6, ne_b2_b4, ne_b2_b6, ne_b4_b6, E_w0, F_w0_parents, F_w0_sizes, F_w0_rings, E_b2, V_b2, E_b4, V_b4, E_b6, V_b6⟩)
def Q_5 (Z : State) (p0 : Int32) (p1 : Int32) (p2 : Int32) (p3 : Int32) (p4 : Int32) (h0 : Heap) (n0 : Nat) (v : Option Value) (h : Heap) : Prop :=
  (∃ (yF : Int32), own_F_step p0 p1 p2 p3 p4 = yF ∧ v = some (.int yF) ∧ h0 = h)
set_option maxRecDepth 65536 in
set_option maxHeartbeats 40000000 in
theorem rm_5 (l : Launch) (Z : State) (a0 : Array Value) (hw : ∀ d ∈ tables_1, d.before a0 Z = true) (ws : List Jvm.Cond) (p0 : Int32) (p1 : Int32) (p2 : Int32) (p3 : Int32) (p4 : Int32) (h0 : Heap) (n0 : Nat) (Z0 : n0 ≤ h0.size)  :
    MetFree l (⟨"com/example/ordal/ordal/AliasesRepresentativePinLaw", "step", "(IIIII)I"⟩ : MethodName) (head1 (Jvm.Cond.code (⟨"com/example/ordal/ordal/AliasesRepresentativePinLaw", "step", "(IIIII)I"⟩ : MethodName) method_3_code 6 (some .int) :: ws) ({ frames := 0, cells := 0, slots := 0, locals := 0 } : Room)) (fun a U => a = #[(.int p0), (.int p1), (.int p2), (.int p3), (.int p4)] ∧ Z.Warmed39 U.vm ∧ U.heap = h0) (fun _ _ _ _ _ => True) (fun _ U o U' => ∃ v L, o = .returned v ∧ (Fr n0 L ∧ Q_5 Z p0 p1 p2 p3 p4 h0 n0 v U'.heap) ∧ FrameEnd U o U' L ({ frames := 0, cells := 0, slots := 0, locals := 0 } : Room).cells ({ frames := 0, cells := 0, slots := 0, locals := 0 } : Room).slots) := by
  refine own_enter (Q := Q_5 Z p0 p1 p2 p3 p4 h0 n0) (F := fun m => mkF m 0 #[.val (.int p0), .val (.int p1), .val (.int p2), .val (.int p3), .val (.int p4), .unset] []) (plainFor_of_name pn_1) (fun m => by first | (simp [entryFrame, mkF, argsToLocals, Value.category]; done) | rfl) ?_
  intro p e s m below meth c s₁ B X0
  have K : Keep h0 h0 [] := Keep.refl h0 _
  refine own_iloadN (pc' := 1) B X0 d8_0 rfl rfl ?_
  refine own_iloadN (pc' := 2) B X0 d8_1 rfl rfl ?_
  by_cases c1 : p1 = p2
  · refine own_icmpNo (pc' := 5) B X0 d8_2 (teq c1).2 rfl ?_
    refine own_iloadN (pc' := 6) B X0 d8_5 rfl rfl ?_
    exact own_retI B X0 d8_6 (by decide) (by decide) ⟨p0, (by rw [own_F_step, if_pos c1]), rfl, rfl⟩
  · refine own_icmpYes (pc' := 7) B X0 d8_2 (feq c1).2 (by decide) rfl ?_
    refine own_iloadN (pc' := 8) B X0 d8_7 rfl rfl ?_
    refine own_iload (pc' := 10) B X0 d8_8 rfl rfl ?_
    by_cases c2 : p4 < p3
    · refine own_icmpYes (pc' := 24) B X0 d8_10 (tlt c2).2.2.1 (by decide) rfl ?_
      refine own_iloadN (pc' := 25) B X0 d8_24 rfl rfl ?_
      refine own_goto (pc' := 29) B X0 d8_25 (by decide) rfl ?_
      refine own_istore (pc' := 31) B X0 (Ls' := #[.val (.int p0), .val (.int p1), .val (.int p2), .val (.int p3), .val (.int p4), .val (.int p1)]) d8_29 rfl rfl ?_
      refine own_iloadN (pc' := 32) B X0 d8_31 rfl rfl ?_
      refine own_iloadN (pc' := 33) B X0 d8_32 rfl rfl ?_
      by_cases c3 : p0 = p1
      · refine own_icmpYes (pc' := 41) B X0 d8_33 (teq c3).1 (by decide) rfl ?_
        refine own_iload (pc' := 43) B X0 d8_41 rfl rfl ?_
        refine own_goto (pc' := 47) B X0 d8_43 (by decide) rfl ?_
        exact own_retI B X0 d8_47 (by decide) (by decide) ⟨p1, (by rw [own_F_step, if_neg c1, if_pos c2, if_pos c3]), rfl, rfl⟩
      · refine own_icmpNo (pc' := 36) B X0 d8_33 (feq c3).1 rfl ?_
        refine own_iloadN (pc' := 37) B X0 d8_36 rfl rfl ?_
        refine own_iloadN (pc' := 38) B X0 d8_37 rfl rfl ?_
        by_cases c4 : p0 = p2
        · refine own_icmpNo (pc' := 41) B X0 d8_38 (teq c4).2 rfl ?_
          refine own_iload (pc' := 43) B X0 d8_41 rfl rfl ?_
          refine own_goto (pc' := 47) B X0 d8_43 (by decide) rfl ?_
          exact own_retI B X0 d8_47 (by decide) (by decide) ⟨p1, (by rw [own_F_step, if_neg c1, if_pos c2, if_neg c3, if_pos c4]), rfl, rfl⟩
        · refine own_icmpYes (pc' := 46) B X0 d8_38 (feq c4).2 (by decide) rfl ?_
          refine own_iloadN (pc' := 47) B X0 d8_46 rfl rfl ?_
          exact own_retI B X0 d8_47 (by decide) (by decide) ⟨p0, (by rw [own_F_step, if_neg c1, if_pos c2, if_neg c3, if_neg c4]), rfl, rfl⟩
    · refine own_icmpNo (pc' := 13) B X0 d8_10 (flt c2).2.2.1 rfl ?_
      refine own_iloadN (pc' := 14) B X0 d8_13 rfl rfl ?_
      refine own_iload (pc' := 16) B X0 d8_14 rfl rfl ?_
      by_cases c5 : p3 = p4
      · refine own_icmpNo (pc' := 19) B X0 d8_16 (teq c5).2 rfl ?_
        refine own_iloadN (pc' := 20) B X0 d8_19 rfl rfl ?_
        refine own_iloadN (pc' := 21) B X0 d8_20 rfl rfl ?_
        by_cases c6 : p1 < p2
        · refine own_icmpNo (pc' := 24) B X0 d8_21 (tlt c6).2.1 rfl ?_
          refine own_iloadN (pc' := 25) B X0 d8_24 rfl rfl ?_
          refine own_goto (pc' := 29) B X0 d8_25 (by decide) rfl ?_
          refine own_istore (pc' := 31) B X0 (Ls' := #[.val (.int p0), .val (.int p1), .val (.int p2), .val (.int p3), .val (.int p4), .val (.int p1)]) d8_29 rfl rfl ?_
          refine own_iloadN (pc' := 32) B X0 d8_31 rfl rfl ?_
          refine own_iloadN (pc' := 33) B X0 d8_32 rfl rfl ?_
          by_cases c7 : p0 = p1
          · refine own_icmpYes (pc' := 41) B X0 d8_33 (teq c7).1 (by decide) rfl ?_
            refine own_iload (pc' := 43) B X0 d8_41 rfl rfl ?_
            refine own_goto (pc' := 47) B X0 d8_43 (by decide) rfl ?_
            exact own_retI B X0 d8_47 (by decide) (by decide) ⟨p1, (by rw [own_F_step, if_neg c1, if_neg c2, if_pos c5, if_pos c6, if_pos c7]), rfl, rfl⟩
          · refine own_icmpNo (pc' := 36) B X0 d8_33 (feq c7).1 rfl ?_
            refine own_iloadN (pc' := 37) B X0 d8_36 rfl rfl ?_
            refine own_iloadN (pc' := 38) B X0 d8_37 rfl rfl ?_
            by_cases c8 : p0 = p2
            · refine own_icmpNo (pc' := 41) B X0 d8_38 (teq c8).2 rfl ?_
              refine own_iload (pc' := 43) B X0 d8_41 rfl rfl ?_
              refine own_goto (pc' := 47) B X0 d8_43 (by decide) rfl ?_
              exact own_retI B X0 d8_47 (by decide) (by decide) ⟨p1, (by rw [own_F_step, if_neg c1, if_neg c2, if_pos c5, if_pos c6, if_neg c7, if_pos c8]), rfl, rfl⟩
            · refine own_icmpYes (pc' := 46) B X0 d8_38 (feq c8).2 (by decide) rfl ?_
              refine own_iloadN (pc' := 47) B X0 d8_46 rfl rfl ?_
              exact own_retI B X0 d8_47 (by decide) (by decide) ⟨p0, (by rw [own_F_step, if_neg c1, if_neg c2, if_pos c5, if_pos c6, if_neg c7, if_neg c8]), rfl, rfl⟩
        · refine own_icmpYes (pc' := 28) B X0 d8_21 (flt c6).2.1 (by decide) rfl ?_
          refine own_iloadN (pc' := 29) B X0 d8_28 rfl rfl ?_
          refine own_istore (pc' := 31) B X0 (Ls' := #[.val (.int p0), .val (.int p1), .val (.int p2), .val (.int p3), .val (.int p4), .val (.int p2)]) d8_29 rfl rfl ?_
          refine own_iloadN (pc' := 32) B X0 d8_31 rfl rfl ?_
          refine own_iloadN (pc' := 33) B X0 d8_32 rfl rfl ?_
          by_cases c9 : p0 = p1
          · refine own_icmpYes (pc' := 41) B X0 d8_33 (teq c9).1 (by decide) rfl ?_
            refine own_iload (pc' := 43) B X0 d8_41 rfl rfl ?_
            refine own_goto (pc' := 47) B X0 d8_43 (by decide) rfl ?_
            exact own_retI B X0 d8_47 (by decide) (by decide) ⟨p2, (by rw [own_F_step, if_neg c1, if_neg c2, if_pos c5, if_neg c6, if_pos c9]), rfl, rfl⟩
          · refine own_icmpNo (pc' := 36) B X0 d8_33 (feq c9).1 rfl ?_
            refine own_iloadN (pc' := 37) B X0 d8_36 rfl rfl ?_
            refine own_iloadN (pc' := 38) B X0 d8_37 rfl rfl ?_
            by_cases c10 : p0 = p2
            · refine own_icmpNo (pc' := 41) B X0 d8_38 (teq c10).2 rfl ?_
              refine own_iload (pc' := 43) B X0 d8_41 rfl rfl ?_
              refine own_goto (pc' := 47) B X0 d8_43 (by decide) rfl ?_
              exact own_retI B X0 d8_47 (by decide) (by decide) ⟨p2, (by rw [own_F_step, if_neg c1, if_neg c2, if_pos c5, if_neg c6, if_neg c9, if_pos c10]), rfl, rfl⟩
            · refine own_icmpYes (pc' := 46) B X0 d8_38 (feq c10).2 (by decide) rfl ?_
              refine own_iloadN (pc' := 47) B X0 d8_46 rfl rfl ?_
              exact own_retI B X0 d8_47 (by decide) (by decide) ⟨p0, (by rw [own_F_step, if_neg c1, if_neg c2, if_pos c5, if_neg c6, if_neg c9, if_neg c10]), rfl, rfl⟩
      · refine own_icmpYes (pc' := 28) B X0 d8_16 (feq c5).2 (by decide) rfl ?_
        refine own_iloadN (pc' := 29) B X0 d8_28 rfl rfl ?_
        refine own_istore (pc' := 31) B X0 (Ls' := #[.val (.int p0), .val (.int p1), .val (.int p2), .val (.int p3), .val (.int p4), .val (.int p2)]) d8_29 rfl rfl ?_
        refine own_iloadN (pc' := 32) B X0 d8_31 rfl rfl ?_
        refine own_iloadN (pc' := 33) B X0 d8_32 rfl rfl ?_
        by_cases c11 : p0 = p1
        · refine own_icmpYes (pc' := 41) B X0 d8_33 (teq c11).1 (by decide) rfl ?_
          refine own_iload (pc' := 43) B X0 d8_41 rfl rfl ?_
          refine own_goto (pc' := 47) B X0 d8_43 (by decide) rfl ?_
          exact own_retI B X0 d8_47 (by decide) (by decide) ⟨p2, (by rw [own_F_step, if_neg c1, if_neg c2, if_neg c5, if_pos c11]), rfl, rfl⟩
        · refine own_icmpNo (pc' := 36) B X0 d8_33 (feq c11).1 rfl ?_
          refine own_iloadN (pc' := 37) B X0 d8_36 rfl rfl ?_
          refine own_iloadN (pc' := 38) B X0 d8_37 rfl rfl ?_
          by_cases c12 : p0 = p2
          · refine own_icmpNo (pc' := 41) B X0 d8_38 (teq c12).2 rfl ?_
            refine own_iload (pc' := 43) B X0 d8_41 rfl rfl ?_
            refine own_goto (pc' := 47) B X0 d8_43 (by decide) rfl ?_
            exact own_retI B X0 d8_47 (by decide) (by decide) ⟨p2, (by rw [own_F_step, if_neg c1, if_neg c2, if_neg c5, if_neg c11, if_pos c12]), rfl, rfl⟩
          · refine own_icmpYes (pc' := 46) B X0 d8_38 (feq c12).2 (by decide) rfl ?_
            refine own_iloadN (pc' := 47) B X0 d8_46 rfl rfl ?_
            exact own_retI B X0 d8_47 (by decide) (by decide) ⟨p0, (by rw [own_F_step, if_neg c1, if_neg c2, if_neg c5, if_neg c11, if_neg c12]), rfl, rfl⟩
def Q_4 (Z : State) (w0 : Addr) (kw0 : ClassId) (p2 : Int32) (p3 : Int32) (p4 : Int32) (p5 : Int32) (p6 : Int32) (p7 : Int32) (p8 : Int32) (h0 : Heap) (n0 : Nat) (v : Option Value) (h : Heap) : Prop :=
  (∃ (y2 : Int32), own_F_step p8 p2 p3 (1 : Int32) (1 : Int32) = y2 ∧ v = some (.int y2) ∧ h0 = h)
set_option maxRecDepth 65536 in
set_option maxHeartbeats 40000000 in
theorem rm_4 (l : Launch) (Z : State) (a0 : Array Value) (hw : ∀ d ∈ tables_1, d.before a0 Z = true) (ws : List Jvm.Cond) (w0 : Addr) (kw0 : ClassId) (p2 : Int32) (p3 : Int32) (p4 : Int32) (p5 : Int32) (p6 : Int32) (p7 : Int32) (p8 : Int32) (h0 : Heap) (n0 : Nat) (Z0 : n0 ≤ h0.size) (E_w0 : Exa Z h0 w0 "[I") (V_w0 : Arv Z h0 w0 kw0 .int (6 : Int32) [(.int p2), (.int p3), (.int p4), (.int p5), (.int p6), (.int p7)] (.int (0 : Int32))) (g_w0 : n0 ≤ w0) :
    MetFree l (⟨"com/example/ordal/ordal/AliasesRepresentativePinLaw", "r1", "([II)I"⟩ : MethodName) (head1 (Jvm.Cond.code (⟨"com/example/ordal/ordal/AliasesRepresentativePinLaw", "r1", "([II)I"⟩ : MethodName) method_5_code 2 (some .int) :: ws) ({ frames := 1, cells := 0, slots := 0, locals := 17 } : Room)) (fun a U => a = #[(.ref w0), (.int p8)] ∧ Z.Warmed39 U.vm ∧ U.heap = h0) (fun _ _ _ _ _ => True) (fun _ U o U' => ∃ v L, o = .returned v ∧ (Fr n0 L ∧ Q_4 Z w0 kw0 p2 p3 p4 p5 p6 p7 p8 h0 n0 v U'.heap) ∧ FrameEnd U o U' L ({ frames := 1, cells := 0, slots := 0, locals := 17 } : Room).cells ({ frames := 1, cells := 0, slots := 0, locals := 17 } : Room).slots) := by
  refine own_enter (Q := Q_4 Z w0 kw0 p2 p3 p4 p5 p6 p7 p8 h0 n0) (F := fun m => mkF m 0 #[.val (.ref w0), .val (.int p8)] []) (plainFor_of_name pn_1) (fun m => by first | (simp [entryFrame, mkF, argsToLocals, Value.category]; done) | rfl) ?_
  intro p e s m below meth c s₁ B X0
  have K : Keep h0 h0 [] := Keep.refl h0 _
  refine own_iloadN (pc' := 1) B X0 d7_0 rfl rfl ?_
  refine own_aloadN (pc' := 2) B X0 d7_1 rfl rfl rfl ?_
  refine own_iconst (pc' := 3) B X0 (z := (0 : Int32)) d7_2 rfl rfl ?_
  refine own_iaload (pc' := 4) B X0 V_w0 (v := (.int p2)) ⟨by decide, by decide⟩ rfl d7_3 rfl ?_
  refine own_aloadN (pc' := 5) B X0 d7_4 rfl rfl rfl ?_
  refine own_iconst (pc' := 6) B X0 (z := (1 : Int32)) d7_5 rfl rfl ?_
  refine own_iaload (pc' := 7) B X0 V_w0 (v := (.int p3)) ⟨by decide, by decide⟩ rfl d7_6 rfl ?_
  refine own_iconst (pc' := 8) B X0 (z := (1 : Int32)) d7_7 rfl rfl ?_
  refine own_iconst (pc' := 9) B X0 (z := (1 : Int32)) d7_8 rfl rfl ?_
  refine own_callS (pc' := 12) B X0 (own_w hw 38 rfl) (own_w hw 39 rfl) (own_w hw 30 rfl) (own_w hw 40 rfl) (by decide) [(.int p8), (.int p2), (.int p3), (.int (1 : Int32)), (.int (1 : Int32))] [] (rm_5 l Z a0 hw [] (p8) (p2) (p3) ((1 : Int32)) ((1 : Int32)) h0 n0 (Nat.le_trans Z0 K.1) ) 0 (by decide) (by decide) rfl pd_3 rfl rfl (Nat.le_of_eq rfl) d7_9 rfl (k' := 0) (n' := 0) rfl rfl (by decide) (by decide) ?_
  intro T1 v1 h1 X1 q1
  obtain ⟨y2, hy3, rfl, rfl⟩ := q1
  show own_Go p e below (T1.setTop (mkF m 12 #[.val (.ref w0), .val (.int p8)] [(.int y2)])) _
  exact own_retI B X1 d7_12 (by decide) (by decide) (⟨y2, hy3, rfl, rfl⟩)
def Q_6 (Z : State) (w0 : Addr) (kw0 : ClassId) (p2 : Int32) (p3 : Int32) (p4 : Int32) (p5 : Int32) (p6 : Int32) (p7 : Int32) (h0 : Heap) (n0 : Nat) (v : Option Value) (h : Heap) : Prop :=
  (∃ (y2 : Int32), own_F_step p4 p2 p3 (1 : Int32) (1 : Int32) = y2 ∧ v = some (.int y2) ∧ h0 = h)
set_option maxRecDepth 65536 in
set_option maxHeartbeats 40000000 in
theorem rm_6 (l : Launch) (Z : State) (a0 : Array Value) (hw : ∀ d ∈ tables_1, d.before a0 Z = true) (ws : List Jvm.Cond) (w0 : Addr) (kw0 : ClassId) (p2 : Int32) (p3 : Int32) (p4 : Int32) (p5 : Int32) (p6 : Int32) (p7 : Int32) (h0 : Heap) (n0 : Nat) (Z0 : n0 ≤ h0.size) (E_w0 : Exa Z h0 w0 "[I") (V_w0 : Arv Z h0 w0 kw0 .int (6 : Int32) [(.int p2), (.int p3), (.int p4), (.int p5), (.int p6), (.int p7)] (.int (0 : Int32))) (g_w0 : n0 ≤ w0) :
    MetFree l (⟨"com/example/ordal/ordal/AliasesRepresentativePinLaw", "r1", "([II)I"⟩ : MethodName) (head1 (Jvm.Cond.code (⟨"com/example/ordal/ordal/AliasesRepresentativePinLaw", "r1", "([II)I"⟩ : MethodName) method_5_code 2 (some .int) :: ws) ({ frames := 1, cells := 0, slots := 0, locals := 17 } : Room)) (fun a U => a = #[(.ref w0), (.int p4)] ∧ Z.Warmed39 U.vm ∧ U.heap = h0) (fun _ _ _ _ _ => True) (fun _ U o U' => ∃ v L, o = .returned v ∧ (Fr n0 L ∧ Q_6 Z w0 kw0 p2 p3 p4 p5 p6 p7 h0 n0 v U'.heap) ∧ FrameEnd U o U' L ({ frames := 1, cells := 0, slots := 0, locals := 17 } : Room).cells ({ frames := 1, cells := 0, slots := 0, locals := 17 } : Room).slots) := by
  refine own_enter (Q := Q_6 Z w0 kw0 p2 p3 p4 p5 p6 p7 h0 n0) (F := fun m => mkF m 0 #[.val (.ref w0), .val (.int p4)] []) (plainFor_of_name pn_1) (fun m => by first | (simp [entryFrame, mkF, argsToLocals, Value.category]; done) | rfl) ?_
  intro p e s m below meth c s₁ B X0
  have K : Keep h0 h0 [] := Keep.refl h0 _
  refine own_iloadN (pc' := 1) B X0 d7_0 rfl rfl ?_
  refine own_aloadN (pc' := 2) B X0 d7_1 rfl rfl rfl ?_
  refine own_iconst (pc' := 3) B X0 (z := (0 : Int32)) d7_2 rfl rfl ?_
  refine own_iaload (pc' := 4) B X0 V_w0 (v := (.int p2)) ⟨by decide, by decide⟩ rfl d7_3 rfl ?_
  refine own_aloadN (pc' := 5) B X0 d7_4 rfl rfl rfl ?_
  refine own_iconst (pc' := 6) B X0 (z := (1 : Int32)) d7_5 rfl rfl ?_
  refine own_iaload (pc' := 7) B X0 V_w0 (v := (.int p3)) ⟨by decide, by decide⟩ rfl d7_6 rfl ?_
  refine own_iconst (pc' := 8) B X0 (z := (1 : Int32)) d7_7 rfl rfl ?_
  refine own_iconst (pc' := 9) B X0 (z := (1 : Int32)) d7_8 rfl rfl ?_
  refine own_callS (pc' := 12) B X0 (own_w hw 38 rfl) (own_w hw 39 rfl) (own_w hw 30 rfl) (own_w hw 40 rfl) (by decide) [(.int p4), (.int p2), (.int p3), (.int (1 : Int32)), (.int (1 : Int32))] [] (rm_5 l Z a0 hw [] (p4) (p2) (p3) ((1 : Int32)) ((1 : Int32)) h0 n0 (Nat.le_trans Z0 K.1) ) 0 (by decide) (by decide) rfl pd_3 rfl rfl (Nat.le_of_eq rfl) d7_9 rfl (k' := 0) (n' := 0) rfl rfl (by decide) (by decide) ?_
  intro T1 v1 h1 X1 q1
  obtain ⟨y2, hy3, rfl, rfl⟩ := q1
  show own_Go p e below (T1.setTop (mkF m 12 #[.val (.ref w0), .val (.int p4)] [(.int y2)])) _
  exact own_retI B X1 d7_12 (by decide) (by decide) (⟨y2, hy3, rfl, rfl⟩)
def Q_7 (Z : State) (w0 : Addr) (kw0 : ClassId) (p2 : Int32) (p3 : Int32) (p4 : Int32) (p5 : Int32) (p6 : Int32) (p7 : Int32) (h0 : Heap) (n0 : Nat) (v : Option Value) (h : Heap) : Prop :=
  (∃ (y2 : Int32), own_F_step p5 p2 p3 (1 : Int32) (1 : Int32) = y2 ∧ v = some (.int y2) ∧ h0 = h)
set_option maxRecDepth 65536 in
set_option maxHeartbeats 40000000 in
theorem rm_7 (l : Launch) (Z : State) (a0 : Array Value) (hw : ∀ d ∈ tables_1, d.before a0 Z = true) (ws : List Jvm.Cond) (w0 : Addr) (kw0 : ClassId) (p2 : Int32) (p3 : Int32) (p4 : Int32) (p5 : Int32) (p6 : Int32) (p7 : Int32) (h0 : Heap) (n0 : Nat) (Z0 : n0 ≤ h0.size) (E_w0 : Exa Z h0 w0 "[I") (V_w0 : Arv Z h0 w0 kw0 .int (6 : Int32) [(.int p2), (.int p3), (.int p4), (.int p5), (.int p6), (.int p7)] (.int (0 : Int32))) (g_w0 : n0 ≤ w0) :
    MetFree l (⟨"com/example/ordal/ordal/AliasesRepresentativePinLaw", "r1", "([II)I"⟩ : MethodName) (head1 (Jvm.Cond.code (⟨"com/example/ordal/ordal/AliasesRepresentativePinLaw", "r1", "([II)I"⟩ : MethodName) method_5_code 2 (some .int) :: ws) ({ frames := 1, cells := 0, slots := 0, locals := 17 } : Room)) (fun a U => a = #[(.ref w0), (.int p5)] ∧ Z.Warmed39 U.vm ∧ U.heap = h0) (fun _ _ _ _ _ => True) (fun _ U o U' => ∃ v L, o = .returned v ∧ (Fr n0 L ∧ Q_7 Z w0 kw0 p2 p3 p4 p5 p6 p7 h0 n0 v U'.heap) ∧ FrameEnd U o U' L ({ frames := 1, cells := 0, slots := 0, locals := 17 } : Room).cells ({ frames := 1, cells := 0, slots := 0, locals := 17 } : Room).slots) := by
  refine own_enter (Q := Q_7 Z w0 kw0 p2 p3 p4 p5 p6 p7 h0 n0) (F := fun m => mkF m 0 #[.val (.ref w0), .val (.int p5)] []) (plainFor_of_name pn_1) (fun m => by first | (simp [entryFrame, mkF, argsToLocals, Value.category]; done) | rfl) ?_
  intro p e s m below meth c s₁ B X0
  have K : Keep h0 h0 [] := Keep.refl h0 _
  refine own_iloadN (pc' := 1) B X0 d7_0 rfl rfl ?_
  refine own_aloadN (pc' := 2) B X0 d7_1 rfl rfl rfl ?_
  refine own_iconst (pc' := 3) B X0 (z := (0 : Int32)) d7_2 rfl rfl ?_
  refine own_iaload (pc' := 4) B X0 V_w0 (v := (.int p2)) ⟨by decide, by decide⟩ rfl d7_3 rfl ?_
  refine own_aloadN (pc' := 5) B X0 d7_4 rfl rfl rfl ?_
  refine own_iconst (pc' := 6) B X0 (z := (1 : Int32)) d7_5 rfl rfl ?_
  refine own_iaload (pc' := 7) B X0 V_w0 (v := (.int p3)) ⟨by decide, by decide⟩ rfl d7_6 rfl ?_
  refine own_iconst (pc' := 8) B X0 (z := (1 : Int32)) d7_7 rfl rfl ?_
  refine own_iconst (pc' := 9) B X0 (z := (1 : Int32)) d7_8 rfl rfl ?_
  refine own_callS (pc' := 12) B X0 (own_w hw 38 rfl) (own_w hw 39 rfl) (own_w hw 30 rfl) (own_w hw 40 rfl) (by decide) [(.int p5), (.int p2), (.int p3), (.int (1 : Int32)), (.int (1 : Int32))] [] (rm_5 l Z a0 hw [] (p5) (p2) (p3) ((1 : Int32)) ((1 : Int32)) h0 n0 (Nat.le_trans Z0 K.1) ) 0 (by decide) (by decide) rfl pd_3 rfl rfl (Nat.le_of_eq rfl) d7_9 rfl (k' := 0) (n' := 0) rfl rfl (by decide) (by decide) ?_
  intro T1 v1 h1 X1 q1
  obtain ⟨y2, hy3, rfl, rfl⟩ := q1
  show own_Go p e below (T1.setTop (mkF m 12 #[.val (.ref w0), .val (.int p5)] [(.int y2)])) _
  exact own_retI B X1 d7_12 (by decide) (by decide) (⟨y2, hy3, rfl, rfl⟩)
def Q_9 (Z : State) (p0 : Int32) (p1 : Int32) (p2 : Int32) (p3 : Int32) (p4 : Int32) (p5 : Int32) (h0 : Heap) (n0 : Nat) (v : Option Value) (h : Heap) : Prop :=
  (∃ (yF : Int32), own_F_grown p0 p1 p2 p3 p4 p5 = yF ∧ v = some (.int yF) ∧ h0 = h)
set_option maxRecDepth 65536 in
set_option maxHeartbeats 40000000 in
theorem rm_9 (l : Launch) (Z : State) (a0 : Array Value) (hw : ∀ d ∈ tables_1, d.before a0 Z = true) (ws : List Jvm.Cond) (p0 : Int32) (p1 : Int32) (p2 : Int32) (p3 : Int32) (p4 : Int32) (p5 : Int32) (h0 : Heap) (n0 : Nat) (Z0 : n0 ≤ h0.size)  :
    MetFree l (⟨"com/example/ordal/ordal/AliasesRepresentativePinLaw", "grown", "(IIIIII)I"⟩ : MethodName) (head1 (Jvm.Cond.code (⟨"com/example/ordal/ordal/AliasesRepresentativePinLaw", "grown", "(IIIIII)I"⟩ : MethodName) method_4_code 6 (some .int) :: ws) ({ frames := 0, cells := 0, slots := 0, locals := 0 } : Room)) (fun a U => a = #[(.int p0), (.int p1), (.int p2), (.int p3), (.int p4), (.int p5)] ∧ Z.Warmed39 U.vm ∧ U.heap = h0) (fun _ _ _ _ _ => True) (fun _ U o U' => ∃ v L, o = .returned v ∧ (Fr n0 L ∧ Q_9 Z p0 p1 p2 p3 p4 p5 h0 n0 v U'.heap) ∧ FrameEnd U o U' L ({ frames := 0, cells := 0, slots := 0, locals := 0 } : Room).cells ({ frames := 0, cells := 0, slots := 0, locals := 0 } : Room).slots) := by
  refine own_enter (Q := Q_9 Z p0 p1 p2 p3 p4 p5 h0 n0) (F := fun m => mkF m 0 #[.val (.int p0), .val (.int p1), .val (.int p2), .val (.int p3), .val (.int p4), .val (.int p5)] []) (plainFor_of_name pn_1) (fun m => by first | (simp [entryFrame, mkF, argsToLocals, Value.category]; done) | rfl) ?_
  intro p e s m below meth c s₁ B X0
  have K : Keep h0 h0 [] := Keep.refl h0 _
  refine own_iloadN (pc' := 1) B X0 d10_0 rfl rfl ?_
  refine own_iloadN (pc' := 2) B X0 d10_1 rfl rfl ?_
  by_cases c1 : p2 = p3
  · refine own_icmpYes (pc' := 21) B X0 d10_2 (teq c1).1 (by decide) rfl ?_
    refine own_iloadN (pc' := 22) B X0 d10_21 rfl rfl ?_
    exact own_retI B X0 d10_22 (by decide) (by decide) ⟨p1, (by rw [own_F_grown, if_pos c1]), rfl, rfl⟩
  · refine own_icmpNo (pc' := 5) B X0 d10_2 (feq c1).1 rfl ?_
    refine own_iloadN (pc' := 6) B X0 d10_5 rfl rfl ?_
    refine own_iloadN (pc' := 7) B X0 d10_6 rfl rfl ?_
    by_cases c2 : p0 = p2
    · refine own_icmpYes (pc' := 15) B X0 d10_7 (teq c2).1 (by decide) rfl ?_
      refine own_iload (pc' := 17) B X0 d10_15 rfl rfl ?_
      refine own_iload (pc' := 19) B X0 d10_17 rfl rfl ?_
      obtain ⟨y3, hy3⟩ : ∃ z : Int32, p4 + p5 = z := ⟨_, rfl⟩
      refine own_iadd (pc' := 20) B X0 d10_19 rfl hy3 ?_
      exact own_retI B X0 d10_20 (by decide) (by decide) ⟨y3, (by subst hy3; rw [own_F_grown, if_neg c1, if_pos c2]), rfl, rfl⟩
    · refine own_icmpNo (pc' := 10) B X0 d10_7 (feq c2).1 rfl ?_
      refine own_iloadN (pc' := 11) B X0 d10_10 rfl rfl ?_
      refine own_iloadN (pc' := 12) B X0 d10_11 rfl rfl ?_
      by_cases c4 : p0 = p3
      · refine own_icmpNo (pc' := 15) B X0 d10_12 (teq c4).2 rfl ?_
        refine own_iload (pc' := 17) B X0 d10_15 rfl rfl ?_
        refine own_iload (pc' := 19) B X0 d10_17 rfl rfl ?_
        obtain ⟨y5, hy5⟩ : ∃ z : Int32, p4 + p5 = z := ⟨_, rfl⟩
        refine own_iadd (pc' := 20) B X0 d10_19 rfl hy5 ?_
        exact own_retI B X0 d10_20 (by decide) (by decide) ⟨y5, (by subst hy5; rw [own_F_grown, if_neg c1, if_neg c2, if_pos c4]), rfl, rfl⟩
      · refine own_icmpYes (pc' := 21) B X0 d10_12 (feq c4).2 (by decide) rfl ?_
        refine own_iloadN (pc' := 22) B X0 d10_21 rfl rfl ?_
        exact own_retI B X0 d10_22 (by decide) (by decide) ⟨p1, (by rw [own_F_grown, if_neg c1, if_neg c2, if_neg c4]), rfl, rfl⟩
def Q_8 (Z : State) (w0 : Addr) (kw0 : ClassId) (p2 : Int32) (p3 : Int32) (p4 : Int32) (p5 : Int32) (p6 : Int32) (p7 : Int32) (h0 : Heap) (n0 : Nat) (v : Option Value) (h : Heap) : Prop :=
  (∃ (y2 : Int32), own_F_grown p4 (1 : Int32) p2 p3 (1 : Int32) (1 : Int32) = y2 ∧ v = some (.int y2) ∧ h0 = h)
set_option maxRecDepth 65536 in
set_option maxHeartbeats 40000000 in
theorem rm_8 (l : Launch) (Z : State) (a0 : Array Value) (hw : ∀ d ∈ tables_1, d.before a0 Z = true) (ws : List Jvm.Cond) (w0 : Addr) (kw0 : ClassId) (p2 : Int32) (p3 : Int32) (p4 : Int32) (p5 : Int32) (p6 : Int32) (p7 : Int32) (h0 : Heap) (n0 : Nat) (Z0 : n0 ≤ h0.size) (E_w0 : Exa Z h0 w0 "[I") (V_w0 : Arv Z h0 w0 kw0 .int (6 : Int32) [(.int p2), (.int p3), (.int p4), (.int p5), (.int p6), (.int p7)] (.int (0 : Int32))) (g_w0 : n0 ≤ w0) :
    MetFree l (⟨"com/example/ordal/ordal/AliasesRepresentativePinLaw", "s1", "([II)I"⟩ : MethodName) (head1 (Jvm.Cond.code (⟨"com/example/ordal/ordal/AliasesRepresentativePinLaw", "s1", "([II)I"⟩ : MethodName) method_6_code 2 (some .int) :: ws) ({ frames := 1, cells := 0, slots := 0, locals := 17 } : Room)) (fun a U => a = #[(.ref w0), (.int p4)] ∧ Z.Warmed39 U.vm ∧ U.heap = h0) (fun _ _ _ _ _ => True) (fun _ U o U' => ∃ v L, o = .returned v ∧ (Fr n0 L ∧ Q_8 Z w0 kw0 p2 p3 p4 p5 p6 p7 h0 n0 v U'.heap) ∧ FrameEnd U o U' L ({ frames := 1, cells := 0, slots := 0, locals := 17 } : Room).cells ({ frames := 1, cells := 0, slots := 0, locals := 17 } : Room).slots) := by
  refine own_enter (Q := Q_8 Z w0 kw0 p2 p3 p4 p5 p6 p7 h0 n0) (F := fun m => mkF m 0 #[.val (.ref w0), .val (.int p4)] []) (plainFor_of_name pn_1) (fun m => by first | (simp [entryFrame, mkF, argsToLocals, Value.category]; done) | rfl) ?_
  intro p e s m below meth c s₁ B X0
  have K : Keep h0 h0 [] := Keep.refl h0 _
  refine own_iloadN (pc' := 1) B X0 d9_0 rfl rfl ?_
  refine own_iconst (pc' := 2) B X0 (z := (1 : Int32)) d9_1 rfl rfl ?_
  refine own_aloadN (pc' := 3) B X0 d9_2 rfl rfl rfl ?_
  refine own_iconst (pc' := 4) B X0 (z := (0 : Int32)) d9_3 rfl rfl ?_
  refine own_iaload (pc' := 5) B X0 V_w0 (v := (.int p2)) ⟨by decide, by decide⟩ rfl d9_4 rfl ?_
  refine own_aloadN (pc' := 6) B X0 d9_5 rfl rfl rfl ?_
  refine own_iconst (pc' := 7) B X0 (z := (1 : Int32)) d9_6 rfl rfl ?_
  refine own_iaload (pc' := 8) B X0 V_w0 (v := (.int p3)) ⟨by decide, by decide⟩ rfl d9_7 rfl ?_
  refine own_iconst (pc' := 9) B X0 (z := (1 : Int32)) d9_8 rfl rfl ?_
  refine own_iconst (pc' := 10) B X0 (z := (1 : Int32)) d9_9 rfl rfl ?_
  refine own_callS (pc' := 13) B X0 (own_w hw 44 rfl) (own_w hw 45 rfl) (own_w hw 30 rfl) (own_w hw 46 rfl) (by decide) [(.int p4), (.int (1 : Int32)), (.int p2), (.int p3), (.int (1 : Int32)), (.int (1 : Int32))] [] (rm_9 l Z a0 hw [] (p4) ((1 : Int32)) (p2) (p3) ((1 : Int32)) ((1 : Int32)) h0 n0 (Nat.le_trans Z0 K.1) ) 0 (by decide) (by decide) rfl pd_5 rfl rfl (Nat.le_of_eq rfl) d9_10 rfl (k' := 0) (n' := 0) rfl rfl (by decide) (by decide) ?_
  intro T1 v1 h1 X1 q1
  obtain ⟨y2, hy3, rfl, rfl⟩ := q1
  show own_Go p e below (T1.setTop (mkF m 13 #[.val (.ref w0), .val (.int p4)] [(.int y2)])) _
  exact own_retI B X1 d9_13 (by decide) (by decide) (⟨y2, hy3, rfl, rfl⟩)
def Q_10 (Z : State) (w0 : Addr) (kw0 : ClassId) (p2 : Int32) (p3 : Int32) (p4 : Int32) (p5 : Int32) (p6 : Int32) (p7 : Int32) (h0 : Heap) (n0 : Nat) (v : Option Value) (h : Heap) : Prop :=
  (∃ (y2 : Int32), own_F_grown p5 (1 : Int32) p2 p3 (1 : Int32) (1 : Int32) = y2 ∧ v = some (.int y2) ∧ h0 = h)
set_option maxRecDepth 65536 in
set_option maxHeartbeats 40000000 in
theorem rm_10 (l : Launch) (Z : State) (a0 : Array Value) (hw : ∀ d ∈ tables_1, d.before a0 Z = true) (ws : List Jvm.Cond) (w0 : Addr) (kw0 : ClassId) (p2 : Int32) (p3 : Int32) (p4 : Int32) (p5 : Int32) (p6 : Int32) (p7 : Int32) (h0 : Heap) (n0 : Nat) (Z0 : n0 ≤ h0.size) (E_w0 : Exa Z h0 w0 "[I") (V_w0 : Arv Z h0 w0 kw0 .int (6 : Int32) [(.int p2), (.int p3), (.int p4), (.int p5), (.int p6), (.int p7)] (.int (0 : Int32))) (g_w0 : n0 ≤ w0) :
    MetFree l (⟨"com/example/ordal/ordal/AliasesRepresentativePinLaw", "s1", "([II)I"⟩ : MethodName) (head1 (Jvm.Cond.code (⟨"com/example/ordal/ordal/AliasesRepresentativePinLaw", "s1", "([II)I"⟩ : MethodName) method_6_code 2 (some .int) :: ws) ({ frames := 1, cells := 0, slots := 0, locals := 17 } : Room)) (fun a U => a = #[(.ref w0), (.int p5)] ∧ Z.Warmed39 U.vm ∧ U.heap = h0) (fun _ _ _ _ _ => True) (fun _ U o U' => ∃ v L, o = .returned v ∧ (Fr n0 L ∧ Q_10 Z w0 kw0 p2 p3 p4 p5 p6 p7 h0 n0 v U'.heap) ∧ FrameEnd U o U' L ({ frames := 1, cells := 0, slots := 0, locals := 17 } : Room).cells ({ frames := 1, cells := 0, slots := 0, locals := 17 } : Room).slots) := by
  refine own_enter (Q := Q_10 Z w0 kw0 p2 p3 p4 p5 p6 p7 h0 n0) (F := fun m => mkF m 0 #[.val (.ref w0), .val (.int p5)] []) (plainFor_of_name pn_1) (fun m => by first | (simp [entryFrame, mkF, argsToLocals, Value.category]; done) | rfl) ?_
  intro p e s m below meth c s₁ B X0
  have K : Keep h0 h0 [] := Keep.refl h0 _
  refine own_iloadN (pc' := 1) B X0 d9_0 rfl rfl ?_
  refine own_iconst (pc' := 2) B X0 (z := (1 : Int32)) d9_1 rfl rfl ?_
  refine own_aloadN (pc' := 3) B X0 d9_2 rfl rfl rfl ?_
  refine own_iconst (pc' := 4) B X0 (z := (0 : Int32)) d9_3 rfl rfl ?_
  refine own_iaload (pc' := 5) B X0 V_w0 (v := (.int p2)) ⟨by decide, by decide⟩ rfl d9_4 rfl ?_
  refine own_aloadN (pc' := 6) B X0 d9_5 rfl rfl rfl ?_
  refine own_iconst (pc' := 7) B X0 (z := (1 : Int32)) d9_6 rfl rfl ?_
  refine own_iaload (pc' := 8) B X0 V_w0 (v := (.int p3)) ⟨by decide, by decide⟩ rfl d9_7 rfl ?_
  refine own_iconst (pc' := 9) B X0 (z := (1 : Int32)) d9_8 rfl rfl ?_
  refine own_iconst (pc' := 10) B X0 (z := (1 : Int32)) d9_9 rfl rfl ?_
  refine own_callS (pc' := 13) B X0 (own_w hw 44 rfl) (own_w hw 45 rfl) (own_w hw 30 rfl) (own_w hw 46 rfl) (by decide) [(.int p5), (.int (1 : Int32)), (.int p2), (.int p3), (.int (1 : Int32)), (.int (1 : Int32))] [] (rm_9 l Z a0 hw [] (p5) ((1 : Int32)) (p2) (p3) ((1 : Int32)) ((1 : Int32)) h0 n0 (Nat.le_trans Z0 K.1) ) 0 (by decide) (by decide) rfl pd_5 rfl rfl (Nat.le_of_eq rfl) d9_10 rfl (k' := 0) (n' := 0) rfl rfl (by decide) (by decide) ?_
  intro T1 v1 h1 X1 q1
  obtain ⟨y2, hy3, rfl, rfl⟩ := q1
  show own_Go p e below (T1.setTop (mkF m 13 #[.val (.ref w0), .val (.int p5)] [(.int y2)])) _
  exact own_retI B X1 d9_13 (by decide) (by decide) (⟨y2, hy3, rfl, rfl⟩)
def Q_3 (Z : State) (w0 : Addr) (kw0 : ClassId) (p2 : Int32) (p3 : Int32) (p4 : Int32) (p5 : Int32) (p6 : Int32) (p7 : Int32) (p8 : Int32) (h0 : Heap) (n0 : Nat) (v : Option Value) (h : Heap) : Prop :=
  (∃ (y2 : Int32) (y5 : Int32) (y8 : Int32) (y11 : Int32) (y14 : Int32) (y17 : Int32), own_F_step p8 p2 p3 (1 : Int32) (1 : Int32) = y2 ∧ own_F_step p4 p2 p3 (1 : Int32) (1 : Int32) = y5 ∧ own_F_step p5 p2 p3 (1 : Int32) (1 : Int32) = y8 ∧ own_F_grown p4 (1 : Int32) p2 p3 (1 : Int32) (1 : Int32) = y11 ∧ own_F_grown p5 (1 : Int32) p2 p3 (1 : Int32) (1 : Int32) = y14 ∧ own_F_step y2 y5 y8 y11 y14 = y17 ∧ v = some (.int y17) ∧ h0 = h)
set_option maxRecDepth 65536 in
set_option maxHeartbeats 40000000 in
theorem rm_3 (l : Launch) (Z : State) (a0 : Array Value) (hw : ∀ d ∈ tables_1, d.before a0 Z = true) (ws : List Jvm.Cond) (w0 : Addr) (kw0 : ClassId) (p2 : Int32) (p3 : Int32) (p4 : Int32) (p5 : Int32) (p6 : Int32) (p7 : Int32) (p8 : Int32) (h0 : Heap) (n0 : Nat) (Z0 : n0 ≤ h0.size) (E_w0 : Exa Z h0 w0 "[I") (V_w0 : Arv Z h0 w0 kw0 .int (6 : Int32) [(.int p2), (.int p3), (.int p4), (.int p5), (.int p6), (.int p7)] (.int (0 : Int32))) (g_w0 : n0 ≤ w0) :
    MetFree l (⟨"com/example/ordal/ordal/AliasesRepresentativePinLaw", "r2", "([II)I"⟩ : MethodName) (head1 (Jvm.Cond.code (⟨"com/example/ordal/ordal/AliasesRepresentativePinLaw", "r2", "([II)I"⟩ : MethodName) method_7_code 2 (some .int) :: ws) ({ frames := 2, cells := 0, slots := 0, locals := 34 } : Room)) (fun a U => a = #[(.ref w0), (.int p8)] ∧ Z.Warmed39 U.vm ∧ U.heap = h0) (fun _ _ _ _ _ => True) (fun _ U o U' => ∃ v L, o = .returned v ∧ (Fr n0 L ∧ Q_3 Z w0 kw0 p2 p3 p4 p5 p6 p7 p8 h0 n0 v U'.heap) ∧ FrameEnd U o U' L ({ frames := 2, cells := 0, slots := 0, locals := 34 } : Room).cells ({ frames := 2, cells := 0, slots := 0, locals := 34 } : Room).slots) := by
  refine own_enter (Q := Q_3 Z w0 kw0 p2 p3 p4 p5 p6 p7 p8 h0 n0) (F := fun m => mkF m 0 #[.val (.ref w0), .val (.int p8)] []) (plainFor_of_name pn_1) (fun m => by first | (simp [entryFrame, mkF, argsToLocals, Value.category]; done) | rfl) ?_
  intro p e s m below meth c s₁ B X0
  have K : Keep h0 h0 [] := Keep.refl h0 _
  refine own_aloadN (pc' := 1) B X0 d6_0 rfl rfl rfl ?_
  refine own_iloadN (pc' := 2) B X0 d6_1 rfl rfl ?_
  refine own_callS (pc' := 5) B X0 (own_w hw 35 rfl) (own_w hw 36 rfl) (own_w hw 30 rfl) (own_w hw 37 rfl) (by decide) [(.ref w0), (.int p8)] [] (rm_4 l Z a0 hw [] w0 kw0 (p2) (p3) (p4) (p5) (p6) (p7) (p8) h0 n0 (Nat.le_trans Z0 K.1) E_w0 V_w0 g_w0) 0 (by decide) (by decide) rfl pd_4 rfl rfl (Nat.le_of_eq rfl) d6_2 rfl (k' := 0) (n' := 0) rfl rfl (by decide) (by decide) ?_
  intro T1 v1 h1 X1 q1
  obtain ⟨y2, hy3, rfl, rfl⟩ := q1
  show own_Go p e below (T1.setTop (mkF m 5 #[.val (.ref w0), .val (.int p8)] [(.int y2)])) _
  refine own_aloadN (pc' := 6) B X1 d6_5 rfl rfl rfl ?_
  refine own_aloadN (pc' := 7) B X1 d6_6 rfl rfl rfl ?_
  refine own_iconst (pc' := 8) B X1 (z := (2 : Int32)) d6_7 rfl rfl ?_
  refine own_iaload (pc' := 9) B X1 V_w0 (v := (.int p4)) ⟨by decide, by decide⟩ rfl d6_8 rfl ?_
  refine own_callS (pc' := 12) B X1 (own_w hw 35 rfl) (own_w hw 36 rfl) (own_w hw 30 rfl) (own_w hw 37 rfl) (by decide) [(.ref w0), (.int p4)] [(.int y2)] (rm_6 l Z a0 hw [] w0 kw0 (p2) (p3) (p4) (p5) (p6) (p7) h0 n0 (Nat.le_trans Z0 K.1) E_w0 V_w0 g_w0) 1 (by decide) (by decide) rfl pd_4 rfl rfl (Nat.le_of_eq rfl) d6_9 rfl (k' := 0) (n' := 0) rfl rfl (by decide) (by decide) ?_
  intro T4 v4 h4 X4 q4
  obtain ⟨y5, hy6, rfl, rfl⟩ := q4
  show own_Go p e below (T4.setTop (mkF m 12 #[.val (.ref w0), .val (.int p8)] [(.int y5), (.int y2)])) _
  refine own_aloadN (pc' := 13) B X4 d6_12 rfl rfl rfl ?_
  refine own_aloadN (pc' := 14) B X4 d6_13 rfl rfl rfl ?_
  refine own_iconst (pc' := 15) B X4 (z := (3 : Int32)) d6_14 rfl rfl ?_
  refine own_iaload (pc' := 16) B X4 V_w0 (v := (.int p5)) ⟨by decide, by decide⟩ rfl d6_15 rfl ?_
  refine own_callS (pc' := 19) B X4 (own_w hw 35 rfl) (own_w hw 36 rfl) (own_w hw 30 rfl) (own_w hw 37 rfl) (by decide) [(.ref w0), (.int p5)] [(.int y5), (.int y2)] (rm_7 l Z a0 hw [] w0 kw0 (p2) (p3) (p4) (p5) (p6) (p7) h0 n0 (Nat.le_trans Z0 K.1) E_w0 V_w0 g_w0) 2 (by decide) (by decide) rfl pd_4 rfl rfl (Nat.le_of_eq rfl) d6_16 rfl (k' := 0) (n' := 0) rfl rfl (by decide) (by decide) ?_
  intro T7 v7 h7 X7 q7
  obtain ⟨y8, hy9, rfl, rfl⟩ := q7
  show own_Go p e below (T7.setTop (mkF m 19 #[.val (.ref w0), .val (.int p8)] [(.int y8), (.int y5), (.int y2)])) _
  refine own_aloadN (pc' := 20) B X7 d6_19 rfl rfl rfl ?_
  refine own_aloadN (pc' := 21) B X7 d6_20 rfl rfl rfl ?_
  refine own_iconst (pc' := 22) B X7 (z := (2 : Int32)) d6_21 rfl rfl ?_
  refine own_iaload (pc' := 23) B X7 V_w0 (v := (.int p4)) ⟨by decide, by decide⟩ rfl d6_22 rfl ?_
  refine own_callS (pc' := 26) B X7 (own_w hw 41 rfl) (own_w hw 42 rfl) (own_w hw 30 rfl) (own_w hw 43 rfl) (by decide) [(.ref w0), (.int p4)] [(.int y8), (.int y5), (.int y2)] (rm_8 l Z a0 hw [] w0 kw0 (p2) (p3) (p4) (p5) (p6) (p7) h0 n0 (Nat.le_trans Z0 K.1) E_w0 V_w0 g_w0) 3 (by decide) (by decide) rfl pd_4 rfl rfl (Nat.le_of_eq rfl) d6_23 rfl (k' := 0) (n' := 0) rfl rfl (by decide) (by decide) ?_
  intro T10 v10 h10 X10 q10
  obtain ⟨y11, hy12, rfl, rfl⟩ := q10
  show own_Go p e below (T10.setTop (mkF m 26 #[.val (.ref w0), .val (.int p8)] [(.int y11), (.int y8), (.int y5), (.int y2)])) _
  refine own_aloadN (pc' := 27) B X10 d6_26 rfl rfl rfl ?_
  refine own_aloadN (pc' := 28) B X10 d6_27 rfl rfl rfl ?_
  refine own_iconst (pc' := 29) B X10 (z := (3 : Int32)) d6_28 rfl rfl ?_
  refine own_iaload (pc' := 30) B X10 V_w0 (v := (.int p5)) ⟨by decide, by decide⟩ rfl d6_29 rfl ?_
  refine own_callS (pc' := 33) B X10 (own_w hw 41 rfl) (own_w hw 42 rfl) (own_w hw 30 rfl) (own_w hw 43 rfl) (by decide) [(.ref w0), (.int p5)] [(.int y11), (.int y8), (.int y5), (.int y2)] (rm_10 l Z a0 hw [] w0 kw0 (p2) (p3) (p4) (p5) (p6) (p7) h0 n0 (Nat.le_trans Z0 K.1) E_w0 V_w0 g_w0) 4 (by decide) (by decide) rfl pd_4 rfl rfl (Nat.le_of_eq rfl) d6_30 rfl (k' := 0) (n' := 0) rfl rfl (by decide) (by decide) ?_
  intro T13 v13 h13 X13 q13
  obtain ⟨y14, hy15, rfl, rfl⟩ := q13
  show own_Go p e below (T13.setTop (mkF m 33 #[.val (.ref w0), .val (.int p8)] [(.int y14), (.int y11), (.int y8), (.int y5), (.int y2)])) _
  refine own_callS (pc' := 36) B X13 (own_w hw 38 rfl) (own_w hw 39 rfl) (own_w hw 30 rfl) (own_w hw 40 rfl) (by decide) [(.int y2), (.int y5), (.int y8), (.int y11), (.int y14)] [] (rm_5 l Z a0 hw [] (y2) (y5) (y8) (y11) (y14) h0 n0 (Nat.le_trans Z0 K.1) ) 0 (by decide) (by decide) rfl pd_3 rfl rfl (Nat.le_of_eq rfl) d6_33 rfl (k' := 0) (n' := 0) rfl rfl (by decide) (by decide) ?_
  intro T16 v16 h16 X16 q16
  obtain ⟨y17, hy18, rfl, rfl⟩ := q16
  show own_Go p e below (T16.setTop (mkF m 36 #[.val (.ref w0), .val (.int p8)] [(.int y17)])) _
  exact own_retI B X16 d6_36 (by decide) (by decide) (⟨y2, y5, y8, y11, y14, y17, hy3, hy6, hy9, hy12, hy15, hy18, rfl, rfl⟩)
def Q_12 (Z : State) (w0 : Addr) (kw0 : ClassId) (p2 : Int32) (p3 : Int32) (p4 : Int32) (p5 : Int32) (p6 : Int32) (p7 : Int32) (h0 : Heap) (n0 : Nat) (v : Option Value) (h : Heap) : Prop :=
  (∃ (y2 : Int32), own_F_step p6 p2 p3 (1 : Int32) (1 : Int32) = y2 ∧ v = some (.int y2) ∧ h0 = h)
set_option maxRecDepth 65536 in
set_option maxHeartbeats 40000000 in
theorem rm_12 (l : Launch) (Z : State) (a0 : Array Value) (hw : ∀ d ∈ tables_1, d.before a0 Z = true) (ws : List Jvm.Cond) (w0 : Addr) (kw0 : ClassId) (p2 : Int32) (p3 : Int32) (p4 : Int32) (p5 : Int32) (p6 : Int32) (p7 : Int32) (h0 : Heap) (n0 : Nat) (Z0 : n0 ≤ h0.size) (E_w0 : Exa Z h0 w0 "[I") (V_w0 : Arv Z h0 w0 kw0 .int (6 : Int32) [(.int p2), (.int p3), (.int p4), (.int p5), (.int p6), (.int p7)] (.int (0 : Int32))) (g_w0 : n0 ≤ w0) :
    MetFree l (⟨"com/example/ordal/ordal/AliasesRepresentativePinLaw", "r1", "([II)I"⟩ : MethodName) (head1 (Jvm.Cond.code (⟨"com/example/ordal/ordal/AliasesRepresentativePinLaw", "r1", "([II)I"⟩ : MethodName) method_5_code 2 (some .int) :: ws) ({ frames := 1, cells := 0, slots := 0, locals := 17 } : Room)) (fun a U => a = #[(.ref w0), (.int p6)] ∧ Z.Warmed39 U.vm ∧ U.heap = h0) (fun _ _ _ _ _ => True) (fun _ U o U' => ∃ v L, o = .returned v ∧ (Fr n0 L ∧ Q_12 Z w0 kw0 p2 p3 p4 p5 p6 p7 h0 n0 v U'.heap) ∧ FrameEnd U o U' L ({ frames := 1, cells := 0, slots := 0, locals := 17 } : Room).cells ({ frames := 1, cells := 0, slots := 0, locals := 17 } : Room).slots) := by
  refine own_enter (Q := Q_12 Z w0 kw0 p2 p3 p4 p5 p6 p7 h0 n0) (F := fun m => mkF m 0 #[.val (.ref w0), .val (.int p6)] []) (plainFor_of_name pn_1) (fun m => by first | (simp [entryFrame, mkF, argsToLocals, Value.category]; done) | rfl) ?_
  intro p e s m below meth c s₁ B X0
  have K : Keep h0 h0 [] := Keep.refl h0 _
  refine own_iloadN (pc' := 1) B X0 d7_0 rfl rfl ?_
  refine own_aloadN (pc' := 2) B X0 d7_1 rfl rfl rfl ?_
  refine own_iconst (pc' := 3) B X0 (z := (0 : Int32)) d7_2 rfl rfl ?_
  refine own_iaload (pc' := 4) B X0 V_w0 (v := (.int p2)) ⟨by decide, by decide⟩ rfl d7_3 rfl ?_
  refine own_aloadN (pc' := 5) B X0 d7_4 rfl rfl rfl ?_
  refine own_iconst (pc' := 6) B X0 (z := (1 : Int32)) d7_5 rfl rfl ?_
  refine own_iaload (pc' := 7) B X0 V_w0 (v := (.int p3)) ⟨by decide, by decide⟩ rfl d7_6 rfl ?_
  refine own_iconst (pc' := 8) B X0 (z := (1 : Int32)) d7_7 rfl rfl ?_
  refine own_iconst (pc' := 9) B X0 (z := (1 : Int32)) d7_8 rfl rfl ?_
  refine own_callS (pc' := 12) B X0 (own_w hw 38 rfl) (own_w hw 39 rfl) (own_w hw 30 rfl) (own_w hw 40 rfl) (by decide) [(.int p6), (.int p2), (.int p3), (.int (1 : Int32)), (.int (1 : Int32))] [] (rm_5 l Z a0 hw [] (p6) (p2) (p3) ((1 : Int32)) ((1 : Int32)) h0 n0 (Nat.le_trans Z0 K.1) ) 0 (by decide) (by decide) rfl pd_3 rfl rfl (Nat.le_of_eq rfl) d7_9 rfl (k' := 0) (n' := 0) rfl rfl (by decide) (by decide) ?_
  intro T1 v1 h1 X1 q1
  obtain ⟨y2, hy3, rfl, rfl⟩ := q1
  show own_Go p e below (T1.setTop (mkF m 12 #[.val (.ref w0), .val (.int p6)] [(.int y2)])) _
  exact own_retI B X1 d7_12 (by decide) (by decide) (⟨y2, hy3, rfl, rfl⟩)
def Q_11 (Z : State) (w0 : Addr) (kw0 : ClassId) (p2 : Int32) (p3 : Int32) (p4 : Int32) (p5 : Int32) (p6 : Int32) (p7 : Int32) (h0 : Heap) (n0 : Nat) (v : Option Value) (h : Heap) : Prop :=
  (∃ (y2 : Int32) (y5 : Int32) (y8 : Int32) (y11 : Int32) (y14 : Int32) (y17 : Int32), own_F_step p6 p2 p3 (1 : Int32) (1 : Int32) = y2 ∧ own_F_step p4 p2 p3 (1 : Int32) (1 : Int32) = y5 ∧ own_F_step p5 p2 p3 (1 : Int32) (1 : Int32) = y8 ∧ own_F_grown p4 (1 : Int32) p2 p3 (1 : Int32) (1 : Int32) = y11 ∧ own_F_grown p5 (1 : Int32) p2 p3 (1 : Int32) (1 : Int32) = y14 ∧ own_F_step y2 y5 y8 y11 y14 = y17 ∧ v = some (.int y17) ∧ h0 = h)
set_option maxRecDepth 65536 in
set_option maxHeartbeats 40000000 in
theorem rm_11 (l : Launch) (Z : State) (a0 : Array Value) (hw : ∀ d ∈ tables_1, d.before a0 Z = true) (ws : List Jvm.Cond) (w0 : Addr) (kw0 : ClassId) (p2 : Int32) (p3 : Int32) (p4 : Int32) (p5 : Int32) (p6 : Int32) (p7 : Int32) (h0 : Heap) (n0 : Nat) (Z0 : n0 ≤ h0.size) (E_w0 : Exa Z h0 w0 "[I") (V_w0 : Arv Z h0 w0 kw0 .int (6 : Int32) [(.int p2), (.int p3), (.int p4), (.int p5), (.int p6), (.int p7)] (.int (0 : Int32))) (g_w0 : n0 ≤ w0) :
    MetFree l (⟨"com/example/ordal/ordal/AliasesRepresentativePinLaw", "r2", "([II)I"⟩ : MethodName) (head1 (Jvm.Cond.code (⟨"com/example/ordal/ordal/AliasesRepresentativePinLaw", "r2", "([II)I"⟩ : MethodName) method_7_code 2 (some .int) :: ws) ({ frames := 2, cells := 0, slots := 0, locals := 34 } : Room)) (fun a U => a = #[(.ref w0), (.int p6)] ∧ Z.Warmed39 U.vm ∧ U.heap = h0) (fun _ _ _ _ _ => True) (fun _ U o U' => ∃ v L, o = .returned v ∧ (Fr n0 L ∧ Q_11 Z w0 kw0 p2 p3 p4 p5 p6 p7 h0 n0 v U'.heap) ∧ FrameEnd U o U' L ({ frames := 2, cells := 0, slots := 0, locals := 34 } : Room).cells ({ frames := 2, cells := 0, slots := 0, locals := 34 } : Room).slots) := by
  refine own_enter (Q := Q_11 Z w0 kw0 p2 p3 p4 p5 p6 p7 h0 n0) (F := fun m => mkF m 0 #[.val (.ref w0), .val (.int p6)] []) (plainFor_of_name pn_1) (fun m => by first | (simp [entryFrame, mkF, argsToLocals, Value.category]; done) | rfl) ?_
  intro p e s m below meth c s₁ B X0
  have K : Keep h0 h0 [] := Keep.refl h0 _
  refine own_aloadN (pc' := 1) B X0 d6_0 rfl rfl rfl ?_
  refine own_iloadN (pc' := 2) B X0 d6_1 rfl rfl ?_
  refine own_callS (pc' := 5) B X0 (own_w hw 35 rfl) (own_w hw 36 rfl) (own_w hw 30 rfl) (own_w hw 37 rfl) (by decide) [(.ref w0), (.int p6)] [] (rm_12 l Z a0 hw [] w0 kw0 (p2) (p3) (p4) (p5) (p6) (p7) h0 n0 (Nat.le_trans Z0 K.1) E_w0 V_w0 g_w0) 0 (by decide) (by decide) rfl pd_4 rfl rfl (Nat.le_of_eq rfl) d6_2 rfl (k' := 0) (n' := 0) rfl rfl (by decide) (by decide) ?_
  intro T1 v1 h1 X1 q1
  obtain ⟨y2, hy3, rfl, rfl⟩ := q1
  show own_Go p e below (T1.setTop (mkF m 5 #[.val (.ref w0), .val (.int p6)] [(.int y2)])) _
  refine own_aloadN (pc' := 6) B X1 d6_5 rfl rfl rfl ?_
  refine own_aloadN (pc' := 7) B X1 d6_6 rfl rfl rfl ?_
  refine own_iconst (pc' := 8) B X1 (z := (2 : Int32)) d6_7 rfl rfl ?_
  refine own_iaload (pc' := 9) B X1 V_w0 (v := (.int p4)) ⟨by decide, by decide⟩ rfl d6_8 rfl ?_
  refine own_callS (pc' := 12) B X1 (own_w hw 35 rfl) (own_w hw 36 rfl) (own_w hw 30 rfl) (own_w hw 37 rfl) (by decide) [(.ref w0), (.int p4)] [(.int y2)] (rm_6 l Z a0 hw [] w0 kw0 (p2) (p3) (p4) (p5) (p6) (p7) h0 n0 (Nat.le_trans Z0 K.1) E_w0 V_w0 g_w0) 1 (by decide) (by decide) rfl pd_4 rfl rfl (Nat.le_of_eq rfl) d6_9 rfl (k' := 0) (n' := 0) rfl rfl (by decide) (by decide) ?_
  intro T4 v4 h4 X4 q4
  obtain ⟨y5, hy6, rfl, rfl⟩ := q4
  show own_Go p e below (T4.setTop (mkF m 12 #[.val (.ref w0), .val (.int p6)] [(.int y5), (.int y2)])) _
  refine own_aloadN (pc' := 13) B X4 d6_12 rfl rfl rfl ?_
  refine own_aloadN (pc' := 14) B X4 d6_13 rfl rfl rfl ?_
  refine own_iconst (pc' := 15) B X4 (z := (3 : Int32)) d6_14 rfl rfl ?_
  refine own_iaload (pc' := 16) B X4 V_w0 (v := (.int p5)) ⟨by decide, by decide⟩ rfl d6_15 rfl ?_
  refine own_callS (pc' := 19) B X4 (own_w hw 35 rfl) (own_w hw 36 rfl) (own_w hw 30 rfl) (own_w hw 37 rfl) (by decide) [(.ref w0), (.int p5)] [(.int y5), (.int y2)] (rm_7 l Z a0 hw [] w0 kw0 (p2) (p3) (p4) (p5) (p6) (p7) h0 n0 (Nat.le_trans Z0 K.1) E_w0 V_w0 g_w0) 2 (by decide) (by decide) rfl pd_4 rfl rfl (Nat.le_of_eq rfl) d6_16 rfl (k' := 0) (n' := 0) rfl rfl (by decide) (by decide) ?_
  intro T7 v7 h7 X7 q7
  obtain ⟨y8, hy9, rfl, rfl⟩ := q7
  show own_Go p e below (T7.setTop (mkF m 19 #[.val (.ref w0), .val (.int p6)] [(.int y8), (.int y5), (.int y2)])) _
  refine own_aloadN (pc' := 20) B X7 d6_19 rfl rfl rfl ?_
  refine own_aloadN (pc' := 21) B X7 d6_20 rfl rfl rfl ?_
  refine own_iconst (pc' := 22) B X7 (z := (2 : Int32)) d6_21 rfl rfl ?_
  refine own_iaload (pc' := 23) B X7 V_w0 (v := (.int p4)) ⟨by decide, by decide⟩ rfl d6_22 rfl ?_
  refine own_callS (pc' := 26) B X7 (own_w hw 41 rfl) (own_w hw 42 rfl) (own_w hw 30 rfl) (own_w hw 43 rfl) (by decide) [(.ref w0), (.int p4)] [(.int y8), (.int y5), (.int y2)] (rm_8 l Z a0 hw [] w0 kw0 (p2) (p3) (p4) (p5) (p6) (p7) h0 n0 (Nat.le_trans Z0 K.1) E_w0 V_w0 g_w0) 3 (by decide) (by decide) rfl pd_4 rfl rfl (Nat.le_of_eq rfl) d6_23 rfl (k' := 0) (n' := 0) rfl rfl (by decide) (by decide) ?_
  intro T10 v10 h10 X10 q10
  obtain ⟨y11, hy12, rfl, rfl⟩ := q10
  show own_Go p e below (T10.setTop (mkF m 26 #[.val (.ref w0), .val (.int p6)] [(.int y11), (.int y8), (.int y5), (.int y2)])) _
  refine own_aloadN (pc' := 27) B X10 d6_26 rfl rfl rfl ?_
  refine own_aloadN (pc' := 28) B X10 d6_27 rfl rfl rfl ?_
  refine own_iconst (pc' := 29) B X10 (z := (3 : Int32)) d6_28 rfl rfl ?_
  refine own_iaload (pc' := 30) B X10 V_w0 (v := (.int p5)) ⟨by decide, by decide⟩ rfl d6_29 rfl ?_
  refine own_callS (pc' := 33) B X10 (own_w hw 41 rfl) (own_w hw 42 rfl) (own_w hw 30 rfl) (own_w hw 43 rfl) (by decide) [(.ref w0), (.int p5)] [(.int y11), (.int y8), (.int y5), (.int y2)] (rm_10 l Z a0 hw [] w0 kw0 (p2) (p3) (p4) (p5) (p6) (p7) h0 n0 (Nat.le_trans Z0 K.1) E_w0 V_w0 g_w0) 4 (by decide) (by decide) rfl pd_4 rfl rfl (Nat.le_of_eq rfl) d6_30 rfl (k' := 0) (n' := 0) rfl rfl (by decide) (by decide) ?_
  intro T13 v13 h13 X13 q13
  obtain ⟨y14, hy15, rfl, rfl⟩ := q13
  show own_Go p e below (T13.setTop (mkF m 33 #[.val (.ref w0), .val (.int p6)] [(.int y14), (.int y11), (.int y8), (.int y5), (.int y2)])) _
  refine own_callS (pc' := 36) B X13 (own_w hw 38 rfl) (own_w hw 39 rfl) (own_w hw 30 rfl) (own_w hw 40 rfl) (by decide) [(.int y2), (.int y5), (.int y8), (.int y11), (.int y14)] [] (rm_5 l Z a0 hw [] (y2) (y5) (y8) (y11) (y14) h0 n0 (Nat.le_trans Z0 K.1) ) 0 (by decide) (by decide) rfl pd_3 rfl rfl (Nat.le_of_eq rfl) d6_33 rfl (k' := 0) (n' := 0) rfl rfl (by decide) (by decide) ?_
  intro T16 v16 h16 X16 q16
  obtain ⟨y17, hy18, rfl, rfl⟩ := q16
  show own_Go p e below (T16.setTop (mkF m 36 #[.val (.ref w0), .val (.int p6)] [(.int y17)])) _
  exact own_retI B X16 d6_36 (by decide) (by decide) (⟨y2, y5, y8, y11, y14, y17, hy3, hy6, hy9, hy12, hy15, hy18, rfl, rfl⟩)
def Q_14 (Z : State) (w0 : Addr) (kw0 : ClassId) (p2 : Int32) (p3 : Int32) (p4 : Int32) (p5 : Int32) (p6 : Int32) (p7 : Int32) (h0 : Heap) (n0 : Nat) (v : Option Value) (h : Heap) : Prop :=
  (∃ (y2 : Int32), own_F_step p7 p2 p3 (1 : Int32) (1 : Int32) = y2 ∧ v = some (.int y2) ∧ h0 = h)
set_option maxRecDepth 65536 in
set_option maxHeartbeats 40000000 in
theorem rm_14 (l : Launch) (Z : State) (a0 : Array Value) (hw : ∀ d ∈ tables_1, d.before a0 Z = true) (ws : List Jvm.Cond) (w0 : Addr) (kw0 : ClassId) (p2 : Int32) (p3 : Int32) (p4 : Int32) (p5 : Int32) (p6 : Int32) (p7 : Int32) (h0 : Heap) (n0 : Nat) (Z0 : n0 ≤ h0.size) (E_w0 : Exa Z h0 w0 "[I") (V_w0 : Arv Z h0 w0 kw0 .int (6 : Int32) [(.int p2), (.int p3), (.int p4), (.int p5), (.int p6), (.int p7)] (.int (0 : Int32))) (g_w0 : n0 ≤ w0) :
    MetFree l (⟨"com/example/ordal/ordal/AliasesRepresentativePinLaw", "r1", "([II)I"⟩ : MethodName) (head1 (Jvm.Cond.code (⟨"com/example/ordal/ordal/AliasesRepresentativePinLaw", "r1", "([II)I"⟩ : MethodName) method_5_code 2 (some .int) :: ws) ({ frames := 1, cells := 0, slots := 0, locals := 17 } : Room)) (fun a U => a = #[(.ref w0), (.int p7)] ∧ Z.Warmed39 U.vm ∧ U.heap = h0) (fun _ _ _ _ _ => True) (fun _ U o U' => ∃ v L, o = .returned v ∧ (Fr n0 L ∧ Q_14 Z w0 kw0 p2 p3 p4 p5 p6 p7 h0 n0 v U'.heap) ∧ FrameEnd U o U' L ({ frames := 1, cells := 0, slots := 0, locals := 17 } : Room).cells ({ frames := 1, cells := 0, slots := 0, locals := 17 } : Room).slots) := by
  refine own_enter (Q := Q_14 Z w0 kw0 p2 p3 p4 p5 p6 p7 h0 n0) (F := fun m => mkF m 0 #[.val (.ref w0), .val (.int p7)] []) (plainFor_of_name pn_1) (fun m => by first | (simp [entryFrame, mkF, argsToLocals, Value.category]; done) | rfl) ?_
  intro p e s m below meth c s₁ B X0
  have K : Keep h0 h0 [] := Keep.refl h0 _
  refine own_iloadN (pc' := 1) B X0 d7_0 rfl rfl ?_
  refine own_aloadN (pc' := 2) B X0 d7_1 rfl rfl rfl ?_
  refine own_iconst (pc' := 3) B X0 (z := (0 : Int32)) d7_2 rfl rfl ?_
  refine own_iaload (pc' := 4) B X0 V_w0 (v := (.int p2)) ⟨by decide, by decide⟩ rfl d7_3 rfl ?_
  refine own_aloadN (pc' := 5) B X0 d7_4 rfl rfl rfl ?_
  refine own_iconst (pc' := 6) B X0 (z := (1 : Int32)) d7_5 rfl rfl ?_
  refine own_iaload (pc' := 7) B X0 V_w0 (v := (.int p3)) ⟨by decide, by decide⟩ rfl d7_6 rfl ?_
  refine own_iconst (pc' := 8) B X0 (z := (1 : Int32)) d7_7 rfl rfl ?_
  refine own_iconst (pc' := 9) B X0 (z := (1 : Int32)) d7_8 rfl rfl ?_
  refine own_callS (pc' := 12) B X0 (own_w hw 38 rfl) (own_w hw 39 rfl) (own_w hw 30 rfl) (own_w hw 40 rfl) (by decide) [(.int p7), (.int p2), (.int p3), (.int (1 : Int32)), (.int (1 : Int32))] [] (rm_5 l Z a0 hw [] (p7) (p2) (p3) ((1 : Int32)) ((1 : Int32)) h0 n0 (Nat.le_trans Z0 K.1) ) 0 (by decide) (by decide) rfl pd_3 rfl rfl (Nat.le_of_eq rfl) d7_9 rfl (k' := 0) (n' := 0) rfl rfl (by decide) (by decide) ?_
  intro T1 v1 h1 X1 q1
  obtain ⟨y2, hy3, rfl, rfl⟩ := q1
  show own_Go p e below (T1.setTop (mkF m 12 #[.val (.ref w0), .val (.int p7)] [(.int y2)])) _
  exact own_retI B X1 d7_12 (by decide) (by decide) (⟨y2, hy3, rfl, rfl⟩)
def Q_13 (Z : State) (w0 : Addr) (kw0 : ClassId) (p2 : Int32) (p3 : Int32) (p4 : Int32) (p5 : Int32) (p6 : Int32) (p7 : Int32) (h0 : Heap) (n0 : Nat) (v : Option Value) (h : Heap) : Prop :=
  (∃ (y2 : Int32) (y5 : Int32) (y8 : Int32) (y11 : Int32) (y14 : Int32) (y17 : Int32), own_F_step p7 p2 p3 (1 : Int32) (1 : Int32) = y2 ∧ own_F_step p4 p2 p3 (1 : Int32) (1 : Int32) = y5 ∧ own_F_step p5 p2 p3 (1 : Int32) (1 : Int32) = y8 ∧ own_F_grown p4 (1 : Int32) p2 p3 (1 : Int32) (1 : Int32) = y11 ∧ own_F_grown p5 (1 : Int32) p2 p3 (1 : Int32) (1 : Int32) = y14 ∧ own_F_step y2 y5 y8 y11 y14 = y17 ∧ v = some (.int y17) ∧ h0 = h)
set_option maxRecDepth 65536 in
set_option maxHeartbeats 40000000 in
theorem rm_13 (l : Launch) (Z : State) (a0 : Array Value) (hw : ∀ d ∈ tables_1, d.before a0 Z = true) (ws : List Jvm.Cond) (w0 : Addr) (kw0 : ClassId) (p2 : Int32) (p3 : Int32) (p4 : Int32) (p5 : Int32) (p6 : Int32) (p7 : Int32) (h0 : Heap) (n0 : Nat) (Z0 : n0 ≤ h0.size) (E_w0 : Exa Z h0 w0 "[I") (V_w0 : Arv Z h0 w0 kw0 .int (6 : Int32) [(.int p2), (.int p3), (.int p4), (.int p5), (.int p6), (.int p7)] (.int (0 : Int32))) (g_w0 : n0 ≤ w0) :
    MetFree l (⟨"com/example/ordal/ordal/AliasesRepresentativePinLaw", "r2", "([II)I"⟩ : MethodName) (head1 (Jvm.Cond.code (⟨"com/example/ordal/ordal/AliasesRepresentativePinLaw", "r2", "([II)I"⟩ : MethodName) method_7_code 2 (some .int) :: ws) ({ frames := 2, cells := 0, slots := 0, locals := 34 } : Room)) (fun a U => a = #[(.ref w0), (.int p7)] ∧ Z.Warmed39 U.vm ∧ U.heap = h0) (fun _ _ _ _ _ => True) (fun _ U o U' => ∃ v L, o = .returned v ∧ (Fr n0 L ∧ Q_13 Z w0 kw0 p2 p3 p4 p5 p6 p7 h0 n0 v U'.heap) ∧ FrameEnd U o U' L ({ frames := 2, cells := 0, slots := 0, locals := 34 } : Room).cells ({ frames := 2, cells := 0, slots := 0, locals := 34 } : Room).slots) := by
  refine own_enter (Q := Q_13 Z w0 kw0 p2 p3 p4 p5 p6 p7 h0 n0) (F := fun m => mkF m 0 #[.val (.ref w0), .val (.int p7)] []) (plainFor_of_name pn_1) (fun m => by first | (simp [entryFrame, mkF, argsToLocals, Value.category]; done) | rfl) ?_
  intro p e s m below meth c s₁ B X0
  have K : Keep h0 h0 [] := Keep.refl h0 _
  refine own_aloadN (pc' := 1) B X0 d6_0 rfl rfl rfl ?_
  refine own_iloadN (pc' := 2) B X0 d6_1 rfl rfl ?_
  refine own_callS (pc' := 5) B X0 (own_w hw 35 rfl) (own_w hw 36 rfl) (own_w hw 30 rfl) (own_w hw 37 rfl) (by decide) [(.ref w0), (.int p7)] [] (rm_14 l Z a0 hw [] w0 kw0 (p2) (p3) (p4) (p5) (p6) (p7) h0 n0 (Nat.le_trans Z0 K.1) E_w0 V_w0 g_w0) 0 (by decide) (by decide) rfl pd_4 rfl rfl (Nat.le_of_eq rfl) d6_2 rfl (k' := 0) (n' := 0) rfl rfl (by decide) (by decide) ?_
  intro T1 v1 h1 X1 q1
  obtain ⟨y2, hy3, rfl, rfl⟩ := q1
  show own_Go p e below (T1.setTop (mkF m 5 #[.val (.ref w0), .val (.int p7)] [(.int y2)])) _
  refine own_aloadN (pc' := 6) B X1 d6_5 rfl rfl rfl ?_
  refine own_aloadN (pc' := 7) B X1 d6_6 rfl rfl rfl ?_
  refine own_iconst (pc' := 8) B X1 (z := (2 : Int32)) d6_7 rfl rfl ?_
  refine own_iaload (pc' := 9) B X1 V_w0 (v := (.int p4)) ⟨by decide, by decide⟩ rfl d6_8 rfl ?_
  refine own_callS (pc' := 12) B X1 (own_w hw 35 rfl) (own_w hw 36 rfl) (own_w hw 30 rfl) (own_w hw 37 rfl) (by decide) [(.ref w0), (.int p4)] [(.int y2)] (rm_6 l Z a0 hw [] w0 kw0 (p2) (p3) (p4) (p5) (p6) (p7) h0 n0 (Nat.le_trans Z0 K.1) E_w0 V_w0 g_w0) 1 (by decide) (by decide) rfl pd_4 rfl rfl (Nat.le_of_eq rfl) d6_9 rfl (k' := 0) (n' := 0) rfl rfl (by decide) (by decide) ?_
  intro T4 v4 h4 X4 q4
  obtain ⟨y5, hy6, rfl, rfl⟩ := q4
  show own_Go p e below (T4.setTop (mkF m 12 #[.val (.ref w0), .val (.int p7)] [(.int y5), (.int y2)])) _
  refine own_aloadN (pc' := 13) B X4 d6_12 rfl rfl rfl ?_
  refine own_aloadN (pc' := 14) B X4 d6_13 rfl rfl rfl ?_
  refine own_iconst (pc' := 15) B X4 (z := (3 : Int32)) d6_14 rfl rfl ?_
  refine own_iaload (pc' := 16) B X4 V_w0 (v := (.int p5)) ⟨by decide, by decide⟩ rfl d6_15 rfl ?_
  refine own_callS (pc' := 19) B X4 (own_w hw 35 rfl) (own_w hw 36 rfl) (own_w hw 30 rfl) (own_w hw 37 rfl) (by decide) [(.ref w0), (.int p5)] [(.int y5), (.int y2)] (rm_7 l Z a0 hw [] w0 kw0 (p2) (p3) (p4) (p5) (p6) (p7) h0 n0 (Nat.le_trans Z0 K.1) E_w0 V_w0 g_w0) 2 (by decide) (by decide) rfl pd_4 rfl rfl (Nat.le_of_eq rfl) d6_16 rfl (k' := 0) (n' := 0) rfl rfl (by decide) (by decide) ?_
  intro T7 v7 h7 X7 q7
  obtain ⟨y8, hy9, rfl, rfl⟩ := q7
  show own_Go p e below (T7.setTop (mkF m 19 #[.val (.ref w0), .val (.int p7)] [(.int y8), (.int y5), (.int y2)])) _
  refine own_aloadN (pc' := 20) B X7 d6_19 rfl rfl rfl ?_
  refine own_aloadN (pc' := 21) B X7 d6_20 rfl rfl rfl ?_
  refine own_iconst (pc' := 22) B X7 (z := (2 : Int32)) d6_21 rfl rfl ?_
  refine own_iaload (pc' := 23) B X7 V_w0 (v := (.int p4)) ⟨by decide, by decide⟩ rfl d6_22 rfl ?_
  refine own_callS (pc' := 26) B X7 (own_w hw 41 rfl) (own_w hw 42 rfl) (own_w hw 30 rfl) (own_w hw 43 rfl) (by decide) [(.ref w0), (.int p4)] [(.int y8), (.int y5), (.int y2)] (rm_8 l Z a0 hw [] w0 kw0 (p2) (p3) (p4) (p5) (p6) (p7) h0 n0 (Nat.le_trans Z0 K.1) E_w0 V_w0 g_w0) 3 (by decide) (by decide) rfl pd_4 rfl rfl (Nat.le_of_eq rfl) d6_23 rfl (k' := 0) (n' := 0) rfl rfl (by decide) (by decide) ?_
  intro T10 v10 h10 X10 q10
  obtain ⟨y11, hy12, rfl, rfl⟩ := q10
  show own_Go p e below (T10.setTop (mkF m 26 #[.val (.ref w0), .val (.int p7)] [(.int y11), (.int y8), (.int y5), (.int y2)])) _
  refine own_aloadN (pc' := 27) B X10 d6_26 rfl rfl rfl ?_
  refine own_aloadN (pc' := 28) B X10 d6_27 rfl rfl rfl ?_
  refine own_iconst (pc' := 29) B X10 (z := (3 : Int32)) d6_28 rfl rfl ?_
  refine own_iaload (pc' := 30) B X10 V_w0 (v := (.int p5)) ⟨by decide, by decide⟩ rfl d6_29 rfl ?_
  refine own_callS (pc' := 33) B X10 (own_w hw 41 rfl) (own_w hw 42 rfl) (own_w hw 30 rfl) (own_w hw 43 rfl) (by decide) [(.ref w0), (.int p5)] [(.int y11), (.int y8), (.int y5), (.int y2)] (rm_10 l Z a0 hw [] w0 kw0 (p2) (p3) (p4) (p5) (p6) (p7) h0 n0 (Nat.le_trans Z0 K.1) E_w0 V_w0 g_w0) 4 (by decide) (by decide) rfl pd_4 rfl rfl (Nat.le_of_eq rfl) d6_30 rfl (k' := 0) (n' := 0) rfl rfl (by decide) (by decide) ?_
  intro T13 v13 h13 X13 q13
  obtain ⟨y14, hy15, rfl, rfl⟩ := q13
  show own_Go p e below (T13.setTop (mkF m 33 #[.val (.ref w0), .val (.int p7)] [(.int y14), (.int y11), (.int y8), (.int y5), (.int y2)])) _
  refine own_callS (pc' := 36) B X13 (own_w hw 38 rfl) (own_w hw 39 rfl) (own_w hw 30 rfl) (own_w hw 40 rfl) (by decide) [(.int y2), (.int y5), (.int y8), (.int y11), (.int y14)] [] (rm_5 l Z a0 hw [] (y2) (y5) (y8) (y11) (y14) h0 n0 (Nat.le_trans Z0 K.1) ) 0 (by decide) (by decide) rfl pd_3 rfl rfl (Nat.le_of_eq rfl) d6_33 rfl (k' := 0) (n' := 0) rfl rfl (by decide) (by decide) ?_
  intro T16 v16 h16 X16 q16
  obtain ⟨y17, hy18, rfl, rfl⟩ := q16
  show own_Go p e below (T16.setTop (mkF m 36 #[.val (.ref w0), .val (.int p7)] [(.int y17)])) _
  exact own_retI B X16 d6_36 (by decide) (by decide) (⟨y2, y5, y8, y11, y14, y17, hy3, hy6, hy9, hy12, hy15, hy18, rfl, rfl⟩)
def Q_16 (Z : State) (w0 : Addr) (kw0 : ClassId) (p2 : Int32) (p3 : Int32) (p4 : Int32) (p5 : Int32) (p6 : Int32) (p7 : Int32) (h0 : Heap) (n0 : Nat) (v : Option Value) (h : Heap) : Prop :=
  (∃ (y2 : Int32), own_F_grown p6 (1 : Int32) p2 p3 (1 : Int32) (1 : Int32) = y2 ∧ v = some (.int y2) ∧ h0 = h)
set_option maxRecDepth 65536 in
set_option maxHeartbeats 40000000 in
theorem rm_16 (l : Launch) (Z : State) (a0 : Array Value) (hw : ∀ d ∈ tables_1, d.before a0 Z = true) (ws : List Jvm.Cond) (w0 : Addr) (kw0 : ClassId) (p2 : Int32) (p3 : Int32) (p4 : Int32) (p5 : Int32) (p6 : Int32) (p7 : Int32) (h0 : Heap) (n0 : Nat) (Z0 : n0 ≤ h0.size) (E_w0 : Exa Z h0 w0 "[I") (V_w0 : Arv Z h0 w0 kw0 .int (6 : Int32) [(.int p2), (.int p3), (.int p4), (.int p5), (.int p6), (.int p7)] (.int (0 : Int32))) (g_w0 : n0 ≤ w0) :
    MetFree l (⟨"com/example/ordal/ordal/AliasesRepresentativePinLaw", "s1", "([II)I"⟩ : MethodName) (head1 (Jvm.Cond.code (⟨"com/example/ordal/ordal/AliasesRepresentativePinLaw", "s1", "([II)I"⟩ : MethodName) method_6_code 2 (some .int) :: ws) ({ frames := 1, cells := 0, slots := 0, locals := 17 } : Room)) (fun a U => a = #[(.ref w0), (.int p6)] ∧ Z.Warmed39 U.vm ∧ U.heap = h0) (fun _ _ _ _ _ => True) (fun _ U o U' => ∃ v L, o = .returned v ∧ (Fr n0 L ∧ Q_16 Z w0 kw0 p2 p3 p4 p5 p6 p7 h0 n0 v U'.heap) ∧ FrameEnd U o U' L ({ frames := 1, cells := 0, slots := 0, locals := 17 } : Room).cells ({ frames := 1, cells := 0, slots := 0, locals := 17 } : Room).slots) := by
  refine own_enter (Q := Q_16 Z w0 kw0 p2 p3 p4 p5 p6 p7 h0 n0) (F := fun m => mkF m 0 #[.val (.ref w0), .val (.int p6)] []) (plainFor_of_name pn_1) (fun m => by first | (simp [entryFrame, mkF, argsToLocals, Value.category]; done) | rfl) ?_
  intro p e s m below meth c s₁ B X0
  have K : Keep h0 h0 [] := Keep.refl h0 _
  refine own_iloadN (pc' := 1) B X0 d9_0 rfl rfl ?_
  refine own_iconst (pc' := 2) B X0 (z := (1 : Int32)) d9_1 rfl rfl ?_
  refine own_aloadN (pc' := 3) B X0 d9_2 rfl rfl rfl ?_
  refine own_iconst (pc' := 4) B X0 (z := (0 : Int32)) d9_3 rfl rfl ?_
  refine own_iaload (pc' := 5) B X0 V_w0 (v := (.int p2)) ⟨by decide, by decide⟩ rfl d9_4 rfl ?_
  refine own_aloadN (pc' := 6) B X0 d9_5 rfl rfl rfl ?_
  refine own_iconst (pc' := 7) B X0 (z := (1 : Int32)) d9_6 rfl rfl ?_
  refine own_iaload (pc' := 8) B X0 V_w0 (v := (.int p3)) ⟨by decide, by decide⟩ rfl d9_7 rfl ?_
  refine own_iconst (pc' := 9) B X0 (z := (1 : Int32)) d9_8 rfl rfl ?_
  refine own_iconst (pc' := 10) B X0 (z := (1 : Int32)) d9_9 rfl rfl ?_
  refine own_callS (pc' := 13) B X0 (own_w hw 44 rfl) (own_w hw 45 rfl) (own_w hw 30 rfl) (own_w hw 46 rfl) (by decide) [(.int p6), (.int (1 : Int32)), (.int p2), (.int p3), (.int (1 : Int32)), (.int (1 : Int32))] [] (rm_9 l Z a0 hw [] (p6) ((1 : Int32)) (p2) (p3) ((1 : Int32)) ((1 : Int32)) h0 n0 (Nat.le_trans Z0 K.1) ) 0 (by decide) (by decide) rfl pd_5 rfl rfl (Nat.le_of_eq rfl) d9_10 rfl (k' := 0) (n' := 0) rfl rfl (by decide) (by decide) ?_
  intro T1 v1 h1 X1 q1
  obtain ⟨y2, hy3, rfl, rfl⟩ := q1
  show own_Go p e below (T1.setTop (mkF m 13 #[.val (.ref w0), .val (.int p6)] [(.int y2)])) _
  exact own_retI B X1 d9_13 (by decide) (by decide) (⟨y2, hy3, rfl, rfl⟩)
def Q_15 (Z : State) (w0 : Addr) (kw0 : ClassId) (p2 : Int32) (p3 : Int32) (p4 : Int32) (p5 : Int32) (p6 : Int32) (p7 : Int32) (h0 : Heap) (n0 : Nat) (v : Option Value) (h : Heap) : Prop :=
  (∃ (y2 : Int32) (y5 : Int32) (y8 : Int32) (y11 : Int32) (y14 : Int32) (y17 : Int32) (y20 : Int32), own_F_step p6 p2 p3 (1 : Int32) (1 : Int32) = y2 ∧ own_F_grown p6 (1 : Int32) p2 p3 (1 : Int32) (1 : Int32) = y5 ∧ own_F_step p4 p2 p3 (1 : Int32) (1 : Int32) = y8 ∧ own_F_step p5 p2 p3 (1 : Int32) (1 : Int32) = y11 ∧ own_F_grown p4 (1 : Int32) p2 p3 (1 : Int32) (1 : Int32) = y14 ∧ own_F_grown p5 (1 : Int32) p2 p3 (1 : Int32) (1 : Int32) = y17 ∧ own_F_grown y2 y5 y8 y11 y14 y17 = y20 ∧ v = some (.int y20) ∧ h0 = h)
set_option maxRecDepth 65536 in
set_option maxHeartbeats 40000000 in
theorem rm_15 (l : Launch) (Z : State) (a0 : Array Value) (hw : ∀ d ∈ tables_1, d.before a0 Z = true) (ws : List Jvm.Cond) (w0 : Addr) (kw0 : ClassId) (p2 : Int32) (p3 : Int32) (p4 : Int32) (p5 : Int32) (p6 : Int32) (p7 : Int32) (h0 : Heap) (n0 : Nat) (Z0 : n0 ≤ h0.size) (E_w0 : Exa Z h0 w0 "[I") (V_w0 : Arv Z h0 w0 kw0 .int (6 : Int32) [(.int p2), (.int p3), (.int p4), (.int p5), (.int p6), (.int p7)] (.int (0 : Int32))) (g_w0 : n0 ≤ w0) :
    MetFree l (⟨"com/example/ordal/ordal/AliasesRepresentativePinLaw", "s2", "([II)I"⟩ : MethodName) (head1 (Jvm.Cond.code (⟨"com/example/ordal/ordal/AliasesRepresentativePinLaw", "s2", "([II)I"⟩ : MethodName) method_8_code 2 (some .int) :: ws) ({ frames := 2, cells := 0, slots := 0, locals := 35 } : Room)) (fun a U => a = #[(.ref w0), (.int p6)] ∧ Z.Warmed39 U.vm ∧ U.heap = h0) (fun _ _ _ _ _ => True) (fun _ U o U' => ∃ v L, o = .returned v ∧ (Fr n0 L ∧ Q_15 Z w0 kw0 p2 p3 p4 p5 p6 p7 h0 n0 v U'.heap) ∧ FrameEnd U o U' L ({ frames := 2, cells := 0, slots := 0, locals := 35 } : Room).cells ({ frames := 2, cells := 0, slots := 0, locals := 35 } : Room).slots) := by
  refine own_enter (Q := Q_15 Z w0 kw0 p2 p3 p4 p5 p6 p7 h0 n0) (F := fun m => mkF m 0 #[.val (.ref w0), .val (.int p6)] []) (plainFor_of_name pn_1) (fun m => by first | (simp [entryFrame, mkF, argsToLocals, Value.category]; done) | rfl) ?_
  intro p e s m below meth c s₁ B X0
  have K : Keep h0 h0 [] := Keep.refl h0 _
  refine own_aloadN (pc' := 1) B X0 d11_0 rfl rfl rfl ?_
  refine own_iloadN (pc' := 2) B X0 d11_1 rfl rfl ?_
  refine own_callS (pc' := 5) B X0 (own_w hw 35 rfl) (own_w hw 36 rfl) (own_w hw 30 rfl) (own_w hw 37 rfl) (by decide) [(.ref w0), (.int p6)] [] (rm_12 l Z a0 hw [] w0 kw0 (p2) (p3) (p4) (p5) (p6) (p7) h0 n0 (Nat.le_trans Z0 K.1) E_w0 V_w0 g_w0) 0 (by decide) (by decide) rfl pd_4 rfl rfl (Nat.le_of_eq rfl) d11_2 rfl (k' := 0) (n' := 0) rfl rfl (by decide) (by decide) ?_
  intro T1 v1 h1 X1 q1
  obtain ⟨y2, hy3, rfl, rfl⟩ := q1
  show own_Go p e below (T1.setTop (mkF m 5 #[.val (.ref w0), .val (.int p6)] [(.int y2)])) _
  refine own_aloadN (pc' := 6) B X1 d11_5 rfl rfl rfl ?_
  refine own_iloadN (pc' := 7) B X1 d11_6 rfl rfl ?_
  refine own_callS (pc' := 10) B X1 (own_w hw 41 rfl) (own_w hw 42 rfl) (own_w hw 30 rfl) (own_w hw 43 rfl) (by decide) [(.ref w0), (.int p6)] [(.int y2)] (rm_16 l Z a0 hw [] w0 kw0 (p2) (p3) (p4) (p5) (p6) (p7) h0 n0 (Nat.le_trans Z0 K.1) E_w0 V_w0 g_w0) 1 (by decide) (by decide) rfl pd_4 rfl rfl (Nat.le_of_eq rfl) d11_7 rfl (k' := 0) (n' := 0) rfl rfl (by decide) (by decide) ?_
  intro T4 v4 h4 X4 q4
  obtain ⟨y5, hy6, rfl, rfl⟩ := q4
  show own_Go p e below (T4.setTop (mkF m 10 #[.val (.ref w0), .val (.int p6)] [(.int y5), (.int y2)])) _
  refine own_aloadN (pc' := 11) B X4 d11_10 rfl rfl rfl ?_
  refine own_aloadN (pc' := 12) B X4 d11_11 rfl rfl rfl ?_
  refine own_iconst (pc' := 13) B X4 (z := (2 : Int32)) d11_12 rfl rfl ?_
  refine own_iaload (pc' := 14) B X4 V_w0 (v := (.int p4)) ⟨by decide, by decide⟩ rfl d11_13 rfl ?_
  refine own_callS (pc' := 17) B X4 (own_w hw 35 rfl) (own_w hw 36 rfl) (own_w hw 30 rfl) (own_w hw 37 rfl) (by decide) [(.ref w0), (.int p4)] [(.int y5), (.int y2)] (rm_6 l Z a0 hw [] w0 kw0 (p2) (p3) (p4) (p5) (p6) (p7) h0 n0 (Nat.le_trans Z0 K.1) E_w0 V_w0 g_w0) 2 (by decide) (by decide) rfl pd_4 rfl rfl (Nat.le_of_eq rfl) d11_14 rfl (k' := 0) (n' := 0) rfl rfl (by decide) (by decide) ?_
  intro T7 v7 h7 X7 q7
  obtain ⟨y8, hy9, rfl, rfl⟩ := q7
  show own_Go p e below (T7.setTop (mkF m 17 #[.val (.ref w0), .val (.int p6)] [(.int y8), (.int y5), (.int y2)])) _
  refine own_aloadN (pc' := 18) B X7 d11_17 rfl rfl rfl ?_
  refine own_aloadN (pc' := 19) B X7 d11_18 rfl rfl rfl ?_
  refine own_iconst (pc' := 20) B X7 (z := (3 : Int32)) d11_19 rfl rfl ?_
  refine own_iaload (pc' := 21) B X7 V_w0 (v := (.int p5)) ⟨by decide, by decide⟩ rfl d11_20 rfl ?_
  refine own_callS (pc' := 24) B X7 (own_w hw 35 rfl) (own_w hw 36 rfl) (own_w hw 30 rfl) (own_w hw 37 rfl) (by decide) [(.ref w0), (.int p5)] [(.int y8), (.int y5), (.int y2)] (rm_7 l Z a0 hw [] w0 kw0 (p2) (p3) (p4) (p5) (p6) (p7) h0 n0 (Nat.le_trans Z0 K.1) E_w0 V_w0 g_w0) 3 (by decide) (by decide) rfl pd_4 rfl rfl (Nat.le_of_eq rfl) d11_21 rfl (k' := 0) (n' := 0) rfl rfl (by decide) (by decide) ?_
  intro T10 v10 h10 X10 q10
  obtain ⟨y11, hy12, rfl, rfl⟩ := q10
  show own_Go p e below (T10.setTop (mkF m 24 #[.val (.ref w0), .val (.int p6)] [(.int y11), (.int y8), (.int y5), (.int y2)])) _
  refine own_aloadN (pc' := 25) B X10 d11_24 rfl rfl rfl ?_
  refine own_aloadN (pc' := 26) B X10 d11_25 rfl rfl rfl ?_
  refine own_iconst (pc' := 27) B X10 (z := (2 : Int32)) d11_26 rfl rfl ?_
  refine own_iaload (pc' := 28) B X10 V_w0 (v := (.int p4)) ⟨by decide, by decide⟩ rfl d11_27 rfl ?_
  refine own_callS (pc' := 31) B X10 (own_w hw 41 rfl) (own_w hw 42 rfl) (own_w hw 30 rfl) (own_w hw 43 rfl) (by decide) [(.ref w0), (.int p4)] [(.int y11), (.int y8), (.int y5), (.int y2)] (rm_8 l Z a0 hw [] w0 kw0 (p2) (p3) (p4) (p5) (p6) (p7) h0 n0 (Nat.le_trans Z0 K.1) E_w0 V_w0 g_w0) 4 (by decide) (by decide) rfl pd_4 rfl rfl (Nat.le_of_eq rfl) d11_28 rfl (k' := 0) (n' := 0) rfl rfl (by decide) (by decide) ?_
  intro T13 v13 h13 X13 q13
  obtain ⟨y14, hy15, rfl, rfl⟩ := q13
  show own_Go p e below (T13.setTop (mkF m 31 #[.val (.ref w0), .val (.int p6)] [(.int y14), (.int y11), (.int y8), (.int y5), (.int y2)])) _
  refine own_aloadN (pc' := 32) B X13 d11_31 rfl rfl rfl ?_
  refine own_aloadN (pc' := 33) B X13 d11_32 rfl rfl rfl ?_
  refine own_iconst (pc' := 34) B X13 (z := (3 : Int32)) d11_33 rfl rfl ?_
  refine own_iaload (pc' := 35) B X13 V_w0 (v := (.int p5)) ⟨by decide, by decide⟩ rfl d11_34 rfl ?_
  refine own_callS (pc' := 38) B X13 (own_w hw 41 rfl) (own_w hw 42 rfl) (own_w hw 30 rfl) (own_w hw 43 rfl) (by decide) [(.ref w0), (.int p5)] [(.int y14), (.int y11), (.int y8), (.int y5), (.int y2)] (rm_10 l Z a0 hw [] w0 kw0 (p2) (p3) (p4) (p5) (p6) (p7) h0 n0 (Nat.le_trans Z0 K.1) E_w0 V_w0 g_w0) 5 (by decide) (by decide) rfl pd_4 rfl rfl (Nat.le_of_eq rfl) d11_35 rfl (k' := 0) (n' := 0) rfl rfl (by decide) (by decide) ?_
  intro T16 v16 h16 X16 q16
  obtain ⟨y17, hy18, rfl, rfl⟩ := q16
  show own_Go p e below (T16.setTop (mkF m 38 #[.val (.ref w0), .val (.int p6)] [(.int y17), (.int y14), (.int y11), (.int y8), (.int y5), (.int y2)])) _
  refine own_callS (pc' := 41) B X16 (own_w hw 44 rfl) (own_w hw 45 rfl) (own_w hw 30 rfl) (own_w hw 46 rfl) (by decide) [(.int y2), (.int y5), (.int y8), (.int y11), (.int y14), (.int y17)] [] (rm_9 l Z a0 hw [] (y2) (y5) (y8) (y11) (y14) (y17) h0 n0 (Nat.le_trans Z0 K.1) ) 0 (by decide) (by decide) rfl pd_5 rfl rfl (Nat.le_of_eq rfl) d11_38 rfl (k' := 0) (n' := 0) rfl rfl (by decide) (by decide) ?_
  intro T19 v19 h19 X19 q19
  obtain ⟨y20, hy21, rfl, rfl⟩ := q19
  show own_Go p e below (T19.setTop (mkF m 41 #[.val (.ref w0), .val (.int p6)] [(.int y20)])) _
  exact own_retI B X19 d11_41 (by decide) (by decide) (⟨y2, y5, y8, y11, y14, y17, y20, hy3, hy6, hy9, hy12, hy15, hy18, hy21, rfl, rfl⟩)
def Q_18 (Z : State) (w0 : Addr) (kw0 : ClassId) (p2 : Int32) (p3 : Int32) (p4 : Int32) (p5 : Int32) (p6 : Int32) (p7 : Int32) (h0 : Heap) (n0 : Nat) (v : Option Value) (h : Heap) : Prop :=
  (∃ (y2 : Int32), own_F_grown p7 (1 : Int32) p2 p3 (1 : Int32) (1 : Int32) = y2 ∧ v = some (.int y2) ∧ h0 = h)
set_option maxRecDepth 65536 in
set_option maxHeartbeats 40000000 in
theorem rm_18 (l : Launch) (Z : State) (a0 : Array Value) (hw : ∀ d ∈ tables_1, d.before a0 Z = true) (ws : List Jvm.Cond) (w0 : Addr) (kw0 : ClassId) (p2 : Int32) (p3 : Int32) (p4 : Int32) (p5 : Int32) (p6 : Int32) (p7 : Int32) (h0 : Heap) (n0 : Nat) (Z0 : n0 ≤ h0.size) (E_w0 : Exa Z h0 w0 "[I") (V_w0 : Arv Z h0 w0 kw0 .int (6 : Int32) [(.int p2), (.int p3), (.int p4), (.int p5), (.int p6), (.int p7)] (.int (0 : Int32))) (g_w0 : n0 ≤ w0) :
    MetFree l (⟨"com/example/ordal/ordal/AliasesRepresentativePinLaw", "s1", "([II)I"⟩ : MethodName) (head1 (Jvm.Cond.code (⟨"com/example/ordal/ordal/AliasesRepresentativePinLaw", "s1", "([II)I"⟩ : MethodName) method_6_code 2 (some .int) :: ws) ({ frames := 1, cells := 0, slots := 0, locals := 17 } : Room)) (fun a U => a = #[(.ref w0), (.int p7)] ∧ Z.Warmed39 U.vm ∧ U.heap = h0) (fun _ _ _ _ _ => True) (fun _ U o U' => ∃ v L, o = .returned v ∧ (Fr n0 L ∧ Q_18 Z w0 kw0 p2 p3 p4 p5 p6 p7 h0 n0 v U'.heap) ∧ FrameEnd U o U' L ({ frames := 1, cells := 0, slots := 0, locals := 17 } : Room).cells ({ frames := 1, cells := 0, slots := 0, locals := 17 } : Room).slots) := by
  refine own_enter (Q := Q_18 Z w0 kw0 p2 p3 p4 p5 p6 p7 h0 n0) (F := fun m => mkF m 0 #[.val (.ref w0), .val (.int p7)] []) (plainFor_of_name pn_1) (fun m => by first | (simp [entryFrame, mkF, argsToLocals, Value.category]; done) | rfl) ?_
  intro p e s m below meth c s₁ B X0
  have K : Keep h0 h0 [] := Keep.refl h0 _
  refine own_iloadN (pc' := 1) B X0 d9_0 rfl rfl ?_
  refine own_iconst (pc' := 2) B X0 (z := (1 : Int32)) d9_1 rfl rfl ?_
  refine own_aloadN (pc' := 3) B X0 d9_2 rfl rfl rfl ?_
  refine own_iconst (pc' := 4) B X0 (z := (0 : Int32)) d9_3 rfl rfl ?_
  refine own_iaload (pc' := 5) B X0 V_w0 (v := (.int p2)) ⟨by decide, by decide⟩ rfl d9_4 rfl ?_
  refine own_aloadN (pc' := 6) B X0 d9_5 rfl rfl rfl ?_
  refine own_iconst (pc' := 7) B X0 (z := (1 : Int32)) d9_6 rfl rfl ?_
  refine own_iaload (pc' := 8) B X0 V_w0 (v := (.int p3)) ⟨by decide, by decide⟩ rfl d9_7 rfl ?_
  refine own_iconst (pc' := 9) B X0 (z := (1 : Int32)) d9_8 rfl rfl ?_
  refine own_iconst (pc' := 10) B X0 (z := (1 : Int32)) d9_9 rfl rfl ?_
  refine own_callS (pc' := 13) B X0 (own_w hw 44 rfl) (own_w hw 45 rfl) (own_w hw 30 rfl) (own_w hw 46 rfl) (by decide) [(.int p7), (.int (1 : Int32)), (.int p2), (.int p3), (.int (1 : Int32)), (.int (1 : Int32))] [] (rm_9 l Z a0 hw [] (p7) ((1 : Int32)) (p2) (p3) ((1 : Int32)) ((1 : Int32)) h0 n0 (Nat.le_trans Z0 K.1) ) 0 (by decide) (by decide) rfl pd_5 rfl rfl (Nat.le_of_eq rfl) d9_10 rfl (k' := 0) (n' := 0) rfl rfl (by decide) (by decide) ?_
  intro T1 v1 h1 X1 q1
  obtain ⟨y2, hy3, rfl, rfl⟩ := q1
  show own_Go p e below (T1.setTop (mkF m 13 #[.val (.ref w0), .val (.int p7)] [(.int y2)])) _
  exact own_retI B X1 d9_13 (by decide) (by decide) (⟨y2, hy3, rfl, rfl⟩)
def Q_17 (Z : State) (w0 : Addr) (kw0 : ClassId) (p2 : Int32) (p3 : Int32) (p4 : Int32) (p5 : Int32) (p6 : Int32) (p7 : Int32) (h0 : Heap) (n0 : Nat) (v : Option Value) (h : Heap) : Prop :=
  (∃ (y2 : Int32) (y5 : Int32) (y8 : Int32) (y11 : Int32) (y14 : Int32) (y17 : Int32) (y20 : Int32), own_F_step p7 p2 p3 (1 : Int32) (1 : Int32) = y2 ∧ own_F_grown p7 (1 : Int32) p2 p3 (1 : Int32) (1 : Int32) = y5 ∧ own_F_step p4 p2 p3 (1 : Int32) (1 : Int32) = y8 ∧ own_F_step p5 p2 p3 (1 : Int32) (1 : Int32) = y11 ∧ own_F_grown p4 (1 : Int32) p2 p3 (1 : Int32) (1 : Int32) = y14 ∧ own_F_grown p5 (1 : Int32) p2 p3 (1 : Int32) (1 : Int32) = y17 ∧ own_F_grown y2 y5 y8 y11 y14 y17 = y20 ∧ v = some (.int y20) ∧ h0 = h)
set_option maxRecDepth 65536 in
set_option maxHeartbeats 40000000 in
theorem rm_17 (l : Launch) (Z : State) (a0 : Array Value) (hw : ∀ d ∈ tables_1, d.before a0 Z = true) (ws : List Jvm.Cond) (w0 : Addr) (kw0 : ClassId) (p2 : Int32) (p3 : Int32) (p4 : Int32) (p5 : Int32) (p6 : Int32) (p7 : Int32) (h0 : Heap) (n0 : Nat) (Z0 : n0 ≤ h0.size) (E_w0 : Exa Z h0 w0 "[I") (V_w0 : Arv Z h0 w0 kw0 .int (6 : Int32) [(.int p2), (.int p3), (.int p4), (.int p5), (.int p6), (.int p7)] (.int (0 : Int32))) (g_w0 : n0 ≤ w0) :
    MetFree l (⟨"com/example/ordal/ordal/AliasesRepresentativePinLaw", "s2", "([II)I"⟩ : MethodName) (head1 (Jvm.Cond.code (⟨"com/example/ordal/ordal/AliasesRepresentativePinLaw", "s2", "([II)I"⟩ : MethodName) method_8_code 2 (some .int) :: ws) ({ frames := 2, cells := 0, slots := 0, locals := 35 } : Room)) (fun a U => a = #[(.ref w0), (.int p7)] ∧ Z.Warmed39 U.vm ∧ U.heap = h0) (fun _ _ _ _ _ => True) (fun _ U o U' => ∃ v L, o = .returned v ∧ (Fr n0 L ∧ Q_17 Z w0 kw0 p2 p3 p4 p5 p6 p7 h0 n0 v U'.heap) ∧ FrameEnd U o U' L ({ frames := 2, cells := 0, slots := 0, locals := 35 } : Room).cells ({ frames := 2, cells := 0, slots := 0, locals := 35 } : Room).slots) := by
  refine own_enter (Q := Q_17 Z w0 kw0 p2 p3 p4 p5 p6 p7 h0 n0) (F := fun m => mkF m 0 #[.val (.ref w0), .val (.int p7)] []) (plainFor_of_name pn_1) (fun m => by first | (simp [entryFrame, mkF, argsToLocals, Value.category]; done) | rfl) ?_
  intro p e s m below meth c s₁ B X0
  have K : Keep h0 h0 [] := Keep.refl h0 _
  refine own_aloadN (pc' := 1) B X0 d11_0 rfl rfl rfl ?_
  refine own_iloadN (pc' := 2) B X0 d11_1 rfl rfl ?_
  refine own_callS (pc' := 5) B X0 (own_w hw 35 rfl) (own_w hw 36 rfl) (own_w hw 30 rfl) (own_w hw 37 rfl) (by decide) [(.ref w0), (.int p7)] [] (rm_14 l Z a0 hw [] w0 kw0 (p2) (p3) (p4) (p5) (p6) (p7) h0 n0 (Nat.le_trans Z0 K.1) E_w0 V_w0 g_w0) 0 (by decide) (by decide) rfl pd_4 rfl rfl (Nat.le_of_eq rfl) d11_2 rfl (k' := 0) (n' := 0) rfl rfl (by decide) (by decide) ?_
  intro T1 v1 h1 X1 q1
  obtain ⟨y2, hy3, rfl, rfl⟩ := q1
  show own_Go p e below (T1.setTop (mkF m 5 #[.val (.ref w0), .val (.int p7)] [(.int y2)])) _
  refine own_aloadN (pc' := 6) B X1 d11_5 rfl rfl rfl ?_
  refine own_iloadN (pc' := 7) B X1 d11_6 rfl rfl ?_
  refine own_callS (pc' := 10) B X1 (own_w hw 41 rfl) (own_w hw 42 rfl) (own_w hw 30 rfl) (own_w hw 43 rfl) (by decide) [(.ref w0), (.int p7)] [(.int y2)] (rm_18 l Z a0 hw [] w0 kw0 (p2) (p3) (p4) (p5) (p6) (p7) h0 n0 (Nat.le_trans Z0 K.1) E_w0 V_w0 g_w0) 1 (by decide) (by decide) rfl pd_4 rfl rfl (Nat.le_of_eq rfl) d11_7 rfl (k' := 0) (n' := 0) rfl rfl (by decide) (by decide) ?_
  intro T4 v4 h4 X4 q4
  obtain ⟨y5, hy6, rfl, rfl⟩ := q4
  show own_Go p e below (T4.setTop (mkF m 10 #[.val (.ref w0), .val (.int p7)] [(.int y5), (.int y2)])) _
  refine own_aloadN (pc' := 11) B X4 d11_10 rfl rfl rfl ?_
  refine own_aloadN (pc' := 12) B X4 d11_11 rfl rfl rfl ?_
  refine own_iconst (pc' := 13) B X4 (z := (2 : Int32)) d11_12 rfl rfl ?_
  refine own_iaload (pc' := 14) B X4 V_w0 (v := (.int p4)) ⟨by decide, by decide⟩ rfl d11_13 rfl ?_
  refine own_callS (pc' := 17) B X4 (own_w hw 35 rfl) (own_w hw 36 rfl) (own_w hw 30 rfl) (own_w hw 37 rfl) (by decide) [(.ref w0), (.int p4)] [(.int y5), (.int y2)] (rm_6 l Z a0 hw [] w0 kw0 (p2) (p3) (p4) (p5) (p6) (p7) h0 n0 (Nat.le_trans Z0 K.1) E_w0 V_w0 g_w0) 2 (by decide) (by decide) rfl pd_4 rfl rfl (Nat.le_of_eq rfl) d11_14 rfl (k' := 0) (n' := 0) rfl rfl (by decide) (by decide) ?_
  intro T7 v7 h7 X7 q7
  obtain ⟨y8, hy9, rfl, rfl⟩ := q7
  show own_Go p e below (T7.setTop (mkF m 17 #[.val (.ref w0), .val (.int p7)] [(.int y8), (.int y5), (.int y2)])) _
  refine own_aloadN (pc' := 18) B X7 d11_17 rfl rfl rfl ?_
  refine own_aloadN (pc' := 19) B X7 d11_18 rfl rfl rfl ?_
  refine own_iconst (pc' := 20) B X7 (z := (3 : Int32)) d11_19 rfl rfl ?_
  refine own_iaload (pc' := 21) B X7 V_w0 (v := (.int p5)) ⟨by decide, by decide⟩ rfl d11_20 rfl ?_
  refine own_callS (pc' := 24) B X7 (own_w hw 35 rfl) (own_w hw 36 rfl) (own_w hw 30 rfl) (own_w hw 37 rfl) (by decide) [(.ref w0), (.int p5)] [(.int y8), (.int y5), (.int y2)] (rm_7 l Z a0 hw [] w0 kw0 (p2) (p3) (p4) (p5) (p6) (p7) h0 n0 (Nat.le_trans Z0 K.1) E_w0 V_w0 g_w0) 3 (by decide) (by decide) rfl pd_4 rfl rfl (Nat.le_of_eq rfl) d11_21 rfl (k' := 0) (n' := 0) rfl rfl (by decide) (by decide) ?_
  intro T10 v10 h10 X10 q10
  obtain ⟨y11, hy12, rfl, rfl⟩ := q10
  show own_Go p e below (T10.setTop (mkF m 24 #[.val (.ref w0), .val (.int p7)] [(.int y11), (.int y8), (.int y5), (.int y2)])) _
  refine own_aloadN (pc' := 25) B X10 d11_24 rfl rfl rfl ?_
  refine own_aloadN (pc' := 26) B X10 d11_25 rfl rfl rfl ?_
  refine own_iconst (pc' := 27) B X10 (z := (2 : Int32)) d11_26 rfl rfl ?_
  refine own_iaload (pc' := 28) B X10 V_w0 (v := (.int p4)) ⟨by decide, by decide⟩ rfl d11_27 rfl ?_
  refine own_callS (pc' := 31) B X10 (own_w hw 41 rfl) (own_w hw 42 rfl) (own_w hw 30 rfl) (own_w hw 43 rfl) (by decide) [(.ref w0), (.int p4)] [(.int y11), (.int y8), (.int y5), (.int y2)] (rm_8 l Z a0 hw [] w0 kw0 (p2) (p3) (p4) (p5) (p6) (p7) h0 n0 (Nat.le_trans Z0 K.1) E_w0 V_w0 g_w0) 4 (by decide) (by decide) rfl pd_4 rfl rfl (Nat.le_of_eq rfl) d11_28 rfl (k' := 0) (n' := 0) rfl rfl (by decide) (by decide) ?_
  intro T13 v13 h13 X13 q13
  obtain ⟨y14, hy15, rfl, rfl⟩ := q13
  show own_Go p e below (T13.setTop (mkF m 31 #[.val (.ref w0), .val (.int p7)] [(.int y14), (.int y11), (.int y8), (.int y5), (.int y2)])) _
  refine own_aloadN (pc' := 32) B X13 d11_31 rfl rfl rfl ?_
  refine own_aloadN (pc' := 33) B X13 d11_32 rfl rfl rfl ?_
  refine own_iconst (pc' := 34) B X13 (z := (3 : Int32)) d11_33 rfl rfl ?_
  refine own_iaload (pc' := 35) B X13 V_w0 (v := (.int p5)) ⟨by decide, by decide⟩ rfl d11_34 rfl ?_
  refine own_callS (pc' := 38) B X13 (own_w hw 41 rfl) (own_w hw 42 rfl) (own_w hw 30 rfl) (own_w hw 43 rfl) (by decide) [(.ref w0), (.int p5)] [(.int y14), (.int y11), (.int y8), (.int y5), (.int y2)] (rm_10 l Z a0 hw [] w0 kw0 (p2) (p3) (p4) (p5) (p6) (p7) h0 n0 (Nat.le_trans Z0 K.1) E_w0 V_w0 g_w0) 5 (by decide) (by decide) rfl pd_4 rfl rfl (Nat.le_of_eq rfl) d11_35 rfl (k' := 0) (n' := 0) rfl rfl (by decide) (by decide) ?_
  intro T16 v16 h16 X16 q16
  obtain ⟨y17, hy18, rfl, rfl⟩ := q16
  show own_Go p e below (T16.setTop (mkF m 38 #[.val (.ref w0), .val (.int p7)] [(.int y17), (.int y14), (.int y11), (.int y8), (.int y5), (.int y2)])) _
  refine own_callS (pc' := 41) B X16 (own_w hw 44 rfl) (own_w hw 45 rfl) (own_w hw 30 rfl) (own_w hw 46 rfl) (by decide) [(.int y2), (.int y5), (.int y8), (.int y11), (.int y14), (.int y17)] [] (rm_9 l Z a0 hw [] (y2) (y5) (y8) (y11) (y14) (y17) h0 n0 (Nat.le_trans Z0 K.1) ) 0 (by decide) (by decide) rfl pd_5 rfl rfl (Nat.le_of_eq rfl) d11_38 rfl (k' := 0) (n' := 0) rfl rfl (by decide) (by decide) ?_
  intro T19 v19 h19 X19 q19
  obtain ⟨y20, hy21, rfl, rfl⟩ := q19
  show own_Go p e below (T19.setTop (mkF m 41 #[.val (.ref w0), .val (.int p7)] [(.int y20)])) _
  exact own_retI B X19 d11_41 (by decide) (by decide) (⟨y2, y5, y8, y11, y14, y17, y20, hy3, hy6, hy9, hy12, hy15, hy18, hy21, rfl, rfl⟩)
def Q_2 (Z : State) (w0 : Addr) (kw0 : ClassId) (p2 : Int32) (p3 : Int32) (p4 : Int32) (p5 : Int32) (p6 : Int32) (p7 : Int32) (p8 : Int32) (h0 : Heap) (n0 : Nat) (v : Option Value) (h : Heap) : Prop :=
  (∃ (y2 : Int32) (y3 : Int32) (y4 : Int32) (y5 : Int32) (y6 : Int32) (y7 : Int32) (y15 : Int32) (y20 : Int32) (y28 : Int32) (y33 : Int32) (y42 : Int32) (y47 : Int32) (y57 : Int32) (y62 : Int32) (y71 : Int32), own_F_step p8 p2 p3 (1 : Int32) (1 : Int32) = y2 ∧ own_F_step p4 p2 p3 (1 : Int32) (1 : Int32) = y3 ∧ own_F_step p5 p2 p3 (1 : Int32) (1 : Int32) = y4 ∧ own_F_grown p4 (1 : Int32) p2 p3 (1 : Int32) (1 : Int32) = y5 ∧ own_F_grown p5 (1 : Int32) p2 p3 (1 : Int32) (1 : Int32) = y6 ∧ own_F_step y2 y3 y4 y5 y6 = y7 ∧ own_F_step p6 p2 p3 (1 : Int32) (1 : Int32) = y15 ∧ own_F_step y15 y3 y4 y5 y6 = y20 ∧ own_F_step p7 p2 p3 (1 : Int32) (1 : Int32) = y28 ∧ own_F_step y28 y3 y4 y5 y6 = y33 ∧ own_F_grown p6 (1 : Int32) p2 p3 (1 : Int32) (1 : Int32) = y42 ∧ own_F_grown y15 y42 y3 y4 y5 y6 = y47 ∧ own_F_grown p7 (1 : Int32) p2 p3 (1 : Int32) (1 : Int32) = y57 ∧ own_F_grown y28 y57 y3 y4 y5 y6 = y62 ∧ own_F_step y7 y20 y33 y47 y62 = y71 ∧ v = some (.int y71) ∧ h0 = h)
set_option maxRecDepth 65536 in
set_option maxHeartbeats 40000000 in
theorem rm_2 (l : Launch) (Z : State) (a0 : Array Value) (hw : ∀ d ∈ tables_1, d.before a0 Z = true) (ws : List Jvm.Cond) (w0 : Addr) (kw0 : ClassId) (p2 : Int32) (p3 : Int32) (p4 : Int32) (p5 : Int32) (p6 : Int32) (p7 : Int32) (p8 : Int32) (h0 : Heap) (n0 : Nat) (Z0 : n0 ≤ h0.size) (E_w0 : Exa Z h0 w0 "[I") (V_w0 : Arv Z h0 w0 kw0 .int (6 : Int32) [(.int p2), (.int p3), (.int p4), (.int p5), (.int p6), (.int p7)] (.int (0 : Int32))) (g_w0 : n0 ≤ w0) :
    MetFree l (⟨"com/example/ordal/ordal/AliasesRepresentativePinLaw", "r3", "([II)I"⟩ : MethodName) (head1 (Jvm.Cond.code (⟨"com/example/ordal/ordal/AliasesRepresentativePinLaw", "r3", "([II)I"⟩ : MethodName) method_9_code 2 (some .int) :: ws) ({ frames := 3, cells := 0, slots := 0, locals := 52 } : Room)) (fun a U => a = #[(.ref w0), (.int p8)] ∧ Z.Warmed39 U.vm ∧ U.heap = h0) (fun _ _ _ _ _ => True) (fun _ U o U' => ∃ v L, o = .returned v ∧ (Fr n0 L ∧ Q_2 Z w0 kw0 p2 p3 p4 p5 p6 p7 p8 h0 n0 v U'.heap) ∧ FrameEnd U o U' L ({ frames := 3, cells := 0, slots := 0, locals := 52 } : Room).cells ({ frames := 3, cells := 0, slots := 0, locals := 52 } : Room).slots) := by
  refine own_enter (Q := Q_2 Z w0 kw0 p2 p3 p4 p5 p6 p7 p8 h0 n0) (F := fun m => mkF m 0 #[.val (.ref w0), .val (.int p8)] []) (plainFor_of_name pn_1) (fun m => by first | (simp [entryFrame, mkF, argsToLocals, Value.category]; done) | rfl) ?_
  intro p e s m below meth c s₁ B X0
  have K : Keep h0 h0 [] := Keep.refl h0 _
  refine own_aloadN (pc' := 1) B X0 d5_0 rfl rfl rfl ?_
  refine own_iloadN (pc' := 2) B X0 d5_1 rfl rfl ?_
  refine own_callS (pc' := 5) B X0 (own_w hw 32 rfl) (own_w hw 33 rfl) (own_w hw 30 rfl) (own_w hw 34 rfl) (by decide) [(.ref w0), (.int p8)] [] (rm_3 l Z a0 hw [] w0 kw0 (p2) (p3) (p4) (p5) (p6) (p7) (p8) h0 n0 (Nat.le_trans Z0 K.1) E_w0 V_w0 g_w0) 0 (by decide) (by decide) rfl pd_4 rfl rfl (Nat.le_of_eq rfl) d5_2 rfl (k' := 0) (n' := 0) rfl rfl (by decide) (by decide) ?_
  intro T1 v1 h1 X1 q1
  obtain ⟨y2, y3, y4, y5, y6, y7, hy8, hy9, hy10, hy11, hy12, hy13, rfl, rfl⟩ := q1
  show own_Go p e below (T1.setTop (mkF m 5 #[.val (.ref w0), .val (.int p8)] [(.int y7)])) _
  refine own_aloadN (pc' := 6) B X1 d5_5 rfl rfl rfl ?_
  refine own_aloadN (pc' := 7) B X1 d5_6 rfl rfl rfl ?_
  refine own_iconst (pc' := 8) B X1 (z := (4 : Int32)) d5_7 rfl rfl ?_
  refine own_iaload (pc' := 9) B X1 V_w0 (v := (.int p6)) ⟨by decide, by decide⟩ rfl d5_8 rfl ?_
  refine own_callS (pc' := 12) B X1 (own_w hw 32 rfl) (own_w hw 33 rfl) (own_w hw 30 rfl) (own_w hw 34 rfl) (by decide) [(.ref w0), (.int p6)] [(.int y7)] (rm_11 l Z a0 hw [] w0 kw0 (p2) (p3) (p4) (p5) (p6) (p7) h0 n0 (Nat.le_trans Z0 K.1) E_w0 V_w0 g_w0) 1 (by decide) (by decide) rfl pd_4 rfl rfl (Nat.le_of_eq rfl) d5_9 rfl (k' := 0) (n' := 0) rfl rfl (by decide) (by decide) ?_
  intro T14 v14 h14 X14 q14
  obtain ⟨y15, y16, y17, y18, y19, y20, hy21, hy22, hy23, hy24, hy25, hy26, rfl, rfl⟩ := q14
  obtain rfl : y3 = y16 := (hy9 : own_F_step p4 p2 p3 (1 : Int32) (1 : Int32) = y3).symm.trans hy22
  obtain rfl : y4 = y17 := (hy10 : own_F_step p5 p2 p3 (1 : Int32) (1 : Int32) = y4).symm.trans hy23
  obtain rfl : y5 = y18 := (hy11 : own_F_grown p4 (1 : Int32) p2 p3 (1 : Int32) (1 : Int32) = y5).symm.trans hy24
  obtain rfl : y6 = y19 := (hy12 : own_F_grown p5 (1 : Int32) p2 p3 (1 : Int32) (1 : Int32) = y6).symm.trans hy25
  show own_Go p e below (T14.setTop (mkF m 12 #[.val (.ref w0), .val (.int p8)] [(.int y20), (.int y7)])) _
  refine own_aloadN (pc' := 13) B X14 d5_12 rfl rfl rfl ?_
  refine own_aloadN (pc' := 14) B X14 d5_13 rfl rfl rfl ?_
  refine own_iconst (pc' := 15) B X14 (z := (5 : Int32)) d5_14 rfl rfl ?_
  refine own_iaload (pc' := 16) B X14 V_w0 (v := (.int p7)) ⟨by decide, by decide⟩ rfl d5_15 rfl ?_
  refine own_callS (pc' := 19) B X14 (own_w hw 32 rfl) (own_w hw 33 rfl) (own_w hw 30 rfl) (own_w hw 34 rfl) (by decide) [(.ref w0), (.int p7)] [(.int y20), (.int y7)] (rm_13 l Z a0 hw [] w0 kw0 (p2) (p3) (p4) (p5) (p6) (p7) h0 n0 (Nat.le_trans Z0 K.1) E_w0 V_w0 g_w0) 2 (by decide) (by decide) rfl pd_4 rfl rfl (Nat.le_of_eq rfl) d5_16 rfl (k' := 0) (n' := 0) rfl rfl (by decide) (by decide) ?_
  intro T27 v27 h27 X27 q27
  obtain ⟨y28, y29, y30, y31, y32, y33, hy34, hy35, hy36, hy37, hy38, hy39, rfl, rfl⟩ := q27
  obtain rfl : y3 = y29 := (hy9 : own_F_step p4 p2 p3 (1 : Int32) (1 : Int32) = y3).symm.trans hy35
  obtain rfl : y4 = y30 := (hy10 : own_F_step p5 p2 p3 (1 : Int32) (1 : Int32) = y4).symm.trans hy36
  obtain rfl : y5 = y31 := (hy11 : own_F_grown p4 (1 : Int32) p2 p3 (1 : Int32) (1 : Int32) = y5).symm.trans hy37
  obtain rfl : y6 = y32 := (hy12 : own_F_grown p5 (1 : Int32) p2 p3 (1 : Int32) (1 : Int32) = y6).symm.trans hy38
  show own_Go p e below (T27.setTop (mkF m 19 #[.val (.ref w0), .val (.int p8)] [(.int y33), (.int y20), (.int y7)])) _
  refine own_aloadN (pc' := 20) B X27 d5_19 rfl rfl rfl ?_
  refine own_aloadN (pc' := 21) B X27 d5_20 rfl rfl rfl ?_
  refine own_iconst (pc' := 22) B X27 (z := (4 : Int32)) d5_21 rfl rfl ?_
  refine own_iaload (pc' := 23) B X27 V_w0 (v := (.int p6)) ⟨by decide, by decide⟩ rfl d5_22 rfl ?_
  refine own_callS (pc' := 26) B X27 (own_w hw 47 rfl) (own_w hw 48 rfl) (own_w hw 30 rfl) (own_w hw 49 rfl) (by decide) [(.ref w0), (.int p6)] [(.int y33), (.int y20), (.int y7)] (rm_15 l Z a0 hw [] w0 kw0 (p2) (p3) (p4) (p5) (p6) (p7) h0 n0 (Nat.le_trans Z0 K.1) E_w0 V_w0 g_w0) 3 (by decide) (by decide) rfl pd_4 rfl rfl (Nat.le_of_eq rfl) d5_23 rfl (k' := 0) (n' := 0) rfl rfl (by decide) (by decide) ?_
  intro T40 v40 h40 X40 q40
  obtain ⟨y41, y42, y43, y44, y45, y46, y47, hy48, hy49, hy50, hy51, hy52, hy53, hy54, rfl, rfl⟩ := q40
  obtain rfl : y15 = y41 := (hy21 : own_F_step p6 p2 p3 (1 : Int32) (1 : Int32) = y15).symm.trans hy48
  obtain rfl : y3 = y43 := (hy9 : own_F_step p4 p2 p3 (1 : Int32) (1 : Int32) = y3).symm.trans hy50
  obtain rfl : y4 = y44 := (hy10 : own_F_step p5 p2 p3 (1 : Int32) (1 : Int32) = y4).symm.trans hy51
  obtain rfl : y5 = y45 := (hy11 : own_F_grown p4 (1 : Int32) p2 p3 (1 : Int32) (1 : Int32) = y5).symm.trans hy52
  obtain rfl : y6 = y46 := (hy12 : own_F_grown p5 (1 : Int32) p2 p3 (1 : Int32) (1 : Int32) = y6).symm.trans hy53
  show own_Go p e below (T40.setTop (mkF m 26 #[.val (.ref w0), .val (.int p8)] [(.int y47), (.int y33), (.int y20), (.int y7)])) _
  refine own_aloadN (pc' := 27) B X40 d5_26 rfl rfl rfl ?_
  refine own_aloadN (pc' := 28) B X40 d5_27 rfl rfl rfl ?_
  refine own_iconst (pc' := 29) B X40 (z := (5 : Int32)) d5_28 rfl rfl ?_
  refine own_iaload (pc' := 30) B X40 V_w0 (v := (.int p7)) ⟨by decide, by decide⟩ rfl d5_29 rfl ?_
  refine own_callS (pc' := 33) B X40 (own_w hw 47 rfl) (own_w hw 48 rfl) (own_w hw 30 rfl) (own_w hw 49 rfl) (by decide) [(.ref w0), (.int p7)] [(.int y47), (.int y33), (.int y20), (.int y7)] (rm_17 l Z a0 hw [] w0 kw0 (p2) (p3) (p4) (p5) (p6) (p7) h0 n0 (Nat.le_trans Z0 K.1) E_w0 V_w0 g_w0) 4 (by decide) (by decide) rfl pd_4 rfl rfl (Nat.le_of_eq rfl) d5_30 rfl (k' := 0) (n' := 0) rfl rfl (by decide) (by decide) ?_
  intro T55 v55 h55 X55 q55
  obtain ⟨y56, y57, y58, y59, y60, y61, y62, hy63, hy64, hy65, hy66, hy67, hy68, hy69, rfl, rfl⟩ := q55
  obtain rfl : y28 = y56 := (hy34 : own_F_step p7 p2 p3 (1 : Int32) (1 : Int32) = y28).symm.trans hy63
  obtain rfl : y3 = y58 := (hy9 : own_F_step p4 p2 p3 (1 : Int32) (1 : Int32) = y3).symm.trans hy65
  obtain rfl : y4 = y59 := (hy10 : own_F_step p5 p2 p3 (1 : Int32) (1 : Int32) = y4).symm.trans hy66
  obtain rfl : y5 = y60 := (hy11 : own_F_grown p4 (1 : Int32) p2 p3 (1 : Int32) (1 : Int32) = y5).symm.trans hy67
  obtain rfl : y6 = y61 := (hy12 : own_F_grown p5 (1 : Int32) p2 p3 (1 : Int32) (1 : Int32) = y6).symm.trans hy68
  show own_Go p e below (T55.setTop (mkF m 33 #[.val (.ref w0), .val (.int p8)] [(.int y62), (.int y47), (.int y33), (.int y20), (.int y7)])) _
  refine own_callS (pc' := 36) B X55 (own_w hw 38 rfl) (own_w hw 39 rfl) (own_w hw 30 rfl) (own_w hw 40 rfl) (by decide) [(.int y7), (.int y20), (.int y33), (.int y47), (.int y62)] [] (rm_5 l Z a0 hw [] (y7) (y20) (y33) (y47) (y62) h0 n0 (Nat.le_trans Z0 K.1) ) 0 (by decide) (by decide) rfl pd_3 rfl rfl (Nat.le_of_eq rfl) d5_33 rfl (k' := 0) (n' := 0) rfl rfl (by decide) (by decide) ?_
  intro T70 v70 h70 X70 q70
  obtain ⟨y71, hy72, rfl, rfl⟩ := q70
  show own_Go p e below (T70.setTop (mkF m 36 #[.val (.ref w0), .val (.int p8)] [(.int y71)])) _
  exact own_retI B X70 d5_36 (by decide) (by decide) (⟨y2, y3, y4, y5, y6, y7, y15, y20, y28, y33, y42, y47, y57, y62, y71, hy8, hy9, hy10, hy11, hy12, hy13, hy21, hy26, hy34, hy39, hy49, hy54, hy64, hy69, hy72, rfl, rfl⟩)
def Q_0 (Z : State) (i0 : Int32) (i1 : Int32) (i2 : Int32) (i3 : Int32) (h0 : Heap) (n0 : Nat) (v : Option Value) (h : Heap) : Prop :=
  (v = some (.int (1 : Int32)))
set_option maxRecDepth 65536 in
set_option maxHeartbeats 40000000 in
theorem rm_0 (l : Launch) (Z : State) (a0 : Array Value) (hw : ∀ d ∈ tables_1, d.before a0 Z = true) (ws : List Jvm.Cond) (i0 : Int32) (i1 : Int32) (i2 : Int32) (i3 : Int32) (h0 : Heap) (n0 : Nat) (Z0 : n0 ≤ h0.size)  :
    MetFree l x (head1 (Jvm.Cond.code x code maxLocals ret :: ws) room_1) (fun a U => a = #[(.int i0), (.int i1), (.int i2), (.int i3)] ∧ Z.Warmed39 U.vm ∧ U.heap = h0) (fun _ _ _ _ _ => True) (fun _ U o U' => ∃ v L, o = .returned v ∧ (Fr n0 L ∧ Q_0 Z i0 i1 i2 i3 h0 n0 v U'.heap) ∧ FrameEnd U o U' L room_1.cells room_1.slots) := by
  refine own_enter (Q := Q_0 Z i0 i1 i2 i3 h0 n0) (F := fun m => mkF m 0 #[.val (.int i0), .val (.int i1), .val (.int i2), .val (.int i3), .unset, .unset, .unset, .unset, .unset, .unset, .unset, .unset, .unset] []) (plainFor_of_name pn_1) (fun m => by first | (simp [entryFrame, mkF, argsToLocals, Value.category, maxLocals]; done) | rfl) ?_
  intro p e s m below meth c s₁ B X0
  have K : Keep h0 h0 [] := Keep.refl h0 _
  refine own_bipush (pc' := 2) B X0 (z := (6 : Int32)) at_0 rfl (by decide) ?_
  refine own_newarray (pc' := 4) B X0 (own_w hw 0 rfl) at_2 rfl rfl (by decide) 6 (by decide) (by decide) (k' := 1) (n' := 6) rfl rfl (by decide) (by decide) "[I" (by decide) (.int (0 : Int32)) rfl ?_
  intro T1 h1 b1 kb1 X1 g1 E1 V_b1 E_b1
  have sz_b1 : h0.size ≤ b1 := own_sz K g1
  have g_b1 : n0 ≤ b1 := Nat.le_trans Z0 sz_b1
  replace K := K.ext E1
  replace V_b1 : Arv Z h1 b1 kb1 .int (6 : Int32) [(.int (0 : Int32)), (.int (0 : Int32)), (.int (0 : Int32)), (.int (0 : Int32)), (.int (0 : Int32)), (.int (0 : Int32))] (.int (0 : Int32)) := V_b1.pad (pad_rep [] (.int (0 : Int32)) 6)
  refine own_astore (pc' := 6) B X1 (Ls' := #[.val (.int i0), .val (.int i1), .val (.int i2), .val (.int i3), .val (.ref b1), .unset, .unset, .unset, .unset, .unset, .unset, .unset, .unset]) at_4 rfl rfl rfl ?_
  refine own_aload (pc' := 8) B X1 at_6 rfl rfl rfl ?_
  refine own_iconst (pc' := 9) B X1 (z := (0 : Int32)) at_8 rfl rfl ?_
  refine own_iloadN (pc' := 10) B X1 at_9 rfl rfl ?_
  refine own_bipush (pc' := 12) B X1 (z := (7 : Int32)) at_10 rfl (by decide) ?_
  obtain ⟨y2, hy2⟩ : ∃ z : Int32, i0 &&& (7 : Int32) = z := ⟨_, rfl⟩
  refine own_iand (pc' := 13) B X1 at_12 rfl hy2 ?_
  refine own_iastore (pc' := 14) B X1 (x' := y2) V_b1 g_b1 ⟨by decide, by decide⟩ 0 (by decide) (Nat.le_of_ble_eq_true rfl) rfl at_13 rfl ?_
  intro T3 h3 X3 W3 V_b1
  replace V_b1 : Arv Z h3 b1 kb1 .int (6 : Int32) [(.int y2), (.int (0 : Int32)), (.int (0 : Int32)), (.int (0 : Int32)), (.int (0 : Int32)), (.int (0 : Int32))] (.int (0 : Int32)) := V_b1
  replace E_b1 := E_b1.wr W3
  replace K := K.wr W3 (Or.inr sz_b1)
  refine own_aload (pc' := 16) B X3 at_14 rfl rfl rfl ?_
  refine own_iconst (pc' := 17) B X3 (z := (1 : Int32)) at_16 rfl rfl ?_
  refine own_iloadN (pc' := 18) B X3 at_17 rfl rfl ?_
  refine own_iconst (pc' := 19) B X3 (z := (3 : Int32)) at_18 rfl rfl ?_
  obtain ⟨y4, hy4⟩ : ∃ z : Int32, (i0.toUInt32 >>> ((3 : Int32) &&& 31).toUInt32).toInt32 = z := ⟨_, rfl⟩
  refine own_iushr (pc' := 20) B X3 at_19 rfl hy4 ?_
  refine own_bipush (pc' := 22) B X3 (z := (7 : Int32)) at_20 rfl (by decide) ?_
  obtain ⟨y5, hy5⟩ : ∃ z : Int32, y4 &&& (7 : Int32) = z := ⟨_, rfl⟩
  refine own_iand (pc' := 23) B X3 at_22 rfl hy5 ?_
  refine own_iastore (pc' := 24) B X3 (x' := y5) V_b1 g_b1 ⟨by decide, by decide⟩ 1 (by decide) (Nat.le_of_ble_eq_true rfl) rfl at_23 rfl ?_
  intro T6 h6 X6 W6 V_b1
  replace V_b1 : Arv Z h6 b1 kb1 .int (6 : Int32) [(.int y2), (.int y5), (.int (0 : Int32)), (.int (0 : Int32)), (.int (0 : Int32)), (.int (0 : Int32))] (.int (0 : Int32)) := V_b1
  replace E_b1 := E_b1.wr W6
  replace K := K.wr W6 (Or.inr sz_b1)
  refine own_aload (pc' := 26) B X6 at_24 rfl rfl rfl ?_
  refine own_iconst (pc' := 27) B X6 (z := (2 : Int32)) at_26 rfl rfl ?_
  refine own_iloadN (pc' := 28) B X6 at_27 rfl rfl ?_
  refine own_bipush (pc' := 30) B X6 (z := (6 : Int32)) at_28 rfl (by decide) ?_
  obtain ⟨y7, hy7⟩ : ∃ z : Int32, (i0.toUInt32 >>> ((6 : Int32) &&& 31).toUInt32).toInt32 = z := ⟨_, rfl⟩
  refine own_iushr (pc' := 31) B X6 at_30 rfl hy7 ?_
  refine own_bipush (pc' := 33) B X6 (z := (7 : Int32)) at_31 rfl (by decide) ?_
  obtain ⟨y8, hy8⟩ : ∃ z : Int32, y7 &&& (7 : Int32) = z := ⟨_, rfl⟩
  refine own_iand (pc' := 34) B X6 at_33 rfl hy8 ?_
  refine own_iastore (pc' := 35) B X6 (x' := y8) V_b1 g_b1 ⟨by decide, by decide⟩ 2 (by decide) (Nat.le_of_ble_eq_true rfl) rfl at_34 rfl ?_
  intro T9 h9 X9 W9 V_b1
  replace V_b1 : Arv Z h9 b1 kb1 .int (6 : Int32) [(.int y2), (.int y5), (.int y8), (.int (0 : Int32)), (.int (0 : Int32)), (.int (0 : Int32))] (.int (0 : Int32)) := V_b1
  replace E_b1 := E_b1.wr W9
  replace K := K.wr W9 (Or.inr sz_b1)
  refine own_aload (pc' := 37) B X9 at_35 rfl rfl rfl ?_
  refine own_iconst (pc' := 38) B X9 (z := (3 : Int32)) at_37 rfl rfl ?_
  refine own_iloadN (pc' := 39) B X9 at_38 rfl rfl ?_
  refine own_bipush (pc' := 41) B X9 (z := (9 : Int32)) at_39 rfl (by decide) ?_
  obtain ⟨y10, hy10⟩ : ∃ z : Int32, (i0.toUInt32 >>> ((9 : Int32) &&& 31).toUInt32).toInt32 = z := ⟨_, rfl⟩
  refine own_iushr (pc' := 42) B X9 at_41 rfl hy10 ?_
  refine own_bipush (pc' := 44) B X9 (z := (7 : Int32)) at_42 rfl (by decide) ?_
  obtain ⟨y11, hy11⟩ : ∃ z : Int32, y10 &&& (7 : Int32) = z := ⟨_, rfl⟩
  refine own_iand (pc' := 45) B X9 at_44 rfl hy11 ?_
  refine own_iastore (pc' := 46) B X9 (x' := y11) V_b1 g_b1 ⟨by decide, by decide⟩ 3 (by decide) (Nat.le_of_ble_eq_true rfl) rfl at_45 rfl ?_
  intro T12 h12 X12 W12 V_b1
  replace V_b1 : Arv Z h12 b1 kb1 .int (6 : Int32) [(.int y2), (.int y5), (.int y8), (.int y11), (.int (0 : Int32)), (.int (0 : Int32))] (.int (0 : Int32)) := V_b1
  replace E_b1 := E_b1.wr W12
  replace K := K.wr W12 (Or.inr sz_b1)
  refine own_aload (pc' := 48) B X12 at_46 rfl rfl rfl ?_
  refine own_iconst (pc' := 49) B X12 (z := (4 : Int32)) at_48 rfl rfl ?_
  refine own_iloadN (pc' := 50) B X12 at_49 rfl rfl ?_
  refine own_bipush (pc' := 52) B X12 (z := (12 : Int32)) at_50 rfl (by decide) ?_
  obtain ⟨y13, hy13⟩ : ∃ z : Int32, (i0.toUInt32 >>> ((12 : Int32) &&& 31).toUInt32).toInt32 = z := ⟨_, rfl⟩
  refine own_iushr (pc' := 53) B X12 at_52 rfl hy13 ?_
  refine own_bipush (pc' := 55) B X12 (z := (7 : Int32)) at_53 rfl (by decide) ?_
  obtain ⟨y14, hy14⟩ : ∃ z : Int32, y13 &&& (7 : Int32) = z := ⟨_, rfl⟩
  refine own_iand (pc' := 56) B X12 at_55 rfl hy14 ?_
  refine own_iastore (pc' := 57) B X12 (x' := y14) V_b1 g_b1 ⟨by decide, by decide⟩ 4 (by decide) (Nat.le_of_ble_eq_true rfl) rfl at_56 rfl ?_
  intro T15 h15 X15 W15 V_b1
  replace V_b1 : Arv Z h15 b1 kb1 .int (6 : Int32) [(.int y2), (.int y5), (.int y8), (.int y11), (.int y14), (.int (0 : Int32))] (.int (0 : Int32)) := V_b1
  replace E_b1 := E_b1.wr W15
  replace K := K.wr W15 (Or.inr sz_b1)
  refine own_aload (pc' := 59) B X15 at_57 rfl rfl rfl ?_
  refine own_iconst (pc' := 60) B X15 (z := (5 : Int32)) at_59 rfl rfl ?_
  refine own_iloadN (pc' := 61) B X15 at_60 rfl rfl ?_
  refine own_bipush (pc' := 63) B X15 (z := (15 : Int32)) at_61 rfl (by decide) ?_
  obtain ⟨y16, hy16⟩ : ∃ z : Int32, (i0.toUInt32 >>> ((15 : Int32) &&& 31).toUInt32).toInt32 = z := ⟨_, rfl⟩
  refine own_iushr (pc' := 64) B X15 at_63 rfl hy16 ?_
  refine own_bipush (pc' := 66) B X15 (z := (7 : Int32)) at_64 rfl (by decide) ?_
  obtain ⟨y17, hy17⟩ : ∃ z : Int32, y16 &&& (7 : Int32) = z := ⟨_, rfl⟩
  refine own_iand (pc' := 67) B X15 at_66 rfl hy17 ?_
  refine own_iastore (pc' := 68) B X15 (x' := y17) V_b1 g_b1 ⟨by decide, by decide⟩ 5 (by decide) (Nat.le_of_ble_eq_true rfl) rfl at_67 rfl ?_
  intro T18 h18 X18 W18 V_b1
  replace V_b1 : Arv Z h18 b1 kb1 .int (6 : Int32) [(.int y2), (.int y5), (.int y8), (.int y11), (.int y14), (.int y17)] (.int (0 : Int32)) := V_b1
  replace E_b1 := E_b1.wr W18
  replace K := K.wr W18 (Or.inr sz_b1)
  refine own_iloadN (pc' := 69) B X18 at_68 rfl rfl ?_
  refine own_iconst (pc' := 70) B X18 (z := (1 : Int32)) at_69 rfl rfl ?_
  obtain ⟨y19, hy19⟩ : ∃ z : Int32, i3 &&& (1 : Int32) = z := ⟨_, rfl⟩
  refine own_iand (pc' := 71) B X18 at_70 rfl hy19 ?_
  by_cases c20 : y19 = (0 : Int32)
  · refine own_ifYes (pc' := 81) B X18 at_71 ((if0 _ _).trans (teq c20).1) (by decide) rfl ?_
    refine own_iloadN (pc' := 82) B X18 at_81 rfl rfl ?_
    refine own_ldcI (pc' := 84) B X18 (own_w hw 1 rfl) at_82 rfl ?_
    obtain ⟨y21, hy21⟩ : ∃ z : Int32, i1 &&& (2147483647 : Int32) = z := ⟨_, rfl⟩
    refine own_iand (pc' := 85) B X18 at_84 rfl hy21 ?_
    refine own_istore (pc' := 87) B X18 (Ls' := #[.val (.int i0), .val (.int i1), .val (.int i2), .val (.int i3), .val (.ref b1), .val (.int y21), .unset, .unset, .unset, .unset, .unset, .unset, .unset]) at_85 rfl rfl ?_
    refine own_iloadN (pc' := 88) B X18 at_87 rfl rfl ?_
    refine own_iconst (pc' := 89) B X18 (z := (2 : Int32)) at_88 rfl rfl ?_
    obtain ⟨y22, hy22⟩ : ∃ z : Int32, i3 &&& (2 : Int32) = z := ⟨_, rfl⟩
    refine own_iand (pc' := 90) B X18 at_89 rfl hy22 ?_
    by_cases c23 : y22 = (0 : Int32)
    · refine own_ifYes (pc' := 100) B X18 at_90 ((if0 _ _).trans (teq c23).1) (by decide) rfl ?_
      refine own_iloadN (pc' := 101) B X18 at_100 rfl rfl ?_
      refine own_ldcI (pc' := 103) B X18 (own_w hw 1 rfl) at_101 rfl ?_
      obtain ⟨y24, hy24⟩ : ∃ z : Int32, i2 &&& (2147483647 : Int32) = z := ⟨_, rfl⟩
      refine own_iand (pc' := 104) B X18 at_103 rfl hy24 ?_
      refine own_istore (pc' := 106) B X18 (Ls' := #[.val (.int i0), .val (.int i1), .val (.int i2), .val (.int i3), .val (.ref b1), .val (.int y21), .val (.int y24), .unset, .unset, .unset, .unset, .unset, .unset]) at_104 rfl rfl ?_
      have ltj := V_b1.lt
      refine own_new (pc' := 109) B X18 (own_w hw 2 rfl) (own_w hw 3 rfl) (own_w hw 4 rfl) at_106 rfl (k' := 2) (n' := 9) rfl rfl (by decide) (by decide) ?_
      intro T25 h25 b25 X25 g25 E25 E_b25 D25
      have ne_b1_b25 : b1 ≠ b25 := own_ne E_b1.lt g25
      have sz_b25 : h0.size ≤ b25 := own_sz K g25
      have g_b25 : n0 ≤ b25 := Nat.le_trans Z0 sz_b25
      replace K := K.ext E25
      replace E_b1 := E_b1.ext E25
      replace V_b1 := V_b1.ext E25
      have F_b25_parents : Fld Z h25 b25 "com/example/ordal/ordal/Aliases" "parents" "[I" .null := D25 (Or.inl (own_w hw 12 rfl)) (ty := (.array .int)) (by decide)
      have F_b25_sizes : Fld Z h25 b25 "com/example/ordal/ordal/Aliases" "sizes" "[I" .null := D25 (Or.inl (own_w hw 14 rfl)) (ty := (.array .int)) (by decide)
      have F_b25_rings : Fld Z h25 b25 "com/example/ordal/ordal/Aliases" "rings" "[I" .null := D25 (Or.inl (own_w hw 16 rfl)) (ty := (.array .int)) (by decide)
      clear D25
      refine own_dup (pc' := 110) B X25 at_109 rfl rfl ?_
      refine own_callI (pc' := 113) B X25 rfl rfl (own_w hw 5 rfl) (own_w hw 6 rfl) (own_w hw 4 rfl) (own_w hw 7 rfl) (by decide) [] [(.ref b25)] (rm_1 l Z a0 hw [] b25 h25 n0 (Nat.le_trans Z0 K.1) E_b25 F_b25_parents F_b25_sizes F_b25_rings g_b25) 1 (by decide) (by decide) rfl pd_0 rfl rfl (Nat.le_of_eq rfl) at_110 rfl (k' := 5) (n' := 9) rfl rfl (by decide) (by decide) ?_
      intro T26 v26 h26 X26 q26
      have lt_b1 := E_b1.lt
      have lt_b25 := E_b25.lt
      obtain ⟨b27, k28, b29, k30, b31, k32, rfl, K26, z_b27, z_b29, z_b31, ne_b27_b29, ne_b27_b31, ne_b29_b31, E_b25, F_b25_parents, F_b25_sizes, F_b25_rings, E_b27, V_b27, E_b29, V_b29, E_b31, V_b31⟩ := q26
      have ne_b1_b27 : b1 ≠ b27 := own_ne' lt_b1 z_b27
      have ne_b25_b27 : b25 ≠ b27 := own_ne' lt_b25 z_b27
      have sz_b27 : h0.size ≤ b27 := Nat.le_trans K.1 z_b27
      have g_b27 : n0 ≤ b27 := Nat.le_trans Z0 sz_b27
      have ne_b1_b29 : b1 ≠ b29 := own_ne' lt_b1 z_b29
      have ne_b25_b29 : b25 ≠ b29 := own_ne' lt_b25 z_b29
      have sz_b29 : h0.size ≤ b29 := Nat.le_trans K.1 z_b29
      have g_b29 : n0 ≤ b29 := Nat.le_trans Z0 sz_b29
      have ne_b1_b31 : b1 ≠ b31 := own_ne' lt_b1 z_b31
      have ne_b25_b31 : b25 ≠ b31 := own_ne' lt_b25 z_b31
      have sz_b31 : h0.size ≤ b31 := Nat.le_trans K.1 z_b31
      have g_b31 : n0 ≤ b31 := Nat.le_trans Z0 sz_b31
      replace K := K.trans K26 (allS (Or.inr sz_b25) all0)
      replace E_b1 := E_b1.keep K26
      replace V_b1 := V_b1.keep K26 (ninS ne_b1_b25 nin0)
      show own_Go p e below (T26.setTop (mkF m 113 #[.val (.int i0), .val (.int i1), .val (.int i2), .val (.int i3), .val (.ref b1), .val (.int y21), .val (.int y24), .unset, .unset, .unset, .unset, .unset, .unset] [(.ref b25)])) _
      refine own_astore (pc' := 115) B X26 (Ls' := #[.val (.int i0), .val (.int i1), .val (.int i2), .val (.int i3), .val (.ref b1), .val (.int y21), .val (.int y24), .val (.ref b25), .unset, .unset, .unset, .unset, .unset]) at_113 rfl rfl rfl ?_
      refine own_aload (pc' := 117) B X26 at_115 rfl rfl rfl ?_
      refine own_aload (pc' := 119) B X26 at_117 rfl rfl rfl ?_
      refine own_iconst (pc' := 120) B X26 (z := (0 : Int32)) at_119 rfl rfl ?_
      refine own_iaload (pc' := 121) B X26 V_b1 (v := (.int y2)) ⟨by decide, by decide⟩ rfl at_120 rfl ?_
      refine own_aload (pc' := 123) B X26 at_121 rfl rfl rfl ?_
      refine own_iconst (pc' := 124) B X26 (z := (1 : Int32)) at_123 rfl rfl ?_
      refine own_iaload (pc' := 125) B X26 V_b1 (v := (.int y5)) ⟨by decide, by decide⟩ rfl at_124 rfl ?_
      have AL : own_AL Z h26 b25 (fun x => x) (fun _ => 1) := ⟨b27, b29, b31, 0, fun x => x, fun _ => 1, fun _ => 0, 0, ⟨E_b25, F_b25_parents, F_b25_sizes, F_b25_rings, own_Fn.zero V_b27, own_Fn.zero V_b29, own_Fn.zero V_b31, Nat.lt_of_lt_of_le lt_b25 z_b27, Nat.lt_of_lt_of_le lt_b25 z_b29, Nat.lt_of_lt_of_le lt_b25 z_b31, ne_b27_b29, ne_b27_b31, ne_b29_b31⟩, own_inv0⟩
      have lj : b1 < b25 := g25 ▸ ltj
      refine own_callV (pc' := 128) B X26 (own_w hw 17 rfl) (own_w hw 18 rfl) (own_w hw 20 rfl) (own_w hw 19 rfl) (own_w hw 4 rfl) (own_w hw 21 rfl) E_b25 (by decide) [(.int y2), (.int y5)] [] (rm_join l Z a0 hw [] b25 (fun x => x) (fun _ => 1) y2 y5 h26 n0 (Nat.le_trans Z0 K.1) AL g_b25 (own_in8 hy2) (own_in8 hy5)) 0 (by decide) (by decide) rfl pd_1 rfl rfl (Nat.le_of_eq rfl) at_125 rfl (k' := 8) (n' := 51) rfl rfl (by decide) (by decide) ?_
      intro T33 v33 h33 X33 q33
      clear AL
      obtain ⟨y34, rfl, K33, AL⟩ := q33
      replace AL : own_AL Z h33 b25 (own_R1 y2 y5) (own_S1 y2 y5) := AL
      replace V_b1 := K33.arv V_b1 lj
      replace E_b25 := own_AL.exa AL
      replace E_b1 := K33.exa E_b1
      replace K := own_Kk K K33 sz_b25
      show own_Go p e below (T33.setTop (mkF m 128 #[.val (.int i0), .val (.int i1), .val (.int i2), .val (.int i3), .val (.ref b1), .val (.int y21), .val (.int y24), .val (.ref b25), .unset, .unset, .unset, .unset, .unset] [(.int y34)])) _
      refine own_pop (pc' := 129) B X33 at_128 rfl rfl ?_
      refine own_aload (pc' := 131) B X33 at_129 rfl rfl rfl ?_
      refine own_aload (pc' := 133) B X33 at_131 rfl rfl rfl ?_
      refine own_iconst (pc' := 134) B X33 (z := (2 : Int32)) at_133 rfl rfl ?_
      refine own_iaload (pc' := 135) B X33 V_b1 (v := (.int y8)) ⟨by decide, by decide⟩ rfl at_134 rfl ?_
      refine own_aload (pc' := 137) B X33 at_135 rfl rfl rfl ?_
      refine own_iconst (pc' := 138) B X33 (z := (3 : Int32)) at_137 rfl rfl ?_
      refine own_iaload (pc' := 139) B X33 V_b1 (v := (.int y11)) ⟨by decide, by decide⟩ rfl at_138 rfl ?_
      refine own_callV (pc' := 142) B X33 (own_w hw 17 rfl) (own_w hw 18 rfl) (own_w hw 20 rfl) (own_w hw 19 rfl) (own_w hw 4 rfl) (own_w hw 21 rfl) E_b25 (by decide) [(.int y8), (.int y11)] [] (rm_join l Z a0 hw [] b25 (own_R1 y2 y5) (own_S1 y2 y5) y8 y11 h33 n0 (Nat.le_trans Z0 K.1) AL g_b25 (own_in8 hy8) (own_in8 hy11)) 0 (by decide) (by decide) rfl pd_1 rfl rfl (Nat.le_of_eq rfl) at_139 rfl (k' := 11) (n' := 93) rfl rfl (by decide) (by decide) ?_
      intro T35 v35 h35 X35 q35
      clear AL
      obtain ⟨y36, rfl, K35, AL⟩ := q35
      replace AL : own_AL Z h35 b25 (own_R2 y2 y5 y8 y11) (own_S2 y2 y5 y8 y11) := AL
      replace V_b1 := K35.arv V_b1 lj
      replace E_b25 := own_AL.exa AL
      replace E_b1 := K35.exa E_b1
      replace K := own_Kk K K35 sz_b25
      show own_Go p e below (T35.setTop (mkF m 142 #[.val (.int i0), .val (.int i1), .val (.int i2), .val (.int i3), .val (.ref b1), .val (.int y21), .val (.int y24), .val (.ref b25), .unset, .unset, .unset, .unset, .unset] [(.int y36)])) _
      refine own_pop (pc' := 143) B X35 at_142 rfl rfl ?_
      refine own_aload (pc' := 145) B X35 at_143 rfl rfl rfl ?_
      refine own_aload (pc' := 147) B X35 at_145 rfl rfl rfl ?_
      refine own_iconst (pc' := 148) B X35 (z := (4 : Int32)) at_147 rfl rfl ?_
      refine own_iaload (pc' := 149) B X35 V_b1 (v := (.int y14)) ⟨by decide, by decide⟩ rfl at_148 rfl ?_
      refine own_aload (pc' := 151) B X35 at_149 rfl rfl rfl ?_
      refine own_iconst (pc' := 152) B X35 (z := (5 : Int32)) at_151 rfl rfl ?_
      refine own_iaload (pc' := 153) B X35 V_b1 (v := (.int y17)) ⟨by decide, by decide⟩ rfl at_152 rfl ?_
      refine own_callV (pc' := 156) B X35 (own_w hw 17 rfl) (own_w hw 18 rfl) (own_w hw 20 rfl) (own_w hw 19 rfl) (own_w hw 4 rfl) (own_w hw 21 rfl) E_b25 (by decide) [(.int y14), (.int y17)] [] (rm_join l Z a0 hw [] b25 (own_R2 y2 y5 y8 y11) (own_S2 y2 y5 y8 y11) y14 y17 h35 n0 (Nat.le_trans Z0 K.1) AL g_b25 (own_in8 hy14) (own_in8 hy17)) 0 (by decide) (by decide) rfl pd_1 rfl rfl (Nat.le_of_eq rfl) at_153 rfl (k' := 14) (n' := 135) rfl rfl (by decide) (by decide) ?_
      intro T37 v37 h37 X37 q37
      clear AL
      obtain ⟨y38, rfl, K37, AL⟩ := q37
      replace AL : own_AL Z h37 b25 (own_R3 y2 y5 y8 y11 y14 y17) (own_S3 y2 y5 y8 y11 y14 y17) := AL
      replace V_b1 := K37.arv V_b1 lj
      replace E_b25 := own_AL.exa AL
      replace E_b1 := K37.exa E_b1
      replace K := own_Kk K K37 sz_b25
      show own_Go p e below (T37.setTop (mkF m 156 #[.val (.int i0), .val (.int i1), .val (.int i2), .val (.int i3), .val (.ref b1), .val (.int y21), .val (.int y24), .val (.ref b25), .unset, .unset, .unset, .unset, .unset] [(.int y38)])) _
      refine own_pop (pc' := 157) B X37 at_156 rfl rfl ?_
      refine own_aload (pc' := 159) B X37 at_157 rfl rfl rfl ?_
      refine own_iload (pc' := 161) B X37 at_159 rfl rfl ?_
      refine own_callV (pc' := 164) B X37 (own_w hw 27 rfl) (own_w hw 23 rfl) (own_w hw 25 rfl) (own_w hw 24 rfl) (own_w hw 4 rfl) (own_w hw 26 rfl) E_b25 (by decide) [(.int y21)] [] (rm_rep l Z a0 hw [] b25 (own_R3 y2 y5 y8 y11 y14 y17) (own_S3 y2 y5 y8 y11 y14 y17) y21 h37 n0 AL g_b25 (own_nnM hy21)) 0 (by decide) (by decide) rfl pd_2 rfl rfl (Nat.le_of_eq rfl) at_161 rfl (k' := 14) (n' := 135) rfl rfl (by decide) (by decide) ?_
      intro T39 v39 h39 X39 q39
      clear AL
      obtain ⟨rfl, K39, AL⟩ := q39
      obtain ⟨y40, hy40⟩ : ∃ z : Int32, own_R3 y2 y5 y8 y11 y14 y17 y21 = z := ⟨_, rfl⟩
      rw [hy40]
      replace V_b1 := K39.arv V_b1 lj
      replace E_b25 := own_AL.exa AL
      replace E_b1 := K39.exa E_b1
      replace K := own_Kk K K39 sz_b25
      show own_Go p e below (T39.setTop (mkF m 164 #[.val (.int i0), .val (.int i1), .val (.int i2), .val (.int i3), .val (.ref b1), .val (.int y21), .val (.int y24), .val (.ref b25), .unset, .unset, .unset, .unset, .unset] [(.int y40)])) _
      refine own_istore (pc' := 166) B X39 (Ls' := #[.val (.int i0), .val (.int i1), .val (.int i2), .val (.int i3), .val (.ref b1), .val (.int y21), .val (.int y24), .val (.ref b25), .val (.int y40), .unset, .unset, .unset, .unset]) at_164 rfl rfl ?_
      refine own_aload (pc' := 168) B X39 at_166 rfl rfl rfl ?_
      refine own_iload (pc' := 170) B X39 at_168 rfl rfl ?_
      refine own_callV (pc' := 173) B X39 (own_w hw 27 rfl) (own_w hw 23 rfl) (own_w hw 25 rfl) (own_w hw 24 rfl) (own_w hw 4 rfl) (own_w hw 26 rfl) E_b25 (by decide) [(.int y24)] [] (rm_rep l Z a0 hw [] b25 (own_R3 y2 y5 y8 y11 y14 y17) (own_S3 y2 y5 y8 y11 y14 y17) y24 h39 n0 AL g_b25 (own_nnM hy24)) 0 (by decide) (by decide) rfl pd_2 rfl rfl (Nat.le_of_eq rfl) at_170 rfl (k' := 14) (n' := 135) rfl rfl (by decide) (by decide) ?_
      intro T41 v41 h41 X41 q41
      clear AL
      obtain ⟨rfl, K41, AL⟩ := q41
      obtain ⟨y42, hy42⟩ : ∃ z : Int32, own_R3 y2 y5 y8 y11 y14 y17 y24 = z := ⟨_, rfl⟩
      rw [hy42]
      replace V_b1 := K41.arv V_b1 lj
      replace E_b25 := own_AL.exa AL
      replace E_b1 := K41.exa E_b1
      replace K := own_Kk K K41 sz_b25
      show own_Go p e below (T41.setTop (mkF m 173 #[.val (.int i0), .val (.int i1), .val (.int i2), .val (.int i3), .val (.ref b1), .val (.int y21), .val (.int y24), .val (.ref b25), .val (.int y40), .unset, .unset, .unset, .unset] [(.int y42)])) _
      refine own_istore (pc' := 175) B X41 (Ls' := #[.val (.int i0), .val (.int i1), .val (.int i2), .val (.int i3), .val (.ref b1), .val (.int y21), .val (.int y24), .val (.ref b25), .val (.int y40), .val (.int y42), .unset, .unset, .unset]) at_173 rfl rfl ?_
      refine own_aload (pc' := 177) B X41 at_175 rfl rfl rfl ?_
      refine own_iload (pc' := 179) B X41 at_177 rfl rfl ?_
      refine own_callV (pc' := 182) B X41 (own_w hw 27 rfl) (own_w hw 23 rfl) (own_w hw 25 rfl) (own_w hw 24 rfl) (own_w hw 4 rfl) (own_w hw 26 rfl) E_b25 (by decide) [(.int y21)] [] (rm_rep l Z a0 hw [] b25 (own_R3 y2 y5 y8 y11 y14 y17) (own_S3 y2 y5 y8 y11 y14 y17) y21 h41 n0 AL g_b25 (own_nnM hy21)) 0 (by decide) (by decide) rfl pd_2 rfl rfl (Nat.le_of_eq rfl) at_179 rfl (k' := 14) (n' := 135) rfl rfl (by decide) (by decide) ?_
      intro T43 v43 h43 X43 q43
      clear AL
      obtain ⟨rfl, K43, AL⟩ := q43
      rw [hy40]
      replace V_b1 := K43.arv V_b1 lj
      replace E_b25 := own_AL.exa AL
      replace E_b1 := K43.exa E_b1
      replace K := own_Kk K K43 sz_b25
      show own_Go p e below (T43.setTop (mkF m 182 #[.val (.int i0), .val (.int i1), .val (.int i2), .val (.int i3), .val (.ref b1), .val (.int y21), .val (.int y24), .val (.ref b25), .val (.int y40), .val (.int y42), .unset, .unset, .unset] [(.int y40)])) _
      refine own_istore (pc' := 184) B X43 (Ls' := #[.val (.int i0), .val (.int i1), .val (.int i2), .val (.int i3), .val (.ref b1), .val (.int y21), .val (.int y24), .val (.ref b25), .val (.int y40), .val (.int y42), .val (.int y40), .unset, .unset]) at_182 rfl rfl ?_
      refine own_aload (pc' := 186) B X43 at_184 rfl rfl rfl ?_
      refine own_iload (pc' := 188) B X43 at_186 rfl rfl ?_
      refine own_callS (pc' := 191) B X43 (own_w hw 28 rfl) (own_w hw 29 rfl) (own_w hw 30 rfl) (own_w hw 31 rfl) (by decide) [(.ref b1), (.int y21)] [] (rm_2 l Z a0 hw [] b1 kb1 (y2) (y5) (y8) (y11) (y14) (y17) (y21) h43 n0 (Nat.le_trans Z0 K.1) E_b1 V_b1 g_b1) 0 (by decide) (by decide) rfl pd_4 rfl rfl (Nat.le_of_eq rfl) at_188 rfl (k' := 14) (n' := 135) rfl rfl (by decide) (by decide) ?_
      intro T44 v44 h44 X44 q44
      obtain ⟨y45, y46, y47, y48, y49, y50, y51, y52, y53, y54, y55, y56, y57, y58, y59, hy60, hy61, hy62, hy63, hy64, hy65, hy66, hy67, hy68, hy69, hy70, hy71, hy72, hy73, hy74, rfl, rfl⟩ := q44
      show own_Go p e below (T44.setTop (mkF m 191 #[.val (.int i0), .val (.int i1), .val (.int i2), .val (.int i3), .val (.ref b1), .val (.int y21), .val (.int y24), .val (.ref b25), .val (.int y40), .val (.int y42), .val (.int y40), .unset, .unset] [(.int y59)])) _
      refine own_istore (pc' := 193) B X44 (Ls' := #[.val (.int i0), .val (.int i1), .val (.int i2), .val (.int i3), .val (.ref b1), .val (.int y21), .val (.int y24), .val (.ref b25), .val (.int y40), .val (.int y42), .val (.int y40), .val (.int y59), .unset]) at_191 rfl rfl ?_
      refine own_aload (pc' := 195) B X44 at_193 rfl rfl rfl ?_
      refine own_iload (pc' := 197) B X44 at_195 rfl rfl ?_
      refine own_callS (pc' := 200) B X44 (own_w hw 28 rfl) (own_w hw 29 rfl) (own_w hw 30 rfl) (own_w hw 31 rfl) (by decide) [(.ref b1), (.int y24)] [] (rm_2 l Z a0 hw [] b1 kb1 (y2) (y5) (y8) (y11) (y14) (y17) (y24) h43 n0 (Nat.le_trans Z0 K.1) E_b1 V_b1 g_b1) 0 (by decide) (by decide) rfl pd_4 rfl rfl (Nat.le_of_eq rfl) at_197 rfl (k' := 14) (n' := 135) rfl rfl (by decide) (by decide) ?_
      intro T75 v75 h75 X75 q75
      obtain ⟨y76, y77, y78, y79, y80, y81, y82, y83, y84, y85, y86, y87, y88, y89, y90, hy91, hy92, hy93, hy94, hy95, hy96, hy97, hy98, hy99, hy100, hy101, hy102, hy103, hy104, hy105, rfl, rfl⟩ := q75
      obtain rfl : y46 = y77 := (hy61 : own_F_step y8 y2 y5 (1 : Int32) (1 : Int32) = y46).symm.trans hy92
      obtain rfl : y47 = y78 := (hy62 : own_F_step y11 y2 y5 (1 : Int32) (1 : Int32) = y47).symm.trans hy93
      obtain rfl : y48 = y79 := (hy63 : own_F_grown y8 (1 : Int32) y2 y5 (1 : Int32) (1 : Int32) = y48).symm.trans hy94
      obtain rfl : y49 = y80 := (hy64 : own_F_grown y11 (1 : Int32) y2 y5 (1 : Int32) (1 : Int32) = y49).symm.trans hy95
      obtain rfl : y51 = y82 := (hy66 : own_F_step y14 y2 y5 (1 : Int32) (1 : Int32) = y51).symm.trans hy97
      obtain rfl : y52 = y83 := (hy67 : own_F_step y51 y46 y47 y48 y49 = y52).symm.trans hy98
      obtain rfl : y53 = y84 := (hy68 : own_F_step y17 y2 y5 (1 : Int32) (1 : Int32) = y53).symm.trans hy99
      obtain rfl : y54 = y85 := (hy69 : own_F_step y53 y46 y47 y48 y49 = y54).symm.trans hy100
      obtain rfl : y55 = y86 := (hy70 : own_F_grown y14 (1 : Int32) y2 y5 (1 : Int32) (1 : Int32) = y55).symm.trans hy101
      obtain rfl : y56 = y87 := (hy71 : own_F_grown y51 y55 y46 y47 y48 y49 = y56).symm.trans hy102
      obtain rfl : y57 = y88 := (hy72 : own_F_grown y17 (1 : Int32) y2 y5 (1 : Int32) (1 : Int32) = y57).symm.trans hy103
      obtain rfl : y58 = y89 := (hy73 : own_F_grown y53 y57 y46 y47 y48 y49 = y58).symm.trans hy104
      show own_Go p e below (T75.setTop (mkF m 200 #[.val (.int i0), .val (.int i1), .val (.int i2), .val (.int i3), .val (.ref b1), .val (.int y21), .val (.int y24), .val (.ref b25), .val (.int y40), .val (.int y42), .val (.int y40), .val (.int y59), .unset] [(.int y90)])) _
      refine own_istore (pc' := 202) B X75 (Ls' := #[.val (.int i0), .val (.int i1), .val (.int i2), .val (.int i3), .val (.ref b1), .val (.int y21), .val (.int y24), .val (.ref b25), .val (.int y40), .val (.int y42), .val (.int y40), .val (.int y59), .val (.int y90)]) at_200 rfl rfl ?_
      refine own_iload (pc' := 204) B X75 at_202 rfl rfl ?_
      refine own_iload (pc' := 206) B X75 at_204 rfl rfl ?_
      have c106 : y40 = y59 := by
        subst hy40 hy42 hy60 hy61 hy62 hy63 hy64 hy65 hy66 hy67 hy68 hy69 hy70 hy71 hy72 hy73 hy74 hy91 hy96 hy105
        rfl
      refine own_icmpNo (pc' := 209) B X75 at_206 (teq c106).2 rfl ?_
      refine own_iload (pc' := 211) B X75 at_209 rfl rfl ?_
      refine own_iload (pc' := 213) B X75 at_211 rfl rfl ?_
      have c107 : y42 = y90 := by
        subst hy40 hy42 hy60 hy61 hy62 hy63 hy64 hy65 hy66 hy67 hy68 hy69 hy70 hy71 hy72 hy73 hy74 hy91 hy96 hy105
        rfl
      refine own_icmpNo (pc' := 216) B X75 at_213 (teq c107).2 rfl ?_
      refine own_iload (pc' := 218) B X75 at_216 rfl rfl ?_
      refine own_iload (pc' := 220) B X75 at_218 rfl rfl ?_
      refine own_icmpNo (pc' := 223) B X75 at_220 (teq c106).2 rfl ?_
      refine own_iconst (pc' := 224) B X75 (z := (1 : Int32)) at_223 rfl rfl ?_
      refine own_goto (pc' := 228) B X75 at_224 (by decide) rfl ?_
      exact own_retN B X75 (t := .boolean) (z' := (1 : Int32)) (by simp) (by decide) at_228 (by decide) (by decide) rfl
    · refine own_ifNo (pc' := 93) B X18 at_90 ((if0 _ _).trans (feq c23).1) rfl ?_
      refine own_iloadN (pc' := 94) B X18 at_93 rfl rfl ?_
      refine own_bipush (pc' := 96) B X18 (z := (7 : Int32)) at_94 rfl (by decide) ?_
      obtain ⟨y108, hy108⟩ : ∃ z : Int32, i2 &&& (7 : Int32) = z := ⟨_, rfl⟩
      refine own_iand (pc' := 97) B X18 at_96 rfl hy108 ?_
      refine own_goto (pc' := 104) B X18 at_97 (by decide) rfl ?_
      refine own_istore (pc' := 106) B X18 (Ls' := #[.val (.int i0), .val (.int i1), .val (.int i2), .val (.int i3), .val (.ref b1), .val (.int y21), .val (.int y108), .unset, .unset, .unset, .unset, .unset, .unset]) at_104 rfl rfl ?_
      have ltj := V_b1.lt
      refine own_new (pc' := 109) B X18 (own_w hw 2 rfl) (own_w hw 3 rfl) (own_w hw 4 rfl) at_106 rfl (k' := 2) (n' := 9) rfl rfl (by decide) (by decide) ?_
      intro T109 h109 b109 X109 g109 E109 E_b109 D109
      have ne_b1_b109 : b1 ≠ b109 := own_ne E_b1.lt g109
      have sz_b109 : h0.size ≤ b109 := own_sz K g109
      have g_b109 : n0 ≤ b109 := Nat.le_trans Z0 sz_b109
      replace K := K.ext E109
      replace E_b1 := E_b1.ext E109
      replace V_b1 := V_b1.ext E109
      have F_b109_parents : Fld Z h109 b109 "com/example/ordal/ordal/Aliases" "parents" "[I" .null := D109 (Or.inl (own_w hw 12 rfl)) (ty := (.array .int)) (by decide)
      have F_b109_sizes : Fld Z h109 b109 "com/example/ordal/ordal/Aliases" "sizes" "[I" .null := D109 (Or.inl (own_w hw 14 rfl)) (ty := (.array .int)) (by decide)
      have F_b109_rings : Fld Z h109 b109 "com/example/ordal/ordal/Aliases" "rings" "[I" .null := D109 (Or.inl (own_w hw 16 rfl)) (ty := (.array .int)) (by decide)
      clear D109
      refine own_dup (pc' := 110) B X109 at_109 rfl rfl ?_
      refine own_callI (pc' := 113) B X109 rfl rfl (own_w hw 5 rfl) (own_w hw 6 rfl) (own_w hw 4 rfl) (own_w hw 7 rfl) (by decide) [] [(.ref b109)] (rm_1 l Z a0 hw [] b109 h109 n0 (Nat.le_trans Z0 K.1) E_b109 F_b109_parents F_b109_sizes F_b109_rings g_b109) 1 (by decide) (by decide) rfl pd_0 rfl rfl (Nat.le_of_eq rfl) at_110 rfl (k' := 5) (n' := 9) rfl rfl (by decide) (by decide) ?_
      intro T110 v110 h110 X110 q110
      have lt_b1 := E_b1.lt
      have lt_b109 := E_b109.lt
      obtain ⟨b111, k112, b113, k114, b115, k116, rfl, K110, z_b111, z_b113, z_b115, ne_b111_b113, ne_b111_b115, ne_b113_b115, E_b109, F_b109_parents, F_b109_sizes, F_b109_rings, E_b111, V_b111, E_b113, V_b113, E_b115, V_b115⟩ := q110
      have ne_b1_b111 : b1 ≠ b111 := own_ne' lt_b1 z_b111
      have ne_b109_b111 : b109 ≠ b111 := own_ne' lt_b109 z_b111
      have sz_b111 : h0.size ≤ b111 := Nat.le_trans K.1 z_b111
      have g_b111 : n0 ≤ b111 := Nat.le_trans Z0 sz_b111
      have ne_b1_b113 : b1 ≠ b113 := own_ne' lt_b1 z_b113
      have ne_b109_b113 : b109 ≠ b113 := own_ne' lt_b109 z_b113
      have sz_b113 : h0.size ≤ b113 := Nat.le_trans K.1 z_b113
      have g_b113 : n0 ≤ b113 := Nat.le_trans Z0 sz_b113
      have ne_b1_b115 : b1 ≠ b115 := own_ne' lt_b1 z_b115
      have ne_b109_b115 : b109 ≠ b115 := own_ne' lt_b109 z_b115
      have sz_b115 : h0.size ≤ b115 := Nat.le_trans K.1 z_b115
      have g_b115 : n0 ≤ b115 := Nat.le_trans Z0 sz_b115
      replace K := K.trans K110 (allS (Or.inr sz_b109) all0)
      replace E_b1 := E_b1.keep K110
      replace V_b1 := V_b1.keep K110 (ninS ne_b1_b109 nin0)
      show own_Go p e below (T110.setTop (mkF m 113 #[.val (.int i0), .val (.int i1), .val (.int i2), .val (.int i3), .val (.ref b1), .val (.int y21), .val (.int y108), .unset, .unset, .unset, .unset, .unset, .unset] [(.ref b109)])) _
      refine own_astore (pc' := 115) B X110 (Ls' := #[.val (.int i0), .val (.int i1), .val (.int i2), .val (.int i3), .val (.ref b1), .val (.int y21), .val (.int y108), .val (.ref b109), .unset, .unset, .unset, .unset, .unset]) at_113 rfl rfl rfl ?_
      refine own_aload (pc' := 117) B X110 at_115 rfl rfl rfl ?_
      refine own_aload (pc' := 119) B X110 at_117 rfl rfl rfl ?_
      refine own_iconst (pc' := 120) B X110 (z := (0 : Int32)) at_119 rfl rfl ?_
      refine own_iaload (pc' := 121) B X110 V_b1 (v := (.int y2)) ⟨by decide, by decide⟩ rfl at_120 rfl ?_
      refine own_aload (pc' := 123) B X110 at_121 rfl rfl rfl ?_
      refine own_iconst (pc' := 124) B X110 (z := (1 : Int32)) at_123 rfl rfl ?_
      refine own_iaload (pc' := 125) B X110 V_b1 (v := (.int y5)) ⟨by decide, by decide⟩ rfl at_124 rfl ?_
      have AL : own_AL Z h110 b109 (fun x => x) (fun _ => 1) := ⟨b111, b113, b115, 0, fun x => x, fun _ => 1, fun _ => 0, 0, ⟨E_b109, F_b109_parents, F_b109_sizes, F_b109_rings, own_Fn.zero V_b111, own_Fn.zero V_b113, own_Fn.zero V_b115, Nat.lt_of_lt_of_le lt_b109 z_b111, Nat.lt_of_lt_of_le lt_b109 z_b113, Nat.lt_of_lt_of_le lt_b109 z_b115, ne_b111_b113, ne_b111_b115, ne_b113_b115⟩, own_inv0⟩
      have lj : b1 < b109 := g109 ▸ ltj
      refine own_callV (pc' := 128) B X110 (own_w hw 17 rfl) (own_w hw 18 rfl) (own_w hw 20 rfl) (own_w hw 19 rfl) (own_w hw 4 rfl) (own_w hw 21 rfl) E_b109 (by decide) [(.int y2), (.int y5)] [] (rm_join l Z a0 hw [] b109 (fun x => x) (fun _ => 1) y2 y5 h110 n0 (Nat.le_trans Z0 K.1) AL g_b109 (own_in8 hy2) (own_in8 hy5)) 0 (by decide) (by decide) rfl pd_1 rfl rfl (Nat.le_of_eq rfl) at_125 rfl (k' := 8) (n' := 51) rfl rfl (by decide) (by decide) ?_
      intro T117 v117 h117 X117 q117
      clear AL
      obtain ⟨y118, rfl, K117, AL⟩ := q117
      replace AL : own_AL Z h117 b109 (own_R1 y2 y5) (own_S1 y2 y5) := AL
      replace V_b1 := K117.arv V_b1 lj
      replace E_b109 := own_AL.exa AL
      replace E_b1 := K117.exa E_b1
      replace K := own_Kk K K117 sz_b109
      show own_Go p e below (T117.setTop (mkF m 128 #[.val (.int i0), .val (.int i1), .val (.int i2), .val (.int i3), .val (.ref b1), .val (.int y21), .val (.int y108), .val (.ref b109), .unset, .unset, .unset, .unset, .unset] [(.int y118)])) _
      refine own_pop (pc' := 129) B X117 at_128 rfl rfl ?_
      refine own_aload (pc' := 131) B X117 at_129 rfl rfl rfl ?_
      refine own_aload (pc' := 133) B X117 at_131 rfl rfl rfl ?_
      refine own_iconst (pc' := 134) B X117 (z := (2 : Int32)) at_133 rfl rfl ?_
      refine own_iaload (pc' := 135) B X117 V_b1 (v := (.int y8)) ⟨by decide, by decide⟩ rfl at_134 rfl ?_
      refine own_aload (pc' := 137) B X117 at_135 rfl rfl rfl ?_
      refine own_iconst (pc' := 138) B X117 (z := (3 : Int32)) at_137 rfl rfl ?_
      refine own_iaload (pc' := 139) B X117 V_b1 (v := (.int y11)) ⟨by decide, by decide⟩ rfl at_138 rfl ?_
      refine own_callV (pc' := 142) B X117 (own_w hw 17 rfl) (own_w hw 18 rfl) (own_w hw 20 rfl) (own_w hw 19 rfl) (own_w hw 4 rfl) (own_w hw 21 rfl) E_b109 (by decide) [(.int y8), (.int y11)] [] (rm_join l Z a0 hw [] b109 (own_R1 y2 y5) (own_S1 y2 y5) y8 y11 h117 n0 (Nat.le_trans Z0 K.1) AL g_b109 (own_in8 hy8) (own_in8 hy11)) 0 (by decide) (by decide) rfl pd_1 rfl rfl (Nat.le_of_eq rfl) at_139 rfl (k' := 11) (n' := 93) rfl rfl (by decide) (by decide) ?_
      intro T119 v119 h119 X119 q119
      clear AL
      obtain ⟨y120, rfl, K119, AL⟩ := q119
      replace AL : own_AL Z h119 b109 (own_R2 y2 y5 y8 y11) (own_S2 y2 y5 y8 y11) := AL
      replace V_b1 := K119.arv V_b1 lj
      replace E_b109 := own_AL.exa AL
      replace E_b1 := K119.exa E_b1
      replace K := own_Kk K K119 sz_b109
      show own_Go p e below (T119.setTop (mkF m 142 #[.val (.int i0), .val (.int i1), .val (.int i2), .val (.int i3), .val (.ref b1), .val (.int y21), .val (.int y108), .val (.ref b109), .unset, .unset, .unset, .unset, .unset] [(.int y120)])) _
      refine own_pop (pc' := 143) B X119 at_142 rfl rfl ?_
      refine own_aload (pc' := 145) B X119 at_143 rfl rfl rfl ?_
      refine own_aload (pc' := 147) B X119 at_145 rfl rfl rfl ?_
      refine own_iconst (pc' := 148) B X119 (z := (4 : Int32)) at_147 rfl rfl ?_
      refine own_iaload (pc' := 149) B X119 V_b1 (v := (.int y14)) ⟨by decide, by decide⟩ rfl at_148 rfl ?_
      refine own_aload (pc' := 151) B X119 at_149 rfl rfl rfl ?_
      refine own_iconst (pc' := 152) B X119 (z := (5 : Int32)) at_151 rfl rfl ?_
      refine own_iaload (pc' := 153) B X119 V_b1 (v := (.int y17)) ⟨by decide, by decide⟩ rfl at_152 rfl ?_
      refine own_callV (pc' := 156) B X119 (own_w hw 17 rfl) (own_w hw 18 rfl) (own_w hw 20 rfl) (own_w hw 19 rfl) (own_w hw 4 rfl) (own_w hw 21 rfl) E_b109 (by decide) [(.int y14), (.int y17)] [] (rm_join l Z a0 hw [] b109 (own_R2 y2 y5 y8 y11) (own_S2 y2 y5 y8 y11) y14 y17 h119 n0 (Nat.le_trans Z0 K.1) AL g_b109 (own_in8 hy14) (own_in8 hy17)) 0 (by decide) (by decide) rfl pd_1 rfl rfl (Nat.le_of_eq rfl) at_153 rfl (k' := 14) (n' := 135) rfl rfl (by decide) (by decide) ?_
      intro T121 v121 h121 X121 q121
      clear AL
      obtain ⟨y122, rfl, K121, AL⟩ := q121
      replace AL : own_AL Z h121 b109 (own_R3 y2 y5 y8 y11 y14 y17) (own_S3 y2 y5 y8 y11 y14 y17) := AL
      replace V_b1 := K121.arv V_b1 lj
      replace E_b109 := own_AL.exa AL
      replace E_b1 := K121.exa E_b1
      replace K := own_Kk K K121 sz_b109
      show own_Go p e below (T121.setTop (mkF m 156 #[.val (.int i0), .val (.int i1), .val (.int i2), .val (.int i3), .val (.ref b1), .val (.int y21), .val (.int y108), .val (.ref b109), .unset, .unset, .unset, .unset, .unset] [(.int y122)])) _
      refine own_pop (pc' := 157) B X121 at_156 rfl rfl ?_
      refine own_aload (pc' := 159) B X121 at_157 rfl rfl rfl ?_
      refine own_iload (pc' := 161) B X121 at_159 rfl rfl ?_
      refine own_callV (pc' := 164) B X121 (own_w hw 27 rfl) (own_w hw 23 rfl) (own_w hw 25 rfl) (own_w hw 24 rfl) (own_w hw 4 rfl) (own_w hw 26 rfl) E_b109 (by decide) [(.int y21)] [] (rm_rep l Z a0 hw [] b109 (own_R3 y2 y5 y8 y11 y14 y17) (own_S3 y2 y5 y8 y11 y14 y17) y21 h121 n0 AL g_b109 (own_nnM hy21)) 0 (by decide) (by decide) rfl pd_2 rfl rfl (Nat.le_of_eq rfl) at_161 rfl (k' := 14) (n' := 135) rfl rfl (by decide) (by decide) ?_
      intro T123 v123 h123 X123 q123
      clear AL
      obtain ⟨rfl, K123, AL⟩ := q123
      obtain ⟨y124, hy124⟩ : ∃ z : Int32, own_R3 y2 y5 y8 y11 y14 y17 y21 = z := ⟨_, rfl⟩
      rw [hy124]
      replace V_b1 := K123.arv V_b1 lj
      replace E_b109 := own_AL.exa AL
      replace E_b1 := K123.exa E_b1
      replace K := own_Kk K K123 sz_b109
      show own_Go p e below (T123.setTop (mkF m 164 #[.val (.int i0), .val (.int i1), .val (.int i2), .val (.int i3), .val (.ref b1), .val (.int y21), .val (.int y108), .val (.ref b109), .unset, .unset, .unset, .unset, .unset] [(.int y124)])) _
      refine own_istore (pc' := 166) B X123 (Ls' := #[.val (.int i0), .val (.int i1), .val (.int i2), .val (.int i3), .val (.ref b1), .val (.int y21), .val (.int y108), .val (.ref b109), .val (.int y124), .unset, .unset, .unset, .unset]) at_164 rfl rfl ?_
      refine own_aload (pc' := 168) B X123 at_166 rfl rfl rfl ?_
      refine own_iload (pc' := 170) B X123 at_168 rfl rfl ?_
      refine own_callV (pc' := 173) B X123 (own_w hw 27 rfl) (own_w hw 23 rfl) (own_w hw 25 rfl) (own_w hw 24 rfl) (own_w hw 4 rfl) (own_w hw 26 rfl) E_b109 (by decide) [(.int y108)] [] (rm_rep l Z a0 hw [] b109 (own_R3 y2 y5 y8 y11 y14 y17) (own_S3 y2 y5 y8 y11 y14 y17) y108 h123 n0 AL g_b109 (own_nn7 hy108)) 0 (by decide) (by decide) rfl pd_2 rfl rfl (Nat.le_of_eq rfl) at_170 rfl (k' := 14) (n' := 135) rfl rfl (by decide) (by decide) ?_
      intro T125 v125 h125 X125 q125
      clear AL
      obtain ⟨rfl, K125, AL⟩ := q125
      obtain ⟨y126, hy126⟩ : ∃ z : Int32, own_R3 y2 y5 y8 y11 y14 y17 y108 = z := ⟨_, rfl⟩
      rw [hy126]
      replace V_b1 := K125.arv V_b1 lj
      replace E_b109 := own_AL.exa AL
      replace E_b1 := K125.exa E_b1
      replace K := own_Kk K K125 sz_b109
      show own_Go p e below (T125.setTop (mkF m 173 #[.val (.int i0), .val (.int i1), .val (.int i2), .val (.int i3), .val (.ref b1), .val (.int y21), .val (.int y108), .val (.ref b109), .val (.int y124), .unset, .unset, .unset, .unset] [(.int y126)])) _
      refine own_istore (pc' := 175) B X125 (Ls' := #[.val (.int i0), .val (.int i1), .val (.int i2), .val (.int i3), .val (.ref b1), .val (.int y21), .val (.int y108), .val (.ref b109), .val (.int y124), .val (.int y126), .unset, .unset, .unset]) at_173 rfl rfl ?_
      refine own_aload (pc' := 177) B X125 at_175 rfl rfl rfl ?_
      refine own_iload (pc' := 179) B X125 at_177 rfl rfl ?_
      refine own_callV (pc' := 182) B X125 (own_w hw 27 rfl) (own_w hw 23 rfl) (own_w hw 25 rfl) (own_w hw 24 rfl) (own_w hw 4 rfl) (own_w hw 26 rfl) E_b109 (by decide) [(.int y21)] [] (rm_rep l Z a0 hw [] b109 (own_R3 y2 y5 y8 y11 y14 y17) (own_S3 y2 y5 y8 y11 y14 y17) y21 h125 n0 AL g_b109 (own_nnM hy21)) 0 (by decide) (by decide) rfl pd_2 rfl rfl (Nat.le_of_eq rfl) at_179 rfl (k' := 14) (n' := 135) rfl rfl (by decide) (by decide) ?_
      intro T127 v127 h127 X127 q127
      clear AL
      obtain ⟨rfl, K127, AL⟩ := q127
      rw [hy124]
      replace V_b1 := K127.arv V_b1 lj
      replace E_b109 := own_AL.exa AL
      replace E_b1 := K127.exa E_b1
      replace K := own_Kk K K127 sz_b109
      show own_Go p e below (T127.setTop (mkF m 182 #[.val (.int i0), .val (.int i1), .val (.int i2), .val (.int i3), .val (.ref b1), .val (.int y21), .val (.int y108), .val (.ref b109), .val (.int y124), .val (.int y126), .unset, .unset, .unset] [(.int y124)])) _
      refine own_istore (pc' := 184) B X127 (Ls' := #[.val (.int i0), .val (.int i1), .val (.int i2), .val (.int i3), .val (.ref b1), .val (.int y21), .val (.int y108), .val (.ref b109), .val (.int y124), .val (.int y126), .val (.int y124), .unset, .unset]) at_182 rfl rfl ?_
      refine own_aload (pc' := 186) B X127 at_184 rfl rfl rfl ?_
      refine own_iload (pc' := 188) B X127 at_186 rfl rfl ?_
      refine own_callS (pc' := 191) B X127 (own_w hw 28 rfl) (own_w hw 29 rfl) (own_w hw 30 rfl) (own_w hw 31 rfl) (by decide) [(.ref b1), (.int y21)] [] (rm_2 l Z a0 hw [] b1 kb1 (y2) (y5) (y8) (y11) (y14) (y17) (y21) h127 n0 (Nat.le_trans Z0 K.1) E_b1 V_b1 g_b1) 0 (by decide) (by decide) rfl pd_4 rfl rfl (Nat.le_of_eq rfl) at_188 rfl (k' := 14) (n' := 135) rfl rfl (by decide) (by decide) ?_
      intro T128 v128 h128 X128 q128
      obtain ⟨y129, y130, y131, y132, y133, y134, y135, y136, y137, y138, y139, y140, y141, y142, y143, hy144, hy145, hy146, hy147, hy148, hy149, hy150, hy151, hy152, hy153, hy154, hy155, hy156, hy157, hy158, rfl, rfl⟩ := q128
      show own_Go p e below (T128.setTop (mkF m 191 #[.val (.int i0), .val (.int i1), .val (.int i2), .val (.int i3), .val (.ref b1), .val (.int y21), .val (.int y108), .val (.ref b109), .val (.int y124), .val (.int y126), .val (.int y124), .unset, .unset] [(.int y143)])) _
      refine own_istore (pc' := 193) B X128 (Ls' := #[.val (.int i0), .val (.int i1), .val (.int i2), .val (.int i3), .val (.ref b1), .val (.int y21), .val (.int y108), .val (.ref b109), .val (.int y124), .val (.int y126), .val (.int y124), .val (.int y143), .unset]) at_191 rfl rfl ?_
      refine own_aload (pc' := 195) B X128 at_193 rfl rfl rfl ?_
      refine own_iload (pc' := 197) B X128 at_195 rfl rfl ?_
      refine own_callS (pc' := 200) B X128 (own_w hw 28 rfl) (own_w hw 29 rfl) (own_w hw 30 rfl) (own_w hw 31 rfl) (by decide) [(.ref b1), (.int y108)] [] (rm_2 l Z a0 hw [] b1 kb1 (y2) (y5) (y8) (y11) (y14) (y17) (y108) h127 n0 (Nat.le_trans Z0 K.1) E_b1 V_b1 g_b1) 0 (by decide) (by decide) rfl pd_4 rfl rfl (Nat.le_of_eq rfl) at_197 rfl (k' := 14) (n' := 135) rfl rfl (by decide) (by decide) ?_
      intro T159 v159 h159 X159 q159
      obtain ⟨y160, y161, y162, y163, y164, y165, y166, y167, y168, y169, y170, y171, y172, y173, y174, hy175, hy176, hy177, hy178, hy179, hy180, hy181, hy182, hy183, hy184, hy185, hy186, hy187, hy188, hy189, rfl, rfl⟩ := q159
      obtain rfl : y130 = y161 := (hy145 : own_F_step y8 y2 y5 (1 : Int32) (1 : Int32) = y130).symm.trans hy176
      obtain rfl : y131 = y162 := (hy146 : own_F_step y11 y2 y5 (1 : Int32) (1 : Int32) = y131).symm.trans hy177
      obtain rfl : y132 = y163 := (hy147 : own_F_grown y8 (1 : Int32) y2 y5 (1 : Int32) (1 : Int32) = y132).symm.trans hy178
      obtain rfl : y133 = y164 := (hy148 : own_F_grown y11 (1 : Int32) y2 y5 (1 : Int32) (1 : Int32) = y133).symm.trans hy179
      obtain rfl : y135 = y166 := (hy150 : own_F_step y14 y2 y5 (1 : Int32) (1 : Int32) = y135).symm.trans hy181
      obtain rfl : y136 = y167 := (hy151 : own_F_step y135 y130 y131 y132 y133 = y136).symm.trans hy182
      obtain rfl : y137 = y168 := (hy152 : own_F_step y17 y2 y5 (1 : Int32) (1 : Int32) = y137).symm.trans hy183
      obtain rfl : y138 = y169 := (hy153 : own_F_step y137 y130 y131 y132 y133 = y138).symm.trans hy184
      obtain rfl : y139 = y170 := (hy154 : own_F_grown y14 (1 : Int32) y2 y5 (1 : Int32) (1 : Int32) = y139).symm.trans hy185
      obtain rfl : y140 = y171 := (hy155 : own_F_grown y135 y139 y130 y131 y132 y133 = y140).symm.trans hy186
      obtain rfl : y141 = y172 := (hy156 : own_F_grown y17 (1 : Int32) y2 y5 (1 : Int32) (1 : Int32) = y141).symm.trans hy187
      obtain rfl : y142 = y173 := (hy157 : own_F_grown y137 y141 y130 y131 y132 y133 = y142).symm.trans hy188
      show own_Go p e below (T159.setTop (mkF m 200 #[.val (.int i0), .val (.int i1), .val (.int i2), .val (.int i3), .val (.ref b1), .val (.int y21), .val (.int y108), .val (.ref b109), .val (.int y124), .val (.int y126), .val (.int y124), .val (.int y143), .unset] [(.int y174)])) _
      refine own_istore (pc' := 202) B X159 (Ls' := #[.val (.int i0), .val (.int i1), .val (.int i2), .val (.int i3), .val (.ref b1), .val (.int y21), .val (.int y108), .val (.ref b109), .val (.int y124), .val (.int y126), .val (.int y124), .val (.int y143), .val (.int y174)]) at_200 rfl rfl ?_
      refine own_iload (pc' := 204) B X159 at_202 rfl rfl ?_
      refine own_iload (pc' := 206) B X159 at_204 rfl rfl ?_
      have c190 : y124 = y143 := by
        subst hy124 hy126 hy144 hy145 hy146 hy147 hy148 hy149 hy150 hy151 hy152 hy153 hy154 hy155 hy156 hy157 hy158 hy175 hy180 hy189
        rfl
      refine own_icmpNo (pc' := 209) B X159 at_206 (teq c190).2 rfl ?_
      refine own_iload (pc' := 211) B X159 at_209 rfl rfl ?_
      refine own_iload (pc' := 213) B X159 at_211 rfl rfl ?_
      have c191 : y126 = y174 := by
        subst hy124 hy126 hy144 hy145 hy146 hy147 hy148 hy149 hy150 hy151 hy152 hy153 hy154 hy155 hy156 hy157 hy158 hy175 hy180 hy189
        rfl
      refine own_icmpNo (pc' := 216) B X159 at_213 (teq c191).2 rfl ?_
      refine own_iload (pc' := 218) B X159 at_216 rfl rfl ?_
      refine own_iload (pc' := 220) B X159 at_218 rfl rfl ?_
      refine own_icmpNo (pc' := 223) B X159 at_220 (teq c190).2 rfl ?_
      refine own_iconst (pc' := 224) B X159 (z := (1 : Int32)) at_223 rfl rfl ?_
      refine own_goto (pc' := 228) B X159 at_224 (by decide) rfl ?_
      exact own_retN B X159 (t := .boolean) (z' := (1 : Int32)) (by simp) (by decide) at_228 (by decide) (by decide) rfl
  · refine own_ifNo (pc' := 74) B X18 at_71 ((if0 _ _).trans (feq c20).1) rfl ?_
    refine own_iloadN (pc' := 75) B X18 at_74 rfl rfl ?_
    refine own_bipush (pc' := 77) B X18 (z := (7 : Int32)) at_75 rfl (by decide) ?_
    obtain ⟨y192, hy192⟩ : ∃ z : Int32, i1 &&& (7 : Int32) = z := ⟨_, rfl⟩
    refine own_iand (pc' := 78) B X18 at_77 rfl hy192 ?_
    refine own_goto (pc' := 85) B X18 at_78 (by decide) rfl ?_
    refine own_istore (pc' := 87) B X18 (Ls' := #[.val (.int i0), .val (.int i1), .val (.int i2), .val (.int i3), .val (.ref b1), .val (.int y192), .unset, .unset, .unset, .unset, .unset, .unset, .unset]) at_85 rfl rfl ?_
    refine own_iloadN (pc' := 88) B X18 at_87 rfl rfl ?_
    refine own_iconst (pc' := 89) B X18 (z := (2 : Int32)) at_88 rfl rfl ?_
    obtain ⟨y193, hy193⟩ : ∃ z : Int32, i3 &&& (2 : Int32) = z := ⟨_, rfl⟩
    refine own_iand (pc' := 90) B X18 at_89 rfl hy193 ?_
    by_cases c194 : y193 = (0 : Int32)
    · refine own_ifYes (pc' := 100) B X18 at_90 ((if0 _ _).trans (teq c194).1) (by decide) rfl ?_
      refine own_iloadN (pc' := 101) B X18 at_100 rfl rfl ?_
      refine own_ldcI (pc' := 103) B X18 (own_w hw 1 rfl) at_101 rfl ?_
      obtain ⟨y195, hy195⟩ : ∃ z : Int32, i2 &&& (2147483647 : Int32) = z := ⟨_, rfl⟩
      refine own_iand (pc' := 104) B X18 at_103 rfl hy195 ?_
      refine own_istore (pc' := 106) B X18 (Ls' := #[.val (.int i0), .val (.int i1), .val (.int i2), .val (.int i3), .val (.ref b1), .val (.int y192), .val (.int y195), .unset, .unset, .unset, .unset, .unset, .unset]) at_104 rfl rfl ?_
      have ltj := V_b1.lt
      refine own_new (pc' := 109) B X18 (own_w hw 2 rfl) (own_w hw 3 rfl) (own_w hw 4 rfl) at_106 rfl (k' := 2) (n' := 9) rfl rfl (by decide) (by decide) ?_
      intro T196 h196 b196 X196 g196 E196 E_b196 D196
      have ne_b1_b196 : b1 ≠ b196 := own_ne E_b1.lt g196
      have sz_b196 : h0.size ≤ b196 := own_sz K g196
      have g_b196 : n0 ≤ b196 := Nat.le_trans Z0 sz_b196
      replace K := K.ext E196
      replace E_b1 := E_b1.ext E196
      replace V_b1 := V_b1.ext E196
      have F_b196_parents : Fld Z h196 b196 "com/example/ordal/ordal/Aliases" "parents" "[I" .null := D196 (Or.inl (own_w hw 12 rfl)) (ty := (.array .int)) (by decide)
      have F_b196_sizes : Fld Z h196 b196 "com/example/ordal/ordal/Aliases" "sizes" "[I" .null := D196 (Or.inl (own_w hw 14 rfl)) (ty := (.array .int)) (by decide)
      have F_b196_rings : Fld Z h196 b196 "com/example/ordal/ordal/Aliases" "rings" "[I" .null := D196 (Or.inl (own_w hw 16 rfl)) (ty := (.array .int)) (by decide)
      clear D196
      refine own_dup (pc' := 110) B X196 at_109 rfl rfl ?_
      refine own_callI (pc' := 113) B X196 rfl rfl (own_w hw 5 rfl) (own_w hw 6 rfl) (own_w hw 4 rfl) (own_w hw 7 rfl) (by decide) [] [(.ref b196)] (rm_1 l Z a0 hw [] b196 h196 n0 (Nat.le_trans Z0 K.1) E_b196 F_b196_parents F_b196_sizes F_b196_rings g_b196) 1 (by decide) (by decide) rfl pd_0 rfl rfl (Nat.le_of_eq rfl) at_110 rfl (k' := 5) (n' := 9) rfl rfl (by decide) (by decide) ?_
      intro T197 v197 h197 X197 q197
      have lt_b1 := E_b1.lt
      have lt_b196 := E_b196.lt
      obtain ⟨b198, k199, b200, k201, b202, k203, rfl, K197, z_b198, z_b200, z_b202, ne_b198_b200, ne_b198_b202, ne_b200_b202, E_b196, F_b196_parents, F_b196_sizes, F_b196_rings, E_b198, V_b198, E_b200, V_b200, E_b202, V_b202⟩ := q197
      have ne_b1_b198 : b1 ≠ b198 := own_ne' lt_b1 z_b198
      have ne_b196_b198 : b196 ≠ b198 := own_ne' lt_b196 z_b198
      have sz_b198 : h0.size ≤ b198 := Nat.le_trans K.1 z_b198
      have g_b198 : n0 ≤ b198 := Nat.le_trans Z0 sz_b198
      have ne_b1_b200 : b1 ≠ b200 := own_ne' lt_b1 z_b200
      have ne_b196_b200 : b196 ≠ b200 := own_ne' lt_b196 z_b200
      have sz_b200 : h0.size ≤ b200 := Nat.le_trans K.1 z_b200
      have g_b200 : n0 ≤ b200 := Nat.le_trans Z0 sz_b200
      have ne_b1_b202 : b1 ≠ b202 := own_ne' lt_b1 z_b202
      have ne_b196_b202 : b196 ≠ b202 := own_ne' lt_b196 z_b202
      have sz_b202 : h0.size ≤ b202 := Nat.le_trans K.1 z_b202
      have g_b202 : n0 ≤ b202 := Nat.le_trans Z0 sz_b202
      replace K := K.trans K197 (allS (Or.inr sz_b196) all0)
      replace E_b1 := E_b1.keep K197
      replace V_b1 := V_b1.keep K197 (ninS ne_b1_b196 nin0)
      show own_Go p e below (T197.setTop (mkF m 113 #[.val (.int i0), .val (.int i1), .val (.int i2), .val (.int i3), .val (.ref b1), .val (.int y192), .val (.int y195), .unset, .unset, .unset, .unset, .unset, .unset] [(.ref b196)])) _
      refine own_astore (pc' := 115) B X197 (Ls' := #[.val (.int i0), .val (.int i1), .val (.int i2), .val (.int i3), .val (.ref b1), .val (.int y192), .val (.int y195), .val (.ref b196), .unset, .unset, .unset, .unset, .unset]) at_113 rfl rfl rfl ?_
      refine own_aload (pc' := 117) B X197 at_115 rfl rfl rfl ?_
      refine own_aload (pc' := 119) B X197 at_117 rfl rfl rfl ?_
      refine own_iconst (pc' := 120) B X197 (z := (0 : Int32)) at_119 rfl rfl ?_
      refine own_iaload (pc' := 121) B X197 V_b1 (v := (.int y2)) ⟨by decide, by decide⟩ rfl at_120 rfl ?_
      refine own_aload (pc' := 123) B X197 at_121 rfl rfl rfl ?_
      refine own_iconst (pc' := 124) B X197 (z := (1 : Int32)) at_123 rfl rfl ?_
      refine own_iaload (pc' := 125) B X197 V_b1 (v := (.int y5)) ⟨by decide, by decide⟩ rfl at_124 rfl ?_
      have AL : own_AL Z h197 b196 (fun x => x) (fun _ => 1) := ⟨b198, b200, b202, 0, fun x => x, fun _ => 1, fun _ => 0, 0, ⟨E_b196, F_b196_parents, F_b196_sizes, F_b196_rings, own_Fn.zero V_b198, own_Fn.zero V_b200, own_Fn.zero V_b202, Nat.lt_of_lt_of_le lt_b196 z_b198, Nat.lt_of_lt_of_le lt_b196 z_b200, Nat.lt_of_lt_of_le lt_b196 z_b202, ne_b198_b200, ne_b198_b202, ne_b200_b202⟩, own_inv0⟩
      have lj : b1 < b196 := g196 ▸ ltj
      refine own_callV (pc' := 128) B X197 (own_w hw 17 rfl) (own_w hw 18 rfl) (own_w hw 20 rfl) (own_w hw 19 rfl) (own_w hw 4 rfl) (own_w hw 21 rfl) E_b196 (by decide) [(.int y2), (.int y5)] [] (rm_join l Z a0 hw [] b196 (fun x => x) (fun _ => 1) y2 y5 h197 n0 (Nat.le_trans Z0 K.1) AL g_b196 (own_in8 hy2) (own_in8 hy5)) 0 (by decide) (by decide) rfl pd_1 rfl rfl (Nat.le_of_eq rfl) at_125 rfl (k' := 8) (n' := 51) rfl rfl (by decide) (by decide) ?_
      intro T204 v204 h204 X204 q204
      clear AL
      obtain ⟨y205, rfl, K204, AL⟩ := q204
      replace AL : own_AL Z h204 b196 (own_R1 y2 y5) (own_S1 y2 y5) := AL
      replace V_b1 := K204.arv V_b1 lj
      replace E_b196 := own_AL.exa AL
      replace E_b1 := K204.exa E_b1
      replace K := own_Kk K K204 sz_b196
      show own_Go p e below (T204.setTop (mkF m 128 #[.val (.int i0), .val (.int i1), .val (.int i2), .val (.int i3), .val (.ref b1), .val (.int y192), .val (.int y195), .val (.ref b196), .unset, .unset, .unset, .unset, .unset] [(.int y205)])) _
      refine own_pop (pc' := 129) B X204 at_128 rfl rfl ?_
      refine own_aload (pc' := 131) B X204 at_129 rfl rfl rfl ?_
      refine own_aload (pc' := 133) B X204 at_131 rfl rfl rfl ?_
      refine own_iconst (pc' := 134) B X204 (z := (2 : Int32)) at_133 rfl rfl ?_
      refine own_iaload (pc' := 135) B X204 V_b1 (v := (.int y8)) ⟨by decide, by decide⟩ rfl at_134 rfl ?_
      refine own_aload (pc' := 137) B X204 at_135 rfl rfl rfl ?_
      refine own_iconst (pc' := 138) B X204 (z := (3 : Int32)) at_137 rfl rfl ?_
      refine own_iaload (pc' := 139) B X204 V_b1 (v := (.int y11)) ⟨by decide, by decide⟩ rfl at_138 rfl ?_
      refine own_callV (pc' := 142) B X204 (own_w hw 17 rfl) (own_w hw 18 rfl) (own_w hw 20 rfl) (own_w hw 19 rfl) (own_w hw 4 rfl) (own_w hw 21 rfl) E_b196 (by decide) [(.int y8), (.int y11)] [] (rm_join l Z a0 hw [] b196 (own_R1 y2 y5) (own_S1 y2 y5) y8 y11 h204 n0 (Nat.le_trans Z0 K.1) AL g_b196 (own_in8 hy8) (own_in8 hy11)) 0 (by decide) (by decide) rfl pd_1 rfl rfl (Nat.le_of_eq rfl) at_139 rfl (k' := 11) (n' := 93) rfl rfl (by decide) (by decide) ?_
      intro T206 v206 h206 X206 q206
      clear AL
      obtain ⟨y207, rfl, K206, AL⟩ := q206
      replace AL : own_AL Z h206 b196 (own_R2 y2 y5 y8 y11) (own_S2 y2 y5 y8 y11) := AL
      replace V_b1 := K206.arv V_b1 lj
      replace E_b196 := own_AL.exa AL
      replace E_b1 := K206.exa E_b1
      replace K := own_Kk K K206 sz_b196
      show own_Go p e below (T206.setTop (mkF m 142 #[.val (.int i0), .val (.int i1), .val (.int i2), .val (.int i3), .val (.ref b1), .val (.int y192), .val (.int y195), .val (.ref b196), .unset, .unset, .unset, .unset, .unset] [(.int y207)])) _
      refine own_pop (pc' := 143) B X206 at_142 rfl rfl ?_
      refine own_aload (pc' := 145) B X206 at_143 rfl rfl rfl ?_
      refine own_aload (pc' := 147) B X206 at_145 rfl rfl rfl ?_
      refine own_iconst (pc' := 148) B X206 (z := (4 : Int32)) at_147 rfl rfl ?_
      refine own_iaload (pc' := 149) B X206 V_b1 (v := (.int y14)) ⟨by decide, by decide⟩ rfl at_148 rfl ?_
      refine own_aload (pc' := 151) B X206 at_149 rfl rfl rfl ?_
      refine own_iconst (pc' := 152) B X206 (z := (5 : Int32)) at_151 rfl rfl ?_
      refine own_iaload (pc' := 153) B X206 V_b1 (v := (.int y17)) ⟨by decide, by decide⟩ rfl at_152 rfl ?_
      refine own_callV (pc' := 156) B X206 (own_w hw 17 rfl) (own_w hw 18 rfl) (own_w hw 20 rfl) (own_w hw 19 rfl) (own_w hw 4 rfl) (own_w hw 21 rfl) E_b196 (by decide) [(.int y14), (.int y17)] [] (rm_join l Z a0 hw [] b196 (own_R2 y2 y5 y8 y11) (own_S2 y2 y5 y8 y11) y14 y17 h206 n0 (Nat.le_trans Z0 K.1) AL g_b196 (own_in8 hy14) (own_in8 hy17)) 0 (by decide) (by decide) rfl pd_1 rfl rfl (Nat.le_of_eq rfl) at_153 rfl (k' := 14) (n' := 135) rfl rfl (by decide) (by decide) ?_
      intro T208 v208 h208 X208 q208
      clear AL
      obtain ⟨y209, rfl, K208, AL⟩ := q208
      replace AL : own_AL Z h208 b196 (own_R3 y2 y5 y8 y11 y14 y17) (own_S3 y2 y5 y8 y11 y14 y17) := AL
      replace V_b1 := K208.arv V_b1 lj
      replace E_b196 := own_AL.exa AL
      replace E_b1 := K208.exa E_b1
      replace K := own_Kk K K208 sz_b196
      show own_Go p e below (T208.setTop (mkF m 156 #[.val (.int i0), .val (.int i1), .val (.int i2), .val (.int i3), .val (.ref b1), .val (.int y192), .val (.int y195), .val (.ref b196), .unset, .unset, .unset, .unset, .unset] [(.int y209)])) _
      refine own_pop (pc' := 157) B X208 at_156 rfl rfl ?_
      refine own_aload (pc' := 159) B X208 at_157 rfl rfl rfl ?_
      refine own_iload (pc' := 161) B X208 at_159 rfl rfl ?_
      refine own_callV (pc' := 164) B X208 (own_w hw 27 rfl) (own_w hw 23 rfl) (own_w hw 25 rfl) (own_w hw 24 rfl) (own_w hw 4 rfl) (own_w hw 26 rfl) E_b196 (by decide) [(.int y192)] [] (rm_rep l Z a0 hw [] b196 (own_R3 y2 y5 y8 y11 y14 y17) (own_S3 y2 y5 y8 y11 y14 y17) y192 h208 n0 AL g_b196 (own_nn7 hy192)) 0 (by decide) (by decide) rfl pd_2 rfl rfl (Nat.le_of_eq rfl) at_161 rfl (k' := 14) (n' := 135) rfl rfl (by decide) (by decide) ?_
      intro T210 v210 h210 X210 q210
      clear AL
      obtain ⟨rfl, K210, AL⟩ := q210
      obtain ⟨y211, hy211⟩ : ∃ z : Int32, own_R3 y2 y5 y8 y11 y14 y17 y192 = z := ⟨_, rfl⟩
      rw [hy211]
      replace V_b1 := K210.arv V_b1 lj
      replace E_b196 := own_AL.exa AL
      replace E_b1 := K210.exa E_b1
      replace K := own_Kk K K210 sz_b196
      show own_Go p e below (T210.setTop (mkF m 164 #[.val (.int i0), .val (.int i1), .val (.int i2), .val (.int i3), .val (.ref b1), .val (.int y192), .val (.int y195), .val (.ref b196), .unset, .unset, .unset, .unset, .unset] [(.int y211)])) _
      refine own_istore (pc' := 166) B X210 (Ls' := #[.val (.int i0), .val (.int i1), .val (.int i2), .val (.int i3), .val (.ref b1), .val (.int y192), .val (.int y195), .val (.ref b196), .val (.int y211), .unset, .unset, .unset, .unset]) at_164 rfl rfl ?_
      refine own_aload (pc' := 168) B X210 at_166 rfl rfl rfl ?_
      refine own_iload (pc' := 170) B X210 at_168 rfl rfl ?_
      refine own_callV (pc' := 173) B X210 (own_w hw 27 rfl) (own_w hw 23 rfl) (own_w hw 25 rfl) (own_w hw 24 rfl) (own_w hw 4 rfl) (own_w hw 26 rfl) E_b196 (by decide) [(.int y195)] [] (rm_rep l Z a0 hw [] b196 (own_R3 y2 y5 y8 y11 y14 y17) (own_S3 y2 y5 y8 y11 y14 y17) y195 h210 n0 AL g_b196 (own_nnM hy195)) 0 (by decide) (by decide) rfl pd_2 rfl rfl (Nat.le_of_eq rfl) at_170 rfl (k' := 14) (n' := 135) rfl rfl (by decide) (by decide) ?_
      intro T212 v212 h212 X212 q212
      clear AL
      obtain ⟨rfl, K212, AL⟩ := q212
      obtain ⟨y213, hy213⟩ : ∃ z : Int32, own_R3 y2 y5 y8 y11 y14 y17 y195 = z := ⟨_, rfl⟩
      rw [hy213]
      replace V_b1 := K212.arv V_b1 lj
      replace E_b196 := own_AL.exa AL
      replace E_b1 := K212.exa E_b1
      replace K := own_Kk K K212 sz_b196
      show own_Go p e below (T212.setTop (mkF m 173 #[.val (.int i0), .val (.int i1), .val (.int i2), .val (.int i3), .val (.ref b1), .val (.int y192), .val (.int y195), .val (.ref b196), .val (.int y211), .unset, .unset, .unset, .unset] [(.int y213)])) _
      refine own_istore (pc' := 175) B X212 (Ls' := #[.val (.int i0), .val (.int i1), .val (.int i2), .val (.int i3), .val (.ref b1), .val (.int y192), .val (.int y195), .val (.ref b196), .val (.int y211), .val (.int y213), .unset, .unset, .unset]) at_173 rfl rfl ?_
      refine own_aload (pc' := 177) B X212 at_175 rfl rfl rfl ?_
      refine own_iload (pc' := 179) B X212 at_177 rfl rfl ?_
      refine own_callV (pc' := 182) B X212 (own_w hw 27 rfl) (own_w hw 23 rfl) (own_w hw 25 rfl) (own_w hw 24 rfl) (own_w hw 4 rfl) (own_w hw 26 rfl) E_b196 (by decide) [(.int y192)] [] (rm_rep l Z a0 hw [] b196 (own_R3 y2 y5 y8 y11 y14 y17) (own_S3 y2 y5 y8 y11 y14 y17) y192 h212 n0 AL g_b196 (own_nn7 hy192)) 0 (by decide) (by decide) rfl pd_2 rfl rfl (Nat.le_of_eq rfl) at_179 rfl (k' := 14) (n' := 135) rfl rfl (by decide) (by decide) ?_
      intro T214 v214 h214 X214 q214
      clear AL
      obtain ⟨rfl, K214, AL⟩ := q214
      rw [hy211]
      replace V_b1 := K214.arv V_b1 lj
      replace E_b196 := own_AL.exa AL
      replace E_b1 := K214.exa E_b1
      replace K := own_Kk K K214 sz_b196
      show own_Go p e below (T214.setTop (mkF m 182 #[.val (.int i0), .val (.int i1), .val (.int i2), .val (.int i3), .val (.ref b1), .val (.int y192), .val (.int y195), .val (.ref b196), .val (.int y211), .val (.int y213), .unset, .unset, .unset] [(.int y211)])) _
      refine own_istore (pc' := 184) B X214 (Ls' := #[.val (.int i0), .val (.int i1), .val (.int i2), .val (.int i3), .val (.ref b1), .val (.int y192), .val (.int y195), .val (.ref b196), .val (.int y211), .val (.int y213), .val (.int y211), .unset, .unset]) at_182 rfl rfl ?_
      refine own_aload (pc' := 186) B X214 at_184 rfl rfl rfl ?_
      refine own_iload (pc' := 188) B X214 at_186 rfl rfl ?_
      refine own_callS (pc' := 191) B X214 (own_w hw 28 rfl) (own_w hw 29 rfl) (own_w hw 30 rfl) (own_w hw 31 rfl) (by decide) [(.ref b1), (.int y192)] [] (rm_2 l Z a0 hw [] b1 kb1 (y2) (y5) (y8) (y11) (y14) (y17) (y192) h214 n0 (Nat.le_trans Z0 K.1) E_b1 V_b1 g_b1) 0 (by decide) (by decide) rfl pd_4 rfl rfl (Nat.le_of_eq rfl) at_188 rfl (k' := 14) (n' := 135) rfl rfl (by decide) (by decide) ?_
      intro T215 v215 h215 X215 q215
      obtain ⟨y216, y217, y218, y219, y220, y221, y222, y223, y224, y225, y226, y227, y228, y229, y230, hy231, hy232, hy233, hy234, hy235, hy236, hy237, hy238, hy239, hy240, hy241, hy242, hy243, hy244, hy245, rfl, rfl⟩ := q215
      show own_Go p e below (T215.setTop (mkF m 191 #[.val (.int i0), .val (.int i1), .val (.int i2), .val (.int i3), .val (.ref b1), .val (.int y192), .val (.int y195), .val (.ref b196), .val (.int y211), .val (.int y213), .val (.int y211), .unset, .unset] [(.int y230)])) _
      refine own_istore (pc' := 193) B X215 (Ls' := #[.val (.int i0), .val (.int i1), .val (.int i2), .val (.int i3), .val (.ref b1), .val (.int y192), .val (.int y195), .val (.ref b196), .val (.int y211), .val (.int y213), .val (.int y211), .val (.int y230), .unset]) at_191 rfl rfl ?_
      refine own_aload (pc' := 195) B X215 at_193 rfl rfl rfl ?_
      refine own_iload (pc' := 197) B X215 at_195 rfl rfl ?_
      refine own_callS (pc' := 200) B X215 (own_w hw 28 rfl) (own_w hw 29 rfl) (own_w hw 30 rfl) (own_w hw 31 rfl) (by decide) [(.ref b1), (.int y195)] [] (rm_2 l Z a0 hw [] b1 kb1 (y2) (y5) (y8) (y11) (y14) (y17) (y195) h214 n0 (Nat.le_trans Z0 K.1) E_b1 V_b1 g_b1) 0 (by decide) (by decide) rfl pd_4 rfl rfl (Nat.le_of_eq rfl) at_197 rfl (k' := 14) (n' := 135) rfl rfl (by decide) (by decide) ?_
      intro T246 v246 h246 X246 q246
      obtain ⟨y247, y248, y249, y250, y251, y252, y253, y254, y255, y256, y257, y258, y259, y260, y261, hy262, hy263, hy264, hy265, hy266, hy267, hy268, hy269, hy270, hy271, hy272, hy273, hy274, hy275, hy276, rfl, rfl⟩ := q246
      obtain rfl : y217 = y248 := (hy232 : own_F_step y8 y2 y5 (1 : Int32) (1 : Int32) = y217).symm.trans hy263
      obtain rfl : y218 = y249 := (hy233 : own_F_step y11 y2 y5 (1 : Int32) (1 : Int32) = y218).symm.trans hy264
      obtain rfl : y219 = y250 := (hy234 : own_F_grown y8 (1 : Int32) y2 y5 (1 : Int32) (1 : Int32) = y219).symm.trans hy265
      obtain rfl : y220 = y251 := (hy235 : own_F_grown y11 (1 : Int32) y2 y5 (1 : Int32) (1 : Int32) = y220).symm.trans hy266
      obtain rfl : y222 = y253 := (hy237 : own_F_step y14 y2 y5 (1 : Int32) (1 : Int32) = y222).symm.trans hy268
      obtain rfl : y223 = y254 := (hy238 : own_F_step y222 y217 y218 y219 y220 = y223).symm.trans hy269
      obtain rfl : y224 = y255 := (hy239 : own_F_step y17 y2 y5 (1 : Int32) (1 : Int32) = y224).symm.trans hy270
      obtain rfl : y225 = y256 := (hy240 : own_F_step y224 y217 y218 y219 y220 = y225).symm.trans hy271
      obtain rfl : y226 = y257 := (hy241 : own_F_grown y14 (1 : Int32) y2 y5 (1 : Int32) (1 : Int32) = y226).symm.trans hy272
      obtain rfl : y227 = y258 := (hy242 : own_F_grown y222 y226 y217 y218 y219 y220 = y227).symm.trans hy273
      obtain rfl : y228 = y259 := (hy243 : own_F_grown y17 (1 : Int32) y2 y5 (1 : Int32) (1 : Int32) = y228).symm.trans hy274
      obtain rfl : y229 = y260 := (hy244 : own_F_grown y224 y228 y217 y218 y219 y220 = y229).symm.trans hy275
      show own_Go p e below (T246.setTop (mkF m 200 #[.val (.int i0), .val (.int i1), .val (.int i2), .val (.int i3), .val (.ref b1), .val (.int y192), .val (.int y195), .val (.ref b196), .val (.int y211), .val (.int y213), .val (.int y211), .val (.int y230), .unset] [(.int y261)])) _
      refine own_istore (pc' := 202) B X246 (Ls' := #[.val (.int i0), .val (.int i1), .val (.int i2), .val (.int i3), .val (.ref b1), .val (.int y192), .val (.int y195), .val (.ref b196), .val (.int y211), .val (.int y213), .val (.int y211), .val (.int y230), .val (.int y261)]) at_200 rfl rfl ?_
      refine own_iload (pc' := 204) B X246 at_202 rfl rfl ?_
      refine own_iload (pc' := 206) B X246 at_204 rfl rfl ?_
      have c277 : y211 = y230 := by
        subst hy211 hy213 hy231 hy232 hy233 hy234 hy235 hy236 hy237 hy238 hy239 hy240 hy241 hy242 hy243 hy244 hy245 hy262 hy267 hy276
        rfl
      refine own_icmpNo (pc' := 209) B X246 at_206 (teq c277).2 rfl ?_
      refine own_iload (pc' := 211) B X246 at_209 rfl rfl ?_
      refine own_iload (pc' := 213) B X246 at_211 rfl rfl ?_
      have c278 : y213 = y261 := by
        subst hy211 hy213 hy231 hy232 hy233 hy234 hy235 hy236 hy237 hy238 hy239 hy240 hy241 hy242 hy243 hy244 hy245 hy262 hy267 hy276
        rfl
      refine own_icmpNo (pc' := 216) B X246 at_213 (teq c278).2 rfl ?_
      refine own_iload (pc' := 218) B X246 at_216 rfl rfl ?_
      refine own_iload (pc' := 220) B X246 at_218 rfl rfl ?_
      refine own_icmpNo (pc' := 223) B X246 at_220 (teq c277).2 rfl ?_
      refine own_iconst (pc' := 224) B X246 (z := (1 : Int32)) at_223 rfl rfl ?_
      refine own_goto (pc' := 228) B X246 at_224 (by decide) rfl ?_
      exact own_retN B X246 (t := .boolean) (z' := (1 : Int32)) (by simp) (by decide) at_228 (by decide) (by decide) rfl
    · refine own_ifNo (pc' := 93) B X18 at_90 ((if0 _ _).trans (feq c194).1) rfl ?_
      refine own_iloadN (pc' := 94) B X18 at_93 rfl rfl ?_
      refine own_bipush (pc' := 96) B X18 (z := (7 : Int32)) at_94 rfl (by decide) ?_
      obtain ⟨y279, hy279⟩ : ∃ z : Int32, i2 &&& (7 : Int32) = z := ⟨_, rfl⟩
      refine own_iand (pc' := 97) B X18 at_96 rfl hy279 ?_
      refine own_goto (pc' := 104) B X18 at_97 (by decide) rfl ?_
      refine own_istore (pc' := 106) B X18 (Ls' := #[.val (.int i0), .val (.int i1), .val (.int i2), .val (.int i3), .val (.ref b1), .val (.int y192), .val (.int y279), .unset, .unset, .unset, .unset, .unset, .unset]) at_104 rfl rfl ?_
      have ltj := V_b1.lt
      refine own_new (pc' := 109) B X18 (own_w hw 2 rfl) (own_w hw 3 rfl) (own_w hw 4 rfl) at_106 rfl (k' := 2) (n' := 9) rfl rfl (by decide) (by decide) ?_
      intro T280 h280 b280 X280 g280 E280 E_b280 D280
      have ne_b1_b280 : b1 ≠ b280 := own_ne E_b1.lt g280
      have sz_b280 : h0.size ≤ b280 := own_sz K g280
      have g_b280 : n0 ≤ b280 := Nat.le_trans Z0 sz_b280
      replace K := K.ext E280
      replace E_b1 := E_b1.ext E280
      replace V_b1 := V_b1.ext E280
      have F_b280_parents : Fld Z h280 b280 "com/example/ordal/ordal/Aliases" "parents" "[I" .null := D280 (Or.inl (own_w hw 12 rfl)) (ty := (.array .int)) (by decide)
      have F_b280_sizes : Fld Z h280 b280 "com/example/ordal/ordal/Aliases" "sizes" "[I" .null := D280 (Or.inl (own_w hw 14 rfl)) (ty := (.array .int)) (by decide)
      have F_b280_rings : Fld Z h280 b280 "com/example/ordal/ordal/Aliases" "rings" "[I" .null := D280 (Or.inl (own_w hw 16 rfl)) (ty := (.array .int)) (by decide)
      clear D280
      refine own_dup (pc' := 110) B X280 at_109 rfl rfl ?_
      refine own_callI (pc' := 113) B X280 rfl rfl (own_w hw 5 rfl) (own_w hw 6 rfl) (own_w hw 4 rfl) (own_w hw 7 rfl) (by decide) [] [(.ref b280)] (rm_1 l Z a0 hw [] b280 h280 n0 (Nat.le_trans Z0 K.1) E_b280 F_b280_parents F_b280_sizes F_b280_rings g_b280) 1 (by decide) (by decide) rfl pd_0 rfl rfl (Nat.le_of_eq rfl) at_110 rfl (k' := 5) (n' := 9) rfl rfl (by decide) (by decide) ?_
      intro T281 v281 h281 X281 q281
      have lt_b1 := E_b1.lt
      have lt_b280 := E_b280.lt
      obtain ⟨b282, k283, b284, k285, b286, k287, rfl, K281, z_b282, z_b284, z_b286, ne_b282_b284, ne_b282_b286, ne_b284_b286, E_b280, F_b280_parents, F_b280_sizes, F_b280_rings, E_b282, V_b282, E_b284, V_b284, E_b286, V_b286⟩ := q281
      have ne_b1_b282 : b1 ≠ b282 := own_ne' lt_b1 z_b282
      have ne_b280_b282 : b280 ≠ b282 := own_ne' lt_b280 z_b282
      have sz_b282 : h0.size ≤ b282 := Nat.le_trans K.1 z_b282
      have g_b282 : n0 ≤ b282 := Nat.le_trans Z0 sz_b282
      have ne_b1_b284 : b1 ≠ b284 := own_ne' lt_b1 z_b284
      have ne_b280_b284 : b280 ≠ b284 := own_ne' lt_b280 z_b284
      have sz_b284 : h0.size ≤ b284 := Nat.le_trans K.1 z_b284
      have g_b284 : n0 ≤ b284 := Nat.le_trans Z0 sz_b284
      have ne_b1_b286 : b1 ≠ b286 := own_ne' lt_b1 z_b286
      have ne_b280_b286 : b280 ≠ b286 := own_ne' lt_b280 z_b286
      have sz_b286 : h0.size ≤ b286 := Nat.le_trans K.1 z_b286
      have g_b286 : n0 ≤ b286 := Nat.le_trans Z0 sz_b286
      replace K := K.trans K281 (allS (Or.inr sz_b280) all0)
      replace E_b1 := E_b1.keep K281
      replace V_b1 := V_b1.keep K281 (ninS ne_b1_b280 nin0)
      show own_Go p e below (T281.setTop (mkF m 113 #[.val (.int i0), .val (.int i1), .val (.int i2), .val (.int i3), .val (.ref b1), .val (.int y192), .val (.int y279), .unset, .unset, .unset, .unset, .unset, .unset] [(.ref b280)])) _
      refine own_astore (pc' := 115) B X281 (Ls' := #[.val (.int i0), .val (.int i1), .val (.int i2), .val (.int i3), .val (.ref b1), .val (.int y192), .val (.int y279), .val (.ref b280), .unset, .unset, .unset, .unset, .unset]) at_113 rfl rfl rfl ?_
      refine own_aload (pc' := 117) B X281 at_115 rfl rfl rfl ?_
      refine own_aload (pc' := 119) B X281 at_117 rfl rfl rfl ?_
      refine own_iconst (pc' := 120) B X281 (z := (0 : Int32)) at_119 rfl rfl ?_
      refine own_iaload (pc' := 121) B X281 V_b1 (v := (.int y2)) ⟨by decide, by decide⟩ rfl at_120 rfl ?_
      refine own_aload (pc' := 123) B X281 at_121 rfl rfl rfl ?_
      refine own_iconst (pc' := 124) B X281 (z := (1 : Int32)) at_123 rfl rfl ?_
      refine own_iaload (pc' := 125) B X281 V_b1 (v := (.int y5)) ⟨by decide, by decide⟩ rfl at_124 rfl ?_
      have AL : own_AL Z h281 b280 (fun x => x) (fun _ => 1) := ⟨b282, b284, b286, 0, fun x => x, fun _ => 1, fun _ => 0, 0, ⟨E_b280, F_b280_parents, F_b280_sizes, F_b280_rings, own_Fn.zero V_b282, own_Fn.zero V_b284, own_Fn.zero V_b286, Nat.lt_of_lt_of_le lt_b280 z_b282, Nat.lt_of_lt_of_le lt_b280 z_b284, Nat.lt_of_lt_of_le lt_b280 z_b286, ne_b282_b284, ne_b282_b286, ne_b284_b286⟩, own_inv0⟩
      have lj : b1 < b280 := g280 ▸ ltj
      refine own_callV (pc' := 128) B X281 (own_w hw 17 rfl) (own_w hw 18 rfl) (own_w hw 20 rfl) (own_w hw 19 rfl) (own_w hw 4 rfl) (own_w hw 21 rfl) E_b280 (by decide) [(.int y2), (.int y5)] [] (rm_join l Z a0 hw [] b280 (fun x => x) (fun _ => 1) y2 y5 h281 n0 (Nat.le_trans Z0 K.1) AL g_b280 (own_in8 hy2) (own_in8 hy5)) 0 (by decide) (by decide) rfl pd_1 rfl rfl (Nat.le_of_eq rfl) at_125 rfl (k' := 8) (n' := 51) rfl rfl (by decide) (by decide) ?_
      intro T288 v288 h288 X288 q288
      clear AL
      obtain ⟨y289, rfl, K288, AL⟩ := q288
      replace AL : own_AL Z h288 b280 (own_R1 y2 y5) (own_S1 y2 y5) := AL
      replace V_b1 := K288.arv V_b1 lj
      replace E_b280 := own_AL.exa AL
      replace E_b1 := K288.exa E_b1
      replace K := own_Kk K K288 sz_b280
      show own_Go p e below (T288.setTop (mkF m 128 #[.val (.int i0), .val (.int i1), .val (.int i2), .val (.int i3), .val (.ref b1), .val (.int y192), .val (.int y279), .val (.ref b280), .unset, .unset, .unset, .unset, .unset] [(.int y289)])) _
      refine own_pop (pc' := 129) B X288 at_128 rfl rfl ?_
      refine own_aload (pc' := 131) B X288 at_129 rfl rfl rfl ?_
      refine own_aload (pc' := 133) B X288 at_131 rfl rfl rfl ?_
      refine own_iconst (pc' := 134) B X288 (z := (2 : Int32)) at_133 rfl rfl ?_
      refine own_iaload (pc' := 135) B X288 V_b1 (v := (.int y8)) ⟨by decide, by decide⟩ rfl at_134 rfl ?_
      refine own_aload (pc' := 137) B X288 at_135 rfl rfl rfl ?_
      refine own_iconst (pc' := 138) B X288 (z := (3 : Int32)) at_137 rfl rfl ?_
      refine own_iaload (pc' := 139) B X288 V_b1 (v := (.int y11)) ⟨by decide, by decide⟩ rfl at_138 rfl ?_
      refine own_callV (pc' := 142) B X288 (own_w hw 17 rfl) (own_w hw 18 rfl) (own_w hw 20 rfl) (own_w hw 19 rfl) (own_w hw 4 rfl) (own_w hw 21 rfl) E_b280 (by decide) [(.int y8), (.int y11)] [] (rm_join l Z a0 hw [] b280 (own_R1 y2 y5) (own_S1 y2 y5) y8 y11 h288 n0 (Nat.le_trans Z0 K.1) AL g_b280 (own_in8 hy8) (own_in8 hy11)) 0 (by decide) (by decide) rfl pd_1 rfl rfl (Nat.le_of_eq rfl) at_139 rfl (k' := 11) (n' := 93) rfl rfl (by decide) (by decide) ?_
      intro T290 v290 h290 X290 q290
      clear AL
      obtain ⟨y291, rfl, K290, AL⟩ := q290
      replace AL : own_AL Z h290 b280 (own_R2 y2 y5 y8 y11) (own_S2 y2 y5 y8 y11) := AL
      replace V_b1 := K290.arv V_b1 lj
      replace E_b280 := own_AL.exa AL
      replace E_b1 := K290.exa E_b1
      replace K := own_Kk K K290 sz_b280
      show own_Go p e below (T290.setTop (mkF m 142 #[.val (.int i0), .val (.int i1), .val (.int i2), .val (.int i3), .val (.ref b1), .val (.int y192), .val (.int y279), .val (.ref b280), .unset, .unset, .unset, .unset, .unset] [(.int y291)])) _
      refine own_pop (pc' := 143) B X290 at_142 rfl rfl ?_
      refine own_aload (pc' := 145) B X290 at_143 rfl rfl rfl ?_
      refine own_aload (pc' := 147) B X290 at_145 rfl rfl rfl ?_
      refine own_iconst (pc' := 148) B X290 (z := (4 : Int32)) at_147 rfl rfl ?_
      refine own_iaload (pc' := 149) B X290 V_b1 (v := (.int y14)) ⟨by decide, by decide⟩ rfl at_148 rfl ?_
      refine own_aload (pc' := 151) B X290 at_149 rfl rfl rfl ?_
      refine own_iconst (pc' := 152) B X290 (z := (5 : Int32)) at_151 rfl rfl ?_
      refine own_iaload (pc' := 153) B X290 V_b1 (v := (.int y17)) ⟨by decide, by decide⟩ rfl at_152 rfl ?_
      refine own_callV (pc' := 156) B X290 (own_w hw 17 rfl) (own_w hw 18 rfl) (own_w hw 20 rfl) (own_w hw 19 rfl) (own_w hw 4 rfl) (own_w hw 21 rfl) E_b280 (by decide) [(.int y14), (.int y17)] [] (rm_join l Z a0 hw [] b280 (own_R2 y2 y5 y8 y11) (own_S2 y2 y5 y8 y11) y14 y17 h290 n0 (Nat.le_trans Z0 K.1) AL g_b280 (own_in8 hy14) (own_in8 hy17)) 0 (by decide) (by decide) rfl pd_1 rfl rfl (Nat.le_of_eq rfl) at_153 rfl (k' := 14) (n' := 135) rfl rfl (by decide) (by decide) ?_
      intro T292 v292 h292 X292 q292
      clear AL
      obtain ⟨y293, rfl, K292, AL⟩ := q292
      replace AL : own_AL Z h292 b280 (own_R3 y2 y5 y8 y11 y14 y17) (own_S3 y2 y5 y8 y11 y14 y17) := AL
      replace V_b1 := K292.arv V_b1 lj
      replace E_b280 := own_AL.exa AL
      replace E_b1 := K292.exa E_b1
      replace K := own_Kk K K292 sz_b280
      show own_Go p e below (T292.setTop (mkF m 156 #[.val (.int i0), .val (.int i1), .val (.int i2), .val (.int i3), .val (.ref b1), .val (.int y192), .val (.int y279), .val (.ref b280), .unset, .unset, .unset, .unset, .unset] [(.int y293)])) _
      refine own_pop (pc' := 157) B X292 at_156 rfl rfl ?_
      refine own_aload (pc' := 159) B X292 at_157 rfl rfl rfl ?_
      refine own_iload (pc' := 161) B X292 at_159 rfl rfl ?_
      refine own_callV (pc' := 164) B X292 (own_w hw 27 rfl) (own_w hw 23 rfl) (own_w hw 25 rfl) (own_w hw 24 rfl) (own_w hw 4 rfl) (own_w hw 26 rfl) E_b280 (by decide) [(.int y192)] [] (rm_rep l Z a0 hw [] b280 (own_R3 y2 y5 y8 y11 y14 y17) (own_S3 y2 y5 y8 y11 y14 y17) y192 h292 n0 AL g_b280 (own_nn7 hy192)) 0 (by decide) (by decide) rfl pd_2 rfl rfl (Nat.le_of_eq rfl) at_161 rfl (k' := 14) (n' := 135) rfl rfl (by decide) (by decide) ?_
      intro T294 v294 h294 X294 q294
      clear AL
      obtain ⟨rfl, K294, AL⟩ := q294
      obtain ⟨y295, hy295⟩ : ∃ z : Int32, own_R3 y2 y5 y8 y11 y14 y17 y192 = z := ⟨_, rfl⟩
      rw [hy295]
      replace V_b1 := K294.arv V_b1 lj
      replace E_b280 := own_AL.exa AL
      replace E_b1 := K294.exa E_b1
      replace K := own_Kk K K294 sz_b280
      show own_Go p e below (T294.setTop (mkF m 164 #[.val (.int i0), .val (.int i1), .val (.int i2), .val (.int i3), .val (.ref b1), .val (.int y192), .val (.int y279), .val (.ref b280), .unset, .unset, .unset, .unset, .unset] [(.int y295)])) _
      refine own_istore (pc' := 166) B X294 (Ls' := #[.val (.int i0), .val (.int i1), .val (.int i2), .val (.int i3), .val (.ref b1), .val (.int y192), .val (.int y279), .val (.ref b280), .val (.int y295), .unset, .unset, .unset, .unset]) at_164 rfl rfl ?_
      refine own_aload (pc' := 168) B X294 at_166 rfl rfl rfl ?_
      refine own_iload (pc' := 170) B X294 at_168 rfl rfl ?_
      refine own_callV (pc' := 173) B X294 (own_w hw 27 rfl) (own_w hw 23 rfl) (own_w hw 25 rfl) (own_w hw 24 rfl) (own_w hw 4 rfl) (own_w hw 26 rfl) E_b280 (by decide) [(.int y279)] [] (rm_rep l Z a0 hw [] b280 (own_R3 y2 y5 y8 y11 y14 y17) (own_S3 y2 y5 y8 y11 y14 y17) y279 h294 n0 AL g_b280 (own_nn7 hy279)) 0 (by decide) (by decide) rfl pd_2 rfl rfl (Nat.le_of_eq rfl) at_170 rfl (k' := 14) (n' := 135) rfl rfl (by decide) (by decide) ?_
      intro T296 v296 h296 X296 q296
      clear AL
      obtain ⟨rfl, K296, AL⟩ := q296
      obtain ⟨y297, hy297⟩ : ∃ z : Int32, own_R3 y2 y5 y8 y11 y14 y17 y279 = z := ⟨_, rfl⟩
      rw [hy297]
      replace V_b1 := K296.arv V_b1 lj
      replace E_b280 := own_AL.exa AL
      replace E_b1 := K296.exa E_b1
      replace K := own_Kk K K296 sz_b280
      show own_Go p e below (T296.setTop (mkF m 173 #[.val (.int i0), .val (.int i1), .val (.int i2), .val (.int i3), .val (.ref b1), .val (.int y192), .val (.int y279), .val (.ref b280), .val (.int y295), .unset, .unset, .unset, .unset] [(.int y297)])) _
      refine own_istore (pc' := 175) B X296 (Ls' := #[.val (.int i0), .val (.int i1), .val (.int i2), .val (.int i3), .val (.ref b1), .val (.int y192), .val (.int y279), .val (.ref b280), .val (.int y295), .val (.int y297), .unset, .unset, .unset]) at_173 rfl rfl ?_
      refine own_aload (pc' := 177) B X296 at_175 rfl rfl rfl ?_
      refine own_iload (pc' := 179) B X296 at_177 rfl rfl ?_
      refine own_callV (pc' := 182) B X296 (own_w hw 27 rfl) (own_w hw 23 rfl) (own_w hw 25 rfl) (own_w hw 24 rfl) (own_w hw 4 rfl) (own_w hw 26 rfl) E_b280 (by decide) [(.int y192)] [] (rm_rep l Z a0 hw [] b280 (own_R3 y2 y5 y8 y11 y14 y17) (own_S3 y2 y5 y8 y11 y14 y17) y192 h296 n0 AL g_b280 (own_nn7 hy192)) 0 (by decide) (by decide) rfl pd_2 rfl rfl (Nat.le_of_eq rfl) at_179 rfl (k' := 14) (n' := 135) rfl rfl (by decide) (by decide) ?_
      intro T298 v298 h298 X298 q298
      clear AL
      obtain ⟨rfl, K298, AL⟩ := q298
      rw [hy295]
      replace V_b1 := K298.arv V_b1 lj
      replace E_b280 := own_AL.exa AL
      replace E_b1 := K298.exa E_b1
      replace K := own_Kk K K298 sz_b280
      show own_Go p e below (T298.setTop (mkF m 182 #[.val (.int i0), .val (.int i1), .val (.int i2), .val (.int i3), .val (.ref b1), .val (.int y192), .val (.int y279), .val (.ref b280), .val (.int y295), .val (.int y297), .unset, .unset, .unset] [(.int y295)])) _
      refine own_istore (pc' := 184) B X298 (Ls' := #[.val (.int i0), .val (.int i1), .val (.int i2), .val (.int i3), .val (.ref b1), .val (.int y192), .val (.int y279), .val (.ref b280), .val (.int y295), .val (.int y297), .val (.int y295), .unset, .unset]) at_182 rfl rfl ?_
      refine own_aload (pc' := 186) B X298 at_184 rfl rfl rfl ?_
      refine own_iload (pc' := 188) B X298 at_186 rfl rfl ?_
      refine own_callS (pc' := 191) B X298 (own_w hw 28 rfl) (own_w hw 29 rfl) (own_w hw 30 rfl) (own_w hw 31 rfl) (by decide) [(.ref b1), (.int y192)] [] (rm_2 l Z a0 hw [] b1 kb1 (y2) (y5) (y8) (y11) (y14) (y17) (y192) h298 n0 (Nat.le_trans Z0 K.1) E_b1 V_b1 g_b1) 0 (by decide) (by decide) rfl pd_4 rfl rfl (Nat.le_of_eq rfl) at_188 rfl (k' := 14) (n' := 135) rfl rfl (by decide) (by decide) ?_
      intro T299 v299 h299 X299 q299
      obtain ⟨y300, y301, y302, y303, y304, y305, y306, y307, y308, y309, y310, y311, y312, y313, y314, hy315, hy316, hy317, hy318, hy319, hy320, hy321, hy322, hy323, hy324, hy325, hy326, hy327, hy328, hy329, rfl, rfl⟩ := q299
      show own_Go p e below (T299.setTop (mkF m 191 #[.val (.int i0), .val (.int i1), .val (.int i2), .val (.int i3), .val (.ref b1), .val (.int y192), .val (.int y279), .val (.ref b280), .val (.int y295), .val (.int y297), .val (.int y295), .unset, .unset] [(.int y314)])) _
      refine own_istore (pc' := 193) B X299 (Ls' := #[.val (.int i0), .val (.int i1), .val (.int i2), .val (.int i3), .val (.ref b1), .val (.int y192), .val (.int y279), .val (.ref b280), .val (.int y295), .val (.int y297), .val (.int y295), .val (.int y314), .unset]) at_191 rfl rfl ?_
      refine own_aload (pc' := 195) B X299 at_193 rfl rfl rfl ?_
      refine own_iload (pc' := 197) B X299 at_195 rfl rfl ?_
      refine own_callS (pc' := 200) B X299 (own_w hw 28 rfl) (own_w hw 29 rfl) (own_w hw 30 rfl) (own_w hw 31 rfl) (by decide) [(.ref b1), (.int y279)] [] (rm_2 l Z a0 hw [] b1 kb1 (y2) (y5) (y8) (y11) (y14) (y17) (y279) h298 n0 (Nat.le_trans Z0 K.1) E_b1 V_b1 g_b1) 0 (by decide) (by decide) rfl pd_4 rfl rfl (Nat.le_of_eq rfl) at_197 rfl (k' := 14) (n' := 135) rfl rfl (by decide) (by decide) ?_
      intro T330 v330 h330 X330 q330
      obtain ⟨y331, y332, y333, y334, y335, y336, y337, y338, y339, y340, y341, y342, y343, y344, y345, hy346, hy347, hy348, hy349, hy350, hy351, hy352, hy353, hy354, hy355, hy356, hy357, hy358, hy359, hy360, rfl, rfl⟩ := q330
      obtain rfl : y301 = y332 := (hy316 : own_F_step y8 y2 y5 (1 : Int32) (1 : Int32) = y301).symm.trans hy347
      obtain rfl : y302 = y333 := (hy317 : own_F_step y11 y2 y5 (1 : Int32) (1 : Int32) = y302).symm.trans hy348
      obtain rfl : y303 = y334 := (hy318 : own_F_grown y8 (1 : Int32) y2 y5 (1 : Int32) (1 : Int32) = y303).symm.trans hy349
      obtain rfl : y304 = y335 := (hy319 : own_F_grown y11 (1 : Int32) y2 y5 (1 : Int32) (1 : Int32) = y304).symm.trans hy350
      obtain rfl : y306 = y337 := (hy321 : own_F_step y14 y2 y5 (1 : Int32) (1 : Int32) = y306).symm.trans hy352
      obtain rfl : y307 = y338 := (hy322 : own_F_step y306 y301 y302 y303 y304 = y307).symm.trans hy353
      obtain rfl : y308 = y339 := (hy323 : own_F_step y17 y2 y5 (1 : Int32) (1 : Int32) = y308).symm.trans hy354
      obtain rfl : y309 = y340 := (hy324 : own_F_step y308 y301 y302 y303 y304 = y309).symm.trans hy355
      obtain rfl : y310 = y341 := (hy325 : own_F_grown y14 (1 : Int32) y2 y5 (1 : Int32) (1 : Int32) = y310).symm.trans hy356
      obtain rfl : y311 = y342 := (hy326 : own_F_grown y306 y310 y301 y302 y303 y304 = y311).symm.trans hy357
      obtain rfl : y312 = y343 := (hy327 : own_F_grown y17 (1 : Int32) y2 y5 (1 : Int32) (1 : Int32) = y312).symm.trans hy358
      obtain rfl : y313 = y344 := (hy328 : own_F_grown y308 y312 y301 y302 y303 y304 = y313).symm.trans hy359
      show own_Go p e below (T330.setTop (mkF m 200 #[.val (.int i0), .val (.int i1), .val (.int i2), .val (.int i3), .val (.ref b1), .val (.int y192), .val (.int y279), .val (.ref b280), .val (.int y295), .val (.int y297), .val (.int y295), .val (.int y314), .unset] [(.int y345)])) _
      refine own_istore (pc' := 202) B X330 (Ls' := #[.val (.int i0), .val (.int i1), .val (.int i2), .val (.int i3), .val (.ref b1), .val (.int y192), .val (.int y279), .val (.ref b280), .val (.int y295), .val (.int y297), .val (.int y295), .val (.int y314), .val (.int y345)]) at_200 rfl rfl ?_
      refine own_iload (pc' := 204) B X330 at_202 rfl rfl ?_
      refine own_iload (pc' := 206) B X330 at_204 rfl rfl ?_
      have c361 : y295 = y314 := by
        subst hy295 hy297 hy315 hy316 hy317 hy318 hy319 hy320 hy321 hy322 hy323 hy324 hy325 hy326 hy327 hy328 hy329 hy346 hy351 hy360
        rfl
      refine own_icmpNo (pc' := 209) B X330 at_206 (teq c361).2 rfl ?_
      refine own_iload (pc' := 211) B X330 at_209 rfl rfl ?_
      refine own_iload (pc' := 213) B X330 at_211 rfl rfl ?_
      have c362 : y297 = y345 := by
        subst hy295 hy297 hy315 hy316 hy317 hy318 hy319 hy320 hy321 hy322 hy323 hy324 hy325 hy326 hy327 hy328 hy329 hy346 hy351 hy360
        rfl
      refine own_icmpNo (pc' := 216) B X330 at_213 (teq c362).2 rfl ?_
      refine own_iload (pc' := 218) B X330 at_216 rfl rfl ?_
      refine own_iload (pc' := 220) B X330 at_218 rfl rfl ?_
      refine own_icmpNo (pc' := 223) B X330 at_220 (teq c361).2 rfl ?_
      refine own_iconst (pc' := 224) B X330 (z := (1 : Int32)) at_223 rfl rfl ?_
      refine own_goto (pc' := 228) B X330 at_224 (by decide) rfl ?_
      exact own_retN B X330 (t := .boolean) (z' := (1 : Int32)) (by simp) (by decide) at_228 (by decide) (by decide) rfl
set_option maxRecDepth 65536 in
set_option maxHeartbeats 40000000 in
theorem comes_1 {Post : Tables → Env → Array Value → State → Outcome → State → Prop} (hpost : ∀ tb e args s v u, (limb_1_1.after args s (.returned v) u = true ∧ limb_1_2.after args s (.returned v) u = true ∧ True) → FrameEnd s (.returned v) u (Jvm.fieldLocs frame_1_writes args s ++ Jvm.arrayLocs frame_1_arrays args s ++ Jvm.staticLocs frame_1_statics s) 40 256 → Post tb e args s (.returned v) u) :
    ArmFor flags0 classFile x code maxLocals ret World_1 tables_1 room_1 Calls_1 rest_1 Pre_1 Post := by
  intro l hfl _ _ p e ha hc hk s m args below hf hA hF happ hP
  obtain ⟨hcalls, hrest, hpre⟩ := hP
  obtain ⟨-, -, -, hnamed, -, -, -, hat⟩ := (Spec.applies_iff hf).mp happ
  obtain ⟨hg, hn⟩ := and_e (Cond.before_iff.mp (show (Jvm.Cond.and given_1 narrow_1).before args s = true from hpre))
  obtain ⟨g1, g2⟩ := and_e hg
  obtain ⟨g3, g4⟩ := and_e g2
  obtain ⟨g5, g6⟩ := and_e g4
  obtain ⟨g7, g8⟩ := and_e g6
  obtain ⟨w0, w1, w2, w3, rfl⟩ : ∃ w0 w1 w2 w3 : Value, args = #[w0, w1, w2, w3] := by
    have hs : args.size = 4 := by simpa [Cond.value, given_1] using g1
    obtain ⟨L⟩ := args
    match L, hs with
    | [w0, w1, w2, w3], _ => exact ⟨w0, w1, w2, w3, rfl⟩
  have hw := fun d (hd : d ∈ tables_1) => atoms_spec (ws := Jvm.Cond.code x code maxLocals ret :: tables_1) hat d (List.mem_cons_of_mem _ hd)
  obtain ⟨i0, ei0⟩ := is_v g3
  obtain rfl : w0 = (.int i0) := Option.some.inj ei0
  obtain ⟨i1, ei1⟩ := is_v g5
  obtain rfl : w1 = (.int i1) := Option.some.inj ei1
  obtain ⟨i2, ei2⟩ := is_v g7
  obtain rfl : w2 = (.int i2) := Option.some.inj ei2
  obtain ⟨i3, ei3⟩ := is_v g8
  obtain rfl : w3 = (.int i3) := Option.some.inj ei3
  obtain ⟨n, o, h1, h2, h3, _, L, rfl, ⟨N, rfl⟩, hq⟩ := rm_0 l s _ hw tables_1 i0 i1 i2 i3 s.heap s.heap.size (Nat.le_refl _)  p e ha hc hk s m _ below hf ((Spec.applies_iff_loose hf).mp happ).1 ⟨rfl, State.Warmed39.refl s, rfl⟩ trivial
  refine ⟨n, _, h1, h2, h3, hpost _ _ _ _ _ _ ⟨Cond.after_iff.mpr rfl, Cond.after_iff.mpr (eq_i res_at (Term.int_eval (1)) rfl), trivial⟩ ⟨hq.1, hq.2.1, (hq.2.2.sift fun y hy => Or.inr (N y hy)).mono (by decide) (by decide)⟩⟩
theorem main_1_1 : Claimed_1_1 := comes_1 fun _ _ _ _ _ _ h hF => ⟨h.1, hF⟩
theorem main_1_2 : Claimed_1_2 := comes_1 fun _ _ _ _ _ _ h hF => ⟨h.2.1, hF⟩
end Jvm.Pilot.@@N@@
namespace Jvm.Pilot.@@N@@
open Jvm Jvm.ClassFile Sem Op Lib Jvm.Free Jvm.Stand Jvm.Pilot.@@N@@.Jvm.D
/-! MADE BY PROGRAM (witnessworld.py) out of the Statement's table words and the real class files: 12 classes; the members and pool entries that the words name. The judged class is class 1, her method 1. -/
namespace start1
open Jvm.ClassFile
def u (s : String) : CpInfo := .utf8 (stringToUtf16 s)
/-- a pool by its gaps: so many unusable entries, then the entry; so many at the end -/
def gap : Nat → List CpInfo → List CpInfo
  | 0, r => r
  | n + 1, r => .unusable :: gap n r
def poolList (es : List (Nat × CpInfo)) (last : Nat) : List CpInfo := es.foldr (fun e r => gap e.1 (e.2 :: r)) (gap last [])
def pool (es : List (Nat × CpInfo)) (last : Nat) : Array CpInfo := ⟨poolList es last⟩
def fileOf (pool : Array CpInfo) (this : Nat) (attrs : Array Attribute := #[]) (ms : Array MethodInfo := #[]) (fl : Nat := 33) (sup : Nat := 0) (ifs : Array Nat := #[]) (fds : Array FieldInfo := #[]) : ClassFile where
  minorVersion := 0
  majorVersion := 65
  constantPool := pool
  accessFlags := fl
  thisClass := this
  superClass := sup
  interfaces := ifs
  fields := fds
  methods := ms
  attributes := attrs
def plain (name : String) (sup : Option ClassId) : Class where
  name := name
  kind := .ordinary
  loader := none
  accessFlags := 33
  super := sup
  interfaces := #[]
  cf := none
  fields := #[]
  methods := #[]
  instanceTypes := #[]
  staticTypes := #[]
  resolved := #[]
  callSites := []
  init := .initialized
  statics := none
  mirror := none

def pool0 : Array CpInfo := pool [(5, u "<init>"), (0, u "()V"), (1, .class_ 10), (1, u "java/lang/Object")] 113

def k0c0 : Code := { maxStack := 0, maxLocals := 1, code := object_method_1_code, exceptionTable := #[], attributes := #[] }
def k0m0 : Method := { name := "<init>", desc := "()V", sig := { parameters := [], returnType := none }, accessFlags := 1, code := some k0c0 }
/-- java/lang/Object -/
def k0 : Class := { plain "java/lang/Object" none with
  accessFlags := 33
  interfaces := #[]
  cf := some (fileOf pool0 8 #[] #[{ accessFlags := 1, nameIndex := 5, descriptorIndex := 6, attributes := #[] }] 33 0 #[] #[])
  fields := #[]
  methods := #[k0m0]
  instanceTypes := #[]
  staticTypes := #[]
  resolved := Array.replicate 124 none
  statics := none }

def pool1 : Array CpInfo := pool [(2, .class_ 4), (0, .nameAndType 5 6), (0, u "java/lang/Object"), (0, u "<init>"), (0, u "()V"), (0, .integer 2147483647), (0, .class_ 9), (0, u "com/example/ordal/ordal/Aliases"), (0, .methodref 8 3), (0, .methodref 8 12), (0, .nameAndType 13 14), (0, u "join"), (0, u "(II)Z"), (0, .methodref 8 16), (0, .nameAndType 17 18), (0, u "representative"), (0, u "(I)I"), (0, .methodref 20 21), (0, .class_ 22), (0, .nameAndType 23 24), (0, u "com/example/ordal/ordal/AliasesRepresentativePinLaw"), (0, u "r3"), (0, u "([II)I"), (0, .methodref 20 26), (0, .nameAndType 27 28), (0, u "step"), (0, u "(IIIII)I"), (0, .methodref 20 30), (0, .nameAndType 31 32), (0, u "grown"), (0, u "(IIIIII)I"), (0, .methodref 20 34), (0, .nameAndType 35 24), (0, u "r1"), (0, .methodref 20 37), (0, .nameAndType 38 24), (0, u "s1"), (0, .methodref 20 40), (0, .nameAndType 41 24), (0, u "r2"), (0, .methodref 20 43), (0, .nameAndType 44 24), (0, u "s2"), (2, u "law"), (0, u "(IIII)Z")] 5

def k1m0 : Method := { name := "<init>", desc := "()V", sig := { parameters := [], returnType := none }, accessFlags := 1, code := none }
def k1c1 : Code := { maxStack := 4, maxLocals := 13, code := code, exceptionTable := #[], attributes := #[] }
def k1m1 : Method := { name := "law", desc := "(IIII)Z", sig := { parameters := [.int, .int, .int, .int], returnType := some .boolean }, accessFlags := 9, code := some k1c1 }
def k1c2 : Code := { maxStack := 2, maxLocals := 6, code := method_3_code, exceptionTable := #[], attributes := #[] }
def k1m2 : Method := { name := "step", desc := "(IIIII)I", sig := { parameters := [.int, .int, .int, .int, .int], returnType := some .int }, accessFlags := 10, code := some k1c2 }
def k1c3 : Code := { maxStack := 2, maxLocals := 6, code := method_4_code, exceptionTable := #[], attributes := #[] }
def k1m3 : Method := { name := "grown", desc := "(IIIIII)I", sig := { parameters := [.int, .int, .int, .int, .int, .int], returnType := some .int }, accessFlags := 10, code := some k1c3 }
def k1c4 : Code := { maxStack := 5, maxLocals := 2, code := method_5_code, exceptionTable := #[], attributes := #[] }
def k1m4 : Method := { name := "r1", desc := "([II)I", sig := { parameters := [(.array .int), .int], returnType := some .int }, accessFlags := 10, code := some k1c4 }
def k1c5 : Code := { maxStack := 6, maxLocals := 2, code := method_6_code, exceptionTable := #[], attributes := #[] }
def k1m5 : Method := { name := "s1", desc := "([II)I", sig := { parameters := [(.array .int), .int], returnType := some .int }, accessFlags := 10, code := some k1c5 }
def k1c6 : Code := { maxStack := 7, maxLocals := 2, code := method_7_code, exceptionTable := #[], attributes := #[] }
def k1m6 : Method := { name := "r2", desc := "([II)I", sig := { parameters := [(.array .int), .int], returnType := some .int }, accessFlags := 10, code := some k1c6 }
def k1c7 : Code := { maxStack := 8, maxLocals := 2, code := method_8_code, exceptionTable := #[], attributes := #[] }
def k1m7 : Method := { name := "s2", desc := "([II)I", sig := { parameters := [(.array .int), .int], returnType := some .int }, accessFlags := 10, code := some k1c7 }
def k1c8 : Code := { maxStack := 7, maxLocals := 2, code := method_9_code, exceptionTable := #[], attributes := #[] }
def k1m8 : Method := { name := "r3", desc := "([II)I", sig := { parameters := [(.array .int), .int], returnType := some .int }, accessFlags := 10, code := some k1c8 }
/-- com/example/ordal/ordal/AliasesRepresentativePinLaw -/
def k1 : Class := { plain "com/example/ordal/ordal/AliasesRepresentativePinLaw" (some 0) with
  accessFlags := 49
  interfaces := #[]
  cf := some (fileOf pool1 20 #[] #[{ accessFlags := 1, nameIndex := 5, descriptorIndex := 6, attributes := #[] }, { accessFlags := 9, nameIndex := 47, descriptorIndex := 48, attributes := #[] }, { accessFlags := 10, nameIndex := 27, descriptorIndex := 28, attributes := #[] }, { accessFlags := 10, nameIndex := 31, descriptorIndex := 32, attributes := #[] }, { accessFlags := 10, nameIndex := 35, descriptorIndex := 24, attributes := #[] }, { accessFlags := 10, nameIndex := 38, descriptorIndex := 24, attributes := #[] }, { accessFlags := 10, nameIndex := 41, descriptorIndex := 24, attributes := #[] }, { accessFlags := 10, nameIndex := 44, descriptorIndex := 24, attributes := #[] }, { accessFlags := 10, nameIndex := 23, descriptorIndex := 24, attributes := #[] }] 49 2 #[] #[])
  fields := #[]
  methods := #[k1m0, k1m1, k1m2, k1m3, k1m4, k1m5, k1m6, k1m7, k1m8]
  instanceTypes := #[]
  staticTypes := #[]
  resolved := Array.replicate 54 none
  statics := none }

def pool2 : Array CpInfo := pool [(1, .methodref 2 3), (0, .class_ 4), (0, .nameAndType 5 6), (0, u "java/lang/Object"), (0, u "<init>"), (0, u "()V"), (0, .fieldref 8 9), (0, .class_ 10), (0, .nameAndType 11 12), (0, u "com/example/ordal/ordal/Aliases"), (0, u "parents"), (0, u "[I"), (0, .fieldref 8 14), (0, .nameAndType 15 12), (0, u "sizes"), (0, .fieldref 8 17), (0, .nameAndType 18 12), (0, u "rings"), (0, .methodref 8 20), (0, .nameAndType 21 22), (0, u "representative"), (0, u "(I)I"), (0, .methodref 24 25), (0, .class_ 26), (0, .nameAndType 27 28), (0, u "java/lang/Math"), (0, u "max"), (0, u "(II)I"), (0, .methodref 8 30), (0, .nameAndType 31 32), (0, u "grow"), (0, u "(I)V"), (4, .class_ 39), (1, u "java/util/Arrays"), (2, .methodref 37 43), (0, .nameAndType 44 45), (0, u "copyOf"), (0, u "([II)[I"), (3, u "join"), (0, u "(II)Z")] 6

def k2c0 : Code := { maxStack := 2, maxLocals := 1, code := prog_1_method_1_code, exceptionTable := #[], attributes := #[] }
def k2m0 : Method := { name := "<init>", desc := "()V", sig := { parameters := [], returnType := none }, accessFlags := 0, code := some k2c0 }
def k2c1 : Code := { maxStack := 3, maxLocals := 5, code := prog_1_method_2_code, exceptionTable := #[], attributes := #[] }
def k2m1 : Method := { name := "representative", desc := "(I)I", sig := { parameters := [.int], returnType := some .int }, accessFlags := 0, code := some k2c1 }
def k2c2 : Code := { maxStack := 5, maxLocals := 9, code := prog_1_method_3_code, exceptionTable := #[], attributes := #[] }
def k2m2 : Method := { name := "join", desc := "(II)Z", sig := { parameters := [.int, .int], returnType := some .boolean }, accessFlags := 0, code := some k2c2 }
def k2c3 : Code := { maxStack := 3, maxLocals := 5, code := prog_1_method_7_code, exceptionTable := #[], attributes := #[] }
def k2m3 : Method := { name := "grow", desc := "(I)V", sig := { parameters := [.int], returnType := none }, accessFlags := 2, code := some k2c3 }
/-- com/example/ordal/ordal/Aliases -/
def k2 : Class := { plain "com/example/ordal/ordal/Aliases" (some 0) with
  accessFlags := 48
  interfaces := #[]
  cf := some (fileOf pool2 8 #[] #[{ accessFlags := 0, nameIndex := 5, descriptorIndex := 6, attributes := #[] }, { accessFlags := 0, nameIndex := 21, descriptorIndex := 22, attributes := #[] }, { accessFlags := 0, nameIndex := 49, descriptorIndex := 50, attributes := #[] }, { accessFlags := 2, nameIndex := 31, descriptorIndex := 32, attributes := #[] }] 48 2 #[] #[{ accessFlags := 2, nameIndex := 11, descriptorIndex := 12, attributes := #[] }, { accessFlags := 2, nameIndex := 15, descriptorIndex := 12, attributes := #[] }, { accessFlags := 2, nameIndex := 18, descriptorIndex := 12, attributes := #[] }])
  fields := #[{ name := "parents", type := (.array .int), accessFlags := 2, slot := 0, constantValue := 0 }, { name := "sizes", type := (.array .int), accessFlags := 2, slot := 1, constantValue := 0 }, { name := "rings", type := (.array .int), accessFlags := 2, slot := 2, constantValue := 0 }]
  methods := #[k2m0, k2m1, k2m2, k2m3]
  instanceTypes := #[(.array .int), (.array .int), (.array .int)]
  staticTypes := #[]
  resolved := Array.replicate 57 none
  statics := none }

def pool3 : Array CpInfo := pool [(1, .class_ 2), (0, u "java/lang/Math"), (1, .class_ 6), (1, u "java/lang/Object"), (0, u "<init>"), (0, u "()V"), (89, .class_ 100), (1, u "java/lang/Math$RandomNumberGeneratorHolder"), (71, u "negativeZeroFloatBits"), (0, u "J"), (2, u "negativeZeroDoubleBits"), (21, u "max"), (2, u "min"), (43, u "$assertionsDisabled"), (0, u "Z"), (88, u "(II)I"), (2, u "twoToTheDoubleScaleDown"), (0, u "D"), (4, u "twoToTheDoubleScaleUp"), (9, u "E"), (3, u "PI"), (2, u "TAU"), (2, u "DEGREES_TO_RADIANS"), (0, u "RADIANS_TO_DEGREES")] 94

def k3m0 : Method := { name := "<init>", desc := "()V", sig := { parameters := [], returnType := none }, accessFlags := 2, code := none }
def k3c1 : Code := { maxStack := 2, maxLocals := 2, code := jdk_29_method_65_code, exceptionTable := #[], attributes := #[] }
def k3m1 : Method := { name := "max", desc := "(II)I", sig := { parameters := [.int, .int], returnType := some .int }, accessFlags := 9, code := some k3c1 }
def k3c2 : Code := { maxStack := 2, maxLocals := 2, code := jdk_29_method_69_code, exceptionTable := #[], attributes := #[] }
def k3m2 : Method := { name := "min", desc := "(II)I", sig := { parameters := [.int, .int], returnType := some .int }, accessFlags := 9, code := some k3c2 }
/-- java/lang/Math -/
def k3 : Class := { plain "java/lang/Math" (some 0) with
  accessFlags := 49
  interfaces := #[]
  cf := some (fileOf pool3 1 #[.nestMembers #[98]] #[{ accessFlags := 2, nameIndex := 7, descriptorIndex := 8, attributes := #[] }, { accessFlags := 9, nameIndex := 198, descriptorIndex := 335, attributes := #[] }, { accessFlags := 9, nameIndex := 201, descriptorIndex := 335, attributes := #[] }] 49 4 #[] #[{ accessFlags := 25, nameIndex := 354, descriptorIndex := 339, attributes := #[] }, { accessFlags := 25, nameIndex := 358, descriptorIndex := 339, attributes := #[] }, { accessFlags := 25, nameIndex := 361, descriptorIndex := 339, attributes := #[] }, { accessFlags := 26, nameIndex := 364, descriptorIndex := 339, attributes := #[] }, { accessFlags := 26, nameIndex := 365, descriptorIndex := 339, attributes := #[] }, { accessFlags := 26, nameIndex := 172, descriptorIndex := 173, attributes := #[] }, { accessFlags := 26, nameIndex := 176, descriptorIndex := 173, attributes := #[] }, { accessFlags := 8, nameIndex := 344, descriptorIndex := 339, attributes := #[] }, { accessFlags := 8, nameIndex := 338, descriptorIndex := 339, attributes := #[] }, { accessFlags := 4120, nameIndex := 245, descriptorIndex := 246, attributes := #[] }])
  fields := #[{ name := "E", type := .double, accessFlags := 25, slot := 0, constantValue := 0 }, { name := "PI", type := .double, accessFlags := 25, slot := 1, constantValue := 0 }, { name := "TAU", type := .double, accessFlags := 25, slot := 2, constantValue := 0 }, { name := "DEGREES_TO_RADIANS", type := .double, accessFlags := 26, slot := 3, constantValue := 0 }, { name := "RADIANS_TO_DEGREES", type := .double, accessFlags := 26, slot := 4, constantValue := 0 }, { name := "negativeZeroFloatBits", type := .long, accessFlags := 26, slot := 5, constantValue := 0 }, { name := "negativeZeroDoubleBits", type := .long, accessFlags := 26, slot := 6, constantValue := 0 }, { name := "twoToTheDoubleScaleUp", type := .double, accessFlags := 8, slot := 7, constantValue := 0 }, { name := "twoToTheDoubleScaleDown", type := .double, accessFlags := 8, slot := 8, constantValue := 0 }, { name := "$assertionsDisabled", type := .boolean, accessFlags := 4120, slot := 9, constantValue := 0 }]
  methods := #[k3m0, k3m1, k3m2]
  instanceTypes := #[]
  staticTypes := #[.double, .double, .double, .double, .double, .long, .long, .double, .double, .boolean]
  resolved := Array.replicate 460 none
  statics := none }

def pool4 : Array CpInfo := pool [(2, .class_ 4), (1, u "java/lang/Object"), (0, u "<init>"), (0, u "()V"), (7, .class_ 16), (1, u "java/util/Arrays"), (57, .class_ 76), (1, u "java/util/Arrays$NaturalOrder"), (36, .class_ 115), (1, u "java/util/Arrays$LegacyMergeSort"), (1, u "Z"), (32, .methodref 151 152), (0, .class_ 153), (0, .nameAndType 154 155), (0, u "java/lang/System"), (0, u "arraycopy"), (0, u "(Ljava/lang/Object;ILjava/lang/Object;II)V"), (146, u "copyOf"), (1, .methodref 305 306), (0, .class_ 307), (0, .nameAndType 308 309), (0, u "java/lang/Math"), (0, u "min"), (0, u "(II)I"), (65, .class_ 376), (0, u "java/util/Arrays$ArrayList"), (68, u "$assertionsDisabled"), (269, u "MIN_ARRAY_SORT_GRAN"), (0, u "I"), (2, u "INSERTIONSORT_THRESHOLD"), (151, u "([II)[I"), (103, .class_ 976), (0, u "java/util/Arrays$ArrayItr")] 52

def k4m0 : Method := { name := "<init>", desc := "()V", sig := { parameters := [], returnType := none }, accessFlags := 2, code := none }
def k4c1 : Code := { maxStack := 6, maxLocals := 3, code := jdk_65_method_123_code, exceptionTable := #[], attributes := #[] }
def k4m1 : Method := { name := "copyOf", desc := "([II)[I", sig := { parameters := [(.array .int), .int], returnType := some (.array .int) }, accessFlags := 9, code := some k4c1 }
/-- java/util/Arrays -/
def k4 : Class := { plain "java/util/Arrays" (some 0) with
  accessFlags := 49
  interfaces := #[]
  cf := some (fileOf pool4 14 #[.nestMembers #[975, 375, 113, 74]] #[{ accessFlags := 2, nameIndex := 5, descriptorIndex := 6, attributes := #[] }, { accessFlags := 9, nameIndex := 302, descriptorIndex := 871, attributes := #[] }] 49 2 #[] #[{ accessFlags := 26, nameIndex := 715, descriptorIndex := 716, attributes := #[] }, { accessFlags := 26, nameIndex := 719, descriptorIndex := 716, attributes := #[] }, { accessFlags := 4120, nameIndex := 445, descriptorIndex := 117, attributes := #[] }])
  fields := #[{ name := "MIN_ARRAY_SORT_GRAN", type := .int, accessFlags := 26, slot := 0, constantValue := 0 }, { name := "INSERTIONSORT_THRESHOLD", type := .int, accessFlags := 26, slot := 1, constantValue := 0 }, { name := "$assertionsDisabled", type := .boolean, accessFlags := 4120, slot := 2, constantValue := 0 }]
  methods := #[k4m0, k4m1]
  instanceTypes := #[]
  staticTypes := #[.int, .int, .boolean]
  resolved := Array.replicate 1029 none
  statics := none }

def pool5 : Array CpInfo := pool [(2, .class_ 4), (1, u "java/lang/Object"), (0, u "<init>"), (0, u "()V"), (1, .class_ 10), (1, u "java/lang/System"), (0, u "allowSecurityManager"), (0, u "I"), (16, u "cons"), (0, u "Ljava/io/Console;"), (77, .class_ 110), (1, u "java/lang/System$CallersHolder"), (43, u "initialErrStream"), (0, u "Ljava/io/PrintStream;"), (19, u "security"), (0, u "Ljava/lang/SecurityManager;"), (31, .class_ 209), (0, u "java/lang/System$1"), (7, u "props"), (0, u "Ljava/util/Properties;"), (2, u "lineSeparator"), (0, u "Ljava/lang/String;"), (96, .class_ 321), (1, u "java/lang/System$LoggerFinder"), (5, .class_ 328), (0, u "java/lang/System$Logger"), (67, u "err"), (2, u "out"), (91, u "notSupportedJnuEncoding"), (15, u "in"), (17, u "initialIn"), (0, u "Ljava/io/InputStream;"), (35, u "bootLayer"), (0, u "Ljava/lang/ModuleLayer;"), (99, .class_ 664), (0, u "java/lang/System$2"), (9, u "NEVER"), (2, u "MAYBE"), (49, u "arraycopy"), (0, u "(Ljava/lang/Object;ILjava/lang/Object;II)V"), (72, .class_ 802), (0, u "java/lang/System$Logger$Level")] 31

def k5m0 : Method := { name := "<init>", desc := "()V", sig := { parameters := [], returnType := none }, accessFlags := 2, code := none }
def k5m1 : Method := { name := "arraycopy", desc := "(Ljava/lang/Object;ILjava/lang/Object;II)V", sig := { parameters := [(.object "java/lang/Object"), .int, (.object "java/lang/Object"), .int, .int], returnType := none }, accessFlags := 265, code := none }
/-- java/lang/System -/
def k5 : Class := { plain "java/lang/System" (some 0) with
  accessFlags := 49
  interfaces := #[]
  cf := some (fileOf pool5 8 #[.nestMembers #[319, 327, 801, 108, 663, 208]] #[{ accessFlags := 2, nameIndex := 5, descriptorIndex := 6, attributes := #[] }, { accessFlags := 265, nameIndex := 727, descriptorIndex := 728, attributes := #[] }] 49 2 #[] #[{ accessFlags := 25, nameIndex := 507, descriptorIndex := 526, attributes := #[] }, { accessFlags := 25, nameIndex := 399, descriptorIndex := 155, attributes := #[] }, { accessFlags := 25, nameIndex := 396, descriptorIndex := 155, attributes := #[] }, { accessFlags := 10, nameIndex := 525, descriptorIndex := 526, attributes := #[] }, { accessFlags := 26, nameIndex := 674, descriptorIndex := 12, attributes := #[] }, { accessFlags := 26, nameIndex := 677, descriptorIndex := 12, attributes := #[] }, { accessFlags := 10, nameIndex := 11, descriptorIndex := 12, attributes := #[] }, { accessFlags := 74, nameIndex := 175, descriptorIndex := 176, attributes := #[] }, { accessFlags := 10, nameIndex := 491, descriptorIndex := 222, attributes := #[] }, { accessFlags := 74, nameIndex := 29, descriptorIndex := 30, attributes := #[] }, { accessFlags := 74, nameIndex := 154, descriptorIndex := 155, attributes := #[] }, { accessFlags := 10, nameIndex := 217, descriptorIndex := 218, attributes := #[] }, { accessFlags := 10, nameIndex := 221, descriptorIndex := 222, attributes := #[] }, { accessFlags := 8, nameIndex := 562, descriptorIndex := 563, attributes := #[] }])
  fields := #[{ name := "in", type := (.object "java/io/InputStream"), accessFlags := 25, slot := 0, constantValue := 0 }, { name := "out", type := (.object "java/io/PrintStream"), accessFlags := 25, slot := 1, constantValue := 0 }, { name := "err", type := (.object "java/io/PrintStream"), accessFlags := 25, slot := 2, constantValue := 0 }, { name := "initialIn", type := (.object "java/io/InputStream"), accessFlags := 10, slot := 3, constantValue := 0 }, { name := "NEVER", type := .int, accessFlags := 26, slot := 4, constantValue := 0 }, { name := "MAYBE", type := .int, accessFlags := 26, slot := 5, constantValue := 0 }, { name := "allowSecurityManager", type := .int, accessFlags := 10, slot := 6, constantValue := 0 }, { name := "security", type := (.object "java/lang/SecurityManager"), accessFlags := 74, slot := 7, constantValue := 0 }, { name := "notSupportedJnuEncoding", type := (.object "java/lang/String"), accessFlags := 10, slot := 8, constantValue := 0 }, { name := "cons", type := (.object "java/io/Console"), accessFlags := 74, slot := 9, constantValue := 0 }, { name := "initialErrStream", type := (.object "java/io/PrintStream"), accessFlags := 74, slot := 10, constantValue := 0 }, { name := "props", type := (.object "java/util/Properties"), accessFlags := 10, slot := 11, constantValue := 0 }, { name := "lineSeparator", type := (.object "java/lang/String"), accessFlags := 10, slot := 12, constantValue := 0 }, { name := "bootLayer", type := (.object "java/lang/ModuleLayer"), accessFlags := 8, slot := 13, constantValue := 0 }]
  methods := #[k5m0, k5m1]
  instanceTypes := #[]
  staticTypes := #[(.object "java/io/InputStream"), (.object "java/io/PrintStream"), (.object "java/io/PrintStream"), (.object "java/io/InputStream"), .int, .int, .int, (.object "java/lang/SecurityManager"), (.object "java/lang/String"), (.object "java/io/Console"), (.object "java/io/PrintStream"), (.object "java/util/Properties"), (.object "java/lang/String"), (.object "java/lang/ModuleLayer")]
  resolved := Array.replicate 834 none
  statics := none }

def pool6 : Array CpInfo := pool [(1, u "java/lang/Cloneable"), (0, .class_ 1), (0, u "java/lang/Object"), (0, .class_ 3)] 3

/-- java/lang/Cloneable -/
def k6 : Class := { plain "java/lang/Cloneable" (some 0) with
  accessFlags := 1537
  interfaces := #[]
  cf := some (fileOf pool6 2 #[] #[] 1537 4 #[] #[])
  fields := #[]
  methods := #[]
  instanceTypes := #[]
  staticTypes := #[]
  resolved := Array.replicate 8 none
  statics := none }

def pool7 : Array CpInfo := pool [(1, u "java/io/Serializable"), (0, .class_ 1), (0, u "java/lang/Object"), (0, .class_ 3)] 3

/-- java/io/Serializable -/
def k7 : Class := { plain "java/io/Serializable" (some 0) with
  accessFlags := 1537
  interfaces := #[]
  cf := some (fileOf pool7 2 #[] #[] 1537 4 #[] #[])
  fields := #[]
  methods := #[]
  instanceTypes := #[]
  staticTypes := #[]
  resolved := Array.replicate 8 none
  statics := none }

/-- the primitive byte -/
def k8 : Class := { plain "byte" none with kind := .primitive 'B', accessFlags := 0x411 }
/-- [B -/
def k9 : Class := { plain "[B" (some 0) with kind := .array 8 .byte, interfaces := #[6, 7], accessFlags := 1041 }

/-- the primitive int -/
def k10 : Class := { plain "int" none with kind := .primitive 'I', accessFlags := 0x411 }
/-- [I -/
def k11 : Class := { plain "[I" (some 0) with kind := .array 10 .int, interfaces := #[6, 7], accessFlags := 1041 }

def heap : Heap := #[]
def classes : Array Class := #[k0, k1, k2, k3, k4, k5, k6, k7, k8, k9, k10, k11]
def interned : List (Array UInt16 × Addr) := []
def slotsUsed : Nat := 0
def theMethod : MethodId := ⟨1, 1⟩
def args0 : Array Value := #[.int 83, .int 2, .int 3, .int 1]
def aboutOver (below : List Frame) : State where
  vm := { classes := classes, interned := interned.toArray }
  heap := heap
  slotsUsed := slotsUsed
  threads := #[{ frames := .invoking theMethod args0 :: below }]
def below0 : List Frame := [.native { method := ⟨0, 0⟩, args := #[] }]
def about1 : State := aboutOver below0
def p0 : Program := .bare "" "" ""
def e0 : Env := launch0.env 0 0 0
theorem w_frames : about1.frames = Frame.invoking theMethod args0 :: below0 := rfl
set_option maxRecDepth 65536 in
theorem w_args : argsFit about1.vm theMethod args0 = true := by decide +kernel
set_option maxRecDepth 65536 in
theorem w_heap : heapFits about1 = true := by decide +kernel
set_option maxRecDepth 65536 in
theorem w_runnable : about1.curStatus? = some .runnable := by decide +kernel
set_option maxRecDepth 65536 in
theorem w_alone : about1.alone = true := by decide +kernel
set_option maxRecDepth 65536 in
theorem w_named : about1.methodNamed? x = some theMethod := by decide +kernel
set_option maxRecDepth 65536 in
theorem w_hears : about1.hears theMethod below0 = true := by decide +kernel
set_option maxRecDepth 65536 in
theorem w_ripe : about1.ripe theMethod args0 below0 = true := by decide +kernel
theorem w_running : about1.status = .running := rfl
set_option maxRecDepth 65536 in
theorem w_room : about1.hasRoom e0.platform room_1 = true :=
  launch0.hasRoom_least _ room_1 (by decide +kernel) (by decide +kernel) (by decide +kernel) (by decide +kernel) (by decide +kernel) (by decide +kernel)
theorem allAtoms_all (ts : List Jvm.Cond) (a : Array Jvm.Value) (st : Jvm.State) : (allAtoms ts).before a st = ts.all (fun c => c.before a st) := by
  induction ts with
  | nil => rfl
  | cons c t ih =>
    show (Jvm.Cond.and c (allAtoms t)).before a st = _
    rw [Jvm.Cond.before_and, ih, List.all_cons]
def words1 : List Jvm.Cond := Jvm.Cond.code x code maxLocals ret :: tables_1
/-- a 'code' word, met by the world's own term for the bytes: nothing is compared byte by byte -/
theorem code_word {y : MethodName} {bytes : ByteArray} {mx : Nat} {rt : Option FieldType} {a : Array Value} {s : State} {m : MethodId} {meth : Method} {c : Code} (h1 : s.methodNamed? y = some m) (h2 : s.vm.method? m = some meth) (h3 : meth.code = some c) (h4 : c.code = bytes)
    (h5 : (c.maxLocals == mx && c.exceptionTable.isEmpty && decide (c.maxStack ≤ mostOperands) && decide (meth.sig.returnType = rt) && !meth.locks && decide (parseMethodDescriptor y.desc = some meth.sig)) = true) : (Jvm.Cond.code y bytes mx rt).before a s = true := by
  simp only [Bool.and_eq_true, beq_iff_eq, Bool.not_eq_true', decide_eq_true_eq] at h5
  obtain ⟨⟨⟨⟨⟨g1, g2⟩, g3⟩, g4⟩, g5⟩, g6⟩ := h5
  simp [Cond.before, Cond.holds, Cond.value, h1, h2, h3, h4, g1, g2, g3, g4, g5, g6]
def isCode : Jvm.Cond → Bool
  | .code _ _ _ _ => true
  | _ => false
theorem all_split {L : List Jvm.Cond} {P : Jvm.Cond → Bool} (h1 : L.all (fun c => isCode c || P c) = true) (h2 : ∀ c ∈ L.filter isCode, P c = true) : L.all P = true := by
  refine List.all_eq_true.mpr fun c hc => ?_
  have h := List.all_eq_true.mp h1 c hc
  rcases Bool.eq_false_or_eq_true (isCode c) with hi | hi
  · exact h2 c (List.mem_filter.mpr ⟨hc, hi⟩)
  · simpa [hi] using h
set_option maxRecDepth 65536 in
theorem w_c0 : (Jvm.Cond.code x code maxLocals ret).before args0 about1 = true := code_word (m := ⟨1, 1⟩) (meth := k1m1) (c := k1c1) (by decide +kernel) rfl rfl rfl (by decide +kernel)
set_option maxRecDepth 65536 in
theorem w_c1 : (Jvm.Cond.code ({ cls := "com/example/ordal/ordal/Aliases", name := "<init>", desc := "()V" } : Jvm.MethodName) prog_1_method_1_code (1 : Nat) (Option.none : Option Jvm.ClassFile.FieldType)).before args0 about1 = true := code_word (m := ⟨2, 0⟩) (meth := k2m0) (c := k2c0) (by decide +kernel) rfl rfl rfl (by decide +kernel)
set_option maxRecDepth 65536 in
theorem w_c2 : (Jvm.Cond.code ({ cls := "java/lang/Object", name := "<init>", desc := "()V" } : Jvm.MethodName) object_method_1_code (1 : Nat) (Option.none : Option Jvm.ClassFile.FieldType)).before args0 about1 = true := code_word (m := ⟨0, 0⟩) (meth := k0m0) (c := k0c0) (by decide +kernel) rfl rfl rfl (by decide +kernel)
set_option maxRecDepth 65536 in
theorem w_c3 : (Jvm.Cond.code ({ cls := "com/example/ordal/ordal/Aliases", name := "join", desc := "(II)Z" } : Jvm.MethodName) prog_1_method_3_code (9 : Nat) (Option.some Jvm.ClassFile.FieldType.boolean)).before args0 about1 = true := code_word (m := ⟨2, 2⟩) (meth := k2m2) (c := k2c2) (by decide +kernel) rfl rfl rfl (by decide +kernel)
set_option maxRecDepth 65536 in
theorem w_c4 : (Jvm.Cond.code ({ cls := "com/example/ordal/ordal/Aliases", name := "representative", desc := "(I)I" } : Jvm.MethodName) prog_1_method_2_code (5 : Nat) (Option.some Jvm.ClassFile.FieldType.int)).before args0 about1 = true := code_word (m := ⟨2, 1⟩) (meth := k2m1) (c := k2c1) (by decide +kernel) rfl rfl rfl (by decide +kernel)
set_option maxRecDepth 65536 in
theorem w_c5 : (Jvm.Cond.code ({ cls := "com/example/ordal/ordal/AliasesRepresentativePinLaw", name := "r3", desc := "([II)I" } : Jvm.MethodName) method_9_code (2 : Nat) (Option.some Jvm.ClassFile.FieldType.int)).before args0 about1 = true := code_word (m := ⟨1, 8⟩) (meth := k1m8) (c := k1c8) (by decide +kernel) rfl rfl rfl (by decide +kernel)
set_option maxRecDepth 65536 in
theorem w_c6 : (Jvm.Cond.code ({ cls := "com/example/ordal/ordal/AliasesRepresentativePinLaw", name := "r2", desc := "([II)I" } : Jvm.MethodName) method_7_code (2 : Nat) (Option.some Jvm.ClassFile.FieldType.int)).before args0 about1 = true := code_word (m := ⟨1, 6⟩) (meth := k1m6) (c := k1c6) (by decide +kernel) rfl rfl rfl (by decide +kernel)
set_option maxRecDepth 65536 in
theorem w_c7 : (Jvm.Cond.code ({ cls := "com/example/ordal/ordal/AliasesRepresentativePinLaw", name := "r1", desc := "([II)I" } : Jvm.MethodName) method_5_code (2 : Nat) (Option.some Jvm.ClassFile.FieldType.int)).before args0 about1 = true := code_word (m := ⟨1, 4⟩) (meth := k1m4) (c := k1c4) (by decide +kernel) rfl rfl rfl (by decide +kernel)
set_option maxRecDepth 65536 in
theorem w_c8 : (Jvm.Cond.code ({ cls := "com/example/ordal/ordal/AliasesRepresentativePinLaw", name := "step", desc := "(IIIII)I" } : Jvm.MethodName) method_3_code (6 : Nat) (Option.some Jvm.ClassFile.FieldType.int)).before args0 about1 = true := code_word (m := ⟨1, 2⟩) (meth := k1m2) (c := k1c2) (by decide +kernel) rfl rfl rfl (by decide +kernel)
set_option maxRecDepth 65536 in
theorem w_c9 : (Jvm.Cond.code ({ cls := "com/example/ordal/ordal/AliasesRepresentativePinLaw", name := "s1", desc := "([II)I" } : Jvm.MethodName) method_6_code (2 : Nat) (Option.some Jvm.ClassFile.FieldType.int)).before args0 about1 = true := code_word (m := ⟨1, 5⟩) (meth := k1m5) (c := k1c5) (by decide +kernel) rfl rfl rfl (by decide +kernel)
set_option maxRecDepth 65536 in
theorem w_c10 : (Jvm.Cond.code ({ cls := "com/example/ordal/ordal/AliasesRepresentativePinLaw", name := "grown", desc := "(IIIIII)I" } : Jvm.MethodName) method_4_code (6 : Nat) (Option.some Jvm.ClassFile.FieldType.int)).before args0 about1 = true := code_word (m := ⟨1, 3⟩) (meth := k1m3) (c := k1c3) (by decide +kernel) rfl rfl rfl (by decide +kernel)
set_option maxRecDepth 65536 in
theorem w_c11 : (Jvm.Cond.code ({ cls := "com/example/ordal/ordal/AliasesRepresentativePinLaw", name := "s2", desc := "([II)I" } : Jvm.MethodName) method_8_code (2 : Nat) (Option.some Jvm.ClassFile.FieldType.int)).before args0 about1 = true := code_word (m := ⟨1, 7⟩) (meth := k1m7) (c := k1c7) (by decide +kernel) rfl rfl rfl (by decide +kernel)
set_option maxRecDepth 65536 in
theorem w_c12 : (Jvm.Cond.code ({ cls := "java/lang/Math", name := "max", desc := "(II)I" } : Jvm.MethodName) jdk_29_method_65_code (2 : Nat) (Option.some Jvm.ClassFile.FieldType.int)).before args0 about1 = true := code_word (m := ⟨3, 1⟩) (meth := k3m1) (c := k3c1) (by decide +kernel) rfl rfl rfl (by decide +kernel)
set_option maxRecDepth 65536 in
theorem w_c13 : (Jvm.Cond.code ({ cls := "com/example/ordal/ordal/Aliases", name := "grow", desc := "(I)V" } : Jvm.MethodName) prog_1_method_7_code (5 : Nat) (Option.none : Option Jvm.ClassFile.FieldType)).before args0 about1 = true := code_word (m := ⟨2, 3⟩) (meth := k2m3) (c := k2c3) (by decide +kernel) rfl rfl rfl (by decide +kernel)
set_option maxRecDepth 65536 in
theorem w_c14 : (Jvm.Cond.code ({ cls := "java/util/Arrays", name := "copyOf", desc := "([II)[I" } : Jvm.MethodName) jdk_65_method_123_code (3 : Nat) (Option.some (Jvm.ClassFile.FieldType.array Jvm.ClassFile.FieldType.int))).before args0 about1 = true := code_word (m := ⟨4, 1⟩) (meth := k4m1) (c := k4c1) (by decide +kernel) rfl rfl rfl (by decide +kernel)
set_option maxRecDepth 65536 in
theorem w_c15 : (Jvm.Cond.code ({ cls := "java/lang/Math", name := "min", desc := "(II)I" } : Jvm.MethodName) jdk_29_method_69_code (2 : Nat) (Option.some Jvm.ClassFile.FieldType.int)).before args0 about1 = true := code_word (m := ⟨3, 2⟩) (meth := k3m2) (c := k3c2) (by decide +kernel) rfl rfl rfl (by decide +kernel)
def codes1 : List Jvm.Cond := [Jvm.Cond.code x code maxLocals ret, Jvm.Cond.code ({ cls := "com/example/ordal/ordal/Aliases", name := "<init>", desc := "()V" } : Jvm.MethodName) prog_1_method_1_code (1 : Nat) (Option.none : Option Jvm.ClassFile.FieldType), Jvm.Cond.code ({ cls := "java/lang/Object", name := "<init>", desc := "()V" } : Jvm.MethodName) object_method_1_code (1 : Nat) (Option.none : Option Jvm.ClassFile.FieldType), Jvm.Cond.code ({ cls := "com/example/ordal/ordal/Aliases", name := "join", desc := "(II)Z" } : Jvm.MethodName) prog_1_method_3_code (9 : Nat) (Option.some Jvm.ClassFile.FieldType.boolean), Jvm.Cond.code ({ cls := "com/example/ordal/ordal/Aliases", name := "representative", desc := "(I)I" } : Jvm.MethodName) prog_1_method_2_code (5 : Nat) (Option.some Jvm.ClassFile.FieldType.int), Jvm.Cond.code ({ cls := "com/example/ordal/ordal/AliasesRepresentativePinLaw", name := "r3", desc := "([II)I" } : Jvm.MethodName) method_9_code (2 : Nat) (Option.some Jvm.ClassFile.FieldType.int), Jvm.Cond.code ({ cls := "com/example/ordal/ordal/AliasesRepresentativePinLaw", name := "r2", desc := "([II)I" } : Jvm.MethodName) method_7_code (2 : Nat) (Option.some Jvm.ClassFile.FieldType.int), Jvm.Cond.code ({ cls := "com/example/ordal/ordal/AliasesRepresentativePinLaw", name := "r1", desc := "([II)I" } : Jvm.MethodName) method_5_code (2 : Nat) (Option.some Jvm.ClassFile.FieldType.int), Jvm.Cond.code ({ cls := "com/example/ordal/ordal/AliasesRepresentativePinLaw", name := "step", desc := "(IIIII)I" } : Jvm.MethodName) method_3_code (6 : Nat) (Option.some Jvm.ClassFile.FieldType.int), Jvm.Cond.code ({ cls := "com/example/ordal/ordal/AliasesRepresentativePinLaw", name := "s1", desc := "([II)I" } : Jvm.MethodName) method_6_code (2 : Nat) (Option.some Jvm.ClassFile.FieldType.int), Jvm.Cond.code ({ cls := "com/example/ordal/ordal/AliasesRepresentativePinLaw", name := "grown", desc := "(IIIIII)I" } : Jvm.MethodName) method_4_code (6 : Nat) (Option.some Jvm.ClassFile.FieldType.int), Jvm.Cond.code ({ cls := "com/example/ordal/ordal/AliasesRepresentativePinLaw", name := "s2", desc := "([II)I" } : Jvm.MethodName) method_8_code (2 : Nat) (Option.some Jvm.ClassFile.FieldType.int), Jvm.Cond.code ({ cls := "java/lang/Math", name := "max", desc := "(II)I" } : Jvm.MethodName) jdk_29_method_65_code (2 : Nat) (Option.some Jvm.ClassFile.FieldType.int), Jvm.Cond.code ({ cls := "com/example/ordal/ordal/Aliases", name := "grow", desc := "(I)V" } : Jvm.MethodName) prog_1_method_7_code (5 : Nat) (Option.none : Option Jvm.ClassFile.FieldType), Jvm.Cond.code ({ cls := "java/util/Arrays", name := "copyOf", desc := "([II)[I" } : Jvm.MethodName) jdk_65_method_123_code (3 : Nat) (Option.some (Jvm.ClassFile.FieldType.array Jvm.ClassFile.FieldType.int)), Jvm.Cond.code ({ cls := "java/lang/Math", name := "min", desc := "(II)I" } : Jvm.MethodName) jdk_29_method_69_code (2 : Nat) (Option.some Jvm.ClassFile.FieldType.int)]
set_option maxRecDepth 65536 in
theorem codes_eq : words1.filter isCode = codes1 := rfl
theorem w_codes : ∀ c ∈ words1.filter isCode, c.before args0 about1 = true := by
  rw [codes_eq]
  intro c hc
  simp only [codes1, List.mem_cons, List.not_mem_nil, or_false] at hc
  rcases hc with rfl | rfl | rfl | rfl | rfl | rfl | rfl | rfl | rfl | rfl | rfl | rfl | rfl | rfl | rfl | rfl
  · exact w_c0
  · exact w_c1
  · exact w_c2
  · exact w_c3
  · exact w_c4
  · exact w_c5
  · exact w_c6
  · exact w_c7
  · exact w_c8
  · exact w_c9
  · exact w_c10
  · exact w_c11
  · exact w_c12
  · exact w_c13
  · exact w_c14
  · exact w_c15
set_option maxRecDepth 65536 in
theorem w_t1 : (words1.take 24).all (fun c => isCode c || c.before args0 about1) = true := by decide +kernel
set_option maxRecDepth 65536 in
theorem w_t2 : ((words1.drop 24).take 24).all (fun c => isCode c || c.before args0 about1) = true := by decide +kernel
set_option maxRecDepth 65536 in
theorem w_t3 : ((words1.drop 24).drop 24).all (fun c => isCode c || c.before args0 about1) = true := by decide +kernel
theorem w_tables : (allAtoms (Jvm.Cond.code x code maxLocals ret :: tables_1)).before args0 about1 = true := by
  rw [allAtoms_all]
  show words1.all (fun c => c.before args0 about1) = true
  refine all_split ?_ w_codes
  rw [← List.take_append_drop 24 words1, List.all_append, w_t1, ← List.take_append_drop 24 (words1.drop 24), List.all_append, w_t2, w_t3]
  rfl
set_option maxRecDepth 65536 in
theorem w_case : (Jvm.Cond.and given_1 narrow_1).before args0 about1 = true := by decide +kernel
theorem w_applies : (headSpec (Jvm.Cond.code x code maxLocals ret :: tables_1) room_1).applies x e0.platform about1 = true :=
  (Spec.applies_iff w_frames).mpr ⟨w_running, w_runnable, w_alone, w_named, w_hears, w_ripe, w_room, w_tables⟩
theorem atStart : AtStart classFile x code maxLocals ret World_1 tables_1 room_1 Calls_1 rest_1 Pre_1 launch0 p0 e0 about1 theMethod args0 below0 :=
  ⟨lists_1, trivial, launch0.admits_env _ _ _, launch0.least_env, fairChoices_fair.cas, fairChoices_fair.clock, w_frames, w_args, w_heap, w_applies, trivial, trivial, w_case⟩
end start1
theorem witness_1 : WitnessClaimed_1 := ⟨start1.p0, start1.e0, start1.about1, start1.theMethod, start1.args0, start1.below0, start1.atStart⟩
end Jvm.Pilot.@@N@@
