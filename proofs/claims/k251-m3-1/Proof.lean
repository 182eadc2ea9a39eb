import JvmDerived
import JvmDerived.Pilot.@@N@@Statement
import JvmDerived.Pilot.@@N@@Code
set_option linter.unusedVariables false
set_option linter.unusedSimpArgs false
namespace Jvm.Pilot.@@N@@
open Jvm Jvm.ClassFile Sem Op Lib Jvm.Free Jvm.Stand Jvm.LawKit Jvm.RoadKit Bundle Jvm.Pilot.@@N@@.Jvm.D
section OwnKit
variable {p : Program} {l : Launch} {e : Env} {R : Room} {s : State} {m : MethodId} {args : Array Value} {below : List Frame} {meth : Method} {c : Code} {T : State} {cells slots : Nat} {P : State → Outcome → Prop}
variable {Z : State} {a0 : Array Value} {h h0 : Heap} {n0 : Nat} {own nm : String} {bytes : ByteArray} {maxL : Nat} {ret : Option FieldType}
variable {pc pc' : Nat} {Ls : Array Slot} {st : List Value}
/-- from the state U the run comes to an end that P allows -/
def own_Go (p : Program) (e : Env) (below : List Frame) (U : State) (P : State → Outcome → Prop) : Prop := ∃ a o, Steps p.tables e below U a ∧ P a o
theorem own_by {U U' : State} (q : ∀ t, Steps p.tables e below U' t → Steps p.tables e below U t) (G : own_Go p e below U' P) : own_Go p e below U P := by
  obtain ⟨a, o, h1, h2⟩ := G
  exact ⟨a, o, q a h1, h2⟩
/-- what stays the same in one body -/
def own_B (p : Program) (s : State) (m : MethodId) (meth : Method) (c : Code) (Z : State) (own nm : String) (bytes : ByteArray) (maxL : Nat) (ret : Option FieldType) : Prop :=
  p.tables.exec = Jvm.exec ∧ Z.Warmed39 s.vm ∧ c.maxLocals = maxL ∧ s.vm.findClass own = some m.cls ∧ meth.sig.returnType = ret ∧ meth.locks = false ∧ meth.name = nm ∧ c.code = bytes
/-- where the run stands: the state T, its heap h; nothing below n0 has been written -/
def own_S (p : Program) (l : Launch) (e : Env) (R : Room) (s : State) (m : MethodId) (args : Array Value) (below : List Frame) (meth : Method) (c : Code) (n0 : Nat) (T : State) (h : Heap) (cells slots : Nat) : Prop :=
  ∃ locs, Stand p l e R s m args below meth c T locs cells slots ∧ T.heap = h ∧ Fr n0 locs
/-- what a body owes at its end -/
def own_P (s : State) (below : List Frame) (n0 : Nat) (Q : Option Value → Heap → Prop) (k n : Nat) (a : State) (o : Outcome) : Prop :=
  a.status = .running ∧ Ended a below o ∧ ∃ v L, o = .returned v ∧ (Fr n0 L ∧ Q v a.heap) ∧ FrameEnd s o a L k n
theorem own_iload (B : own_B p s m meth c Z own nm bytes maxL ret) (X : own_S p l e R s m args below meth c n0 T h cells slots) {k : Nat} {v : Int32} (d : decode bytes pc = .ok (.iload k, 2)) (hp : pc + 2 = pc') (hl : Ls[k]? = some (.val (.int v)))
    (G : own_Go p e below (T.setTop (mkF m pc' Ls (.int v :: st))) P) : own_Go p e below (T.setTop (mkF m pc Ls (st))) P := by
  obtain ⟨locs, X, -, -⟩ := X
  subst hp
  exact own_by (fun _ => XS.iload X.here B.1 rfl (hb B.2.2.2.2.2.2.2 d) hl) G
theorem own_iloadN (B : own_B p s m meth c Z own nm bytes maxL ret) (X : own_S p l e R s m args below meth c n0 T h cells slots) {k : Fin 4} {v : Int32} (d : decode bytes pc = .ok (.iload_n k, 1)) (hp : pc + 1 = pc') (hl : Ls[k.val]? = some (.val (.int v)))
    (G : own_Go p e below (T.setTop (mkF m pc' Ls (.int v :: st))) P) : own_Go p e below (T.setTop (mkF m pc Ls (st))) P := by
  obtain ⟨locs, X, -, -⟩ := X
  subst hp
  exact own_by (fun _ => XS.iloadN X.here B.1 rfl (hb B.2.2.2.2.2.2.2 d) hl) G
theorem own_lloadN (B : own_B p s m meth c Z own nm bytes maxL ret) (X : own_S p l e R s m args below meth c n0 T h cells slots) {k : Fin 4} {v : Int64} (d : decode bytes pc = .ok (.lload_n k, 1)) (hp : pc + 1 = pc') (hl : Ls[k.val]? = some (.val (.long v)))
    (G : own_Go p e below (T.setTop (mkF m pc' Ls (.long v :: st))) P) : own_Go p e below (T.setTop (mkF m pc Ls (st))) P := by
  obtain ⟨locs, X, -, -⟩ := X
  subst hp
  exact own_by (fun _ => XS.lloadN X.here B.1 rfl (hb B.2.2.2.2.2.2.2 d) hl) G
theorem own_aload (B : own_B p s m meth c Z own nm bytes maxL ret) (X : own_S p l e R s m args below meth c n0 T h cells slots) {k : Nat} {v : Value} (d : decode bytes pc = .ok (.aload k, 2)) (hp : pc + 2 = pc') (hl : Ls[k]? = some (.val v)) (hv : v.isRef = true)
    (G : own_Go p e below (T.setTop (mkF m pc' Ls (v :: st))) P) : own_Go p e below (T.setTop (mkF m pc Ls (st))) P := by
  obtain ⟨locs, X, -, -⟩ := X
  subst hp
  exact own_by (fun _ => XS.aload X.here B.1 rfl (hb B.2.2.2.2.2.2.2 d) hl hv) G
theorem own_aloadN (B : own_B p s m meth c Z own nm bytes maxL ret) (X : own_S p l e R s m args below meth c n0 T h cells slots) {k : Fin 4} {v : Value} (d : decode bytes pc = .ok (.aload_n k, 1)) (hp : pc + 1 = pc') (hl : Ls[k.val]? = some (.val v)) (hv : v.isRef = true)
    (G : own_Go p e below (T.setTop (mkF m pc' Ls (v :: st))) P) : own_Go p e below (T.setTop (mkF m pc Ls (st))) P := by
  obtain ⟨locs, X, -, -⟩ := X
  subst hp
  exact own_by (fun _ => XS.aloadN X.here B.1 rfl (hb B.2.2.2.2.2.2.2 d) hl hv) G
theorem own_istore (B : own_B p s m meth c Z own nm bytes maxL ret) (X : own_S p l e R s m args below meth c n0 T h cells slots) {k : Nat} {v : Int32} {Ls' : Array Slot} (d : decode bytes pc = .ok (.istore k, 2)) (hp : pc + 2 = pc') (hl : storeLocals Ls k (.int v) = some Ls')
    (G : own_Go p e below (T.setTop (mkF m pc' Ls' st)) P) : own_Go p e below (T.setTop (mkF m pc Ls (.int v :: st))) P := by
  obtain ⟨locs, X, -, -⟩ := X
  subst hp
  exact own_by (fun _ => XS.istore X.here B.1 rfl (hb B.2.2.2.2.2.2.2 d) rfl hl) G
theorem own_istoreN (B : own_B p s m meth c Z own nm bytes maxL ret) (X : own_S p l e R s m args below meth c n0 T h cells slots) {k : Fin 4} {v : Int32} {Ls' : Array Slot} (d : decode bytes pc = .ok (.istore_n k, 1)) (hp : pc + 1 = pc') (hl : storeLocals Ls k.val (.int v) = some Ls')
    (G : own_Go p e below (T.setTop (mkF m pc' Ls' st)) P) : own_Go p e below (T.setTop (mkF m pc Ls (.int v :: st))) P := by
  obtain ⟨locs, X, -, -⟩ := X
  subst hp
  exact own_by (fun _ => XS.istoreN X.here B.1 rfl (hb B.2.2.2.2.2.2.2 d) rfl hl) G
theorem own_lstoreN (B : own_B p s m meth c Z own nm bytes maxL ret) (X : own_S p l e R s m args below meth c n0 T h cells slots) {k : Fin 4} {v : Int64} {Ls' : Array Slot} (d : decode bytes pc = .ok (.lstore_n k, 1)) (hp : pc + 1 = pc') (hl : storeLocals Ls k.val (.long v) = some Ls')
    (G : own_Go p e below (T.setTop (mkF m pc' Ls' st)) P) : own_Go p e below (T.setTop (mkF m pc Ls (.long v :: st))) P := by
  obtain ⟨locs, X, -, -⟩ := X
  subst hp
  exact own_by (fun _ => XS.lstoreN X.here B.1 rfl (hb B.2.2.2.2.2.2.2 d) rfl hl) G
theorem own_astore (B : own_B p s m meth c Z own nm bytes maxL ret) (X : own_S p l e R s m args below meth c n0 T h cells slots) {k : Nat} {v : Value} {Ls' : Array Slot} (d : decode bytes pc = .ok (.astore k, 2)) (hp : pc + 2 = pc') (hv : v.isRef = true) (hl : storeLocals Ls k (v) = some Ls')
    (G : own_Go p e below (T.setTop (mkF m pc' Ls' st)) P) : own_Go p e below (T.setTop (mkF m pc Ls (v :: st))) P := by
  obtain ⟨locs, X, -, -⟩ := X
  subst hp
  exact own_by (fun _ => XS.astore X.here B.1 rfl (hb B.2.2.2.2.2.2.2 d) rfl hv hl) G
theorem own_astoreN (B : own_B p s m meth c Z own nm bytes maxL ret) (X : own_S p l e R s m args below meth c n0 T h cells slots) {k : Fin 4} {v : Value} {Ls' : Array Slot} (d : decode bytes pc = .ok (.astore_n k, 1)) (hp : pc + 1 = pc') (hv : v.isRef = true) (hl : storeLocals Ls k.val (v) = some Ls')
    (G : own_Go p e below (T.setTop (mkF m pc' Ls' st)) P) : own_Go p e below (T.setTop (mkF m pc Ls (v :: st))) P := by
  obtain ⟨locs, X, -, -⟩ := X
  subst hp
  exact own_by (fun _ => XS.astoreN X.here B.1 rfl (hb B.2.2.2.2.2.2.2 d) rfl hv hl) G
theorem own_iinc (B : own_B p s m meth c Z own nm bytes maxL ret) (X : own_S p l e R s m args below meth c n0 T h cells slots) {k : Nat} {i : Int} {x z : Int32} {Ls' : Array Slot} (d : decode bytes pc = .ok (.iinc k i, 3)) (hp : pc + 3 = pc') (hl : Ls[k]? = some (.val (.int x))) (hz : x + Int32.ofInt i = z) (hs : storeLocals Ls k (.int z) = some Ls')
    (G : own_Go p e below (T.setTop (mkF m pc' Ls' st)) P) : own_Go p e below (T.setTop (mkF m pc Ls st)) P := by
  obtain ⟨locs, X, -, -⟩ := X
  subst hp hz
  exact own_by (fun _ => XS.iinc X.here B.1 rfl (hb B.2.2.2.2.2.2.2 d) hl hs) G
theorem own_iconst (B : own_B p s m meth c Z own nm bytes maxL ret) (X : own_S p l e R s m args below meth c n0 T h cells slots) {i : Int} {z : Int32} (d : decode bytes pc = .ok (.iconst i, 1)) (hp : pc + 1 = pc') (hz : Int32.ofInt i = z)
    (G : own_Go p e below (T.setTop (mkF m pc' Ls (.int z :: st))) P) : own_Go p e below (T.setTop (mkF m pc Ls (st))) P := by
  obtain ⟨locs, X, -, -⟩ := X
  subst hp
  subst hz
  exact own_by (fun _ => XS.iconst X.here B.1 rfl (hb B.2.2.2.2.2.2.2 d)) G
theorem own_bipush (B : own_B p s m meth c Z own nm bytes maxL ret) (X : own_S p l e R s m args below meth c n0 T h cells slots) {i : Int} {z : Int32} (d : decode bytes pc = .ok (.bipush i, 2)) (hp : pc + 2 = pc') (hz : (Int8.ofInt i).toInt32 = z)
    (G : own_Go p e below (T.setTop (mkF m pc' Ls (.int z :: st))) P) : own_Go p e below (T.setTop (mkF m pc Ls (st))) P := by
  obtain ⟨locs, X, -, -⟩ := X
  subst hp
  subst hz
  exact own_by (fun _ => XS.bipush X.here B.1 rfl (hb B.2.2.2.2.2.2.2 d)) G
theorem own_ldc2J (B : own_B p s m meth c Z own nm bytes maxL ret) (X : own_S p l e R s m args below meth c n0 T h cells slots) {i : Nat} {z : Int64} (w : (Cond.constantLong own i z).before a0 Z = true) (d : decode bytes pc = .ok (.ldc2_w i, 3)) (hp : pc + 3 = pc') 
    (G : own_Go p e below (T.setTop (mkF m pc' Ls (.long z :: st))) P) : own_Go p e below (T.setTop (mkF m pc Ls (st))) P := by
  obtain ⟨locs, X, -, -⟩ := X
  subst hp
  exact own_by (fun _ => X.ldc2Long B.1 B.2.2.2.1 (mvT B.2.1 w) (g := mkF m pc Ls st) rfl (hb B.2.2.2.2.2.2.2 d) _) G
theorem own_iadd (B : own_B p s m meth c Z own nm bytes maxL ret) (X : own_S p l e R s m args below meth c n0 T h cells slots) {x y z : Int32} (d : decode bytes pc = .ok (.iadd, 1)) (hp : pc + 1 = pc') (hz : x + y = z)
    (G : own_Go p e below (T.setTop (mkF m pc' Ls (.int z :: st))) P) : own_Go p e below (T.setTop (mkF m pc Ls (.int y :: .int x :: st))) P := by
  obtain ⟨locs, X, -, -⟩ := X
  subst hp
  subst hz
  exact own_by (fun _ => XS.iadd X.here B.1 rfl (hb B.2.2.2.2.2.2.2 d) rfl) G
theorem own_isub (B : own_B p s m meth c Z own nm bytes maxL ret) (X : own_S p l e R s m args below meth c n0 T h cells slots) {x y z : Int32} (d : decode bytes pc = .ok (.isub, 1)) (hp : pc + 1 = pc') (hz : x - y = z)
    (G : own_Go p e below (T.setTop (mkF m pc' Ls (.int z :: st))) P) : own_Go p e below (T.setTop (mkF m pc Ls (.int y :: .int x :: st))) P := by
  obtain ⟨locs, X, -, -⟩ := X
  subst hp
  subst hz
  exact own_by (fun _ => XS.isub X.here B.1 rfl (hb B.2.2.2.2.2.2.2 d) rfl) G
theorem own_imul (B : own_B p s m meth c Z own nm bytes maxL ret) (X : own_S p l e R s m args below meth c n0 T h cells slots) {x y z : Int32} (d : decode bytes pc = .ok (.imul, 1)) (hp : pc + 1 = pc') (hz : x * y = z)
    (G : own_Go p e below (T.setTop (mkF m pc' Ls (.int z :: st))) P) : own_Go p e below (T.setTop (mkF m pc Ls (.int y :: .int x :: st))) P := by
  obtain ⟨locs, X, -, -⟩ := X
  subst hp
  subst hz
  exact own_by (fun _ => XS.imul X.here B.1 rfl (hb B.2.2.2.2.2.2.2 d) rfl) G
theorem own_iand (B : own_B p s m meth c Z own nm bytes maxL ret) (X : own_S p l e R s m args below meth c n0 T h cells slots) {x y z : Int32} (d : decode bytes pc = .ok (.iand, 1)) (hp : pc + 1 = pc') (hz : x &&& y = z)
    (G : own_Go p e below (T.setTop (mkF m pc' Ls (.int z :: st))) P) : own_Go p e below (T.setTop (mkF m pc Ls (.int y :: .int x :: st))) P := by
  obtain ⟨locs, X, -, -⟩ := X
  subst hp
  subst hz
  exact own_by (fun _ => XS.iand X.here B.1 rfl (hb B.2.2.2.2.2.2.2 d) rfl) G
theorem own_ixor (B : own_B p s m meth c Z own nm bytes maxL ret) (X : own_S p l e R s m args below meth c n0 T h cells slots) {x y z : Int32} (d : decode bytes pc = .ok (.ixor, 1)) (hp : pc + 1 = pc') (hz : x ^^^ y = z)
    (G : own_Go p e below (T.setTop (mkF m pc' Ls (.int z :: st))) P) : own_Go p e below (T.setTop (mkF m pc Ls (.int y :: .int x :: st))) P := by
  obtain ⟨locs, X, -, -⟩ := X
  subst hp
  subst hz
  exact own_by (fun _ => XS.ixor X.here B.1 rfl (hb B.2.2.2.2.2.2.2 d) rfl) G
theorem own_ishr (B : own_B p s m meth c Z own nm bytes maxL ret) (X : own_S p l e R s m args below meth c n0 T h cells slots) {x y z : Int32} (d : decode bytes pc = .ok (.ishr, 1)) (hp : pc + 1 = pc') (hz : x >>> (y &&& 31) = z)
    (G : own_Go p e below (T.setTop (mkF m pc' Ls (.int z :: st))) P) : own_Go p e below (T.setTop (mkF m pc Ls (.int y :: .int x :: st))) P := by
  obtain ⟨locs, X, -, -⟩ := X
  subst hp
  subst hz
  exact own_by (fun _ => XS.ishr X.here B.1 rfl (hb B.2.2.2.2.2.2.2 d) rfl) G
theorem own_iushr (B : own_B p s m meth c Z own nm bytes maxL ret) (X : own_S p l e R s m args below meth c n0 T h cells slots) {x y z : Int32} (d : decode bytes pc = .ok (.iushr, 1)) (hp : pc + 1 = pc') (hz : (x.toUInt32 >>> (y &&& 31).toUInt32).toInt32 = z)
    (G : own_Go p e below (T.setTop (mkF m pc' Ls (.int z :: st))) P) : own_Go p e below (T.setTop (mkF m pc Ls (.int y :: .int x :: st))) P := by
  obtain ⟨locs, X, -, -⟩ := X
  subst hp
  subst hz
  exact own_by (fun _ => XS.iushr X.here B.1 rfl (hb B.2.2.2.2.2.2.2 d) rfl) G
theorem own_ladd (B : own_B p s m meth c Z own nm bytes maxL ret) (X : own_S p l e R s m args below meth c n0 T h cells slots) {x y z : Int64} (d : decode bytes pc = .ok (.ladd, 1)) (hp : pc + 1 = pc') (hz : x + y = z)
    (G : own_Go p e below (T.setTop (mkF m pc' Ls (.long z :: st))) P) : own_Go p e below (T.setTop (mkF m pc Ls (.long y :: .long x :: st))) P := by
  obtain ⟨locs, X, -, -⟩ := X
  subst hp
  subst hz
  exact own_by (fun _ => XS.ladd X.here B.1 rfl (hb B.2.2.2.2.2.2.2 d) rfl) G
theorem own_lmul (B : own_B p s m meth c Z own nm bytes maxL ret) (X : own_S p l e R s m args below meth c n0 T h cells slots) {x y z : Int64} (d : decode bytes pc = .ok (.lmul, 1)) (hp : pc + 1 = pc') (hz : x * y = z)
    (G : own_Go p e below (T.setTop (mkF m pc' Ls (.long z :: st))) P) : own_Go p e below (T.setTop (mkF m pc Ls (.long y :: .long x :: st))) P := by
  obtain ⟨locs, X, -, -⟩ := X
  subst hp
  subst hz
  exact own_by (fun _ => XS.lmul X.here B.1 rfl (hb B.2.2.2.2.2.2.2 d) rfl) G
theorem own_lshr (B : own_B p s m meth c Z own nm bytes maxL ret) (X : own_S p l e R s m args below meth c n0 T h cells slots) {x z : Int64} {y : Int32} (d : decode bytes pc = .ok (.lshr, 1)) (hp : pc + 1 = pc') (hz : x >>> (y &&& 0x3f).toInt64 = z)
    (G : own_Go p e below (T.setTop (mkF m pc' Ls (.long z :: st))) P) : own_Go p e below (T.setTop (mkF m pc Ls (.int y :: .long x :: st))) P := by
  obtain ⟨locs, X, -, -⟩ := X
  subst hp
  subst hz
  exact own_by (fun _ => XS.lshr X.here B.1 rfl (hb B.2.2.2.2.2.2.2 d) rfl) G
theorem own_lushr (B : own_B p s m meth c Z own nm bytes maxL ret) (X : own_S p l e R s m args below meth c n0 T h cells slots) {x z : Int64} {y : Int32} (d : decode bytes pc = .ok (.lushr, 1)) (hp : pc + 1 = pc') (hz : (x.toUInt64 >>> (y &&& 0x3f).toInt64.toUInt64).toInt64 = z)
    (G : own_Go p e below (T.setTop (mkF m pc' Ls (.long z :: st))) P) : own_Go p e below (T.setTop (mkF m pc Ls (.int y :: .long x :: st))) P := by
  obtain ⟨locs, X, -, -⟩ := X
  subst hp
  subst hz
  exact own_by (fun _ => XS.lushr X.here B.1 rfl (hb B.2.2.2.2.2.2.2 d) rfl) G
theorem own_lcmp (B : own_B p s m meth c Z own nm bytes maxL ret) (X : own_S p l e R s m args below meth c n0 T h cells slots) {x y : Int64} {z : Int32} (d : decode bytes pc = .ok (.lcmp, 1)) (hp : pc + 1 = pc') (hz : lcmpW x y = z)
    (G : own_Go p e below (T.setTop (mkF m pc' Ls (.int z :: st))) P) : own_Go p e below (T.setTop (mkF m pc Ls (.long y :: .long x :: st))) P := by
  obtain ⟨locs, X, -, -⟩ := X
  subst hp
  subst hz
  exact own_by (fun _ => XS.lcmp X.here B.1 rfl (hb B.2.2.2.2.2.2.2 d) rfl) G
theorem own_i2l (B : own_B p s m meth c Z own nm bytes maxL ret) (X : own_S p l e R s m args below meth c n0 T h cells slots) {x : Int32} {z : Int64} (d : decode bytes pc = .ok (.i2l, 1)) (hp : pc + 1 = pc') (hz : x.toInt64 = z)
    (G : own_Go p e below (T.setTop (mkF m pc' Ls (.long z :: st))) P) : own_Go p e below (T.setTop (mkF m pc Ls (.int x :: st))) P := by
  obtain ⟨locs, X, -, -⟩ := X
  subst hp
  subst hz
  exact own_by (fun _ => XS.i2l X.here B.1 rfl (hb B.2.2.2.2.2.2.2 d) rfl) G
theorem own_l2i (B : own_B p s m meth c Z own nm bytes maxL ret) (X : own_S p l e R s m args below meth c n0 T h cells slots) {x : Int64} {z : Int32} (d : decode bytes pc = .ok (.l2i, 1)) (hp : pc + 1 = pc') (hz : x.toInt32 = z)
    (G : own_Go p e below (T.setTop (mkF m pc' Ls (.int z :: st))) P) : own_Go p e below (T.setTop (mkF m pc Ls (.long x :: st))) P := by
  obtain ⟨locs, X, -, -⟩ := X
  subst hp
  subst hz
  exact own_by (fun _ => XS.l2i X.here B.1 rfl (hb B.2.2.2.2.2.2.2 d) rfl) G
theorem own_i2b (B : own_B p s m meth c Z own nm bytes maxL ret) (X : own_S p l e R s m args below meth c n0 T h cells slots) {x : Int32} {z : Int32} (d : decode bytes pc = .ok (.i2b, 1)) (hp : pc + 1 = pc') (hz : x.toInt8.toInt32 = z)
    (G : own_Go p e below (T.setTop (mkF m pc' Ls (.int z :: st))) P) : own_Go p e below (T.setTop (mkF m pc Ls (.int x :: st))) P := by
  obtain ⟨locs, X, -, -⟩ := X
  subst hp
  subst hz
  exact own_by (fun _ => XS.i2b X.here B.1 rfl (hb B.2.2.2.2.2.2.2 d) rfl) G
theorem own_dup (B : own_B p s m meth c Z own nm bytes maxL ret) (X : own_S p l e R s m args below meth c n0 T h cells slots) {v : Value} (d : decode bytes pc = .ok (.dup, 1)) (hp : pc + 1 = pc') (hv : v.category = 1)
    (G : own_Go p e below (T.setTop (mkF m pc' Ls (v :: v :: st))) P) : own_Go p e below (T.setTop (mkF m pc Ls (v :: st))) P := by
  obtain ⟨locs, X, -, -⟩ := X
  subst hp
  exact own_by (fun _ => XS.dup X.here B.1 rfl (hb B.2.2.2.2.2.2.2 d) rfl hv) G
theorem own_dup_x1 (B : own_B p s m meth c Z own nm bytes maxL ret) (X : own_S p l e R s m args below meth c n0 T h cells slots) {v w : Value} (d : decode bytes pc = .ok (.dup_x1, 1)) (hp : pc + 1 = pc') (hv : v.category = 1) (hw : w.category = 1)
    (G : own_Go p e below (T.setTop (mkF m pc' Ls (v :: w :: v :: st))) P) : own_Go p e below (T.setTop (mkF m pc Ls (v :: w :: st))) P := by
  obtain ⟨locs, X, -, -⟩ := X
  subst hp
  exact own_by (fun _ => XS.dupX1 X.here B.1 rfl (hb B.2.2.2.2.2.2.2 d) rfl hv hw) G
theorem own_goto (B : own_B p s m meth c Z own nm bytes maxL ret) (X : own_S p l e R s m args below meth c n0 T h cells slots) {o : Int} (d : decode bytes pc = .ok (.goto o, 3)) (ho : 0 ≤ (pc : Int) + o) (hp : ((pc : Int) + o).toNat = pc')
    (G : own_Go p e below (T.setTop (mkF m pc' Ls st)) P) : own_Go p e below (T.setTop (mkF m pc Ls st)) P := by
  obtain ⟨locs, X, -, -⟩ := X
  exact own_by (fun _ => XS.goto X.here B.1 rfl (pc0 := pc) rfl (hb B.2.2.2.2.2.2.2 d) ho hp) G
theorem own_ifYes (B : own_B p s m meth c Z own nm bytes maxL ret) (X : own_S p l e R s m args below meth c n0 T h cells slots) {cd : ClassFile.Cond} {o : Int} {x : Int32} (d : decode bytes pc = .ok (.ifCond cd o, 3)) (hc : ifCond.holds cd x = true) (ho : 0 ≤ (pc : Int) + o) (hp : ((pc : Int) + o).toNat = pc')
    (G : own_Go p e below (T.setTop (mkF m pc' Ls st)) P) : own_Go p e below (T.setTop (mkF m pc Ls (.int x :: st))) P := by
  obtain ⟨locs, X, -, -⟩ := X
  exact own_by (fun _ => XS.ifYes X.here B.1 rfl (pc0 := pc) rfl (hb B.2.2.2.2.2.2.2 d) rfl hc ho hp) G
theorem own_ifNo (B : own_B p s m meth c Z own nm bytes maxL ret) (X : own_S p l e R s m args below meth c n0 T h cells slots) {cd : ClassFile.Cond} {o : Int} {x : Int32} (d : decode bytes pc = .ok (.ifCond cd o, 3)) (hc : ifCond.holds cd x = false) (hp : pc + 3 = pc')
    (G : own_Go p e below (T.setTop (mkF m pc' Ls st)) P) : own_Go p e below (T.setTop (mkF m pc Ls (.int x :: st))) P := by
  obtain ⟨locs, X, -, -⟩ := X
  subst hp
  exact own_by (fun _ => XS.ifNo X.here B.1 rfl (hb B.2.2.2.2.2.2.2 d) rfl hc) G
theorem own_icmpYes (B : own_B p s m meth c Z own nm bytes maxL ret) (X : own_S p l e R s m args below meth c n0 T h cells slots) {cd : ClassFile.Cond} {o : Int} {x y : Int32} (d : decode bytes pc = .ok (.if_icmp cd o, 3)) (hc : if_icmp.holds cd x y = true) (ho : 0 ≤ (pc : Int) + o) (hp : ((pc : Int) + o).toNat = pc')
    (G : own_Go p e below (T.setTop (mkF m pc' Ls st)) P) : own_Go p e below (T.setTop (mkF m pc Ls (.int y :: .int x :: st))) P := by
  obtain ⟨locs, X, -, -⟩ := X
  exact own_by (fun _ => XS.icmpYes X.here B.1 rfl (pc0 := pc) rfl (hb B.2.2.2.2.2.2.2 d) rfl hc ho hp) G
theorem own_icmpNo (B : own_B p s m meth c Z own nm bytes maxL ret) (X : own_S p l e R s m args below meth c n0 T h cells slots) {cd : ClassFile.Cond} {o : Int} {x y : Int32} (d : decode bytes pc = .ok (.if_icmp cd o, 3)) (hc : if_icmp.holds cd x y = false) (hp : pc + 3 = pc')
    (G : own_Go p e below (T.setTop (mkF m pc' Ls st)) P) : own_Go p e below (T.setTop (mkF m pc Ls (.int y :: .int x :: st))) P := by
  obtain ⟨locs, X, -, -⟩ := X
  subst hp
  exact own_by (fun _ => XS.icmpNo X.here B.1 rfl (hb B.2.2.2.2.2.2.2 d) rfl hc) G
theorem own_acmp (B : own_B p s m meth c Z own nm bytes maxL ret) (X : own_S p l e R s m args below meth c n0 T h cells slots) {cd : ACond} {x y : Value} (h1 : x.isRef = true) (h2 : y.isRef = true) {o : Int} {same : Bool} (d : decode bytes pc = .ok (.if_acmp cd o, 3)) (hq : decide (x = y) = same) (ho : 0 ≤ (pc : Int) + o) (hp : pc' = if acV cd same = true then ((pc : Int) + o).toNat else pc + 3)
    (G : own_Go p e below (T.setTop (mkF m pc' Ls st)) P) : own_Go p e below (T.setTop (mkF m pc Ls (y :: x :: st))) P := by
  obtain ⟨locs, X, -, -⟩ := X
  exact own_by (fun _ => Jvm.RoadKit.acmp (g := mkF m pc Ls (y :: x :: st)) X B.1 rfl h1 h2 (pc0 := pc) rfl (hb B.2.2.2.2.2.2.2 d) rfl hq ho hp) G
theorem own_arraylength (B : own_B p s m meth c Z own nm bytes maxL ret) (X : own_S p l e R s m args below meth c n0 T h cells slots) {a : Addr} {k : ClassId} {z : Int32} {vs : List Value} {dv : Value} {ty : FieldType} (V : Arv Z h a k ty z vs dv) (d : decode bytes pc = .ok (.arraylength, 1)) (hp : pc + 1 = pc')
    (G : own_Go p e below (T.setTop (mkF m pc' Ls (.int z :: st))) P) : own_Go p e below (T.setTop (mkF m pc Ls (.ref a :: st))) P := by
  obtain ⟨locs, X, eT, -⟩ := X
  subst hp
  obtain ⟨cl, A, -, S, N, -, -⟩ := V
  refine own_by (fun t ht => ?_) G
  refine X.arraylength B.1 (by rw [eT]; exact A.1) (State.isArrayOf_alike B.2.1.alike A.2.1) (g := mkF m pc Ls (.ref a :: st)) rfl rfl (hb B.2.2.2.2.2.2.2 d) _ ?_
  rw [len_of S N]; exact ht
theorem own_baload (B : own_B p s m meth c Z own nm bytes maxL ret) (X : own_S p l e R s m args below meth c n0 T h cells slots) {a : Addr} {k : ClassId} {z : Int32} {vs : List Value} {dv : Value} {j : Int32} {v : Value} (V : Arv Z h a k .byte z vs dv) (hj : ¬ j < 0 ∧ j < z) (hv : vs.getD j.toNatClampNeg dv = v) (d : decode bytes pc = .ok (.baload, 1)) (hp : pc + 1 = pc')
    (G : own_Go p e below (T.setTop (mkF m pc' Ls (v :: st))) P) : own_Go p e below (T.setTop (mkF m pc Ls (.int j :: .ref a :: st))) P := by
  obtain ⟨locs, X, eT, -⟩ := X
  subst hp
  obtain ⟨cl, A, -, S, N, H, -⟩ := V
  have hin := inb_of S hj
  exact own_by (fun t => X.baloadBytes B.1 (j := j) (v := v) (by rw [eT]; exact A.1) (State.isArrayOf_alike B.2.1.alike A.2.1) A.2.2 hin (H.at hin hv) (g := mkF m pc Ls (.int j :: .ref a :: st)) rfl rfl (hb B.2.2.2.2.2.2.2 d) t) G
theorem own_bastore (B : own_B p s m meth c Z own nm bytes maxL ret) (X : own_S p l e R s m args below meth c n0 T h cells slots) {a : Addr} {k : ClassId} {z : Int32} {vs : List Value} {dv : Value} {j : Int32} {x x' : Int32} (V : Arv Z h a k .byte z vs dv) (ge : n0 ≤ a) (hj : ¬ j < 0 ∧ j < z) (i : Nat) (hi : j.toNatClampNeg = i) (hl : i < vs.length) (hz : x.toInt8.toInt32 = x') (d : decode bytes pc = .ok (.bastore, 1)) (hp : pc + 1 = pc')
    (G : ∀ T' h', own_S p l e R s m args below meth c n0 T' h' cells slots → Wr h h' a i (.int x') → Arv Z h' a k .byte z (vs.set i (.int x')) dv → own_Go p e below (T'.setTop (mkF m pc' Ls st)) P) : own_Go p e below (T.setTop (mkF m pc Ls (.int x :: .int j :: .ref a :: st))) P := by
  obtain ⟨locs, X, eT, N0⟩ := X
  subst hp hi hz
  obtain ⟨cl, A, q, S, N, H, F⟩ := V
  have hin := inb_of S hj
  obtain ⟨T', h', X', e', W, st'⟩ := stB X B.1 B.2.1 eT A (j := j) hin (g := mkF m pc Ls (.int x :: .int j :: .ref a :: st)) rfl rfl (hb B.2.2.2.2.2.2.2 d)
  exact own_by st' (G T' h' ⟨_, X', e', Fr.snoc X' N0 ge⟩ W (Arv.set A q S N H F (fits_nar_byte _) W _ rfl hl))
theorem own_newarray (B : own_B p s m meth c Z own nm bytes maxL ret) (X : own_S p l e R s m args below meth c n0 T h cells slots) {aty : ArrayType} {t : FieldType} (w : (Cond.arrayClass t).before a0 Z = true) (d : decode bytes pc = .ok (.newarray aty, 2)) (hp : pc + 2 = pc') (hty : newarray.typeOf aty = t) {z : Int32} (hz : ¬ z < 0) (cap : Nat) (hcap : z.toNatClampNeg ≤ cap) (hbig : cap * 8 ≤ 536870912) {k' n' : Nat} (hk : cells + 1 = k') (hn : slots + cap = n') (hkR : k' ≤ R.cells) (hnR : n' ≤ R.slots) (ad : String) (had : "[" ++ (newarray.typeOf aty).toString = ad) (dv : Value) (hdv : defaultValue t = dv)
    (G : ∀ T' h' b k, own_S p l e R s m args below meth c n0 T' h' k' n' → b = h.size → Ext h h' → Arv Z h' b k t z [] dv → Exa Z h' b ad → own_Go p e below (T'.setTop (mkF m pc' Ls (.ref b :: st))) P) : own_Go p e below (T.setTop (mkF m pc Ls (.int z :: st))) P := by
  obtain ⟨locs, X, eT, N0⟩ := X
  subst hp hk hn hdv hty
  obtain ⟨T', h', kA, X', e', E, A, A', st'⟩ := newPE X B.1 B.2.1 w eT (g := mkF m pc Ls (.int z :: st)) rfl (hb B.2.2.2.2.2.2.2 d) rfl hz (cap := cap) hcap hbig hkR hnR had
  exact own_by st' (G T' h' _ kA ⟨_, X', e', N0⟩ rfl E (Arv.new A hz) A')
theorem own_new (B : own_B p s m meth c Z own nm bytes maxL ret) (X : own_S p l e R s m args below meth c n0 T h cells slots) {C : String} {i n : Nat} (w : (Cond.classLink own i C).before a0 Z = true) (wi : (Cond.instantiable C n).before a0 Z = true) (wz : (Cond.initialized C).before a0 Z = true) (d : decode bytes pc = .ok (.new i, 3)) (hp : pc + 3 = pc') {k' n' : Nat} (hk : cells + 1 = k') (hn : slots + n = n') (hkR : k' ≤ R.cells) (hnR : n' ≤ R.slots)
    (G : ∀ T' h' b, own_S p l e R s m args below meth c n0 T' h' k' n' → b = h.size → Ext h h' → Exa Z h' b C → (∀ {O f t : String} {ty : FieldType}, Laid Z a0 C O f t → parseFieldDescriptor t = some ty → Fld Z h' b O f t (defaultValue ty)) → own_Go p e below (T'.setTop (mkF m pc' Ls (.ref b :: st))) P) : own_Go p e below (T.setTop (mkF m pc Ls st)) P := by
  obtain ⟨locs, X, eT, N0⟩ := X
  subst hp hk hn
  obtain ⟨T', h', X', e', E, A, D, -, st'⟩ := newO X B.1 B.2.1 B.2.2.2.1 w wi wz eT (g := mkF m pc Ls st) rfl (hb B.2.2.2.2.2.2.2 d) hkR hnR
  exact own_by st' (G T' h' _ ⟨_, X', e', N0⟩ rfl E A D)
theorem own_objinit (B : own_B p s m meth c Z own nm bytes maxL ret) (X : own_S p l e R s m args below meth c n0 T h cells slots) {i : Nat} {a : Addr} (w1 : (Cond.methodLink own i Lib.objectInit).before a0 Z = true) (w2 : (Cond.instanceMethod Lib.objectInit).before a0 Z = true) (w3 : (Cond.code Lib.objectInit ⟨#[0xb1]⟩ 1 none).before a0 Z = true) (d : decode bytes pc = .ok (.invokespecial i, 3)) (hp : pc + 3 = pc') (hsz : Ls.size = maxL) (hf : 1 ≤ R.frames) (W : Nat) (hW : (st.map fun v => v.category).sum ≤ W) (hl : W + 12 ≤ R.locals)
    (G : ∀ T', own_S p l e R s m args below meth c n0 T' h cells slots → own_Go p e below (T'.setTop (mkF m pc' Ls st)) P) : own_Go p e below (T.setTop (mkF m pc Ls (.ref a :: st))) P := by
  obtain ⟨locs, X, eT, N0⟩ := X
  subst hp
  obtain ⟨T', X', e', st'⟩ := initO X B.1 B.2.1 B.2.2.2.1 w1 w2 w3 eT (g := mkF m pc Ls (.ref a :: st)) rfl (by rw [B.2.2.1]; exact hsz) rfl (hb B.2.2.2.2.2.2.2 d) hf (W := W) (by show 2 * 0 + _ ≤ _; omega) hl
  exact own_by st' (G T' ⟨_, X', e', N0⟩)
theorem own_getfield (B : own_B p s m meth c Z own nm bytes maxL ret) (X : own_S p l e R s m args below meth c n0 T h cells slots) {R0 O n t : String} {host : String} {i : Nat} {a : Addr} {v : Value} (w : (Cond.fieldLink own i R0 n t).before a0 Z = true ∨ (Cond.fieldLinkNest own i R0 n t host).before a0 Z = true) (via : Via Z R0 O n t) (F : Fld Z h a O n t v) (d : decode bytes pc = .ok (.getfield i, 3)) (hp : pc + 3 = pc')
    (G : ∀ T', own_S p l e R s m args below meth c n0 T' h cells slots → own_Go p e below (T'.setTop (mkF m pc' Ls (v :: st))) P) : own_Go p e below (T.setTop (mkF m pc Ls (.ref a :: st))) P := by
  obtain ⟨locs, X, eT, N0⟩ := X
  subst hp
  obtain ⟨T', X', e', st'⟩ := getF X B.1 B.2.1 B.2.2.2.1 w via eT F (g := mkF m pc Ls (.ref a :: st)) rfl rfl (hb B.2.2.2.2.2.2.2 d)
  exact own_by st' (G T' ⟨_, X', e', N0⟩)
theorem own_putfield (B : own_B p s m meth c Z own nm bytes maxL ret) (X : own_S p l e R s m args below meth c n0 T h cells slots) {R0 O n t C : String} {host : String} {i kk : Nat} {ty : FieldType} {a : Addr} {v old : Value} (w : (Cond.fieldLink own i R0 n t).before a0 Z = true ∨ (Cond.fieldLinkNest own i R0 n t host).before a0 Z = true) (via : Via Z R0 O n t) (F : Fld Z h a O n t old) (E : Exa Z h a C) (ge : n0 ≤ a) (L : (Cond.lays C O n t).before a0 Z = true ∨ ((Cond.laysFinal C O n t).before a0 Z = true ∧ own = O ∧ nm = "<init>")) (wi : (Cond.instantiable C kk).before a0 Z = true) (hty : parseFieldDescriptor t = some ty) (hn : narrow ty v = v) (hf : fits ty v = true) (d : decode bytes pc = .ok (.putfield i, 3)) (hp : pc + 3 = pc')
    (G : ∀ T' h', own_S p l e R s m args below meth c n0 T' h' cells slots → Wr h h' a (Jvm.RoadKit.slotOf Z O n t) v → Fld Z h' a O n t v → own_Go p e below (T'.setTop (mkF m pc' Ls st)) P) : own_Go p e below (T.setTop (mkF m pc Ls (v :: .ref a :: st))) P := by
  obtain ⟨locs, X, eT, N0⟩ := X
  subst hp
  obtain ⟨T', h', X', e', W, st'⟩ := putF X B.1 B.2.1 B.2.2.2.1 w via eT F E (L.imp id fun q => ⟨q.1, q.2.1, B.2.2.2.2.2.2.1.trans q.2.2⟩) wi hty hn hf (g := mkF m pc Ls (v :: .ref a :: st)) rfl rfl (hb B.2.2.2.2.2.2.2 d)
  exact own_by st' (G T' h' ⟨_, X', e', Fr.snoc X' N0 ge⟩ W (F.same W))
theorem own_arraycopy (B : own_B p s m meth c Z own nm bytes maxL ret) (X : own_S p l e R s m args below meth c n0 T h cells slots) {i : Nat} (w1 : (Cond.methodLink own i Jvm.Stand.acN).before a0 Z = true) (w2 : (Cond.native Jvm.Stand.acN).before a0 Z = true) (w3 : (Cond.static Jvm.Stand.acN).before a0 Z = true) (w4 : (Cond.initialized "java/lang/System").before a0 Z = true) {a b : Addr} {k k' : ClassId} {ty : FieldType} {z z' sp dp nn : Int32} {vs vd us rs : List Value} {dv dd : Value} (A : Arv Z h a k ty z vs dv) (A' : Arv Z h b k' ty z' vd dd) (hty : refKind ty = false) (ge : n0 ≤ b) (h1 : ¬ sp < 0) (h2 : ¬ dp < 0) (h3 : ¬ nn < 0) (h4 : sp.toNatClampNeg + nn.toNatClampNeg ≤ z.toNatClampNeg) (h5 : dp.toNatClampNeg + nn.toNatClampNeg ≤ z'.toNatClampNeg) (hus : us = (List.range nn.toNatClampNeg).map fun i => vs.getD (sp.toNatClampNeg + i) dv) (hl : dp.toNatClampNeg + nn.toNatClampNeg ≤ vd.length) (hrs : vd.take dp.toNatClampNeg ++ us ++ vd.drop (dp.toNatClampNeg + nn.toNatClampNeg) = rs) (d : decode bytes pc = .ok (.invokestatic i, 3)) (hp : pc + 3 = pc') (hsz : Ls.size = maxL) (hf : 1 ≤ R.frames) (W : Nat) (hW : (st.map fun v => v.category).sum ≤ W) (hlo : W + (nativeFrameWords "java/lang/System" "arraycopy" 5 + 11) ≤ R.locals)
    (G : ∀ T' h', own_S p l e R s m args below meth c n0 T' h' cells slots → Keep h h' [b] → Arv Z h' b k' ty z' rs dd → own_Go p e below (T'.setTop (mkF m pc' Ls st)) P) : own_Go p e below (T.setTop (mkF m pc Ls (.int nn :: .int dp :: .ref b :: .int sp :: .ref a :: st))) P := by
  obtain ⟨locs, X, eT, N0⟩ := X
  subst hp hrs
  obtain ⟨T', h', L, X', e', N', K, V, st'⟩ := cpA X B.1 B.2.1 B.2.2.2.1 w1 w2 w3 w4 eT A A' (Or.inl ⟨rfl, hty⟩) h1 h2 h3 h4 h5 hus hl N0 ge (g := mkF m pc Ls (.int nn :: .int dp :: .ref b :: .int sp :: .ref a :: st)) rfl (by rw [B.2.2.1]; exact hsz) rfl (hb B.2.2.2.2.2.2.2 d) hf (W := W) (by show 2 * 0 + _ ≤ _; omega) hlo
  exact own_by st' (G T' h' ⟨_, X', e', N'⟩ K V)
theorem own_retI (B : own_B p s m meth c Z own nm bytes maxL (some .int)) (X : own_S p l e R s m args below meth c n0 T h cells slots) {Q : Option Value → Heap → Prop} {k n : Nat} {z : Int32} (d : decode bytes pc = .ok (.ireturn, 1)) (hk : cells ≤ k) (hn : slots ≤ n) (hq : Q (some (.int z)) h) : own_Go p e below (T.setTop (mkF m pc Ls (.int z :: st))) (own_P s below n0 Q k n) := by
  obtain ⟨locs, X, eT, N0⟩ := X
  obtain ⟨fs, hr, hrun, hended, hW, hsame⟩ := X.leave (v := (some (.int z))) (fun h => by rw [B.2.2.2.2.1] at h; cases h) B.2.2.2.2.2.1
  exact ⟨_, _, retOut X B.1 B.2.2.2.2.1 rfl (Or.inl ⟨rfl, Or.inl rfl, _, rfl⟩) (hb B.2.2.2.2.2.2.2 d) hr, hrun, hended, _, _, rfl, ⟨N0, by show Q _ T.heap; rw [eT]; exact hq⟩, ⟨_, rfl⟩, hW, hsame.mono hk hn⟩
theorem own_retJ (B : own_B p s m meth c Z own nm bytes maxL (some .long)) (X : own_S p l e R s m args below meth c n0 T h cells slots) {Q : Option Value → Heap → Prop} {k n : Nat} {z : Int64} (d : decode bytes pc = .ok (.lreturn, 1)) (hk : cells ≤ k) (hn : slots ≤ n) (hq : Q (some (.long z)) h) : own_Go p e below (T.setTop (mkF m pc Ls (.long z :: st))) (own_P s below n0 Q k n) := by
  obtain ⟨locs, X, eT, N0⟩ := X
  obtain ⟨fs, hr, hrun, hended, hW, hsame⟩ := X.leave (v := (some (.long z))) (fun h => by rw [B.2.2.2.2.1] at h; cases h) B.2.2.2.2.2.1
  exact ⟨_, _, retOut X B.1 B.2.2.2.2.1 rfl (Or.inr (Or.inl ⟨rfl, rfl, _, rfl⟩)) (hb B.2.2.2.2.2.2.2 d) hr, hrun, hended, _, _, rfl, ⟨N0, by show Q _ T.heap; rw [eT]; exact hq⟩, ⟨_, rfl⟩, hW, hsame.mono hk hn⟩
theorem own_retN {t : FieldType} (B : own_B p s m meth c Z own nm bytes maxL (some t)) (X : own_S p l e R s m args below meth c n0 T h cells slots) {Q : Option Value → Heap → Prop} {k n : Nat} {z z' : Int32} (ht : t = .boolean ∨ t = .byte ∨ t = .char ∨ t = .short) (hz : nar t z = z') (d : decode bytes pc = .ok (.ireturn, 1)) (hk : cells ≤ k) (hn : slots ≤ n) (hq : Q (some (.int z')) h) : own_Go p e below (T.setTop (mkF m pc Ls (.int z :: st))) (own_P s below n0 Q k n) := by
  subst hz
  obtain ⟨locs, X, eT, N0⟩ := X
  obtain ⟨fs, hr, hrun, hended, hW, hsame⟩ := X.leave (v := (some (.int (nar t z)))) (fun h => by rw [B.2.2.2.2.1] at h; cases h) B.2.2.2.2.2.1
  exact ⟨_, _, retN X B.1 B.2.2.2.2.1 ht (hb B.2.2.2.2.2.2.2 d) hr, hrun, hended, _, _, rfl, ⟨N0, by show Q _ T.heap; rw [eT]; exact hq⟩, ⟨_, rfl⟩, hW, hsame.mono hk hn⟩
theorem own_retA {t : FieldType} (B : own_B p s m meth c Z own nm bytes maxL (some t)) (X : own_S p l e R s m args below meth c n0 T h cells slots) {Q : Option Value → Heap → Prop} {k n : Nat} {w : Value} (ht : t.isReference = true) (hw : w.isRef = true) (hnw : narrow t w = w) (d : decode bytes pc = .ok (.areturn, 1)) (hk : cells ≤ k) (hn : slots ≤ n) (hq : Q (some w) h) : own_Go p e below (T.setTop (mkF m pc Ls (w :: st))) (own_P s below n0 Q k n) := by
  obtain ⟨locs, X, eT, N0⟩ := X
  obtain ⟨fs, hr, hrun, hended, hW, hsame⟩ := X.leave (v := (some w)) (fun h => by rw [B.2.2.2.2.1] at h; cases h) B.2.2.2.2.2.1
  exact ⟨_, _, retOut X B.1 B.2.2.2.2.1 hnw (Or.inr (Or.inr (Or.inr (Or.inr ⟨rfl, ht, hw⟩)))) (hb B.2.2.2.2.2.2.2 d) hr, hrun, hended, _, _, rfl, ⟨N0, by show Q _ T.heap; rw [eT]; exact hq⟩, ⟨_, rfl⟩, hW, hsame.mono hk hn⟩
theorem own_ret (B : own_B p s m meth c Z own nm bytes maxL none) (X : own_S p l e R s m args below meth c n0 T h cells slots) {Q : Option Value → Heap → Prop} {k n : Nat} (d : decode bytes pc = .ok (.return_, 1)) (hk : cells ≤ k) (hn : slots ≤ n) (hq : Q none h) : own_Go p e below (T.setTop (mkF m pc Ls [])) (own_P s below n0 Q k n) := by
  obtain ⟨locs, X, eT, N0⟩ := X
  obtain ⟨fs, hr, hrun, hended, hW, hsame⟩ := X.leave (v := none) (fun _ => rfl) B.2.2.2.2.2.1
  exact ⟨_, _, X.returnOut B.1 B.2.2.2.2.1 (hb B.2.2.2.2.2.2.2 d) hr, hrun, hended, _, _, rfl, ⟨N0, by show Q _ T.heap; rw [eT]; exact hq⟩, ⟨_, rfl⟩, hW, hsame.mono hk hn⟩
theorem own_enter {y : MethodName} {rm : Room} {ws : List Jvm.Cond} {as' : Array Value} {Q : Option Value → Heap → Prop} {F : MethodId → JFrame} (hpl : plainFor y = true) (hF : ∀ m, entryFrame m as' maxL = F m)
    (body : ∀ p e s m below meth c s₁, own_B p s m meth c Z y.cls y.name bytes maxL ret → own_S p l e rm s m as' below meth c n0 s₁ h0 0 0 → own_Go p e below (s₁.setTop (F m)) (own_P s below n0 Q rm.cells rm.slots)) :
    MetFree l y (head1 (Jvm.Cond.code y bytes maxL ret :: ws) rm) (fun a U => a = as' ∧ Z.Warmed39 U.vm ∧ U.heap = h0) (fun _ _ _ _ _ => True) (fun _ U o U' => ∃ v L, o = .returned v ∧ (Fr n0 L ∧ Q v U'.heap) ∧ FrameEnd U o U' L rm.cells rm.slots) := by
  refine MetFree.of_bodySF hpl hisR ?_
  intro p e s m args below meth c s₁ Bd hml0 hP hK
  obtain ⟨rfl, hZ, hh⟩ := hP
  have e0 : s₁.heap = h0 := by rw [← hh, Bd.state]; rfl
  have nm := (name_of_methodNamed Bd.named Bd.method).1
  obtain ⟨a, o, h1, h2⟩ := body p e s m below meth c s₁ ⟨Bd.exec, hZ, hml0, findClass_of_methodNamed Bd.named, Bd.returns, Bd.notSynchronized, nm, Bd.bytes⟩ ⟨[], Stand.of_body Bd, e0, Fr.nil n0⟩
  exact ⟨a, o, castTop (hF m) h1, h2⟩
theorem own_callS (B : own_B p s m meth c Z own nm bytes maxL ret) (X : own_S p l e R s m args below meth c n0 T h cells slots) {i : Nat} {y : MethodName} {yb : ByteArray} {yl : Nat} {yr : Option FieldType} (w1 : (Cond.methodLink own i y).before a0 Z = true) (w2 : (Cond.static y).before a0 Z = true) (w3 : (Cond.initialized y.cls).before a0 Z = true) (w4 : (Cond.code y yb yl yr).before a0 Z = true) (hy : y.cls ≠ "java/lang/invoke/MethodHandle" ∧ y.cls ≠ "java/lang/invoke/VarHandle") {rm : Room} {Q : Option Value → Heap → Prop} (argsL rest : List Value)
    (hM : MetFree l y (head1 [Jvm.Cond.code y yb yl yr] rm) (fun b U => b = argsL.toArray ∧ Z.Warmed39 U.vm ∧ U.heap = h) (fun _ _ _ _ _ => True) (fun _ U o U' => ∃ v L, o = .returned v ∧ (Fr n0 L ∧ Q v U'.heap) ∧ FrameEnd U o U' L rm.cells rm.slots))
    (W : Nat) (hf : rm.frames + 1 ≤ R.frames) (hl : W + (yl + 11) + rm.locals ≤ R.locals) (hsz : Ls.size = maxL) {ps : List FieldType} {rt : Option FieldType} (hpd : parseMethodDescriptor y.desc = some ⟨ps, rt⟩) (hln : argsL.length = ps.length) (hst : st = argsL.reverse ++ rest) (hW : (rest.map fun v => v.category).sum ≤ W) (d : decode bytes pc = .ok (.invokestatic i, 3)) (hp : pc + 3 = pc') {k' n' : Nat} (hk : cells + rm.cells = k') (hn : slots + rm.slots = n') (hkR : k' ≤ R.cells) (hnR : n' ≤ R.slots)
    (G : ∀ T' v h', own_S p l e R s m args below meth c n0 T' h' k' n' → Q v h' → own_Go p e below (T'.setTop (mkF m pc' Ls (v.toList ++ rest))) P) : own_Go p e below (T.setTop (mkF m pc Ls st)) P := by
  obtain ⟨locs, X, eT, N0⟩ := X
  subst hp hk hn
  have bk := backOf (p := p) (e := e) (below := below) (args := args) (len := 3) (W := W) (Q := fun v h' L => Fr n0 L ∧ Q v h') hM B.2.1 w4 w3 hf hl
  obtain ⟨v, vm₁, ⟨T', L', k1, n1⟩, hW1, X', ⟨Lc, hQ, l1, y1, z1⟩, stp⟩ := Jvm.LawKit.callS X B.1 (y := y) B.2.2.2.1 (mvT B.2.1 w1) (mvT B.2.1 w2) (mvT B.2.1 w3) (mvT B.2.1 w4) hy bk (g := mkF m pc Ls st) rfl (by rw [B.2.2.1]; exact hsz) (argsL := argsL) (rest := rest) (lenOf hpd hln) hst (by show 2 * 0 + _ ≤ _; omega) (hb B.2.2.2.2.2.2.2 d) (fun _ _ => ⟨rfl, eT, hkR, hnR⟩)
  dsimp only [Pt.U, Pt.locs, Pt.cells, Pt.slots] at X' l1 y1 z1 stp hQ
  subst l1 y1 z1
  exact own_by stp (G T' v _ ⟨_, X', rfl, N0.app hQ.1⟩ hQ.2)
theorem own_callI (B : own_B p s m meth c Z own nm bytes maxL ret) (X : own_S p l e R s m args below meth c n0 T h cells slots) {i : Nat} {y : MethodName} {yb : ByteArray} {yl : Nat} {yr : Option FieldType} (hyn : y.name = "<init>") (hyr : yr = none) (w1 : (Cond.methodLink own i y).before a0 Z = true) (w2 : (Cond.instanceMethod y).before a0 Z = true) (w3 : (Cond.initialized y.cls).before a0 Z = true) (w4 : (Cond.code y yb yl yr).before a0 Z = true) (hy : y.cls ≠ "java/lang/invoke/MethodHandle" ∧ y.cls ≠ "java/lang/invoke/VarHandle") {rm : Room} {Q : Option Value → Heap → Prop} {a : Addr} (argsL rest : List Value)
    (hM : MetFree l y (head1 [Jvm.Cond.code y yb yl yr] rm) (fun b U => b = (Value.ref a :: argsL).toArray ∧ Z.Warmed39 U.vm ∧ U.heap = h) (fun _ _ _ _ _ => True) (fun _ U o U' => ∃ v L, o = .returned v ∧ (Fr n0 L ∧ Q v U'.heap) ∧ FrameEnd U o U' L rm.cells rm.slots))
    (W : Nat) (hf : rm.frames + 1 ≤ R.frames) (hl : W + (yl + 11) + rm.locals ≤ R.locals) (hsz : Ls.size = maxL) {ps : List FieldType} {rt : Option FieldType} (hpd : parseMethodDescriptor y.desc = some ⟨ps, rt⟩) (hln : argsL.length = ps.length) (hst : st = argsL.reverse ++ .ref a :: rest) (hW : (rest.map fun v => v.category).sum ≤ W) (d : decode bytes pc = .ok (.invokespecial i, 3)) (hp : pc + 3 = pc') {k' n' : Nat} (hk : cells + rm.cells = k') (hn : slots + rm.slots = n') (hkR : k' ≤ R.cells) (hnR : n' ≤ R.slots)
    (G : ∀ T' v h', own_S p l e R s m args below meth c n0 T' h' k' n' → Q v h' → own_Go p e below (T'.setTop (mkF m pc' Ls (v.toList ++ rest))) P) : own_Go p e below (T.setTop (mkF m pc Ls st)) P := by
  obtain ⟨locs, X, eT, N0⟩ := X
  subst hp hk hn
  have bk := backOf (p := p) (e := e) (below := below) (args := args) (len := 3) (W := W) (Q := fun v h' L => Fr n0 L ∧ Q v h') hM B.2.1 w4 w3 hf hl
  subst hyr
  obtain ⟨v, vm₁, ⟨T', L', k1, n1⟩, hW1, X', ⟨Lc, hQ, l1, y1, z1⟩, stp⟩ := X.specialBack B.1 (y := y) hyn B.2.2.2.1 (mvT B.2.1 w1) (mvT B.2.1 w2) (mvT B.2.1 w4) hy bk (g := mkF m pc Ls st) rfl (by rw [B.2.2.1]; exact hsz) (Steps.refl _) (a := a) (argsL := argsL) (rest := rest) (lenOf hpd hln) hst (by show 2 * 0 + _ ≤ _; omega) (hb B.2.2.2.2.2.2.2 d) (fun _ _ => ⟨rfl, eT, hkR, hnR⟩)
  dsimp only [Pt.U, Pt.locs, Pt.cells, Pt.slots] at X' l1 y1 z1 stp hQ
  subst l1 y1 z1
  exact own_by (fun _ k => stp.trans k) (G T' v _ ⟨_, X', rfl, N0.app hQ.1⟩ hQ.2)
theorem own_callV (B : own_B p s m meth c Z own nm bytes maxL ret) (X : own_S p l e R s m args below meth c n0 T h cells slots) {i : Nat} {a : Addr} {y : MethodName} {yb : ByteArray} {yl : Nat} {yr : Option FieldType} {C : String} (w1 : (Cond.methodLink own i y).before a0 Z = true) (w2 : (Cond.declares y).before a0 Z = true) (w5 : (Cond.selects C y y).before a0 Z = true) (w6 : (Cond.instanceMethod y).before a0 Z = true) (w3 : (Cond.initialized y.cls).before a0 Z = true) (w4 : (Cond.code y yb yl yr).before a0 Z = true) (E : Exa Z h a C) (hy : y.cls ≠ "java/lang/invoke/MethodHandle" ∧ y.cls ≠ "java/lang/invoke/VarHandle") {rm : Room} {Q : Option Value → Heap → Prop} (argsL rest : List Value)
    (hM : MetFree l y (head1 [Jvm.Cond.code y yb yl yr] rm) (fun b U => b = (Value.ref a :: argsL).toArray ∧ Z.Warmed39 U.vm ∧ U.heap = h) (fun _ _ _ _ _ => True) (fun _ U o U' => ∃ v L, o = .returned v ∧ (Fr n0 L ∧ Q v U'.heap) ∧ FrameEnd U o U' L rm.cells rm.slots))
    (W : Nat) (hf : rm.frames + 1 ≤ R.frames) (hl : W + (yl + 11) + rm.locals ≤ R.locals) (hsz : Ls.size = maxL) {ps : List FieldType} {rt : Option FieldType} (hpd : parseMethodDescriptor y.desc = some ⟨ps, rt⟩) (hln : argsL.length = ps.length) (hst : st = argsL.reverse ++ .ref a :: rest) (hW : (rest.map fun v => v.category).sum ≤ W) (d : decode bytes pc = .ok (.invokevirtual i, 3)) (hp : pc + 3 = pc') {k' n' : Nat} (hk : cells + rm.cells = k') (hn : slots + rm.slots = n') (hkR : k' ≤ R.cells) (hnR : n' ≤ R.slots)
    (G : ∀ T' v h', own_S p l e R s m args below meth c n0 T' h' k' n' → Q v h' → own_Go p e below (T'.setTop (mkF m pc' Ls (v.toList ++ rest))) P) : own_Go p e below (T.setTop (mkF m pc Ls st)) P := by
  obtain ⟨locs, X, eT, N0⟩ := X
  subst hp hk hn
  have bk := backOf (p := p) (e := e) (below := below) (args := args) (len := 3) (W := W) (Q := fun v h' L => Fr n0 L ∧ Q v h') hM B.2.1 w4 w3 hf hl
  obtain ⟨cq, kq, qa, qb, qc⟩ := isOf B.2.1 eT E
  obtain ⟨v, vm₁, ⟨T', L', k1, n1⟩, hW1, X', ⟨Lc, hQ, l1, y1, z1⟩, stp⟩ := X.virtualBack B.1 (y := y) (z := y) B.2.2.2.1 (mvT B.2.1 w1) (mvT B.2.1 w2) (notFace_of_selects (args := #[]) (mvT B.2.1 w5)) (mvT B.2.1 w5) (mvT B.2.1 w6) hy bk qa qc (g := mkF m pc Ls st) rfl (by rw [B.2.2.1]; exact hsz) (Steps.refl _) (argsL := argsL) (rest := rest) (lenOf hpd hln) hst (by show 2 * 0 + _ ≤ _; omega) (hb B.2.2.2.2.2.2.2 d) (fun _ _ => ⟨rfl, eT, hkR, hnR⟩)
  dsimp only [Pt.U, Pt.locs, Pt.cells, Pt.slots] at X' l1 y1 z1 stp hQ
  subst l1 y1 z1
  exact own_by (fun _ k => stp.trans k) (G T' v _ ⟨_, X', rfl, N0.app hQ.1⟩ hQ.2)
theorem own_callP (B : own_B p s m meth c Z own nm bytes maxL ret) (X : own_S p l e R s m args below meth c n0 T h cells slots) {i : Nat} {a : Addr} {y : MethodName} {yb : ByteArray} {yl : Nat} {yr : Option FieldType} {n : Nat} (w1 : (Cond.methodLink own i y).before a0 Z = true) (w2 : (Cond.instanceMethod y).before a0 Z = true) (w5 : (Cond.privateMethod y).before a0 Z = true) (w6 : (Cond.instantiable y.cls n).before a0 Z = true) (w3 : (Cond.initialized y.cls).before a0 Z = true) (w4 : (Cond.code y yb yl yr).before a0 Z = true) (E : Exa Z h a y.cls) (hy : y.cls ≠ "java/lang/invoke/MethodHandle" ∧ y.cls ≠ "java/lang/invoke/VarHandle") {rm : Room} {Q : Option Value → Heap → Prop} (argsL rest : List Value)
    (hM : MetFree l y (head1 [Jvm.Cond.code y yb yl yr] rm) (fun b U => b = (Value.ref a :: argsL).toArray ∧ Z.Warmed39 U.vm ∧ U.heap = h) (fun _ _ _ _ _ => True) (fun _ U o U' => ∃ v L, o = .returned v ∧ (Fr n0 L ∧ Q v U'.heap) ∧ FrameEnd U o U' L rm.cells rm.slots))
    (W : Nat) (hf : rm.frames + 1 ≤ R.frames) (hl : W + (yl + 11) + rm.locals ≤ R.locals) (hsz : Ls.size = maxL) {ps : List FieldType} {rt : Option FieldType} (hpd : parseMethodDescriptor y.desc = some ⟨ps, rt⟩) (hln : argsL.length = ps.length) (hst : st = argsL.reverse ++ .ref a :: rest) (hW : (rest.map fun v => v.category).sum ≤ W) (d : decode bytes pc = .ok (.invokevirtual i, 3)) (hp : pc + 3 = pc') {k' n' : Nat} (hk : cells + rm.cells = k') (hn : slots + rm.slots = n') (hkR : k' ≤ R.cells) (hnR : n' ≤ R.slots)
    (G : ∀ T' v h', own_S p l e R s m args below meth c n0 T' h' k' n' → Q v h' → own_Go p e below (T'.setTop (mkF m pc' Ls (v.toList ++ rest))) P) : own_Go p e below (T.setTop (mkF m pc Ls st)) P := by
  obtain ⟨locs, X, eT, N0⟩ := X
  subst hp hk hn
  have bk := backOf (p := p) (e := e) (below := below) (args := args) (len := 3) (W := W) (Q := fun v h' L => Fr n0 L ∧ Q v h') hM B.2.1 w4 w3 hf hl
  obtain ⟨cq, q1, q2⟩ := E.cell
  have hpr := Cond.privateMethod_at (mvP B.2.1 w5 (args := #[]))
  have wi : (Cond.instantiable y.cls n).before #[] s = true := mvT B.2.1 w6
  obtain ⟨ci, ki, i1, i2, i3, i4, -⟩ := Cond.instantiable_spec wi
  have hsel : (Cond.selects y.cls y y).before args s = true := selects_self_of_private i1 i2 (by cases hh : ki.isInterface <;> simp [hh] at i4 ⊢) hpr (mvT B.2.1 w2) hy
  obtain ⟨v, vm₁, ⟨T', L', k1, n1⟩, hW1, X', ⟨Lc, hQ, l1, y1, z1⟩, stp⟩ := X.privateBack B.1 (y := y) B.2.2.2.1 (mvT B.2.1 w1) (mvT B.2.1 w2) hsel hpr (mvT B.2.1 w4) hy bk (g := mkF m pc Ls st) rfl (by rw [B.2.2.1]; exact hsz) (Steps.refl _) (a := a) (by rw [eT]; exact q1) q2 (argsL := argsL) (rest := rest) (lenOf hpd hln) hst (by show 2 * 0 + _ ≤ _; omega) (hb B.2.2.2.2.2.2.2 d) (fun _ _ => ⟨rfl, eT, hkR, hnR⟩)
  dsimp only [Pt.U, Pt.locs, Pt.cells, Pt.slots] at X' l1 y1 z1 stp hQ
  subst l1 y1 z1
  exact own_by (fun _ k => stp.trans k) (G T' v _ ⟨_, X', rfl, N0.app hQ.1⟩ hQ.2)
theorem own_sz {h1 : Heap} {ws : List Addr} {b : Addr} (K : Keep h0 h1 ws) (g : b = h1.size) : h0.size ≤ b := g ▸ K.1
theorem own_ne {h1 : Heap} {x b : Addr} (q : x < h1.size) (g : b = h1.size) : x ≠ b := fun u => by rw [u, g] at q; exact Nat.lt_irrefl _ q
theorem own_ne' {h1 : Heap} {x b : Addr} (q : x < h1.size) (g : h1.size ≤ b) : x ≠ b := Nat.ne_of_lt (Nat.lt_of_lt_of_le q g)
end OwnKit
section OwnNum
theorem own_ush0 (x : Int32) : (x.toUInt32 >>> ((0 : Int32) &&& 31).toUInt32).toInt32 = x := by
  have e : ((0 : Int32) &&& 31).toUInt32 = 0 := by decide
  rw [e]; simp
theorem own_ush0L (x : Int64) : (x.toUInt64 >>> ((0 : Int32) &&& 0x3f).toInt64.toUInt64).toInt64 = x := by
  have e : ((0 : Int32) &&& 0x3f).toInt64.toUInt64 = 0 := by decide
  rw [e]; simp
theorem own_idem_i2b {x y : Int32} (h : x.toInt8.toInt32 = y) : y.toInt8.toInt32 = y := by subst h; simp
theorem own_w {a0 : Array Value} {Z : State} (hw : ∀ d ∈ tables_1, d.before a0 Z = true) (i : Nat) {d : Jvm.Cond} (hd : tables_1[i]? = some d) : d.before a0 Z = true := hw _ (List.mem_of_getElem? hd)
theorem own_eq {x y : Int32} (h : x = y) : x.toInt = y.toInt := congrArg Int32.toInt h
theorem own_eqI {x y : Int32} (h : x.toInt = y.toInt) : x = y := Int32.toInt_inj.mp h
theorem own_o_ishr {x q z : Int32} (h : x >>> (q &&& 31) = z) (k : Nat) (hk : q.toBitVec.toNat % 32 = k) : z.toInt = x.toInt / (2 ^ k : Nat) := h ▸ c_ishr x q k hk
theorem own_o_iushr {x q z : Int32} (h : (x.toUInt32 >>> (q &&& 31).toUInt32).toInt32 = z) (k : Nat) (hk : q.toBitVec.toNat % 32 = k) (h0 : 0 < k) : z.toInt = (x.toInt % 4294967296) / (2 ^ k : Nat) := h ▸ c_iushr x q k hk h0
theorem own_o_i2b {x z : Int32} (h : x.toInt8.toInt32 = z) : (z.toInt - x.toInt) % 256 = 0 ∧ -128 ≤ z.toInt ∧ z.toInt < 128 := h ▸ c_i2b x
theorem own_o_l2i {x : Int64} {z : Int32} (h : x.toInt32 = z) : (z.toInt - x.toInt) % 4294967296 = 0 := h ▸ c_l2i x
theorem own_o_lshr {x z : Int64} {q : Int32} (h : x >>> (q &&& 0x3f).toInt64 = z) (k : Nat) (hk : q.toBitVec.toNat % 64 = k) : z.toInt = x.toInt / (2 ^ k : Nat) := h ▸ c_lshr x q k hk
theorem own_o_lushr {x z : Int64} {q : Int32} (h : (x.toUInt64 >>> (q &&& 0x3f).toInt64.toUInt64).toInt64 = z) (k : Nat) (hk : q.toBitVec.toNat % 64 = k) (h0 : 0 < k) : z.toInt = (x.toInt % 18446744073709551616) / (2 ^ k : Nat) := h ▸ c_lushr x q k hk h0
end OwnNum

theorem d1_0 : decode prog_65_method_1_code 0 = .ok (.aload_n 0, 1) := by decide +kernel
theorem d1_1 : decode prog_65_method_1_code 1 = .ok (.invokespecial 1, 3) := by decide +kernel
theorem d1_4 : decode prog_65_method_1_code 4 = .ok (.aload_n 0, 1) := by decide +kernel
theorem d1_5 : decode prog_65_method_1_code 5 = .ok (.bipush 64, 2) := by decide +kernel
theorem d1_7 : decode prog_65_method_1_code 7 = .ok (.newarray .byte, 2) := by decide +kernel
theorem d1_9 : decode prog_65_method_1_code 9 = .ok (.putfield 7, 3) := by decide +kernel
theorem d1_12 : decode prog_65_method_1_code 12 = .ok (.return_, 1) := by decide +kernel
theorem pn_0 : plainName "com/example/siltstone/siltstone/format/ByteSink" = true := by first | (simp [plainName, overriddenIn]; done) | decide +kernel
theorem pd_0 : parseMethodDescriptor "()V" = some ⟨[], none⟩ := by decide +kernel
theorem d3_0 : decode prog_65_method_7_code 0 = .ok (.aload_n 0, 1) := by decide +kernel
theorem d3_1 : decode prog_65_method_7_code 1 = .ok (.iconst 4, 1) := by decide +kernel
theorem d3_2 : decode prog_65_method_7_code 2 = .ok (.invokevirtual 23, 3) := by decide +kernel
theorem d4_0 : decode prog_65_method_12_code 0 = .ok (.iload_n 1, 1) := by decide +kernel
theorem d4_1 : decode prog_65_method_12_code 1 = .ok (.aload_n 0, 1) := by decide +kernel
theorem d4_2 : decode prog_65_method_12_code 2 = .ok (.getfield 7, 3) := by decide +kernel
theorem d4_5 : decode prog_65_method_12_code 5 = .ok (.arraylength, 1) := by decide +kernel
theorem d4_6 : decode prog_65_method_12_code 6 = .ok (.aload_n 0, 1) := by decide +kernel
theorem d4_7 : decode prog_65_method_12_code 7 = .ok (.getfield 13, 3) := by decide +kernel
theorem d4_10 : decode prog_65_method_12_code 10 = .ok (.isub, 1) := by decide +kernel
theorem d4_11 : decode prog_65_method_12_code 11 = .ok (.if_icmp .le 56, 3) := by decide +kernel
theorem d4_67 : decode prog_65_method_12_code 67 = .ok (.return_, 1) := by decide +kernel
theorem pd_1 : parseMethodDescriptor "(I)V" = some ⟨[.int], none⟩ := by decide +kernel
theorem d3_5 : decode prog_65_method_7_code 5 = .ok (.iconst 0, 1) := by decide +kernel
theorem d3_6 : decode prog_65_method_7_code 6 = .ok (.istore_n 2, 1) := by decide +kernel
theorem d3_7 : decode prog_65_method_7_code 7 = .ok (.iload_n 2, 1) := by decide +kernel
theorem d3_8 : decode prog_65_method_7_code 8 = .ok (.iconst 4, 1) := by decide +kernel
theorem d3_9 : decode prog_65_method_7_code 9 = .ok (.if_icmp .ge 32, 3) := by decide +kernel
theorem d3_12 : decode prog_65_method_7_code 12 = .ok (.aload_n 0, 1) := by decide +kernel
theorem d3_13 : decode prog_65_method_7_code 13 = .ok (.getfield 7, 3) := by decide +kernel
theorem d3_16 : decode prog_65_method_7_code 16 = .ok (.aload_n 0, 1) := by decide +kernel
theorem d3_17 : decode prog_65_method_7_code 17 = .ok (.dup, 1) := by decide +kernel
theorem d3_18 : decode prog_65_method_7_code 18 = .ok (.getfield 13, 3) := by decide +kernel
theorem d3_21 : decode prog_65_method_7_code 21 = .ok (.dup_x1, 1) := by decide +kernel
theorem d3_22 : decode prog_65_method_7_code 22 = .ok (.iconst 1, 1) := by decide +kernel
theorem d3_23 : decode prog_65_method_7_code 23 = .ok (.iadd, 1) := by decide +kernel
theorem d3_24 : decode prog_65_method_7_code 24 = .ok (.putfield 13, 3) := by decide +kernel
theorem d3_27 : decode prog_65_method_7_code 27 = .ok (.iload_n 1, 1) := by decide +kernel
theorem d3_28 : decode prog_65_method_7_code 28 = .ok (.bipush 8, 2) := by decide +kernel
theorem d3_30 : decode prog_65_method_7_code 30 = .ok (.iload_n 2, 1) := by decide +kernel
theorem d3_31 : decode prog_65_method_7_code 31 = .ok (.imul, 1) := by decide +kernel
theorem d3_32 : decode prog_65_method_7_code 32 = .ok (.iushr, 1) := by decide +kernel
theorem d3_33 : decode prog_65_method_7_code 33 = .ok (.i2b, 1) := by decide +kernel
theorem d3_34 : decode prog_65_method_7_code 34 = .ok (.bastore, 1) := by decide +kernel
theorem d3_35 : decode prog_65_method_7_code 35 = .ok (.iinc 2 1, 3) := by decide +kernel
theorem d3_38 : decode prog_65_method_7_code 38 = .ok (.goto (-31), 3) := by decide +kernel
theorem d3_41 : decode prog_65_method_7_code 41 = .ok (.return_, 1) := by decide +kernel
theorem d5_0 : decode prog_65_method_8_code 0 = .ok (.aload_n 0, 1) := by decide +kernel
theorem d5_1 : decode prog_65_method_8_code 1 = .ok (.bipush 8, 2) := by decide +kernel
theorem d5_3 : decode prog_65_method_8_code 3 = .ok (.invokevirtual 23, 3) := by decide +kernel
theorem d5_6 : decode prog_65_method_8_code 6 = .ok (.iconst 0, 1) := by decide +kernel
theorem d5_7 : decode prog_65_method_8_code 7 = .ok (.istore_n 3, 1) := by decide +kernel
theorem d5_8 : decode prog_65_method_8_code 8 = .ok (.iload_n 3, 1) := by decide +kernel
theorem d5_9 : decode prog_65_method_8_code 9 = .ok (.bipush 8, 2) := by decide +kernel
theorem d5_11 : decode prog_65_method_8_code 11 = .ok (.if_icmp .ge 33, 3) := by decide +kernel
theorem d5_14 : decode prog_65_method_8_code 14 = .ok (.aload_n 0, 1) := by decide +kernel
theorem d5_15 : decode prog_65_method_8_code 15 = .ok (.getfield 7, 3) := by decide +kernel
theorem d5_18 : decode prog_65_method_8_code 18 = .ok (.aload_n 0, 1) := by decide +kernel
theorem d5_19 : decode prog_65_method_8_code 19 = .ok (.dup, 1) := by decide +kernel
theorem d5_20 : decode prog_65_method_8_code 20 = .ok (.getfield 13, 3) := by decide +kernel
theorem d5_23 : decode prog_65_method_8_code 23 = .ok (.dup_x1, 1) := by decide +kernel
theorem d5_24 : decode prog_65_method_8_code 24 = .ok (.iconst 1, 1) := by decide +kernel
theorem d5_25 : decode prog_65_method_8_code 25 = .ok (.iadd, 1) := by decide +kernel
theorem d5_26 : decode prog_65_method_8_code 26 = .ok (.putfield 13, 3) := by decide +kernel
theorem d5_29 : decode prog_65_method_8_code 29 = .ok (.lload_n 1, 1) := by decide +kernel
theorem d5_30 : decode prog_65_method_8_code 30 = .ok (.bipush 8, 2) := by decide +kernel
theorem d5_32 : decode prog_65_method_8_code 32 = .ok (.iload_n 3, 1) := by decide +kernel
theorem d5_33 : decode prog_65_method_8_code 33 = .ok (.imul, 1) := by decide +kernel
theorem d5_34 : decode prog_65_method_8_code 34 = .ok (.lushr, 1) := by decide +kernel
theorem d5_35 : decode prog_65_method_8_code 35 = .ok (.l2i, 1) := by decide +kernel
theorem d5_36 : decode prog_65_method_8_code 36 = .ok (.i2b, 1) := by decide +kernel
theorem d5_37 : decode prog_65_method_8_code 37 = .ok (.bastore, 1) := by decide +kernel
theorem d5_38 : decode prog_65_method_8_code 38 = .ok (.iinc 3 1, 3) := by decide +kernel
theorem d5_41 : decode prog_65_method_8_code 41 = .ok (.goto (-33), 3) := by decide +kernel
theorem d5_44 : decode prog_65_method_8_code 44 = .ok (.return_, 1) := by decide +kernel
theorem pd_2 : parseMethodDescriptor "(J)V" = some ⟨[.long], none⟩ := by decide +kernel
theorem d6_0 : decode prog_65_method_6_code 0 = .ok (.aload_n 0, 1) := by decide +kernel
theorem d6_1 : decode prog_65_method_6_code 1 = .ok (.iconst 1, 1) := by decide +kernel
theorem d6_2 : decode prog_65_method_6_code 2 = .ok (.invokevirtual 23, 3) := by decide +kernel
theorem d6_5 : decode prog_65_method_6_code 5 = .ok (.aload_n 0, 1) := by decide +kernel
theorem d6_6 : decode prog_65_method_6_code 6 = .ok (.getfield 7, 3) := by decide +kernel
theorem d6_9 : decode prog_65_method_6_code 9 = .ok (.aload_n 0, 1) := by decide +kernel
theorem d6_10 : decode prog_65_method_6_code 10 = .ok (.dup, 1) := by decide +kernel
theorem d6_11 : decode prog_65_method_6_code 11 = .ok (.getfield 13, 3) := by decide +kernel
theorem d6_14 : decode prog_65_method_6_code 14 = .ok (.dup_x1, 1) := by decide +kernel
theorem d6_15 : decode prog_65_method_6_code 15 = .ok (.iconst 1, 1) := by decide +kernel
theorem d6_16 : decode prog_65_method_6_code 16 = .ok (.iadd, 1) := by decide +kernel
theorem d6_17 : decode prog_65_method_6_code 17 = .ok (.putfield 13, 3) := by decide +kernel
theorem d6_20 : decode prog_65_method_6_code 20 = .ok (.iload_n 1, 1) := by decide +kernel
theorem d6_21 : decode prog_65_method_6_code 21 = .ok (.i2b, 1) := by decide +kernel
theorem d6_22 : decode prog_65_method_6_code 22 = .ok (.bastore, 1) := by decide +kernel
theorem d6_23 : decode prog_65_method_6_code 23 = .ok (.return_, 1) := by decide +kernel
theorem d7_0 : decode prog_65_method_4_code 0 = .ok (.aload_n 0, 1) := by decide +kernel
theorem d7_1 : decode prog_65_method_4_code 1 = .ok (.getfield 7, 3) := by decide +kernel
theorem d7_4 : decode prog_65_method_4_code 4 = .ok (.aload_n 0, 1) := by decide +kernel
theorem d7_5 : decode prog_65_method_4_code 5 = .ok (.getfield 13, 3) := by decide +kernel
theorem d7_8 : decode prog_65_method_4_code 8 = .ok (.invokestatic 17, 3) := by decide +kernel
theorem d8_0 : decode jdk_65_method_121_code 0 = .ok (.iload_n 1, 1) := by decide +kernel
theorem d8_1 : decode jdk_65_method_121_code 1 = .ok (.aload_n 0, 1) := by decide +kernel
theorem d8_2 : decode jdk_65_method_121_code 2 = .ok (.arraylength, 1) := by decide +kernel
theorem d8_3 : decode jdk_65_method_121_code 3 = .ok (.if_icmp .ne 11, 3) := by decide +kernel
theorem d8_14 : decode jdk_65_method_121_code 14 = .ok (.iload_n 1, 1) := by decide +kernel
theorem d8_15 : decode jdk_65_method_121_code 15 = .ok (.newarray .byte, 2) := by decide +kernel
theorem d8_17 : decode jdk_65_method_121_code 17 = .ok (.astore_n 2, 1) := by decide +kernel
theorem d8_18 : decode jdk_65_method_121_code 18 = .ok (.aload_n 0, 1) := by decide +kernel
theorem d8_19 : decode jdk_65_method_121_code 19 = .ok (.iconst 0, 1) := by decide +kernel
theorem d8_20 : decode jdk_65_method_121_code 20 = .ok (.aload_n 2, 1) := by decide +kernel
theorem d8_21 : decode jdk_65_method_121_code 21 = .ok (.iconst 0, 1) := by decide +kernel
theorem d8_22 : decode jdk_65_method_121_code 22 = .ok (.aload_n 0, 1) := by decide +kernel
theorem d8_23 : decode jdk_65_method_121_code 23 = .ok (.arraylength, 1) := by decide +kernel
theorem d8_24 : decode jdk_65_method_121_code 24 = .ok (.iload_n 1, 1) := by decide +kernel
theorem d8_25 : decode jdk_65_method_121_code 25 = .ok (.invokestatic 304, 3) := by decide +kernel
theorem d9_0 : decode jdk_29_method_69_code 0 = .ok (.iload_n 0, 1) := by decide +kernel
theorem d9_1 : decode jdk_29_method_69_code 1 = .ok (.iload_n 1, 1) := by decide +kernel
theorem d9_2 : decode jdk_29_method_69_code 2 = .ok (.if_icmp .gt 7, 3) := by decide +kernel
theorem d9_9 : decode jdk_29_method_69_code 9 = .ok (.iload_n 1, 1) := by decide +kernel
theorem d9_10 : decode jdk_29_method_69_code 10 = .ok (.ireturn, 1) := by decide +kernel
theorem pd_3 : parseMethodDescriptor "(II)I" = some ⟨[.int, .int], some .int⟩ := by decide +kernel
theorem d8_28 : decode jdk_65_method_121_code 28 = .ok (.invokestatic 150, 3) := by decide +kernel
theorem d8_31 : decode jdk_65_method_121_code 31 = .ok (.aload_n 2, 1) := by decide +kernel
theorem d8_32 : decode jdk_65_method_121_code 32 = .ok (.areturn, 1) := by decide +kernel
theorem pn_1 : plainName "java/util/Arrays" = true := by first | (simp [plainName, overriddenIn]; done) | decide +kernel
theorem pd_4 : parseMethodDescriptor "([BI)[B" = some ⟨[(.array .byte), .int], some (.array .byte)⟩ := by decide +kernel
theorem d7_11 : decode prog_65_method_4_code 11 = .ok (.areturn, 1) := by decide +kernel
theorem pd_5 : parseMethodDescriptor "()[B" = some ⟨[], some (.array .byte)⟩ := by decide +kernel
theorem d10_0 : decode prog_65_method_2_code 0 = .ok (.aload_n 0, 1) := by decide +kernel
theorem d10_1 : decode prog_65_method_2_code 1 = .ok (.getfield 13, 3) := by decide +kernel
theorem d10_4 : decode prog_65_method_2_code 4 = .ok (.ireturn, 1) := by decide +kernel
theorem pd_6 : parseMethodDescriptor "()I" = some ⟨[], some .int⟩ := by decide +kernel
theorem d14_0 : decode prog_65_method_3_code 0 = .ok (.aload_n 0, 1) := by decide +kernel
theorem d14_1 : decode prog_65_method_3_code 1 = .ok (.iconst 0, 1) := by decide +kernel
theorem d14_2 : decode prog_65_method_3_code 2 = .ok (.putfield 13, 3) := by decide +kernel
theorem d14_5 : decode prog_65_method_3_code 5 = .ok (.return_, 1) := by decide +kernel
theorem d11_0 : decode prog_65_method_9_code 0 = .ok (.aload_n 0, 1) := by decide +kernel
theorem d11_1 : decode prog_65_method_9_code 1 = .ok (.aload_n 1, 1) := by decide +kernel
theorem d11_2 : decode prog_65_method_9_code 2 = .ok (.iconst 0, 1) := by decide +kernel
theorem d11_3 : decode prog_65_method_9_code 3 = .ok (.aload_n 1, 1) := by decide +kernel
theorem d11_4 : decode prog_65_method_9_code 4 = .ok (.arraylength, 1) := by decide +kernel
theorem d11_5 : decode prog_65_method_9_code 5 = .ok (.invokevirtual 27, 3) := by decide +kernel
theorem d12_0 : decode prog_65_method_10_code 0 = .ok (.aload_n 0, 1) := by decide +kernel
theorem d12_1 : decode prog_65_method_10_code 1 = .ok (.iload_n 3, 1) := by decide +kernel
theorem d12_2 : decode prog_65_method_10_code 2 = .ok (.invokevirtual 23, 3) := by decide +kernel
theorem d12_5 : decode prog_65_method_10_code 5 = .ok (.aload_n 1, 1) := by decide +kernel
theorem d12_6 : decode prog_65_method_10_code 6 = .ok (.iload_n 2, 1) := by decide +kernel
theorem d12_7 : decode prog_65_method_10_code 7 = .ok (.aload_n 0, 1) := by decide +kernel
theorem d12_8 : decode prog_65_method_10_code 8 = .ok (.getfield 7, 3) := by decide +kernel
theorem d12_11 : decode prog_65_method_10_code 11 = .ok (.aload_n 0, 1) := by decide +kernel
theorem d12_12 : decode prog_65_method_10_code 12 = .ok (.getfield 13, 3) := by decide +kernel
theorem d12_15 : decode prog_65_method_10_code 15 = .ok (.iload_n 3, 1) := by decide +kernel
theorem d12_16 : decode prog_65_method_10_code 16 = .ok (.invokestatic 31, 3) := by decide +kernel
theorem d12_19 : decode prog_65_method_10_code 19 = .ok (.aload_n 0, 1) := by decide +kernel
theorem d12_20 : decode prog_65_method_10_code 20 = .ok (.dup, 1) := by decide +kernel
theorem d12_21 : decode prog_65_method_10_code 21 = .ok (.getfield 13, 3) := by decide +kernel
theorem d12_24 : decode prog_65_method_10_code 24 = .ok (.iload_n 3, 1) := by decide +kernel
theorem d12_25 : decode prog_65_method_10_code 25 = .ok (.iadd, 1) := by decide +kernel
theorem d12_26 : decode prog_65_method_10_code 26 = .ok (.putfield 13, 3) := by decide +kernel
theorem d12_29 : decode prog_65_method_10_code 29 = .ok (.return_, 1) := by decide +kernel
theorem pd_7 : parseMethodDescriptor "([BII)V" = some ⟨[(.array .byte), .int, .int], none⟩ := by decide +kernel
theorem d11_8 : decode prog_65_method_9_code 8 = .ok (.return_, 1) := by decide +kernel
theorem pd_8 : parseMethodDescriptor "([B)V" = some ⟨[(.array .byte)], none⟩ := by decide +kernel
theorem d4_14 : decode prog_65_method_12_code 14 = .ok (.aload_n 0, 1) := by decide +kernel
theorem d4_15 : decode prog_65_method_12_code 15 = .ok (.getfield 7, 3) := by decide +kernel
theorem d4_18 : decode prog_65_method_12_code 18 = .ok (.arraylength, 1) := by decide +kernel
theorem d4_19 : decode prog_65_method_12_code 19 = .ok (.i2l, 1) := by decide +kernel
theorem d4_20 : decode prog_65_method_12_code 20 = .ok (.ldc2_w 37, 3) := by decide +kernel
theorem d4_23 : decode prog_65_method_12_code 23 = .ok (.lmul, 1) := by decide +kernel
theorem d4_24 : decode prog_65_method_12_code 24 = .ok (.aload_n 0, 1) := by decide +kernel
theorem d4_25 : decode prog_65_method_12_code 25 = .ok (.getfield 13, 3) := by decide +kernel
theorem d4_28 : decode prog_65_method_12_code 28 = .ok (.i2l, 1) := by decide +kernel
theorem d4_29 : decode prog_65_method_12_code 29 = .ok (.iload_n 1, 1) := by decide +kernel
theorem d4_30 : decode prog_65_method_12_code 30 = .ok (.i2l, 1) := by decide +kernel
theorem d4_31 : decode prog_65_method_12_code 31 = .ok (.ladd, 1) := by decide +kernel
theorem d4_32 : decode prog_65_method_12_code 32 = .ok (.invokestatic 39, 3) := by decide +kernel
theorem d13_0 : decode jdk_29_method_66_code 0 = .ok (.lload_n 0, 1) := by decide +kernel
theorem d13_1 : decode jdk_29_method_66_code 1 = .ok (.lload_n 2, 1) := by decide +kernel
theorem d13_2 : decode jdk_29_method_66_code 2 = .ok (.lcmp, 1) := by decide +kernel
theorem d13_3 : decode jdk_29_method_66_code 3 = .ok (.ifCond .lt 7, 3) := by decide +kernel
theorem d13_6 : decode jdk_29_method_66_code 6 = .ok (.lload_n 0, 1) := by decide +kernel
theorem d13_7 : decode jdk_29_method_66_code 7 = .ok (.goto 4, 3) := by decide +kernel
theorem d13_11 : decode jdk_29_method_66_code 11 = .ok (.lreturn, 1) := by decide +kernel
theorem pd_9 : parseMethodDescriptor "(JJ)J" = some ⟨[.long, .long], some .long⟩ := by decide +kernel
theorem d4_35 : decode prog_65_method_12_code 35 = .ok (.lstore_n 2, 1) := by decide +kernel
theorem d4_36 : decode prog_65_method_12_code 36 = .ok (.lload_n 2, 1) := by decide +kernel
theorem d4_37 : decode prog_65_method_12_code 37 = .ok (.ldc2_w 47, 3) := by decide +kernel
theorem d4_40 : decode prog_65_method_12_code 40 = .ok (.lcmp, 1) := by decide +kernel
theorem d4_41 : decode prog_65_method_12_code 41 = .ok (.ifCond .le 13, 3) := by decide +kernel
theorem d4_54 : decode prog_65_method_12_code 54 = .ok (.aload_n 0, 1) := by decide +kernel
theorem d4_55 : decode prog_65_method_12_code 55 = .ok (.aload_n 0, 1) := by decide +kernel
theorem d4_56 : decode prog_65_method_12_code 56 = .ok (.getfield 7, 3) := by decide +kernel
theorem d4_59 : decode prog_65_method_12_code 59 = .ok (.lload_n 2, 1) := by decide +kernel
theorem d4_60 : decode prog_65_method_12_code 60 = .ok (.l2i, 1) := by decide +kernel
theorem d4_61 : decode prog_65_method_12_code 61 = .ok (.invokestatic 17, 3) := by decide +kernel
theorem d9_5 : decode jdk_29_method_69_code 5 = .ok (.iload_n 0, 1) := by decide +kernel
theorem d9_6 : decode jdk_29_method_69_code 6 = .ok (.goto 4, 3) := by decide +kernel
theorem d4_64 : decode prog_65_method_12_code 64 = .ok (.putfield 7, 3) := by decide +kernel
theorem pn_2 : plainName "com/example/siltstone/siltstone/format/ByteSinkToByteArrayPinLaw" = true := by first | (simp [plainName, overriddenIn]; done) | decide +kernel
def Q_1 (Z : State) (w0 : Addr) (h0 : Heap) (n0 : Nat) (v : Option Value) (h : Heap) : Prop :=
  (∃ (b2 : Addr) (kb2 : ClassId), v = none ∧ Keep h0 h [w0] ∧ h0.size ≤ b2 ∧ Exa Z h w0 "com/example/siltstone/siltstone/format/ByteSink" ∧ Fld Z h w0 "com/example/siltstone/siltstone/format/ByteSink" "bytes" "[B" (.ref b2) ∧ Fld Z h w0 "com/example/siltstone/siltstone/format/ByteSink" "size" "I" (.int (0 : Int32)) ∧ Exa Z h b2 "[B" ∧ Arv Z h b2 kb2 .byte (64 : Int32) [] (.int (0 : Int32)))
set_option maxRecDepth 65536 in
set_option maxHeartbeats 40000000 in
theorem rm_1 (l : Launch) (Z : State) (a0 : Array Value) (hw : ∀ d ∈ tables_1, d.before a0 Z = true) (ws : List Jvm.Cond) (w0 : Addr) (h0 : Heap) (n0 : Nat) (Z0 : n0 ≤ h0.size) (E_w0 : Exa Z h0 w0 "com/example/siltstone/siltstone/format/ByteSink") (F_w0_bytes : Fld Z h0 w0 "com/example/siltstone/siltstone/format/ByteSink" "bytes" "[B" .null) (F_w0_size : Fld Z h0 w0 "com/example/siltstone/siltstone/format/ByteSink" "size" "I" (.int (0 : Int32))) (g_w0 : n0 ≤ w0) :
    MetFree l (⟨"com/example/siltstone/siltstone/format/ByteSink", "<init>", "()V"⟩ : MethodName) (head1 (Jvm.Cond.code (⟨"com/example/siltstone/siltstone/format/ByteSink", "<init>", "()V"⟩ : MethodName) prog_65_method_1_code 1 none :: ws) ({ frames := 1, cells := 1, slots := 64, locals := 12 } : Room)) (fun a U => a = #[(.ref w0)] ∧ Z.Warmed39 U.vm ∧ U.heap = h0) (fun _ _ _ _ _ => True) (fun _ U o U' => ∃ v L, o = .returned v ∧ (Fr n0 L ∧ Q_1 Z w0 h0 n0 v U'.heap) ∧ FrameEnd U o U' L ({ frames := 1, cells := 1, slots := 64, locals := 12 } : Room).cells ({ frames := 1, cells := 1, slots := 64, locals := 12 } : Room).slots) := by
  refine own_enter (Q := Q_1 Z w0 h0 n0) (F := fun m => mkF m 0 #[.val (.ref w0)] []) (plainFor_of_name pn_0) (fun m => by first | (simp [entryFrame, mkF, argsToLocals, Value.category]; done) | rfl) ?_
  intro p e s m below meth c s₁ B X0
  have K : Keep h0 h0 [w0] := Keep.refl h0 _
  refine own_aloadN (pc' := 1) B X0 d1_0 rfl rfl rfl ?_
  refine own_objinit (pc' := 4) B X0 (own_w hw 7 rfl) (own_w hw 8 rfl) (own_w hw 9 rfl) d1_1 rfl rfl (by decide) 0 (Nat.le_of_eq rfl) (by decide) ?_
  intro T1 X1
  refine own_aloadN (pc' := 5) B X1 d1_4 rfl rfl rfl ?_
  refine own_bipush (pc' := 7) B X1 (z := (64 : Int32)) d1_5 rfl (by decide) ?_
  refine own_newarray (pc' := 9) B X1 (own_w hw 0 rfl) d1_7 rfl rfl (by decide) 64 (by decide) (by decide) (k' := 1) (n' := 64) rfl rfl (by decide) (by decide) "[B" (by decide) (.int (0 : Int32)) rfl ?_
  intro T2 h2 b2 kb2 X2 g2 E2 V_b2 E_b2
  have ne_w0_b2 : w0 ≠ b2 := own_ne E_w0.lt g2
  have sz_b2 : h0.size ≤ b2 := own_sz K g2
  have g_b2 : n0 ≤ b2 := Nat.le_trans Z0 sz_b2
  replace K := K.ext E2
  replace E_w0 := E_w0.ext E2
  replace F_w0_bytes := F_w0_bytes.ext E2
  replace F_w0_size := F_w0_size.ext E2
  refine own_putfield (pc' := 12) B X2 (host := "") (Or.inl (own_w hw 10 rfl)) Via.refl F_w0_bytes E_w0 g_w0 (Or.inl (own_w hw 11 rfl)) (own_w hw 2 rfl) (ty := (.array .byte)) (by decide) rfl rfl d1_9 rfl ?_
  intro T3 h3 X3 W3 F_w0_bytes
  replace E_w0 := E_w0.wr W3
  replace F_w0_size := F_w0_size.other W3 (Or.inr (slot_ne (Or.inl (own_w hw 22 rfl)) (Or.inl (own_w hw 11 rfl)) (by decide) (t := .int) (t' := (.array .byte)) (by decide) (by decide)))
  replace E_b2 := E_b2.wr W3
  replace V_b2 := V_b2.other W3 (Ne.symm ne_w0_b2)
  replace K := K.wr W3 (Or.inl (List.mem_of_getElem? (i := 0) rfl))
  exact own_ret B X3 d1_12 (by decide) (by decide) (⟨b2, kb2, rfl, K, sz_b2, E_w0, F_w0_bytes, F_w0_size, E_b2, V_b2⟩)
def Q_3 (Z : State) (w0 : Addr) (w1 : Addr) (kw1 : ClassId) (h0 : Heap) (n0 : Nat) (v : Option Value) (h : Heap) : Prop :=
  (v = none ∧ h0 = h)
set_option maxRecDepth 65536 in
set_option maxHeartbeats 40000000 in
theorem rm_3 (l : Launch) (Z : State) (a0 : Array Value) (hw : ∀ d ∈ tables_1, d.before a0 Z = true) (ws : List Jvm.Cond) (w0 : Addr) (w1 : Addr) (kw1 : ClassId) (h0 : Heap) (n0 : Nat) (Z0 : n0 ≤ h0.size) (E_w0 : Exa Z h0 w0 "com/example/siltstone/siltstone/format/ByteSink") (F_w0_bytes : Fld Z h0 w0 "com/example/siltstone/siltstone/format/ByteSink" "bytes" "[B" (.ref w1)) (F_w0_size : Fld Z h0 w0 "com/example/siltstone/siltstone/format/ByteSink" "size" "I" (.int (0 : Int32))) (g_w0 : n0 ≤ w0) (E_w1 : Exa Z h0 w1 "[B") (V_w1 : Arv Z h0 w1 kw1 .byte (64 : Int32) [] (.int (0 : Int32))) (g_w1 : n0 ≤ w1) (ne_w0_w1 : w0 ≠ w1) :
    MetFree l (⟨"com/example/siltstone/siltstone/format/ByteSink", "ensure", "(I)V"⟩ : MethodName) (head1 (Jvm.Cond.code (⟨"com/example/siltstone/siltstone/format/ByteSink", "ensure", "(I)V"⟩ : MethodName) prog_65_method_12_code 4 none :: ws) ({ frames := 0, cells := 0, slots := 0, locals := 0 } : Room)) (fun a U => a = #[(.ref w0), (.int (4 : Int32))] ∧ Z.Warmed39 U.vm ∧ U.heap = h0) (fun _ _ _ _ _ => True) (fun _ U o U' => ∃ v L, o = .returned v ∧ (Fr n0 L ∧ Q_3 Z w0 w1 kw1 h0 n0 v U'.heap) ∧ FrameEnd U o U' L ({ frames := 0, cells := 0, slots := 0, locals := 0 } : Room).cells ({ frames := 0, cells := 0, slots := 0, locals := 0 } : Room).slots) := by
  refine own_enter (Q := Q_3 Z w0 w1 kw1 h0 n0) (F := fun m => mkF m 0 #[.val (.ref w0), .val (.int (4 : Int32)), .unset, .unset] []) (plainFor_of_name pn_0) (fun m => by first | (simp [entryFrame, mkF, argsToLocals, Value.category]; done) | rfl) ?_
  intro p e s m below meth c s₁ B X0
  have K : Keep h0 h0 [] := Keep.refl h0 _
  refine own_iloadN (pc' := 1) B X0 d4_0 rfl rfl ?_
  refine own_aloadN (pc' := 2) B X0 d4_1 rfl rfl rfl ?_
  refine own_getfield (pc' := 5) B X0 (host := "") (Or.inl (own_w hw 10 rfl)) Via.refl F_w0_bytes d4_2 rfl ?_
  intro T1 X1
  refine own_arraylength (pc' := 6) B X1 V_w1 d4_5 rfl ?_
  refine own_aloadN (pc' := 7) B X1 d4_6 rfl rfl rfl ?_
  refine own_getfield (pc' := 10) B X1 (host := "") (Or.inl (own_w hw 21 rfl)) Via.refl F_w0_size d4_7 rfl ?_
  intro T2 X2
  refine own_isub (pc' := 11) B X2 (z := (64 : Int32)) d4_10 rfl (by decide) ?_
  refine own_icmpYes (pc' := 67) B X2 d4_11 (flt (by decide : ¬ ((64 : Int32) < (4 : Int32)))).2.2.2 (by decide) rfl ?_
  exact own_ret B X2 d4_67 (by decide) (by decide) (⟨rfl, rfl⟩)
def Q_2 (Z : State) (w0 : Addr) (w1 : Addr) (kw1 : ClassId) (p3 : Int32) (h0 : Heap) (n0 : Nat) (v : Option Value) (h : Heap) : Prop :=
  (∃ (y5 : Int32) (y10 : Int32) (y11 : Int32) (y16 : Int32) (y17 : Int32) (y22 : Int32) (y23 : Int32), p3.toInt8.toInt32 = y5 ∧ (p3.toUInt32 >>> ((8 : Int32) &&& 31).toUInt32).toInt32 = y10 ∧ y10.toInt8.toInt32 = y11 ∧ (p3.toUInt32 >>> ((16 : Int32) &&& 31).toUInt32).toInt32 = y16 ∧ y16.toInt8.toInt32 = y17 ∧ (p3.toUInt32 >>> ((24 : Int32) &&& 31).toUInt32).toInt32 = y22 ∧ y22.toInt8.toInt32 = y23 ∧ v = none ∧ Keep h0 h [w0, w1] ∧ Exa Z h w0 "com/example/siltstone/siltstone/format/ByteSink" ∧ Fld Z h w0 "com/example/siltstone/siltstone/format/ByteSink" "bytes" "[B" (.ref w1) ∧ Fld Z h w0 "com/example/siltstone/siltstone/format/ByteSink" "size" "I" (.int (4 : Int32)) ∧ Exa Z h w1 "[B" ∧ Arv Z h w1 kw1 .byte (64 : Int32) [(.int y5), (.int y11), (.int y17), (.int y23)] (.int (0 : Int32)))
set_option maxRecDepth 65536 in
set_option maxHeartbeats 40000000 in
theorem rm_2 (l : Launch) (Z : State) (a0 : Array Value) (hw : ∀ d ∈ tables_1, d.before a0 Z = true) (ws : List Jvm.Cond) (w0 : Addr) (w1 : Addr) (kw1 : ClassId) (p3 : Int32) (h0 : Heap) (n0 : Nat) (Z0 : n0 ≤ h0.size) (E_w0 : Exa Z h0 w0 "com/example/siltstone/siltstone/format/ByteSink") (F_w0_bytes : Fld Z h0 w0 "com/example/siltstone/siltstone/format/ByteSink" "bytes" "[B" (.ref w1)) (F_w0_size : Fld Z h0 w0 "com/example/siltstone/siltstone/format/ByteSink" "size" "I" (.int (0 : Int32))) (g_w0 : n0 ≤ w0) (E_w1 : Exa Z h0 w1 "[B") (V_w1 : Arv Z h0 w1 kw1 .byte (64 : Int32) [] (.int (0 : Int32))) (g_w1 : n0 ≤ w1) (ne_w0_w1 : w0 ≠ w1) :
    MetFree l (⟨"com/example/siltstone/siltstone/format/ByteSink", "writeIntLe", "(I)V"⟩ : MethodName) (head1 (Jvm.Cond.code (⟨"com/example/siltstone/siltstone/format/ByteSink", "writeIntLe", "(I)V"⟩ : MethodName) prog_65_method_7_code 3 none :: ws) ({ frames := 1, cells := 0, slots := 0, locals := 15 } : Room)) (fun a U => a = #[(.ref w0), (.int p3)] ∧ Z.Warmed39 U.vm ∧ U.heap = h0) (fun _ _ _ _ _ => True) (fun _ U o U' => ∃ v L, o = .returned v ∧ (Fr n0 L ∧ Q_2 Z w0 w1 kw1 p3 h0 n0 v U'.heap) ∧ FrameEnd U o U' L ({ frames := 1, cells := 0, slots := 0, locals := 15 } : Room).cells ({ frames := 1, cells := 0, slots := 0, locals := 15 } : Room).slots) := by
  refine own_enter (Q := Q_2 Z w0 w1 kw1 p3 h0 n0) (F := fun m => mkF m 0 #[.val (.ref w0), .val (.int p3), .unset] []) (plainFor_of_name pn_0) (fun m => by first | (simp [entryFrame, mkF, argsToLocals, Value.category]; done) | rfl) ?_
  intro p e s m below meth c s₁ B X0
  have K : Keep h0 h0 [w0, w1] := Keep.refl h0 _
  refine own_aloadN (pc' := 1) B X0 d3_0 rfl rfl rfl ?_
  refine own_iconst (pc' := 2) B X0 (z := (4 : Int32)) d3_1 rfl rfl ?_
  refine own_callP (pc' := 5) B X0 (own_w hw 17 rfl) (own_w hw 18 rfl) (own_w hw 19 rfl) (own_w hw 2 rfl) (own_w hw 3 rfl) (own_w hw 20 rfl) E_w0 (by decide) [(.int (4 : Int32))] [] (rm_3 l Z a0 hw [] w0 w1 kw1 h0 n0 (Nat.le_trans Z0 K.1) E_w0 F_w0_bytes F_w0_size g_w0 E_w1 V_w1 g_w1 ne_w0_w1) 0 (by decide) (by decide) rfl pd_1 rfl rfl (Nat.le_of_eq rfl) d3_2 rfl (k' := 0) (n' := 0) rfl rfl (by decide) (by decide) ?_
  intro T1 v1 h1 X1 q1
  obtain ⟨rfl, rfl⟩ := q1
  show own_Go p e below (T1.setTop (mkF m 5 #[.val (.ref w0), .val (.int p3), .unset] [])) _
  refine own_iconst (pc' := 6) B X1 (z := (0 : Int32)) d3_5 rfl rfl ?_
  refine own_istoreN (pc' := 7) B X1 (Ls' := #[.val (.ref w0), .val (.int p3), .val (.int (0 : Int32))]) d3_6 rfl rfl ?_
  refine own_iloadN (pc' := 8) B X1 d3_7 rfl rfl ?_
  refine own_iconst (pc' := 9) B X1 (z := (4 : Int32)) d3_8 rfl rfl ?_
  refine own_icmpNo (pc' := 12) B X1 d3_9 (tlt (by decide : (0 : Int32) < (4 : Int32))).2.1 rfl ?_
  refine own_aloadN (pc' := 13) B X1 d3_12 rfl rfl rfl ?_
  refine own_getfield (pc' := 16) B X1 (host := "") (Or.inl (own_w hw 10 rfl)) Via.refl F_w0_bytes d3_13 rfl ?_
  intro T2 X2
  refine own_aloadN (pc' := 17) B X2 d3_16 rfl rfl rfl ?_
  refine own_dup (pc' := 18) B X2 d3_17 rfl rfl ?_
  refine own_getfield (pc' := 21) B X2 (host := "") (Or.inl (own_w hw 21 rfl)) Via.refl F_w0_size d3_18 rfl ?_
  intro T3 X3
  refine own_dup_x1 (pc' := 22) B X3 d3_21 rfl rfl rfl ?_
  refine own_iconst (pc' := 23) B X3 (z := (1 : Int32)) d3_22 rfl rfl ?_
  refine own_iadd (pc' := 24) B X3 (z := (1 : Int32)) d3_23 rfl (by decide) ?_
  refine own_putfield (pc' := 27) B X3 (host := "") (Or.inl (own_w hw 21 rfl)) Via.refl F_w0_size E_w0 g_w0 (Or.inl (own_w hw 22 rfl)) (own_w hw 2 rfl) (ty := .int) (by decide) rfl rfl d3_24 rfl ?_
  intro T4 h4 X4 W4 F_w0_size
  replace E_w0 := E_w0.wr W4
  replace F_w0_bytes := F_w0_bytes.other W4 (Or.inr (slot_ne (Or.inl (own_w hw 11 rfl)) (Or.inl (own_w hw 22 rfl)) (by decide) (t := (.array .byte)) (t' := .int) (by decide) (by decide)))
  replace E_w1 := E_w1.wr W4
  replace V_w1 := V_w1.other W4 (Ne.symm ne_w0_w1)
  replace K := K.wr W4 (Or.inl (List.mem_of_getElem? (i := 0) rfl))
  refine own_iloadN (pc' := 28) B X4 d3_27 rfl rfl ?_
  refine own_bipush (pc' := 30) B X4 (z := (8 : Int32)) d3_28 rfl (by decide) ?_
  refine own_iloadN (pc' := 31) B X4 d3_30 rfl rfl ?_
  refine own_imul (pc' := 32) B X4 (z := (0 : Int32)) d3_31 rfl (by decide) ?_
  refine own_iushr (pc' := 33) B X4 d3_32 rfl (own_ush0 _) ?_
  obtain ⟨y5, hy5⟩ : ∃ z : Int32, p3.toInt8.toInt32 = z := ⟨_, rfl⟩
  refine own_i2b (pc' := 34) B X4 d3_33 rfl hy5 ?_
  replace V_w1 : Arv Z h4 w1 kw1 .byte (64 : Int32) [(.int (0 : Int32))] (.int (0 : Int32)) := V_w1.pad (pad_rep [] (.int (0 : Int32)) 1)
  refine own_bastore (pc' := 35) B X4 (x' := y5) V_w1 g_w1 ⟨by decide, by decide⟩ 0 (by decide) (Nat.le_of_ble_eq_true rfl) (own_idem_i2b hy5) d3_34 rfl ?_
  intro T6 h6 X6 W6 V_w1
  replace V_w1 : Arv Z h6 w1 kw1 .byte (64 : Int32) [(.int y5)] (.int (0 : Int32)) := V_w1
  replace E_w0 := E_w0.wr W6
  replace F_w0_bytes := F_w0_bytes.other W6 (Or.inl ne_w0_w1)
  replace F_w0_size := F_w0_size.other W6 (Or.inl ne_w0_w1)
  replace E_w1 := E_w1.wr W6
  replace K := K.wr W6 (Or.inl (List.mem_of_getElem? (i := 1) rfl))
  refine own_iinc (pc' := 38) B X6 (Ls' := #[.val (.ref w0), .val (.int p3), .val (.int (1 : Int32))]) d3_35 rfl rfl (z := (1 : Int32)) (by decide) rfl ?_
  refine own_goto (pc' := 7) B X6 d3_38 (by decide) rfl ?_
  refine own_iloadN (pc' := 8) B X6 d3_7 rfl rfl ?_
  refine own_iconst (pc' := 9) B X6 (z := (4 : Int32)) d3_8 rfl rfl ?_
  refine own_icmpNo (pc' := 12) B X6 d3_9 (tlt (by decide : (1 : Int32) < (4 : Int32))).2.1 rfl ?_
  refine own_aloadN (pc' := 13) B X6 d3_12 rfl rfl rfl ?_
  refine own_getfield (pc' := 16) B X6 (host := "") (Or.inl (own_w hw 10 rfl)) Via.refl F_w0_bytes d3_13 rfl ?_
  intro T7 X7
  refine own_aloadN (pc' := 17) B X7 d3_16 rfl rfl rfl ?_
  refine own_dup (pc' := 18) B X7 d3_17 rfl rfl ?_
  refine own_getfield (pc' := 21) B X7 (host := "") (Or.inl (own_w hw 21 rfl)) Via.refl F_w0_size d3_18 rfl ?_
  intro T8 X8
  refine own_dup_x1 (pc' := 22) B X8 d3_21 rfl rfl rfl ?_
  refine own_iconst (pc' := 23) B X8 (z := (1 : Int32)) d3_22 rfl rfl ?_
  refine own_iadd (pc' := 24) B X8 (z := (2 : Int32)) d3_23 rfl (by decide) ?_
  refine own_putfield (pc' := 27) B X8 (host := "") (Or.inl (own_w hw 21 rfl)) Via.refl F_w0_size E_w0 g_w0 (Or.inl (own_w hw 22 rfl)) (own_w hw 2 rfl) (ty := .int) (by decide) rfl rfl d3_24 rfl ?_
  intro T9 h9 X9 W9 F_w0_size
  replace E_w0 := E_w0.wr W9
  replace F_w0_bytes := F_w0_bytes.other W9 (Or.inr (slot_ne (Or.inl (own_w hw 11 rfl)) (Or.inl (own_w hw 22 rfl)) (by decide) (t := (.array .byte)) (t' := .int) (by decide) (by decide)))
  replace E_w1 := E_w1.wr W9
  replace V_w1 := V_w1.other W9 (Ne.symm ne_w0_w1)
  replace K := K.wr W9 (Or.inl (List.mem_of_getElem? (i := 0) rfl))
  refine own_iloadN (pc' := 28) B X9 d3_27 rfl rfl ?_
  refine own_bipush (pc' := 30) B X9 (z := (8 : Int32)) d3_28 rfl (by decide) ?_
  refine own_iloadN (pc' := 31) B X9 d3_30 rfl rfl ?_
  refine own_imul (pc' := 32) B X9 (z := (8 : Int32)) d3_31 rfl (by decide) ?_
  obtain ⟨y10, hy10⟩ : ∃ z : Int32, (p3.toUInt32 >>> ((8 : Int32) &&& 31).toUInt32).toInt32 = z := ⟨_, rfl⟩
  refine own_iushr (pc' := 33) B X9 d3_32 rfl hy10 ?_
  obtain ⟨y11, hy11⟩ : ∃ z : Int32, y10.toInt8.toInt32 = z := ⟨_, rfl⟩
  refine own_i2b (pc' := 34) B X9 d3_33 rfl hy11 ?_
  replace V_w1 : Arv Z h9 w1 kw1 .byte (64 : Int32) [(.int y5), (.int (0 : Int32))] (.int (0 : Int32)) := V_w1.pad (pad_rep [(.int y5)] (.int (0 : Int32)) 1)
  refine own_bastore (pc' := 35) B X9 (x' := y11) V_w1 g_w1 ⟨by decide, by decide⟩ 1 (by decide) (Nat.le_of_ble_eq_true rfl) (own_idem_i2b hy11) d3_34 rfl ?_
  intro T12 h12 X12 W12 V_w1
  replace V_w1 : Arv Z h12 w1 kw1 .byte (64 : Int32) [(.int y5), (.int y11)] (.int (0 : Int32)) := V_w1
  replace E_w0 := E_w0.wr W12
  replace F_w0_bytes := F_w0_bytes.other W12 (Or.inl ne_w0_w1)
  replace F_w0_size := F_w0_size.other W12 (Or.inl ne_w0_w1)
  replace E_w1 := E_w1.wr W12
  replace K := K.wr W12 (Or.inl (List.mem_of_getElem? (i := 1) rfl))
  refine own_iinc (pc' := 38) B X12 (Ls' := #[.val (.ref w0), .val (.int p3), .val (.int (2 : Int32))]) d3_35 rfl rfl (z := (2 : Int32)) (by decide) rfl ?_
  refine own_goto (pc' := 7) B X12 d3_38 (by decide) rfl ?_
  refine own_iloadN (pc' := 8) B X12 d3_7 rfl rfl ?_
  refine own_iconst (pc' := 9) B X12 (z := (4 : Int32)) d3_8 rfl rfl ?_
  refine own_icmpNo (pc' := 12) B X12 d3_9 (tlt (by decide : (2 : Int32) < (4 : Int32))).2.1 rfl ?_
  refine own_aloadN (pc' := 13) B X12 d3_12 rfl rfl rfl ?_
  refine own_getfield (pc' := 16) B X12 (host := "") (Or.inl (own_w hw 10 rfl)) Via.refl F_w0_bytes d3_13 rfl ?_
  intro T13 X13
  refine own_aloadN (pc' := 17) B X13 d3_16 rfl rfl rfl ?_
  refine own_dup (pc' := 18) B X13 d3_17 rfl rfl ?_
  refine own_getfield (pc' := 21) B X13 (host := "") (Or.inl (own_w hw 21 rfl)) Via.refl F_w0_size d3_18 rfl ?_
  intro T14 X14
  refine own_dup_x1 (pc' := 22) B X14 d3_21 rfl rfl rfl ?_
  refine own_iconst (pc' := 23) B X14 (z := (1 : Int32)) d3_22 rfl rfl ?_
  refine own_iadd (pc' := 24) B X14 (z := (3 : Int32)) d3_23 rfl (by decide) ?_
  refine own_putfield (pc' := 27) B X14 (host := "") (Or.inl (own_w hw 21 rfl)) Via.refl F_w0_size E_w0 g_w0 (Or.inl (own_w hw 22 rfl)) (own_w hw 2 rfl) (ty := .int) (by decide) rfl rfl d3_24 rfl ?_
  intro T15 h15 X15 W15 F_w0_size
  replace E_w0 := E_w0.wr W15
  replace F_w0_bytes := F_w0_bytes.other W15 (Or.inr (slot_ne (Or.inl (own_w hw 11 rfl)) (Or.inl (own_w hw 22 rfl)) (by decide) (t := (.array .byte)) (t' := .int) (by decide) (by decide)))
  replace E_w1 := E_w1.wr W15
  replace V_w1 := V_w1.other W15 (Ne.symm ne_w0_w1)
  replace K := K.wr W15 (Or.inl (List.mem_of_getElem? (i := 0) rfl))
  refine own_iloadN (pc' := 28) B X15 d3_27 rfl rfl ?_
  refine own_bipush (pc' := 30) B X15 (z := (8 : Int32)) d3_28 rfl (by decide) ?_
  refine own_iloadN (pc' := 31) B X15 d3_30 rfl rfl ?_
  refine own_imul (pc' := 32) B X15 (z := (16 : Int32)) d3_31 rfl (by decide) ?_
  obtain ⟨y16, hy16⟩ : ∃ z : Int32, (p3.toUInt32 >>> ((16 : Int32) &&& 31).toUInt32).toInt32 = z := ⟨_, rfl⟩
  refine own_iushr (pc' := 33) B X15 d3_32 rfl hy16 ?_
  obtain ⟨y17, hy17⟩ : ∃ z : Int32, y16.toInt8.toInt32 = z := ⟨_, rfl⟩
  refine own_i2b (pc' := 34) B X15 d3_33 rfl hy17 ?_
  replace V_w1 : Arv Z h15 w1 kw1 .byte (64 : Int32) [(.int y5), (.int y11), (.int (0 : Int32))] (.int (0 : Int32)) := V_w1.pad (pad_rep [(.int y5), (.int y11)] (.int (0 : Int32)) 1)
  refine own_bastore (pc' := 35) B X15 (x' := y17) V_w1 g_w1 ⟨by decide, by decide⟩ 2 (by decide) (Nat.le_of_ble_eq_true rfl) (own_idem_i2b hy17) d3_34 rfl ?_
  intro T18 h18 X18 W18 V_w1
  replace V_w1 : Arv Z h18 w1 kw1 .byte (64 : Int32) [(.int y5), (.int y11), (.int y17)] (.int (0 : Int32)) := V_w1
  replace E_w0 := E_w0.wr W18
  replace F_w0_bytes := F_w0_bytes.other W18 (Or.inl ne_w0_w1)
  replace F_w0_size := F_w0_size.other W18 (Or.inl ne_w0_w1)
  replace E_w1 := E_w1.wr W18
  replace K := K.wr W18 (Or.inl (List.mem_of_getElem? (i := 1) rfl))
  refine own_iinc (pc' := 38) B X18 (Ls' := #[.val (.ref w0), .val (.int p3), .val (.int (3 : Int32))]) d3_35 rfl rfl (z := (3 : Int32)) (by decide) rfl ?_
  refine own_goto (pc' := 7) B X18 d3_38 (by decide) rfl ?_
  refine own_iloadN (pc' := 8) B X18 d3_7 rfl rfl ?_
  refine own_iconst (pc' := 9) B X18 (z := (4 : Int32)) d3_8 rfl rfl ?_
  refine own_icmpNo (pc' := 12) B X18 d3_9 (tlt (by decide : (3 : Int32) < (4 : Int32))).2.1 rfl ?_
  refine own_aloadN (pc' := 13) B X18 d3_12 rfl rfl rfl ?_
  refine own_getfield (pc' := 16) B X18 (host := "") (Or.inl (own_w hw 10 rfl)) Via.refl F_w0_bytes d3_13 rfl ?_
  intro T19 X19
  refine own_aloadN (pc' := 17) B X19 d3_16 rfl rfl rfl ?_
  refine own_dup (pc' := 18) B X19 d3_17 rfl rfl ?_
  refine own_getfield (pc' := 21) B X19 (host := "") (Or.inl (own_w hw 21 rfl)) Via.refl F_w0_size d3_18 rfl ?_
  intro T20 X20
  refine own_dup_x1 (pc' := 22) B X20 d3_21 rfl rfl rfl ?_
  refine own_iconst (pc' := 23) B X20 (z := (1 : Int32)) d3_22 rfl rfl ?_
  refine own_iadd (pc' := 24) B X20 (z := (4 : Int32)) d3_23 rfl (by decide) ?_
  refine own_putfield (pc' := 27) B X20 (host := "") (Or.inl (own_w hw 21 rfl)) Via.refl F_w0_size E_w0 g_w0 (Or.inl (own_w hw 22 rfl)) (own_w hw 2 rfl) (ty := .int) (by decide) rfl rfl d3_24 rfl ?_
  intro T21 h21 X21 W21 F_w0_size
  replace E_w0 := E_w0.wr W21
  replace F_w0_bytes := F_w0_bytes.other W21 (Or.inr (slot_ne (Or.inl (own_w hw 11 rfl)) (Or.inl (own_w hw 22 rfl)) (by decide) (t := (.array .byte)) (t' := .int) (by decide) (by decide)))
  replace E_w1 := E_w1.wr W21
  replace V_w1 := V_w1.other W21 (Ne.symm ne_w0_w1)
  replace K := K.wr W21 (Or.inl (List.mem_of_getElem? (i := 0) rfl))
  refine own_iloadN (pc' := 28) B X21 d3_27 rfl rfl ?_
  refine own_bipush (pc' := 30) B X21 (z := (8 : Int32)) d3_28 rfl (by decide) ?_
  refine own_iloadN (pc' := 31) B X21 d3_30 rfl rfl ?_
  refine own_imul (pc' := 32) B X21 (z := (24 : Int32)) d3_31 rfl (by decide) ?_
  obtain ⟨y22, hy22⟩ : ∃ z : Int32, (p3.toUInt32 >>> ((24 : Int32) &&& 31).toUInt32).toInt32 = z := ⟨_, rfl⟩
  refine own_iushr (pc' := 33) B X21 d3_32 rfl hy22 ?_
  obtain ⟨y23, hy23⟩ : ∃ z : Int32, y22.toInt8.toInt32 = z := ⟨_, rfl⟩
  refine own_i2b (pc' := 34) B X21 d3_33 rfl hy23 ?_
  replace V_w1 : Arv Z h21 w1 kw1 .byte (64 : Int32) [(.int y5), (.int y11), (.int y17), (.int (0 : Int32))] (.int (0 : Int32)) := V_w1.pad (pad_rep [(.int y5), (.int y11), (.int y17)] (.int (0 : Int32)) 1)
  refine own_bastore (pc' := 35) B X21 (x' := y23) V_w1 g_w1 ⟨by decide, by decide⟩ 3 (by decide) (Nat.le_of_ble_eq_true rfl) (own_idem_i2b hy23) d3_34 rfl ?_
  intro T24 h24 X24 W24 V_w1
  replace V_w1 : Arv Z h24 w1 kw1 .byte (64 : Int32) [(.int y5), (.int y11), (.int y17), (.int y23)] (.int (0 : Int32)) := V_w1
  replace E_w0 := E_w0.wr W24
  replace F_w0_bytes := F_w0_bytes.other W24 (Or.inl ne_w0_w1)
  replace F_w0_size := F_w0_size.other W24 (Or.inl ne_w0_w1)
  replace E_w1 := E_w1.wr W24
  replace K := K.wr W24 (Or.inl (List.mem_of_getElem? (i := 1) rfl))
  refine own_iinc (pc' := 38) B X24 (Ls' := #[.val (.ref w0), .val (.int p3), .val (.int (4 : Int32))]) d3_35 rfl rfl (z := (4 : Int32)) (by decide) rfl ?_
  refine own_goto (pc' := 7) B X24 d3_38 (by decide) rfl ?_
  refine own_iloadN (pc' := 8) B X24 d3_7 rfl rfl ?_
  refine own_iconst (pc' := 9) B X24 (z := (4 : Int32)) d3_8 rfl rfl ?_
  refine own_icmpYes (pc' := 41) B X24 d3_9 (flt (by decide : ¬ ((4 : Int32) < (4 : Int32)))).2.1 (by decide) rfl ?_
  exact own_ret B X24 d3_41 (by decide) (by decide) (⟨y5, y10, y11, y16, y17, y22, y23, hy5, hy10, hy11, hy16, hy17, hy22, hy23, rfl, K, E_w0, F_w0_bytes, F_w0_size, E_w1, V_w1⟩)
def Q_5 (Z : State) (w0 : Addr) (w1 : Addr) (kw1 : ClassId) (p3 : Int32) (p4 : Int32) (p5 : Int32) (p6 : Int32) (h0 : Heap) (n0 : Nat) (v : Option Value) (h : Heap) : Prop :=
  (v = none ∧ h0 = h)
set_option maxRecDepth 65536 in
set_option maxHeartbeats 40000000 in
theorem rm_5 (l : Launch) (Z : State) (a0 : Array Value) (hw : ∀ d ∈ tables_1, d.before a0 Z = true) (ws : List Jvm.Cond) (w0 : Addr) (w1 : Addr) (kw1 : ClassId) (p3 : Int32) (p4 : Int32) (p5 : Int32) (p6 : Int32) (h0 : Heap) (n0 : Nat) (Z0 : n0 ≤ h0.size) (E_w0 : Exa Z h0 w0 "com/example/siltstone/siltstone/format/ByteSink") (F_w0_bytes : Fld Z h0 w0 "com/example/siltstone/siltstone/format/ByteSink" "bytes" "[B" (.ref w1)) (F_w0_size : Fld Z h0 w0 "com/example/siltstone/siltstone/format/ByteSink" "size" "I" (.int (4 : Int32))) (g_w0 : n0 ≤ w0) (E_w1 : Exa Z h0 w1 "[B") (V_w1 : Arv Z h0 w1 kw1 .byte (64 : Int32) [(.int p3), (.int p4), (.int p5), (.int p6)] (.int (0 : Int32))) (g_w1 : n0 ≤ w1) (ne_w0_w1 : w0 ≠ w1) :
    MetFree l (⟨"com/example/siltstone/siltstone/format/ByteSink", "ensure", "(I)V"⟩ : MethodName) (head1 (Jvm.Cond.code (⟨"com/example/siltstone/siltstone/format/ByteSink", "ensure", "(I)V"⟩ : MethodName) prog_65_method_12_code 4 none :: ws) ({ frames := 0, cells := 0, slots := 0, locals := 0 } : Room)) (fun a U => a = #[(.ref w0), (.int (8 : Int32))] ∧ Z.Warmed39 U.vm ∧ U.heap = h0) (fun _ _ _ _ _ => True) (fun _ U o U' => ∃ v L, o = .returned v ∧ (Fr n0 L ∧ Q_5 Z w0 w1 kw1 p3 p4 p5 p6 h0 n0 v U'.heap) ∧ FrameEnd U o U' L ({ frames := 0, cells := 0, slots := 0, locals := 0 } : Room).cells ({ frames := 0, cells := 0, slots := 0, locals := 0 } : Room).slots) := by
  refine own_enter (Q := Q_5 Z w0 w1 kw1 p3 p4 p5 p6 h0 n0) (F := fun m => mkF m 0 #[.val (.ref w0), .val (.int (8 : Int32)), .unset, .unset] []) (plainFor_of_name pn_0) (fun m => by first | (simp [entryFrame, mkF, argsToLocals, Value.category]; done) | rfl) ?_
  intro p e s m below meth c s₁ B X0
  have K : Keep h0 h0 [] := Keep.refl h0 _
  refine own_iloadN (pc' := 1) B X0 d4_0 rfl rfl ?_
  refine own_aloadN (pc' := 2) B X0 d4_1 rfl rfl rfl ?_
  refine own_getfield (pc' := 5) B X0 (host := "") (Or.inl (own_w hw 10 rfl)) Via.refl F_w0_bytes d4_2 rfl ?_
  intro T1 X1
  refine own_arraylength (pc' := 6) B X1 V_w1 d4_5 rfl ?_
  refine own_aloadN (pc' := 7) B X1 d4_6 rfl rfl rfl ?_
  refine own_getfield (pc' := 10) B X1 (host := "") (Or.inl (own_w hw 21 rfl)) Via.refl F_w0_size d4_7 rfl ?_
  intro T2 X2
  refine own_isub (pc' := 11) B X2 (z := (60 : Int32)) d4_10 rfl (by decide) ?_
  refine own_icmpYes (pc' := 67) B X2 d4_11 (flt (by decide : ¬ ((60 : Int32) < (8 : Int32)))).2.2.2 (by decide) rfl ?_
  exact own_ret B X2 d4_67 (by decide) (by decide) (⟨rfl, rfl⟩)
def Q_4 (Z : State) (w0 : Addr) (w1 : Addr) (kw1 : ClassId) (p3 : Int32) (p4 : Int32) (p5 : Int32) (p6 : Int32) (q7 : Int64) (h0 : Heap) (n0 : Nat) (v : Option Value) (h : Heap) : Prop :=
  (∃ (y5 : Int32) (y6 : Int32) (y11 : Int64) (y12 : Int32) (y13 : Int32) (y18 : Int64) (y19 : Int32) (y20 : Int32) (y25 : Int64) (y26 : Int32) (y27 : Int32) (y32 : Int64) (y33 : Int32) (y34 : Int32) (y39 : Int64) (y40 : Int32) (y41 : Int32) (y46 : Int64) (y47 : Int32) (y48 : Int32) (y53 : Int64) (y54 : Int32) (y55 : Int32), q7.toInt32 = y5 ∧ y5.toInt8.toInt32 = y6 ∧ (q7.toUInt64 >>> ((8 : Int32) &&& 0x3f).toInt64.toUInt64).toInt64 = y11 ∧ y11.toInt32 = y12 ∧ y12.toInt8.toInt32 = y13 ∧ (q7.toUInt64 >>> ((16 : Int32) &&& 0x3f).toInt64.toUInt64).toInt64 = y18 ∧ y18.toInt32 = y19 ∧ y19.toInt8.toInt32 = y20 ∧ (q7.toUInt64 >>> ((24 : Int32) &&& 0x3f).toInt64.toUInt64).toInt64 = y25 ∧ y25.toInt32 = y26 ∧ y26.toInt8.toInt32 = y27 ∧ (q7.toUInt64 >>> ((32 : Int32) &&& 0x3f).toInt64.toUInt64).toInt64 = y32 ∧ y32.toInt32 = y33 ∧ y33.toInt8.toInt32 = y34 ∧ (q7.toUInt64 >>> ((40 : Int32) &&& 0x3f).toInt64.toUInt64).toInt64 = y39 ∧ y39.toInt32 = y40 ∧ y40.toInt8.toInt32 = y41 ∧ (q7.toUInt64 >>> ((48 : Int32) &&& 0x3f).toInt64.toUInt64).toInt64 = y46 ∧ y46.toInt32 = y47 ∧ y47.toInt8.toInt32 = y48 ∧ (q7.toUInt64 >>> ((56 : Int32) &&& 0x3f).toInt64.toUInt64).toInt64 = y53 ∧ y53.toInt32 = y54 ∧ y54.toInt8.toInt32 = y55 ∧ v = none ∧ Keep h0 h [w0, w1] ∧ Exa Z h w0 "com/example/siltstone/siltstone/format/ByteSink" ∧ Fld Z h w0 "com/example/siltstone/siltstone/format/ByteSink" "bytes" "[B" (.ref w1) ∧ Fld Z h w0 "com/example/siltstone/siltstone/format/ByteSink" "size" "I" (.int (12 : Int32)) ∧ Exa Z h w1 "[B" ∧ Arv Z h w1 kw1 .byte (64 : Int32) [(.int p3), (.int p4), (.int p5), (.int p6), (.int y6), (.int y13), (.int y20), (.int y27), (.int y34), (.int y41), (.int y48), (.int y55)] (.int (0 : Int32)))
set_option maxRecDepth 65536 in
set_option maxHeartbeats 40000000 in
theorem rm_4 (l : Launch) (Z : State) (a0 : Array Value) (hw : ∀ d ∈ tables_1, d.before a0 Z = true) (ws : List Jvm.Cond) (w0 : Addr) (w1 : Addr) (kw1 : ClassId) (p3 : Int32) (p4 : Int32) (p5 : Int32) (p6 : Int32) (q7 : Int64) (h0 : Heap) (n0 : Nat) (Z0 : n0 ≤ h0.size) (E_w0 : Exa Z h0 w0 "com/example/siltstone/siltstone/format/ByteSink") (F_w0_bytes : Fld Z h0 w0 "com/example/siltstone/siltstone/format/ByteSink" "bytes" "[B" (.ref w1)) (F_w0_size : Fld Z h0 w0 "com/example/siltstone/siltstone/format/ByteSink" "size" "I" (.int (4 : Int32))) (g_w0 : n0 ≤ w0) (E_w1 : Exa Z h0 w1 "[B") (V_w1 : Arv Z h0 w1 kw1 .byte (64 : Int32) [(.int p3), (.int p4), (.int p5), (.int p6)] (.int (0 : Int32))) (g_w1 : n0 ≤ w1) (ne_w0_w1 : w0 ≠ w1) :
    MetFree l (⟨"com/example/siltstone/siltstone/format/ByteSink", "writeLongLe", "(J)V"⟩ : MethodName) (head1 (Jvm.Cond.code (⟨"com/example/siltstone/siltstone/format/ByteSink", "writeLongLe", "(J)V"⟩ : MethodName) prog_65_method_8_code 4 none :: ws) ({ frames := 1, cells := 0, slots := 0, locals := 15 } : Room)) (fun a U => a = #[(.ref w0), (.long q7)] ∧ Z.Warmed39 U.vm ∧ U.heap = h0) (fun _ _ _ _ _ => True) (fun _ U o U' => ∃ v L, o = .returned v ∧ (Fr n0 L ∧ Q_4 Z w0 w1 kw1 p3 p4 p5 p6 q7 h0 n0 v U'.heap) ∧ FrameEnd U o U' L ({ frames := 1, cells := 0, slots := 0, locals := 15 } : Room).cells ({ frames := 1, cells := 0, slots := 0, locals := 15 } : Room).slots) := by
  refine own_enter (Q := Q_4 Z w0 w1 kw1 p3 p4 p5 p6 q7 h0 n0) (F := fun m => mkF m 0 #[.val (.ref w0), .val (.long q7), .second, .unset] []) (plainFor_of_name pn_0) (fun m => by first | (simp [entryFrame, mkF, argsToLocals, Value.category]; done) | rfl) ?_
  intro p e s m below meth c s₁ B X0
  have K : Keep h0 h0 [w0, w1] := Keep.refl h0 _
  refine own_aloadN (pc' := 1) B X0 d5_0 rfl rfl rfl ?_
  refine own_bipush (pc' := 3) B X0 (z := (8 : Int32)) d5_1 rfl (by decide) ?_
  refine own_callP (pc' := 6) B X0 (own_w hw 17 rfl) (own_w hw 18 rfl) (own_w hw 19 rfl) (own_w hw 2 rfl) (own_w hw 3 rfl) (own_w hw 20 rfl) E_w0 (by decide) [(.int (8 : Int32))] [] (rm_5 l Z a0 hw [] w0 w1 kw1 (p3) (p4) (p5) (p6) h0 n0 (Nat.le_trans Z0 K.1) E_w0 F_w0_bytes F_w0_size g_w0 E_w1 V_w1 g_w1 ne_w0_w1) 0 (by decide) (by decide) rfl pd_1 rfl rfl (Nat.le_of_eq rfl) d5_3 rfl (k' := 0) (n' := 0) rfl rfl (by decide) (by decide) ?_
  intro T1 v1 h1 X1 q1
  obtain ⟨rfl, rfl⟩ := q1
  show own_Go p e below (T1.setTop (mkF m 6 #[.val (.ref w0), .val (.long q7), .second, .unset] [])) _
  refine own_iconst (pc' := 7) B X1 (z := (0 : Int32)) d5_6 rfl rfl ?_
  refine own_istoreN (pc' := 8) B X1 (Ls' := #[.val (.ref w0), .val (.long q7), .second, .val (.int (0 : Int32))]) d5_7 rfl rfl ?_
  refine own_iloadN (pc' := 9) B X1 d5_8 rfl rfl ?_
  refine own_bipush (pc' := 11) B X1 (z := (8 : Int32)) d5_9 rfl (by decide) ?_
  refine own_icmpNo (pc' := 14) B X1 d5_11 (tlt (by decide : (0 : Int32) < (8 : Int32))).2.1 rfl ?_
  refine own_aloadN (pc' := 15) B X1 d5_14 rfl rfl rfl ?_
  refine own_getfield (pc' := 18) B X1 (host := "") (Or.inl (own_w hw 10 rfl)) Via.refl F_w0_bytes d5_15 rfl ?_
  intro T2 X2
  refine own_aloadN (pc' := 19) B X2 d5_18 rfl rfl rfl ?_
  refine own_dup (pc' := 20) B X2 d5_19 rfl rfl ?_
  refine own_getfield (pc' := 23) B X2 (host := "") (Or.inl (own_w hw 21 rfl)) Via.refl F_w0_size d5_20 rfl ?_
  intro T3 X3
  refine own_dup_x1 (pc' := 24) B X3 d5_23 rfl rfl rfl ?_
  refine own_iconst (pc' := 25) B X3 (z := (1 : Int32)) d5_24 rfl rfl ?_
  refine own_iadd (pc' := 26) B X3 (z := (5 : Int32)) d5_25 rfl (by decide) ?_
  refine own_putfield (pc' := 29) B X3 (host := "") (Or.inl (own_w hw 21 rfl)) Via.refl F_w0_size E_w0 g_w0 (Or.inl (own_w hw 22 rfl)) (own_w hw 2 rfl) (ty := .int) (by decide) rfl rfl d5_26 rfl ?_
  intro T4 h4 X4 W4 F_w0_size
  replace E_w0 := E_w0.wr W4
  replace F_w0_bytes := F_w0_bytes.other W4 (Or.inr (slot_ne (Or.inl (own_w hw 11 rfl)) (Or.inl (own_w hw 22 rfl)) (by decide) (t := (.array .byte)) (t' := .int) (by decide) (by decide)))
  replace E_w1 := E_w1.wr W4
  replace V_w1 := V_w1.other W4 (Ne.symm ne_w0_w1)
  replace K := K.wr W4 (Or.inl (List.mem_of_getElem? (i := 0) rfl))
  refine own_lloadN (pc' := 30) B X4 d5_29 rfl rfl ?_
  refine own_bipush (pc' := 32) B X4 (z := (8 : Int32)) d5_30 rfl (by decide) ?_
  refine own_iloadN (pc' := 33) B X4 d5_32 rfl rfl ?_
  refine own_imul (pc' := 34) B X4 (z := (0 : Int32)) d5_33 rfl (by decide) ?_
  refine own_lushr (pc' := 35) B X4 d5_34 rfl (own_ush0L _) ?_
  obtain ⟨y5, hy5⟩ : ∃ z : Int32, q7.toInt32 = z := ⟨_, rfl⟩
  refine own_l2i (pc' := 36) B X4 d5_35 rfl hy5 ?_
  obtain ⟨y6, hy6⟩ : ∃ z : Int32, y5.toInt8.toInt32 = z := ⟨_, rfl⟩
  refine own_i2b (pc' := 37) B X4 d5_36 rfl hy6 ?_
  replace V_w1 : Arv Z h4 w1 kw1 .byte (64 : Int32) [(.int p3), (.int p4), (.int p5), (.int p6), (.int (0 : Int32))] (.int (0 : Int32)) := V_w1.pad (pad_rep [(.int p3), (.int p4), (.int p5), (.int p6)] (.int (0 : Int32)) 1)
  refine own_bastore (pc' := 38) B X4 (x' := y6) V_w1 g_w1 ⟨by decide, by decide⟩ 4 (by decide) (Nat.le_of_ble_eq_true rfl) (own_idem_i2b hy6) d5_37 rfl ?_
  intro T7 h7 X7 W7 V_w1
  replace V_w1 : Arv Z h7 w1 kw1 .byte (64 : Int32) [(.int p3), (.int p4), (.int p5), (.int p6), (.int y6)] (.int (0 : Int32)) := V_w1
  replace E_w0 := E_w0.wr W7
  replace F_w0_bytes := F_w0_bytes.other W7 (Or.inl ne_w0_w1)
  replace F_w0_size := F_w0_size.other W7 (Or.inl ne_w0_w1)
  replace E_w1 := E_w1.wr W7
  replace K := K.wr W7 (Or.inl (List.mem_of_getElem? (i := 1) rfl))
  refine own_iinc (pc' := 41) B X7 (Ls' := #[.val (.ref w0), .val (.long q7), .second, .val (.int (1 : Int32))]) d5_38 rfl rfl (z := (1 : Int32)) (by decide) rfl ?_
  refine own_goto (pc' := 8) B X7 d5_41 (by decide) rfl ?_
  refine own_iloadN (pc' := 9) B X7 d5_8 rfl rfl ?_
  refine own_bipush (pc' := 11) B X7 (z := (8 : Int32)) d5_9 rfl (by decide) ?_
  refine own_icmpNo (pc' := 14) B X7 d5_11 (tlt (by decide : (1 : Int32) < (8 : Int32))).2.1 rfl ?_
  refine own_aloadN (pc' := 15) B X7 d5_14 rfl rfl rfl ?_
  refine own_getfield (pc' := 18) B X7 (host := "") (Or.inl (own_w hw 10 rfl)) Via.refl F_w0_bytes d5_15 rfl ?_
  intro T8 X8
  refine own_aloadN (pc' := 19) B X8 d5_18 rfl rfl rfl ?_
  refine own_dup (pc' := 20) B X8 d5_19 rfl rfl ?_
  refine own_getfield (pc' := 23) B X8 (host := "") (Or.inl (own_w hw 21 rfl)) Via.refl F_w0_size d5_20 rfl ?_
  intro T9 X9
  refine own_dup_x1 (pc' := 24) B X9 d5_23 rfl rfl rfl ?_
  refine own_iconst (pc' := 25) B X9 (z := (1 : Int32)) d5_24 rfl rfl ?_
  refine own_iadd (pc' := 26) B X9 (z := (6 : Int32)) d5_25 rfl (by decide) ?_
  refine own_putfield (pc' := 29) B X9 (host := "") (Or.inl (own_w hw 21 rfl)) Via.refl F_w0_size E_w0 g_w0 (Or.inl (own_w hw 22 rfl)) (own_w hw 2 rfl) (ty := .int) (by decide) rfl rfl d5_26 rfl ?_
  intro T10 h10 X10 W10 F_w0_size
  replace E_w0 := E_w0.wr W10
  replace F_w0_bytes := F_w0_bytes.other W10 (Or.inr (slot_ne (Or.inl (own_w hw 11 rfl)) (Or.inl (own_w hw 22 rfl)) (by decide) (t := (.array .byte)) (t' := .int) (by decide) (by decide)))
  replace E_w1 := E_w1.wr W10
  replace V_w1 := V_w1.other W10 (Ne.symm ne_w0_w1)
  replace K := K.wr W10 (Or.inl (List.mem_of_getElem? (i := 0) rfl))
  refine own_lloadN (pc' := 30) B X10 d5_29 rfl rfl ?_
  refine own_bipush (pc' := 32) B X10 (z := (8 : Int32)) d5_30 rfl (by decide) ?_
  refine own_iloadN (pc' := 33) B X10 d5_32 rfl rfl ?_
  refine own_imul (pc' := 34) B X10 (z := (8 : Int32)) d5_33 rfl (by decide) ?_
  obtain ⟨y11, hy11⟩ : ∃ z : Int64, (q7.toUInt64 >>> ((8 : Int32) &&& 0x3f).toInt64.toUInt64).toInt64 = z := ⟨_, rfl⟩
  refine own_lushr (pc' := 35) B X10 d5_34 rfl hy11 ?_
  obtain ⟨y12, hy12⟩ : ∃ z : Int32, y11.toInt32 = z := ⟨_, rfl⟩
  refine own_l2i (pc' := 36) B X10 d5_35 rfl hy12 ?_
  obtain ⟨y13, hy13⟩ : ∃ z : Int32, y12.toInt8.toInt32 = z := ⟨_, rfl⟩
  refine own_i2b (pc' := 37) B X10 d5_36 rfl hy13 ?_
  replace V_w1 : Arv Z h10 w1 kw1 .byte (64 : Int32) [(.int p3), (.int p4), (.int p5), (.int p6), (.int y6), (.int (0 : Int32))] (.int (0 : Int32)) := V_w1.pad (pad_rep [(.int p3), (.int p4), (.int p5), (.int p6), (.int y6)] (.int (0 : Int32)) 1)
  refine own_bastore (pc' := 38) B X10 (x' := y13) V_w1 g_w1 ⟨by decide, by decide⟩ 5 (by decide) (Nat.le_of_ble_eq_true rfl) (own_idem_i2b hy13) d5_37 rfl ?_
  intro T14 h14 X14 W14 V_w1
  replace V_w1 : Arv Z h14 w1 kw1 .byte (64 : Int32) [(.int p3), (.int p4), (.int p5), (.int p6), (.int y6), (.int y13)] (.int (0 : Int32)) := V_w1
  replace E_w0 := E_w0.wr W14
  replace F_w0_bytes := F_w0_bytes.other W14 (Or.inl ne_w0_w1)
  replace F_w0_size := F_w0_size.other W14 (Or.inl ne_w0_w1)
  replace E_w1 := E_w1.wr W14
  replace K := K.wr W14 (Or.inl (List.mem_of_getElem? (i := 1) rfl))
  refine own_iinc (pc' := 41) B X14 (Ls' := #[.val (.ref w0), .val (.long q7), .second, .val (.int (2 : Int32))]) d5_38 rfl rfl (z := (2 : Int32)) (by decide) rfl ?_
  refine own_goto (pc' := 8) B X14 d5_41 (by decide) rfl ?_
  refine own_iloadN (pc' := 9) B X14 d5_8 rfl rfl ?_
  refine own_bipush (pc' := 11) B X14 (z := (8 : Int32)) d5_9 rfl (by decide) ?_
  refine own_icmpNo (pc' := 14) B X14 d5_11 (tlt (by decide : (2 : Int32) < (8 : Int32))).2.1 rfl ?_
  refine own_aloadN (pc' := 15) B X14 d5_14 rfl rfl rfl ?_
  refine own_getfield (pc' := 18) B X14 (host := "") (Or.inl (own_w hw 10 rfl)) Via.refl F_w0_bytes d5_15 rfl ?_
  intro T15 X15
  refine own_aloadN (pc' := 19) B X15 d5_18 rfl rfl rfl ?_
  refine own_dup (pc' := 20) B X15 d5_19 rfl rfl ?_
  refine own_getfield (pc' := 23) B X15 (host := "") (Or.inl (own_w hw 21 rfl)) Via.refl F_w0_size d5_20 rfl ?_
  intro T16 X16
  refine own_dup_x1 (pc' := 24) B X16 d5_23 rfl rfl rfl ?_
  refine own_iconst (pc' := 25) B X16 (z := (1 : Int32)) d5_24 rfl rfl ?_
  refine own_iadd (pc' := 26) B X16 (z := (7 : Int32)) d5_25 rfl (by decide) ?_
  refine own_putfield (pc' := 29) B X16 (host := "") (Or.inl (own_w hw 21 rfl)) Via.refl F_w0_size E_w0 g_w0 (Or.inl (own_w hw 22 rfl)) (own_w hw 2 rfl) (ty := .int) (by decide) rfl rfl d5_26 rfl ?_
  intro T17 h17 X17 W17 F_w0_size
  replace E_w0 := E_w0.wr W17
  replace F_w0_bytes := F_w0_bytes.other W17 (Or.inr (slot_ne (Or.inl (own_w hw 11 rfl)) (Or.inl (own_w hw 22 rfl)) (by decide) (t := (.array .byte)) (t' := .int) (by decide) (by decide)))
  replace E_w1 := E_w1.wr W17
  replace V_w1 := V_w1.other W17 (Ne.symm ne_w0_w1)
  replace K := K.wr W17 (Or.inl (List.mem_of_getElem? (i := 0) rfl))
  refine own_lloadN (pc' := 30) B X17 d5_29 rfl rfl ?_
  refine own_bipush (pc' := 32) B X17 (z := (8 : Int32)) d5_30 rfl (by decide) ?_
  refine own_iloadN (pc' := 33) B X17 d5_32 rfl rfl ?_
  refine own_imul (pc' := 34) B X17 (z := (16 : Int32)) d5_33 rfl (by decide) ?_
  obtain ⟨y18, hy18⟩ : ∃ z : Int64, (q7.toUInt64 >>> ((16 : Int32) &&& 0x3f).toInt64.toUInt64).toInt64 = z := ⟨_, rfl⟩
  refine own_lushr (pc' := 35) B X17 d5_34 rfl hy18 ?_
  obtain ⟨y19, hy19⟩ : ∃ z : Int32, y18.toInt32 = z := ⟨_, rfl⟩
  refine own_l2i (pc' := 36) B X17 d5_35 rfl hy19 ?_
  obtain ⟨y20, hy20⟩ : ∃ z : Int32, y19.toInt8.toInt32 = z := ⟨_, rfl⟩
  refine own_i2b (pc' := 37) B X17 d5_36 rfl hy20 ?_
  replace V_w1 : Arv Z h17 w1 kw1 .byte (64 : Int32) [(.int p3), (.int p4), (.int p5), (.int p6), (.int y6), (.int y13), (.int (0 : Int32))] (.int (0 : Int32)) := V_w1.pad (pad_rep [(.int p3), (.int p4), (.int p5), (.int p6), (.int y6), (.int y13)] (.int (0 : Int32)) 1)
  refine own_bastore (pc' := 38) B X17 (x' := y20) V_w1 g_w1 ⟨by decide, by decide⟩ 6 (by decide) (Nat.le_of_ble_eq_true rfl) (own_idem_i2b hy20) d5_37 rfl ?_
  intro T21 h21 X21 W21 V_w1
  replace V_w1 : Arv Z h21 w1 kw1 .byte (64 : Int32) [(.int p3), (.int p4), (.int p5), (.int p6), (.int y6), (.int y13), (.int y20)] (.int (0 : Int32)) := V_w1
  replace E_w0 := E_w0.wr W21
  replace F_w0_bytes := F_w0_bytes.other W21 (Or.inl ne_w0_w1)
  replace F_w0_size := F_w0_size.other W21 (Or.inl ne_w0_w1)
  replace E_w1 := E_w1.wr W21
  replace K := K.wr W21 (Or.inl (List.mem_of_getElem? (i := 1) rfl))
  refine own_iinc (pc' := 41) B X21 (Ls' := #[.val (.ref w0), .val (.long q7), .second, .val (.int (3 : Int32))]) d5_38 rfl rfl (z := (3 : Int32)) (by decide) rfl ?_
  refine own_goto (pc' := 8) B X21 d5_41 (by decide) rfl ?_
  refine own_iloadN (pc' := 9) B X21 d5_8 rfl rfl ?_
  refine own_bipush (pc' := 11) B X21 (z := (8 : Int32)) d5_9 rfl (by decide) ?_
  refine own_icmpNo (pc' := 14) B X21 d5_11 (tlt (by decide : (3 : Int32) < (8 : Int32))).2.1 rfl ?_
  refine own_aloadN (pc' := 15) B X21 d5_14 rfl rfl rfl ?_
  refine own_getfield (pc' := 18) B X21 (host := "") (Or.inl (own_w hw 10 rfl)) Via.refl F_w0_bytes d5_15 rfl ?_
  intro T22 X22
  refine own_aloadN (pc' := 19) B X22 d5_18 rfl rfl rfl ?_
  refine own_dup (pc' := 20) B X22 d5_19 rfl rfl ?_
  refine own_getfield (pc' := 23) B X22 (host := "") (Or.inl (own_w hw 21 rfl)) Via.refl F_w0_size d5_20 rfl ?_
  intro T23 X23
  refine own_dup_x1 (pc' := 24) B X23 d5_23 rfl rfl rfl ?_
  refine own_iconst (pc' := 25) B X23 (z := (1 : Int32)) d5_24 rfl rfl ?_
  refine own_iadd (pc' := 26) B X23 (z := (8 : Int32)) d5_25 rfl (by decide) ?_
  refine own_putfield (pc' := 29) B X23 (host := "") (Or.inl (own_w hw 21 rfl)) Via.refl F_w0_size E_w0 g_w0 (Or.inl (own_w hw 22 rfl)) (own_w hw 2 rfl) (ty := .int) (by decide) rfl rfl d5_26 rfl ?_
  intro T24 h24 X24 W24 F_w0_size
  replace E_w0 := E_w0.wr W24
  replace F_w0_bytes := F_w0_bytes.other W24 (Or.inr (slot_ne (Or.inl (own_w hw 11 rfl)) (Or.inl (own_w hw 22 rfl)) (by decide) (t := (.array .byte)) (t' := .int) (by decide) (by decide)))
  replace E_w1 := E_w1.wr W24
  replace V_w1 := V_w1.other W24 (Ne.symm ne_w0_w1)
  replace K := K.wr W24 (Or.inl (List.mem_of_getElem? (i := 0) rfl))
  refine own_lloadN (pc' := 30) B X24 d5_29 rfl rfl ?_
  refine own_bipush (pc' := 32) B X24 (z := (8 : Int32)) d5_30 rfl (by decide) ?_
  refine own_iloadN (pc' := 33) B X24 d5_32 rfl rfl ?_
  refine own_imul (pc' := 34) B X24 (z := (24 : Int32)) d5_33 rfl (by decide) ?_
  obtain ⟨y25, hy25⟩ : ∃ z : Int64, (q7.toUInt64 >>> ((24 : Int32) &&& 0x3f).toInt64.toUInt64).toInt64 = z := ⟨_, rfl⟩
  refine own_lushr (pc' := 35) B X24 d5_34 rfl hy25 ?_
  obtain ⟨y26, hy26⟩ : ∃ z : Int32, y25.toInt32 = z := ⟨_, rfl⟩
  refine own_l2i (pc' := 36) B X24 d5_35 rfl hy26 ?_
  obtain ⟨y27, hy27⟩ : ∃ z : Int32, y26.toInt8.toInt32 = z := ⟨_, rfl⟩
  refine own_i2b (pc' := 37) B X24 d5_36 rfl hy27 ?_
  replace V_w1 : Arv Z h24 w1 kw1 .byte (64 : Int32) [(.int p3), (.int p4), (.int p5), (.int p6), (.int y6), (.int y13), (.int y20), (.int (0 : Int32))] (.int (0 : Int32)) := V_w1.pad (pad_rep [(.int p3), (.int p4), (.int p5), (.int p6), (.int y6), (.int y13), (.int y20)] (.int (0 : Int32)) 1)
  refine own_bastore (pc' := 38) B X24 (x' := y27) V_w1 g_w1 ⟨by decide, by decide⟩ 7 (by decide) (Nat.le_of_ble_eq_true rfl) (own_idem_i2b hy27) d5_37 rfl ?_
  intro T28 h28 X28 W28 V_w1
  replace V_w1 : Arv Z h28 w1 kw1 .byte (64 : Int32) [(.int p3), (.int p4), (.int p5), (.int p6), (.int y6), (.int y13), (.int y20), (.int y27)] (.int (0 : Int32)) := V_w1
  replace E_w0 := E_w0.wr W28
  replace F_w0_bytes := F_w0_bytes.other W28 (Or.inl ne_w0_w1)
  replace F_w0_size := F_w0_size.other W28 (Or.inl ne_w0_w1)
  replace E_w1 := E_w1.wr W28
  replace K := K.wr W28 (Or.inl (List.mem_of_getElem? (i := 1) rfl))
  refine own_iinc (pc' := 41) B X28 (Ls' := #[.val (.ref w0), .val (.long q7), .second, .val (.int (4 : Int32))]) d5_38 rfl rfl (z := (4 : Int32)) (by decide) rfl ?_
  refine own_goto (pc' := 8) B X28 d5_41 (by decide) rfl ?_
  refine own_iloadN (pc' := 9) B X28 d5_8 rfl rfl ?_
  refine own_bipush (pc' := 11) B X28 (z := (8 : Int32)) d5_9 rfl (by decide) ?_
  refine own_icmpNo (pc' := 14) B X28 d5_11 (tlt (by decide : (4 : Int32) < (8 : Int32))).2.1 rfl ?_
  refine own_aloadN (pc' := 15) B X28 d5_14 rfl rfl rfl ?_
  refine own_getfield (pc' := 18) B X28 (host := "") (Or.inl (own_w hw 10 rfl)) Via.refl F_w0_bytes d5_15 rfl ?_
  intro T29 X29
  refine own_aloadN (pc' := 19) B X29 d5_18 rfl rfl rfl ?_
  refine own_dup (pc' := 20) B X29 d5_19 rfl rfl ?_
  refine own_getfield (pc' := 23) B X29 (host := "") (Or.inl (own_w hw 21 rfl)) Via.refl F_w0_size d5_20 rfl ?_
  intro T30 X30
  refine own_dup_x1 (pc' := 24) B X30 d5_23 rfl rfl rfl ?_
  refine own_iconst (pc' := 25) B X30 (z := (1 : Int32)) d5_24 rfl rfl ?_
  refine own_iadd (pc' := 26) B X30 (z := (9 : Int32)) d5_25 rfl (by decide) ?_
  refine own_putfield (pc' := 29) B X30 (host := "") (Or.inl (own_w hw 21 rfl)) Via.refl F_w0_size E_w0 g_w0 (Or.inl (own_w hw 22 rfl)) (own_w hw 2 rfl) (ty := .int) (by decide) rfl rfl d5_26 rfl ?_
  intro T31 h31 X31 W31 F_w0_size
  replace E_w0 := E_w0.wr W31
  replace F_w0_bytes := F_w0_bytes.other W31 (Or.inr (slot_ne (Or.inl (own_w hw 11 rfl)) (Or.inl (own_w hw 22 rfl)) (by decide) (t := (.array .byte)) (t' := .int) (by decide) (by decide)))
  replace E_w1 := E_w1.wr W31
  replace V_w1 := V_w1.other W31 (Ne.symm ne_w0_w1)
  replace K := K.wr W31 (Or.inl (List.mem_of_getElem? (i := 0) rfl))
  refine own_lloadN (pc' := 30) B X31 d5_29 rfl rfl ?_
  refine own_bipush (pc' := 32) B X31 (z := (8 : Int32)) d5_30 rfl (by decide) ?_
  refine own_iloadN (pc' := 33) B X31 d5_32 rfl rfl ?_
  refine own_imul (pc' := 34) B X31 (z := (32 : Int32)) d5_33 rfl (by decide) ?_
  obtain ⟨y32, hy32⟩ : ∃ z : Int64, (q7.toUInt64 >>> ((32 : Int32) &&& 0x3f).toInt64.toUInt64).toInt64 = z := ⟨_, rfl⟩
  refine own_lushr (pc' := 35) B X31 d5_34 rfl hy32 ?_
  obtain ⟨y33, hy33⟩ : ∃ z : Int32, y32.toInt32 = z := ⟨_, rfl⟩
  refine own_l2i (pc' := 36) B X31 d5_35 rfl hy33 ?_
  obtain ⟨y34, hy34⟩ : ∃ z : Int32, y33.toInt8.toInt32 = z := ⟨_, rfl⟩
  refine own_i2b (pc' := 37) B X31 d5_36 rfl hy34 ?_
  replace V_w1 : Arv Z h31 w1 kw1 .byte (64 : Int32) [(.int p3), (.int p4), (.int p5), (.int p6), (.int y6), (.int y13), (.int y20), (.int y27), (.int (0 : Int32))] (.int (0 : Int32)) := V_w1.pad (pad_rep [(.int p3), (.int p4), (.int p5), (.int p6), (.int y6), (.int y13), (.int y20), (.int y27)] (.int (0 : Int32)) 1)
  refine own_bastore (pc' := 38) B X31 (x' := y34) V_w1 g_w1 ⟨by decide, by decide⟩ 8 (by decide) (Nat.le_of_ble_eq_true rfl) (own_idem_i2b hy34) d5_37 rfl ?_
  intro T35 h35 X35 W35 V_w1
  replace V_w1 : Arv Z h35 w1 kw1 .byte (64 : Int32) [(.int p3), (.int p4), (.int p5), (.int p6), (.int y6), (.int y13), (.int y20), (.int y27), (.int y34)] (.int (0 : Int32)) := V_w1
  replace E_w0 := E_w0.wr W35
  replace F_w0_bytes := F_w0_bytes.other W35 (Or.inl ne_w0_w1)
  replace F_w0_size := F_w0_size.other W35 (Or.inl ne_w0_w1)
  replace E_w1 := E_w1.wr W35
  replace K := K.wr W35 (Or.inl (List.mem_of_getElem? (i := 1) rfl))
  refine own_iinc (pc' := 41) B X35 (Ls' := #[.val (.ref w0), .val (.long q7), .second, .val (.int (5 : Int32))]) d5_38 rfl rfl (z := (5 : Int32)) (by decide) rfl ?_
  refine own_goto (pc' := 8) B X35 d5_41 (by decide) rfl ?_
  refine own_iloadN (pc' := 9) B X35 d5_8 rfl rfl ?_
  refine own_bipush (pc' := 11) B X35 (z := (8 : Int32)) d5_9 rfl (by decide) ?_
  refine own_icmpNo (pc' := 14) B X35 d5_11 (tlt (by decide : (5 : Int32) < (8 : Int32))).2.1 rfl ?_
  refine own_aloadN (pc' := 15) B X35 d5_14 rfl rfl rfl ?_
  refine own_getfield (pc' := 18) B X35 (host := "") (Or.inl (own_w hw 10 rfl)) Via.refl F_w0_bytes d5_15 rfl ?_
  intro T36 X36
  refine own_aloadN (pc' := 19) B X36 d5_18 rfl rfl rfl ?_
  refine own_dup (pc' := 20) B X36 d5_19 rfl rfl ?_
  refine own_getfield (pc' := 23) B X36 (host := "") (Or.inl (own_w hw 21 rfl)) Via.refl F_w0_size d5_20 rfl ?_
  intro T37 X37
  refine own_dup_x1 (pc' := 24) B X37 d5_23 rfl rfl rfl ?_
  refine own_iconst (pc' := 25) B X37 (z := (1 : Int32)) d5_24 rfl rfl ?_
  refine own_iadd (pc' := 26) B X37 (z := (10 : Int32)) d5_25 rfl (by decide) ?_
  refine own_putfield (pc' := 29) B X37 (host := "") (Or.inl (own_w hw 21 rfl)) Via.refl F_w0_size E_w0 g_w0 (Or.inl (own_w hw 22 rfl)) (own_w hw 2 rfl) (ty := .int) (by decide) rfl rfl d5_26 rfl ?_
  intro T38 h38 X38 W38 F_w0_size
  replace E_w0 := E_w0.wr W38
  replace F_w0_bytes := F_w0_bytes.other W38 (Or.inr (slot_ne (Or.inl (own_w hw 11 rfl)) (Or.inl (own_w hw 22 rfl)) (by decide) (t := (.array .byte)) (t' := .int) (by decide) (by decide)))
  replace E_w1 := E_w1.wr W38
  replace V_w1 := V_w1.other W38 (Ne.symm ne_w0_w1)
  replace K := K.wr W38 (Or.inl (List.mem_of_getElem? (i := 0) rfl))
  refine own_lloadN (pc' := 30) B X38 d5_29 rfl rfl ?_
  refine own_bipush (pc' := 32) B X38 (z := (8 : Int32)) d5_30 rfl (by decide) ?_
  refine own_iloadN (pc' := 33) B X38 d5_32 rfl rfl ?_
  refine own_imul (pc' := 34) B X38 (z := (40 : Int32)) d5_33 rfl (by decide) ?_
  obtain ⟨y39, hy39⟩ : ∃ z : Int64, (q7.toUInt64 >>> ((40 : Int32) &&& 0x3f).toInt64.toUInt64).toInt64 = z := ⟨_, rfl⟩
  refine own_lushr (pc' := 35) B X38 d5_34 rfl hy39 ?_
  obtain ⟨y40, hy40⟩ : ∃ z : Int32, y39.toInt32 = z := ⟨_, rfl⟩
  refine own_l2i (pc' := 36) B X38 d5_35 rfl hy40 ?_
  obtain ⟨y41, hy41⟩ : ∃ z : Int32, y40.toInt8.toInt32 = z := ⟨_, rfl⟩
  refine own_i2b (pc' := 37) B X38 d5_36 rfl hy41 ?_
  replace V_w1 : Arv Z h38 w1 kw1 .byte (64 : Int32) [(.int p3), (.int p4), (.int p5), (.int p6), (.int y6), (.int y13), (.int y20), (.int y27), (.int y34), (.int (0 : Int32))] (.int (0 : Int32)) := V_w1.pad (pad_rep [(.int p3), (.int p4), (.int p5), (.int p6), (.int y6), (.int y13), (.int y20), (.int y27), (.int y34)] (.int (0 : Int32)) 1)
  refine own_bastore (pc' := 38) B X38 (x' := y41) V_w1 g_w1 ⟨by decide, by decide⟩ 9 (by decide) (Nat.le_of_ble_eq_true rfl) (own_idem_i2b hy41) d5_37 rfl ?_
  intro T42 h42 X42 W42 V_w1
  replace V_w1 : Arv Z h42 w1 kw1 .byte (64 : Int32) [(.int p3), (.int p4), (.int p5), (.int p6), (.int y6), (.int y13), (.int y20), (.int y27), (.int y34), (.int y41)] (.int (0 : Int32)) := V_w1
  replace E_w0 := E_w0.wr W42
  replace F_w0_bytes := F_w0_bytes.other W42 (Or.inl ne_w0_w1)
  replace F_w0_size := F_w0_size.other W42 (Or.inl ne_w0_w1)
  replace E_w1 := E_w1.wr W42
  replace K := K.wr W42 (Or.inl (List.mem_of_getElem? (i := 1) rfl))
  refine own_iinc (pc' := 41) B X42 (Ls' := #[.val (.ref w0), .val (.long q7), .second, .val (.int (6 : Int32))]) d5_38 rfl rfl (z := (6 : Int32)) (by decide) rfl ?_
  refine own_goto (pc' := 8) B X42 d5_41 (by decide) rfl ?_
  refine own_iloadN (pc' := 9) B X42 d5_8 rfl rfl ?_
  refine own_bipush (pc' := 11) B X42 (z := (8 : Int32)) d5_9 rfl (by decide) ?_
  refine own_icmpNo (pc' := 14) B X42 d5_11 (tlt (by decide : (6 : Int32) < (8 : Int32))).2.1 rfl ?_
  refine own_aloadN (pc' := 15) B X42 d5_14 rfl rfl rfl ?_
  refine own_getfield (pc' := 18) B X42 (host := "") (Or.inl (own_w hw 10 rfl)) Via.refl F_w0_bytes d5_15 rfl ?_
  intro T43 X43
  refine own_aloadN (pc' := 19) B X43 d5_18 rfl rfl rfl ?_
  refine own_dup (pc' := 20) B X43 d5_19 rfl rfl ?_
  refine own_getfield (pc' := 23) B X43 (host := "") (Or.inl (own_w hw 21 rfl)) Via.refl F_w0_size d5_20 rfl ?_
  intro T44 X44
  refine own_dup_x1 (pc' := 24) B X44 d5_23 rfl rfl rfl ?_
  refine own_iconst (pc' := 25) B X44 (z := (1 : Int32)) d5_24 rfl rfl ?_
  refine own_iadd (pc' := 26) B X44 (z := (11 : Int32)) d5_25 rfl (by decide) ?_
  refine own_putfield (pc' := 29) B X44 (host := "") (Or.inl (own_w hw 21 rfl)) Via.refl F_w0_size E_w0 g_w0 (Or.inl (own_w hw 22 rfl)) (own_w hw 2 rfl) (ty := .int) (by decide) rfl rfl d5_26 rfl ?_
  intro T45 h45 X45 W45 F_w0_size
  replace E_w0 := E_w0.wr W45
  replace F_w0_bytes := F_w0_bytes.other W45 (Or.inr (slot_ne (Or.inl (own_w hw 11 rfl)) (Or.inl (own_w hw 22 rfl)) (by decide) (t := (.array .byte)) (t' := .int) (by decide) (by decide)))
  replace E_w1 := E_w1.wr W45
  replace V_w1 := V_w1.other W45 (Ne.symm ne_w0_w1)
  replace K := K.wr W45 (Or.inl (List.mem_of_getElem? (i := 0) rfl))
  refine own_lloadN (pc' := 30) B X45 d5_29 rfl rfl ?_
  refine own_bipush (pc' := 32) B X45 (z := (8 : Int32)) d5_30 rfl (by decide) ?_
  refine own_iloadN (pc' := 33) B X45 d5_32 rfl rfl ?_
  refine own_imul (pc' := 34) B X45 (z := (48 : Int32)) d5_33 rfl (by decide) ?_
  obtain ⟨y46, hy46⟩ : ∃ z : Int64, (q7.toUInt64 >>> ((48 : Int32) &&& 0x3f).toInt64.toUInt64).toInt64 = z := ⟨_, rfl⟩
  refine own_lushr (pc' := 35) B X45 d5_34 rfl hy46 ?_
  obtain ⟨y47, hy47⟩ : ∃ z : Int32, y46.toInt32 = z := ⟨_, rfl⟩
  refine own_l2i (pc' := 36) B X45 d5_35 rfl hy47 ?_
  obtain ⟨y48, hy48⟩ : ∃ z : Int32, y47.toInt8.toInt32 = z := ⟨_, rfl⟩
  refine own_i2b (pc' := 37) B X45 d5_36 rfl hy48 ?_
  replace V_w1 : Arv Z h45 w1 kw1 .byte (64 : Int32) [(.int p3), (.int p4), (.int p5), (.int p6), (.int y6), (.int y13), (.int y20), (.int y27), (.int y34), (.int y41), (.int (0 : Int32))] (.int (0 : Int32)) := V_w1.pad (pad_rep [(.int p3), (.int p4), (.int p5), (.int p6), (.int y6), (.int y13), (.int y20), (.int y27), (.int y34), (.int y41)] (.int (0 : Int32)) 1)
  refine own_bastore (pc' := 38) B X45 (x' := y48) V_w1 g_w1 ⟨by decide, by decide⟩ 10 (by decide) (Nat.le_of_ble_eq_true rfl) (own_idem_i2b hy48) d5_37 rfl ?_
  intro T49 h49 X49 W49 V_w1
  replace V_w1 : Arv Z h49 w1 kw1 .byte (64 : Int32) [(.int p3), (.int p4), (.int p5), (.int p6), (.int y6), (.int y13), (.int y20), (.int y27), (.int y34), (.int y41), (.int y48)] (.int (0 : Int32)) := V_w1
  replace E_w0 := E_w0.wr W49
  replace F_w0_bytes := F_w0_bytes.other W49 (Or.inl ne_w0_w1)
  replace F_w0_size := F_w0_size.other W49 (Or.inl ne_w0_w1)
  replace E_w1 := E_w1.wr W49
  replace K := K.wr W49 (Or.inl (List.mem_of_getElem? (i := 1) rfl))
  refine own_iinc (pc' := 41) B X49 (Ls' := #[.val (.ref w0), .val (.long q7), .second, .val (.int (7 : Int32))]) d5_38 rfl rfl (z := (7 : Int32)) (by decide) rfl ?_
  refine own_goto (pc' := 8) B X49 d5_41 (by decide) rfl ?_
  refine own_iloadN (pc' := 9) B X49 d5_8 rfl rfl ?_
  refine own_bipush (pc' := 11) B X49 (z := (8 : Int32)) d5_9 rfl (by decide) ?_
  refine own_icmpNo (pc' := 14) B X49 d5_11 (tlt (by decide : (7 : Int32) < (8 : Int32))).2.1 rfl ?_
  refine own_aloadN (pc' := 15) B X49 d5_14 rfl rfl rfl ?_
  refine own_getfield (pc' := 18) B X49 (host := "") (Or.inl (own_w hw 10 rfl)) Via.refl F_w0_bytes d5_15 rfl ?_
  intro T50 X50
  refine own_aloadN (pc' := 19) B X50 d5_18 rfl rfl rfl ?_
  refine own_dup (pc' := 20) B X50 d5_19 rfl rfl ?_
  refine own_getfield (pc' := 23) B X50 (host := "") (Or.inl (own_w hw 21 rfl)) Via.refl F_w0_size d5_20 rfl ?_
  intro T51 X51
  refine own_dup_x1 (pc' := 24) B X51 d5_23 rfl rfl rfl ?_
  refine own_iconst (pc' := 25) B X51 (z := (1 : Int32)) d5_24 rfl rfl ?_
  refine own_iadd (pc' := 26) B X51 (z := (12 : Int32)) d5_25 rfl (by decide) ?_
  refine own_putfield (pc' := 29) B X51 (host := "") (Or.inl (own_w hw 21 rfl)) Via.refl F_w0_size E_w0 g_w0 (Or.inl (own_w hw 22 rfl)) (own_w hw 2 rfl) (ty := .int) (by decide) rfl rfl d5_26 rfl ?_
  intro T52 h52 X52 W52 F_w0_size
  replace E_w0 := E_w0.wr W52
  replace F_w0_bytes := F_w0_bytes.other W52 (Or.inr (slot_ne (Or.inl (own_w hw 11 rfl)) (Or.inl (own_w hw 22 rfl)) (by decide) (t := (.array .byte)) (t' := .int) (by decide) (by decide)))
  replace E_w1 := E_w1.wr W52
  replace V_w1 := V_w1.other W52 (Ne.symm ne_w0_w1)
  replace K := K.wr W52 (Or.inl (List.mem_of_getElem? (i := 0) rfl))
  refine own_lloadN (pc' := 30) B X52 d5_29 rfl rfl ?_
  refine own_bipush (pc' := 32) B X52 (z := (8 : Int32)) d5_30 rfl (by decide) ?_
  refine own_iloadN (pc' := 33) B X52 d5_32 rfl rfl ?_
  refine own_imul (pc' := 34) B X52 (z := (56 : Int32)) d5_33 rfl (by decide) ?_
  obtain ⟨y53, hy53⟩ : ∃ z : Int64, (q7.toUInt64 >>> ((56 : Int32) &&& 0x3f).toInt64.toUInt64).toInt64 = z := ⟨_, rfl⟩
  refine own_lushr (pc' := 35) B X52 d5_34 rfl hy53 ?_
  obtain ⟨y54, hy54⟩ : ∃ z : Int32, y53.toInt32 = z := ⟨_, rfl⟩
  refine own_l2i (pc' := 36) B X52 d5_35 rfl hy54 ?_
  obtain ⟨y55, hy55⟩ : ∃ z : Int32, y54.toInt8.toInt32 = z := ⟨_, rfl⟩
  refine own_i2b (pc' := 37) B X52 d5_36 rfl hy55 ?_
  replace V_w1 : Arv Z h52 w1 kw1 .byte (64 : Int32) [(.int p3), (.int p4), (.int p5), (.int p6), (.int y6), (.int y13), (.int y20), (.int y27), (.int y34), (.int y41), (.int y48), (.int (0 : Int32))] (.int (0 : Int32)) := V_w1.pad (pad_rep [(.int p3), (.int p4), (.int p5), (.int p6), (.int y6), (.int y13), (.int y20), (.int y27), (.int y34), (.int y41), (.int y48)] (.int (0 : Int32)) 1)
  refine own_bastore (pc' := 38) B X52 (x' := y55) V_w1 g_w1 ⟨by decide, by decide⟩ 11 (by decide) (Nat.le_of_ble_eq_true rfl) (own_idem_i2b hy55) d5_37 rfl ?_
  intro T56 h56 X56 W56 V_w1
  replace V_w1 : Arv Z h56 w1 kw1 .byte (64 : Int32) [(.int p3), (.int p4), (.int p5), (.int p6), (.int y6), (.int y13), (.int y20), (.int y27), (.int y34), (.int y41), (.int y48), (.int y55)] (.int (0 : Int32)) := V_w1
  replace E_w0 := E_w0.wr W56
  replace F_w0_bytes := F_w0_bytes.other W56 (Or.inl ne_w0_w1)
  replace F_w0_size := F_w0_size.other W56 (Or.inl ne_w0_w1)
  replace E_w1 := E_w1.wr W56
  replace K := K.wr W56 (Or.inl (List.mem_of_getElem? (i := 1) rfl))
  refine own_iinc (pc' := 41) B X56 (Ls' := #[.val (.ref w0), .val (.long q7), .second, .val (.int (8 : Int32))]) d5_38 rfl rfl (z := (8 : Int32)) (by decide) rfl ?_
  refine own_goto (pc' := 8) B X56 d5_41 (by decide) rfl ?_
  refine own_iloadN (pc' := 9) B X56 d5_8 rfl rfl ?_
  refine own_bipush (pc' := 11) B X56 (z := (8 : Int32)) d5_9 rfl (by decide) ?_
  refine own_icmpYes (pc' := 44) B X56 d5_11 (flt (by decide : ¬ ((8 : Int32) < (8 : Int32)))).2.1 (by decide) rfl ?_
  exact own_ret B X56 d5_44 (by decide) (by decide) (⟨y5, y6, y11, y12, y13, y18, y19, y20, y25, y26, y27, y32, y33, y34, y39, y40, y41, y46, y47, y48, y53, y54, y55, hy5, hy6, hy11, hy12, hy13, hy18, hy19, hy20, hy25, hy26, hy27, hy32, hy33, hy34, hy39, hy40, hy41, hy46, hy47, hy48, hy53, hy54, hy55, rfl, K, E_w0, F_w0_bytes, F_w0_size, E_w1, V_w1⟩)
def Q_7 (Z : State) (w0 : Addr) (w1 : Addr) (kw1 : ClassId) (p3 : Int32) (p4 : Int32) (p5 : Int32) (p6 : Int32) (p7 : Int32) (p8 : Int32) (p9 : Int32) (p10 : Int32) (p11 : Int32) (p12 : Int32) (p13 : Int32) (p14 : Int32) (h0 : Heap) (n0 : Nat) (v : Option Value) (h : Heap) : Prop :=
  (v = none ∧ h0 = h)
set_option maxRecDepth 65536 in
set_option maxHeartbeats 40000000 in
theorem rm_7 (l : Launch) (Z : State) (a0 : Array Value) (hw : ∀ d ∈ tables_1, d.before a0 Z = true) (ws : List Jvm.Cond) (w0 : Addr) (w1 : Addr) (kw1 : ClassId) (p3 : Int32) (p4 : Int32) (p5 : Int32) (p6 : Int32) (p7 : Int32) (p8 : Int32) (p9 : Int32) (p10 : Int32) (p11 : Int32) (p12 : Int32) (p13 : Int32) (p14 : Int32) (h0 : Heap) (n0 : Nat) (Z0 : n0 ≤ h0.size) (E_w0 : Exa Z h0 w0 "com/example/siltstone/siltstone/format/ByteSink") (F_w0_bytes : Fld Z h0 w0 "com/example/siltstone/siltstone/format/ByteSink" "bytes" "[B" (.ref w1)) (F_w0_size : Fld Z h0 w0 "com/example/siltstone/siltstone/format/ByteSink" "size" "I" (.int (12 : Int32))) (g_w0 : n0 ≤ w0) (E_w1 : Exa Z h0 w1 "[B") (V_w1 : Arv Z h0 w1 kw1 .byte (64 : Int32) [(.int p3), (.int p4), (.int p5), (.int p6), (.int p7), (.int p8), (.int p9), (.int p10), (.int p11), (.int p12), (.int p13), (.int p14)] (.int (0 : Int32))) (g_w1 : n0 ≤ w1) (ne_w0_w1 : w0 ≠ w1) :
    MetFree l (⟨"com/example/siltstone/siltstone/format/ByteSink", "ensure", "(I)V"⟩ : MethodName) (head1 (Jvm.Cond.code (⟨"com/example/siltstone/siltstone/format/ByteSink", "ensure", "(I)V"⟩ : MethodName) prog_65_method_12_code 4 none :: ws) ({ frames := 0, cells := 0, slots := 0, locals := 0 } : Room)) (fun a U => a = #[(.ref w0), (.int (1 : Int32))] ∧ Z.Warmed39 U.vm ∧ U.heap = h0) (fun _ _ _ _ _ => True) (fun _ U o U' => ∃ v L, o = .returned v ∧ (Fr n0 L ∧ Q_7 Z w0 w1 kw1 p3 p4 p5 p6 p7 p8 p9 p10 p11 p12 p13 p14 h0 n0 v U'.heap) ∧ FrameEnd U o U' L ({ frames := 0, cells := 0, slots := 0, locals := 0 } : Room).cells ({ frames := 0, cells := 0, slots := 0, locals := 0 } : Room).slots) := by
  refine own_enter (Q := Q_7 Z w0 w1 kw1 p3 p4 p5 p6 p7 p8 p9 p10 p11 p12 p13 p14 h0 n0) (F := fun m => mkF m 0 #[.val (.ref w0), .val (.int (1 : Int32)), .unset, .unset] []) (plainFor_of_name pn_0) (fun m => by first | (simp [entryFrame, mkF, argsToLocals, Value.category]; done) | rfl) ?_
  intro p e s m below meth c s₁ B X0
  have K : Keep h0 h0 [] := Keep.refl h0 _
  refine own_iloadN (pc' := 1) B X0 d4_0 rfl rfl ?_
  refine own_aloadN (pc' := 2) B X0 d4_1 rfl rfl rfl ?_
  refine own_getfield (pc' := 5) B X0 (host := "") (Or.inl (own_w hw 10 rfl)) Via.refl F_w0_bytes d4_2 rfl ?_
  intro T1 X1
  refine own_arraylength (pc' := 6) B X1 V_w1 d4_5 rfl ?_
  refine own_aloadN (pc' := 7) B X1 d4_6 rfl rfl rfl ?_
  refine own_getfield (pc' := 10) B X1 (host := "") (Or.inl (own_w hw 21 rfl)) Via.refl F_w0_size d4_7 rfl ?_
  intro T2 X2
  refine own_isub (pc' := 11) B X2 (z := (52 : Int32)) d4_10 rfl (by decide) ?_
  refine own_icmpYes (pc' := 67) B X2 d4_11 (flt (by decide : ¬ ((52 : Int32) < (1 : Int32)))).2.2.2 (by decide) rfl ?_
  exact own_ret B X2 d4_67 (by decide) (by decide) (⟨rfl, rfl⟩)
def Q_6 (Z : State) (w0 : Addr) (w1 : Addr) (kw1 : ClassId) (p3 : Int32) (p4 : Int32) (p5 : Int32) (p6 : Int32) (p7 : Int32) (p8 : Int32) (p9 : Int32) (p10 : Int32) (p11 : Int32) (p12 : Int32) (p13 : Int32) (p14 : Int32) (p15 : Int32) (h0 : Heap) (n0 : Nat) (v : Option Value) (h : Heap) : Prop :=
  (∃ (y5 : Int32), p15.toInt8.toInt32 = y5 ∧ v = none ∧ Keep h0 h [w0, w1] ∧ Exa Z h w0 "com/example/siltstone/siltstone/format/ByteSink" ∧ Fld Z h w0 "com/example/siltstone/siltstone/format/ByteSink" "bytes" "[B" (.ref w1) ∧ Fld Z h w0 "com/example/siltstone/siltstone/format/ByteSink" "size" "I" (.int (13 : Int32)) ∧ Exa Z h w1 "[B" ∧ Arv Z h w1 kw1 .byte (64 : Int32) [(.int p3), (.int p4), (.int p5), (.int p6), (.int p7), (.int p8), (.int p9), (.int p10), (.int p11), (.int p12), (.int p13), (.int p14), (.int y5)] (.int (0 : Int32)))
set_option maxRecDepth 65536 in
set_option maxHeartbeats 40000000 in
theorem rm_6 (l : Launch) (Z : State) (a0 : Array Value) (hw : ∀ d ∈ tables_1, d.before a0 Z = true) (ws : List Jvm.Cond) (w0 : Addr) (w1 : Addr) (kw1 : ClassId) (p3 : Int32) (p4 : Int32) (p5 : Int32) (p6 : Int32) (p7 : Int32) (p8 : Int32) (p9 : Int32) (p10 : Int32) (p11 : Int32) (p12 : Int32) (p13 : Int32) (p14 : Int32) (p15 : Int32) (h0 : Heap) (n0 : Nat) (Z0 : n0 ≤ h0.size) (E_w0 : Exa Z h0 w0 "com/example/siltstone/siltstone/format/ByteSink") (F_w0_bytes : Fld Z h0 w0 "com/example/siltstone/siltstone/format/ByteSink" "bytes" "[B" (.ref w1)) (F_w0_size : Fld Z h0 w0 "com/example/siltstone/siltstone/format/ByteSink" "size" "I" (.int (12 : Int32))) (g_w0 : n0 ≤ w0) (E_w1 : Exa Z h0 w1 "[B") (V_w1 : Arv Z h0 w1 kw1 .byte (64 : Int32) [(.int p3), (.int p4), (.int p5), (.int p6), (.int p7), (.int p8), (.int p9), (.int p10), (.int p11), (.int p12), (.int p13), (.int p14)] (.int (0 : Int32))) (g_w1 : n0 ≤ w1) (ne_w0_w1 : w0 ≠ w1) :
    MetFree l (⟨"com/example/siltstone/siltstone/format/ByteSink", "writeByte", "(I)V"⟩ : MethodName) (head1 (Jvm.Cond.code (⟨"com/example/siltstone/siltstone/format/ByteSink", "writeByte", "(I)V"⟩ : MethodName) prog_65_method_6_code 2 none :: ws) ({ frames := 1, cells := 0, slots := 0, locals := 15 } : Room)) (fun a U => a = #[(.ref w0), (.int p15)] ∧ Z.Warmed39 U.vm ∧ U.heap = h0) (fun _ _ _ _ _ => True) (fun _ U o U' => ∃ v L, o = .returned v ∧ (Fr n0 L ∧ Q_6 Z w0 w1 kw1 p3 p4 p5 p6 p7 p8 p9 p10 p11 p12 p13 p14 p15 h0 n0 v U'.heap) ∧ FrameEnd U o U' L ({ frames := 1, cells := 0, slots := 0, locals := 15 } : Room).cells ({ frames := 1, cells := 0, slots := 0, locals := 15 } : Room).slots) := by
  refine own_enter (Q := Q_6 Z w0 w1 kw1 p3 p4 p5 p6 p7 p8 p9 p10 p11 p12 p13 p14 p15 h0 n0) (F := fun m => mkF m 0 #[.val (.ref w0), .val (.int p15)] []) (plainFor_of_name pn_0) (fun m => by first | (simp [entryFrame, mkF, argsToLocals, Value.category]; done) | rfl) ?_
  intro p e s m below meth c s₁ B X0
  have K : Keep h0 h0 [w0, w1] := Keep.refl h0 _
  refine own_aloadN (pc' := 1) B X0 d6_0 rfl rfl rfl ?_
  refine own_iconst (pc' := 2) B X0 (z := (1 : Int32)) d6_1 rfl rfl ?_
  refine own_callP (pc' := 5) B X0 (own_w hw 17 rfl) (own_w hw 18 rfl) (own_w hw 19 rfl) (own_w hw 2 rfl) (own_w hw 3 rfl) (own_w hw 20 rfl) E_w0 (by decide) [(.int (1 : Int32))] [] (rm_7 l Z a0 hw [] w0 w1 kw1 (p3) (p4) (p5) (p6) (p7) (p8) (p9) (p10) (p11) (p12) (p13) (p14) h0 n0 (Nat.le_trans Z0 K.1) E_w0 F_w0_bytes F_w0_size g_w0 E_w1 V_w1 g_w1 ne_w0_w1) 0 (by decide) (by decide) rfl pd_1 rfl rfl (Nat.le_of_eq rfl) d6_2 rfl (k' := 0) (n' := 0) rfl rfl (by decide) (by decide) ?_
  intro T1 v1 h1 X1 q1
  obtain ⟨rfl, rfl⟩ := q1
  show own_Go p e below (T1.setTop (mkF m 5 #[.val (.ref w0), .val (.int p15)] [])) _
  refine own_aloadN (pc' := 6) B X1 d6_5 rfl rfl rfl ?_
  refine own_getfield (pc' := 9) B X1 (host := "") (Or.inl (own_w hw 10 rfl)) Via.refl F_w0_bytes d6_6 rfl ?_
  intro T2 X2
  refine own_aloadN (pc' := 10) B X2 d6_9 rfl rfl rfl ?_
  refine own_dup (pc' := 11) B X2 d6_10 rfl rfl ?_
  refine own_getfield (pc' := 14) B X2 (host := "") (Or.inl (own_w hw 21 rfl)) Via.refl F_w0_size d6_11 rfl ?_
  intro T3 X3
  refine own_dup_x1 (pc' := 15) B X3 d6_14 rfl rfl rfl ?_
  refine own_iconst (pc' := 16) B X3 (z := (1 : Int32)) d6_15 rfl rfl ?_
  refine own_iadd (pc' := 17) B X3 (z := (13 : Int32)) d6_16 rfl (by decide) ?_
  refine own_putfield (pc' := 20) B X3 (host := "") (Or.inl (own_w hw 21 rfl)) Via.refl F_w0_size E_w0 g_w0 (Or.inl (own_w hw 22 rfl)) (own_w hw 2 rfl) (ty := .int) (by decide) rfl rfl d6_17 rfl ?_
  intro T4 h4 X4 W4 F_w0_size
  replace E_w0 := E_w0.wr W4
  replace F_w0_bytes := F_w0_bytes.other W4 (Or.inr (slot_ne (Or.inl (own_w hw 11 rfl)) (Or.inl (own_w hw 22 rfl)) (by decide) (t := (.array .byte)) (t' := .int) (by decide) (by decide)))
  replace E_w1 := E_w1.wr W4
  replace V_w1 := V_w1.other W4 (Ne.symm ne_w0_w1)
  replace K := K.wr W4 (Or.inl (List.mem_of_getElem? (i := 0) rfl))
  refine own_iloadN (pc' := 21) B X4 d6_20 rfl rfl ?_
  obtain ⟨y5, hy5⟩ : ∃ z : Int32, p15.toInt8.toInt32 = z := ⟨_, rfl⟩
  refine own_i2b (pc' := 22) B X4 d6_21 rfl hy5 ?_
  replace V_w1 : Arv Z h4 w1 kw1 .byte (64 : Int32) [(.int p3), (.int p4), (.int p5), (.int p6), (.int p7), (.int p8), (.int p9), (.int p10), (.int p11), (.int p12), (.int p13), (.int p14), (.int (0 : Int32))] (.int (0 : Int32)) := V_w1.pad (pad_rep [(.int p3), (.int p4), (.int p5), (.int p6), (.int p7), (.int p8), (.int p9), (.int p10), (.int p11), (.int p12), (.int p13), (.int p14)] (.int (0 : Int32)) 1)
  refine own_bastore (pc' := 23) B X4 (x' := y5) V_w1 g_w1 ⟨by decide, by decide⟩ 12 (by decide) (Nat.le_of_ble_eq_true rfl) (own_idem_i2b hy5) d6_22 rfl ?_
  intro T6 h6 X6 W6 V_w1
  replace V_w1 : Arv Z h6 w1 kw1 .byte (64 : Int32) [(.int p3), (.int p4), (.int p5), (.int p6), (.int p7), (.int p8), (.int p9), (.int p10), (.int p11), (.int p12), (.int p13), (.int p14), (.int y5)] (.int (0 : Int32)) := V_w1
  replace E_w0 := E_w0.wr W6
  replace F_w0_bytes := F_w0_bytes.other W6 (Or.inl ne_w0_w1)
  replace F_w0_size := F_w0_size.other W6 (Or.inl ne_w0_w1)
  replace E_w1 := E_w1.wr W6
  replace K := K.wr W6 (Or.inl (List.mem_of_getElem? (i := 1) rfl))
  exact own_ret B X6 d6_23 (by decide) (by decide) (⟨y5, hy5, rfl, K, E_w0, F_w0_bytes, F_w0_size, E_w1, V_w1⟩)
def Q_10 (Z : State)  (h0 : Heap) (n0 : Nat) (v : Option Value) (h : Heap) : Prop :=
  (v = some (.int (13 : Int32)) ∧ h0 = h)
set_option maxRecDepth 65536 in
set_option maxHeartbeats 40000000 in
theorem rm_10 (l : Launch) (Z : State) (a0 : Array Value) (hw : ∀ d ∈ tables_1, d.before a0 Z = true) (ws : List Jvm.Cond)  (h0 : Heap) (n0 : Nat) (Z0 : n0 ≤ h0.size)  :
    MetFree l (⟨"java/lang/Math", "min", "(II)I"⟩ : MethodName) (head1 (Jvm.Cond.code (⟨"java/lang/Math", "min", "(II)I"⟩ : MethodName) jdk_29_method_69_code 2 (some .int) :: ws) ({ frames := 0, cells := 0, slots := 0, locals := 0 } : Room)) (fun a U => a = #[(.int (64 : Int32)), (.int (13 : Int32))] ∧ Z.Warmed39 U.vm ∧ U.heap = h0) (fun _ _ _ _ _ => True) (fun _ U o U' => ∃ v L, o = .returned v ∧ (Fr n0 L ∧ Q_10 Z  h0 n0 v U'.heap) ∧ FrameEnd U o U' L ({ frames := 0, cells := 0, slots := 0, locals := 0 } : Room).cells ({ frames := 0, cells := 0, slots := 0, locals := 0 } : Room).slots) := by
  refine own_enter (Q := Q_10 Z  h0 n0) (F := fun m => mkF m 0 #[.val (.int (64 : Int32)), .val (.int (13 : Int32))] []) (Jvm.Free.JP.mathPlain rfl (by decide +kernel)) (fun m => by first | (simp [entryFrame, mkF, argsToLocals, Value.category]; done) | rfl) ?_
  intro p e s m below meth c s₁ B X0
  have K : Keep h0 h0 [] := Keep.refl h0 _
  refine own_iloadN (pc' := 1) B X0 d9_0 rfl rfl ?_
  refine own_iloadN (pc' := 2) B X0 d9_1 rfl rfl ?_
  refine own_icmpYes (pc' := 9) B X0 d9_2 (tlt (by decide : (13 : Int32) < (64 : Int32))).2.2.1 (by decide) rfl ?_
  refine own_iloadN (pc' := 10) B X0 d9_9 rfl rfl ?_
  exact own_retI B X0 d9_10 (by decide) (by decide) (⟨rfl, rfl⟩)
def Q_9 (Z : State) (w0 : Addr) (kw0 : ClassId) (p2 : Int32) (p3 : Int32) (p4 : Int32) (p5 : Int32) (p6 : Int32) (p7 : Int32) (p8 : Int32) (p9 : Int32) (p10 : Int32) (p11 : Int32) (p12 : Int32) (p13 : Int32) (p14 : Int32) (h0 : Heap) (n0 : Nat) (v : Option Value) (h : Heap) : Prop :=
  (∃ (b1 : Addr) (kb1 : ClassId), v = some (.ref b1) ∧ Keep h0 h [] ∧ h0.size ≤ b1 ∧ Exa Z h b1 "[B" ∧ Arv Z h b1 kb1 .byte (13 : Int32) [(.int p2), (.int p3), (.int p4), (.int p5), (.int p6), (.int p7), (.int p8), (.int p9), (.int p10), (.int p11), (.int p12), (.int p13), (.int p14)] (.int (0 : Int32)))
set_option maxRecDepth 65536 in
set_option maxHeartbeats 40000000 in
theorem rm_9 (l : Launch) (Z : State) (a0 : Array Value) (hw : ∀ d ∈ tables_1, d.before a0 Z = true) (ws : List Jvm.Cond) (w0 : Addr) (kw0 : ClassId) (p2 : Int32) (p3 : Int32) (p4 : Int32) (p5 : Int32) (p6 : Int32) (p7 : Int32) (p8 : Int32) (p9 : Int32) (p10 : Int32) (p11 : Int32) (p12 : Int32) (p13 : Int32) (p14 : Int32) (h0 : Heap) (n0 : Nat) (Z0 : n0 ≤ h0.size) (E_w0 : Exa Z h0 w0 "[B") (V_w0 : Arv Z h0 w0 kw0 .byte (64 : Int32) [(.int p2), (.int p3), (.int p4), (.int p5), (.int p6), (.int p7), (.int p8), (.int p9), (.int p10), (.int p11), (.int p12), (.int p13), (.int p14)] (.int (0 : Int32))) (g_w0 : n0 ≤ w0) :
    MetFree l (⟨"java/util/Arrays", "copyOf", "([BI)[B"⟩ : MethodName) (head1 (Jvm.Cond.code (⟨"java/util/Arrays", "copyOf", "([BI)[B"⟩ : MethodName) jdk_65_method_121_code 3 (some (.array .byte)) :: ws) ({ frames := 1, cells := 1, slots := 13, locals := 40 } : Room)) (fun a U => a = #[(.ref w0), (.int (13 : Int32))] ∧ Z.Warmed39 U.vm ∧ U.heap = h0) (fun _ _ _ _ _ => True) (fun _ U o U' => ∃ v L, o = .returned v ∧ (Fr n0 L ∧ Q_9 Z w0 kw0 p2 p3 p4 p5 p6 p7 p8 p9 p10 p11 p12 p13 p14 h0 n0 v U'.heap) ∧ FrameEnd U o U' L ({ frames := 1, cells := 1, slots := 13, locals := 40 } : Room).cells ({ frames := 1, cells := 1, slots := 13, locals := 40 } : Room).slots) := by
  refine own_enter (Q := Q_9 Z w0 kw0 p2 p3 p4 p5 p6 p7 p8 p9 p10 p11 p12 p13 p14 h0 n0) (F := fun m => mkF m 0 #[.val (.ref w0), .val (.int (13 : Int32)), .unset] []) (plainFor_of_name pn_1) (fun m => by first | (simp [entryFrame, mkF, argsToLocals, Value.category]; done) | rfl) ?_
  intro p e s m below meth c s₁ B X0
  have K : Keep h0 h0 [] := Keep.refl h0 _
  refine own_iloadN (pc' := 1) B X0 d8_0 rfl rfl ?_
  refine own_aloadN (pc' := 2) B X0 d8_1 rfl rfl rfl ?_
  refine own_arraylength (pc' := 3) B X0 V_w0 d8_2 rfl ?_
  refine own_icmpYes (pc' := 14) B X0 d8_3 (feq (by decide : ¬ ((13 : Int32) = (64 : Int32)))).2 (by decide) rfl ?_
  refine own_iloadN (pc' := 15) B X0 d8_14 rfl rfl ?_
  refine own_newarray (pc' := 17) B X0 (own_w hw 0 rfl) d8_15 rfl rfl (by decide) 13 (by decide) (by decide) (k' := 1) (n' := 13) rfl rfl (by decide) (by decide) "[B" (by decide) (.int (0 : Int32)) rfl ?_
  intro T1 h1 b1 kb1 X1 g1 E1 V_b1 E_b1
  have ne_w0_b1 : w0 ≠ b1 := own_ne E_w0.lt g1
  have sz_b1 : h0.size ≤ b1 := own_sz K g1
  have g_b1 : n0 ≤ b1 := Nat.le_trans Z0 sz_b1
  replace K := K.ext E1
  replace E_w0 := E_w0.ext E1
  replace V_w0 := V_w0.ext E1
  replace V_b1 : Arv Z h1 b1 kb1 .byte (13 : Int32) [(.int (0 : Int32)), (.int (0 : Int32)), (.int (0 : Int32)), (.int (0 : Int32)), (.int (0 : Int32)), (.int (0 : Int32)), (.int (0 : Int32)), (.int (0 : Int32)), (.int (0 : Int32)), (.int (0 : Int32)), (.int (0 : Int32)), (.int (0 : Int32)), (.int (0 : Int32))] (.int (0 : Int32)) := V_b1.pad (pad_rep [] (.int (0 : Int32)) 13)
  refine own_astoreN (pc' := 18) B X1 (Ls' := #[.val (.ref w0), .val (.int (13 : Int32)), .val (.ref b1)]) d8_17 rfl rfl rfl ?_
  refine own_aloadN (pc' := 19) B X1 d8_18 rfl rfl rfl ?_
  refine own_iconst (pc' := 20) B X1 (z := (0 : Int32)) d8_19 rfl rfl ?_
  refine own_aloadN (pc' := 21) B X1 d8_20 rfl rfl rfl ?_
  refine own_iconst (pc' := 22) B X1 (z := (0 : Int32)) d8_21 rfl rfl ?_
  refine own_aloadN (pc' := 23) B X1 d8_22 rfl rfl rfl ?_
  refine own_arraylength (pc' := 24) B X1 V_w0 d8_23 rfl ?_
  refine own_iloadN (pc' := 25) B X1 d8_24 rfl rfl ?_
  refine own_callS (pc' := 28) B X1 (own_w hw 42 rfl) (own_w hw 43 rfl) (own_w hw 44 rfl) (own_w hw 45 rfl) (by decide) [(.int (64 : Int32)), (.int (13 : Int32))] [(.int (0 : Int32)), (.ref b1), (.int (0 : Int32)), (.ref w0)] (rm_10 l Z a0 hw []  h1 n0 (Nat.le_trans Z0 K.1) ) 4 (by decide) (by decide) rfl pd_3 rfl rfl (Nat.le_of_eq rfl) d8_25 rfl (k' := 1) (n' := 13) rfl rfl (by decide) (by decide) ?_
  intro T2 v2 h2 X2 q2
  obtain ⟨rfl, rfl⟩ := q2
  show own_Go p e below (T2.setTop (mkF m 28 #[.val (.ref w0), .val (.int (13 : Int32)), .val (.ref b1)] [(.int (13 : Int32)), (.int (0 : Int32)), (.ref b1), (.int (0 : Int32)), (.ref w0)])) _
  refine own_arraycopy (pc' := 31) B X2 (own_w hw 46 rfl) (own_w hw 49 rfl) (own_w hw 47 rfl) (own_w hw 48 rfl) V_w0 V_b1 rfl g_b1 (by decide) (by decide) (by decide) (by decide) (by decide) (us := [(.int p2), (.int p3), (.int p4), (.int p5), (.int p6), (.int p7), (.int p8), (.int p9), (.int p10), (.int p11), (.int p12), (.int p13), (.int p14)]) rfl (Nat.le_of_ble_eq_true rfl) (rs := [(.int p2), (.int p3), (.int p4), (.int p5), (.int p6), (.int p7), (.int p8), (.int p9), (.int p10), (.int p11), (.int p12), (.int p13), (.int p14)]) rfl d8_28 rfl rfl (by decide) 0 (Nat.le_of_eq rfl) (by decide) ?_
  intro T3 h3 X3 K3 V_b1
  replace K := K.trans K3 (allS (Or.inr sz_b1) all0)
  replace E_w0 := E_w0.keep K3
  replace V_w0 := V_w0.keep K3 (ninS ne_w0_b1 nin0)
  replace E_b1 := E_b1.keep K3
  refine own_aloadN (pc' := 32) B X3 d8_31 rfl rfl rfl ?_
  exact own_retA B X3 (t := (.array .byte)) rfl rfl rfl d8_32 (by decide) (by decide) (⟨b1, kb1, rfl, K, sz_b1, E_b1, V_b1⟩)
def Q_8 (Z : State) (w0 : Addr) (w1 : Addr) (kw1 : ClassId) (p3 : Int32) (p4 : Int32) (p5 : Int32) (p6 : Int32) (p7 : Int32) (p8 : Int32) (p9 : Int32) (p10 : Int32) (p11 : Int32) (p12 : Int32) (p13 : Int32) (p14 : Int32) (p15 : Int32) (h0 : Heap) (n0 : Nat) (v : Option Value) (h : Heap) : Prop :=
  (∃ (b4 : Addr) (k5 : ClassId), v = some (.ref b4) ∧ Keep h0 h [] ∧ h0.size ≤ b4 ∧ Exa Z h b4 "[B" ∧ Arv Z h b4 k5 .byte (13 : Int32) [(.int p3), (.int p4), (.int p5), (.int p6), (.int p7), (.int p8), (.int p9), (.int p10), (.int p11), (.int p12), (.int p13), (.int p14), (.int p15)] (.int (0 : Int32)))
set_option maxRecDepth 65536 in
set_option maxHeartbeats 40000000 in
theorem rm_8 (l : Launch) (Z : State) (a0 : Array Value) (hw : ∀ d ∈ tables_1, d.before a0 Z = true) (ws : List Jvm.Cond) (w0 : Addr) (w1 : Addr) (kw1 : ClassId) (p3 : Int32) (p4 : Int32) (p5 : Int32) (p6 : Int32) (p7 : Int32) (p8 : Int32) (p9 : Int32) (p10 : Int32) (p11 : Int32) (p12 : Int32) (p13 : Int32) (p14 : Int32) (p15 : Int32) (h0 : Heap) (n0 : Nat) (Z0 : n0 ≤ h0.size) (E_w0 : Exa Z h0 w0 "com/example/siltstone/siltstone/format/ByteSink") (F_w0_bytes : Fld Z h0 w0 "com/example/siltstone/siltstone/format/ByteSink" "bytes" "[B" (.ref w1)) (F_w0_size : Fld Z h0 w0 "com/example/siltstone/siltstone/format/ByteSink" "size" "I" (.int (13 : Int32))) (g_w0 : n0 ≤ w0) (E_w1 : Exa Z h0 w1 "[B") (V_w1 : Arv Z h0 w1 kw1 .byte (64 : Int32) [(.int p3), (.int p4), (.int p5), (.int p6), (.int p7), (.int p8), (.int p9), (.int p10), (.int p11), (.int p12), (.int p13), (.int p14), (.int p15)] (.int (0 : Int32))) (g_w1 : n0 ≤ w1) (ne_w0_w1 : w0 ≠ w1) :
    MetFree l (⟨"com/example/siltstone/siltstone/format/ByteSink", "toByteArray", "()[B"⟩ : MethodName) (head1 (Jvm.Cond.code (⟨"com/example/siltstone/siltstone/format/ByteSink", "toByteArray", "()[B"⟩ : MethodName) prog_65_method_4_code 1 (some (.array .byte)) :: ws) ({ frames := 2, cells := 1, slots := 13, locals := 54 } : Room)) (fun a U => a = #[(.ref w0)] ∧ Z.Warmed39 U.vm ∧ U.heap = h0) (fun _ _ _ _ _ => True) (fun _ U o U' => ∃ v L, o = .returned v ∧ (Fr n0 L ∧ Q_8 Z w0 w1 kw1 p3 p4 p5 p6 p7 p8 p9 p10 p11 p12 p13 p14 p15 h0 n0 v U'.heap) ∧ FrameEnd U o U' L ({ frames := 2, cells := 1, slots := 13, locals := 54 } : Room).cells ({ frames := 2, cells := 1, slots := 13, locals := 54 } : Room).slots) := by
  refine own_enter (Q := Q_8 Z w0 w1 kw1 p3 p4 p5 p6 p7 p8 p9 p10 p11 p12 p13 p14 p15 h0 n0) (F := fun m => mkF m 0 #[.val (.ref w0)] []) (plainFor_of_name pn_0) (fun m => by first | (simp [entryFrame, mkF, argsToLocals, Value.category]; done) | rfl) ?_
  intro p e s m below meth c s₁ B X0
  have K : Keep h0 h0 [] := Keep.refl h0 _
  refine own_aloadN (pc' := 1) B X0 d7_0 rfl rfl rfl ?_
  refine own_getfield (pc' := 4) B X0 (host := "") (Or.inl (own_w hw 10 rfl)) Via.refl F_w0_bytes d7_1 rfl ?_
  intro T1 X1
  refine own_aloadN (pc' := 5) B X1 d7_4 rfl rfl rfl ?_
  refine own_getfield (pc' := 8) B X1 (host := "") (Or.inl (own_w hw 21 rfl)) Via.refl F_w0_size d7_5 rfl ?_
  intro T2 X2
  refine own_callS (pc' := 11) B X2 (own_w hw 38 rfl) (own_w hw 39 rfl) (own_w hw 40 rfl) (own_w hw 41 rfl) (by decide) [(.ref w1), (.int (13 : Int32))] [] (rm_9 l Z a0 hw [] w1 kw1 (p3) (p4) (p5) (p6) (p7) (p8) (p9) (p10) (p11) (p12) (p13) (p14) (p15) h0 n0 (Nat.le_trans Z0 K.1) E_w1 V_w1 g_w1) 0 (by decide) (by decide) rfl pd_4 rfl rfl (Nat.le_of_eq rfl) d7_8 rfl (k' := 1) (n' := 13) rfl rfl (by decide) (by decide) ?_
  intro T3 v3 h3 X3 q3
  have lt_w0 := E_w0.lt
  have lt_w1 := E_w1.lt
  obtain ⟨b4, k5, rfl, K3, z_b4, E_b4, V_b4⟩ := q3
  have ne_w0_b4 : w0 ≠ b4 := own_ne' lt_w0 z_b4
  have ne_w1_b4 : w1 ≠ b4 := own_ne' lt_w1 z_b4
  have sz_b4 : h0.size ≤ b4 := Nat.le_trans K.1 z_b4
  have g_b4 : n0 ≤ b4 := Nat.le_trans Z0 sz_b4
  replace K := K.trans K3 all0
  replace E_w0 := E_w0.keep K3
  replace F_w0_bytes := F_w0_bytes.keep K3 nin0
  replace F_w0_size := F_w0_size.keep K3 nin0
  replace E_w1 := E_w1.keep K3
  replace V_w1 := V_w1.keep K3 nin0
  show own_Go p e below (T3.setTop (mkF m 11 #[.val (.ref w0)] [(.ref b4)])) _
  exact own_retA B X3 (t := (.array .byte)) rfl rfl rfl d7_11 (by decide) (by decide) (⟨b4, k5, rfl, K, sz_b4, E_b4, V_b4⟩)
def Q_11 (Z : State) (w0 : Addr) (w1 : Addr) (kw1 : ClassId) (p3 : Int32) (p4 : Int32) (p5 : Int32) (p6 : Int32) (p7 : Int32) (p8 : Int32) (p9 : Int32) (p10 : Int32) (p11 : Int32) (p12 : Int32) (p13 : Int32) (p14 : Int32) (p15 : Int32) (h0 : Heap) (n0 : Nat) (v : Option Value) (h : Heap) : Prop :=
  (v = some (.int (13 : Int32)) ∧ h0 = h)
set_option maxRecDepth 65536 in
set_option maxHeartbeats 40000000 in
theorem rm_11 (l : Launch) (Z : State) (a0 : Array Value) (hw : ∀ d ∈ tables_1, d.before a0 Z = true) (ws : List Jvm.Cond) (w0 : Addr) (w1 : Addr) (kw1 : ClassId) (p3 : Int32) (p4 : Int32) (p5 : Int32) (p6 : Int32) (p7 : Int32) (p8 : Int32) (p9 : Int32) (p10 : Int32) (p11 : Int32) (p12 : Int32) (p13 : Int32) (p14 : Int32) (p15 : Int32) (h0 : Heap) (n0 : Nat) (Z0 : n0 ≤ h0.size) (E_w0 : Exa Z h0 w0 "com/example/siltstone/siltstone/format/ByteSink") (F_w0_bytes : Fld Z h0 w0 "com/example/siltstone/siltstone/format/ByteSink" "bytes" "[B" (.ref w1)) (F_w0_size : Fld Z h0 w0 "com/example/siltstone/siltstone/format/ByteSink" "size" "I" (.int (13 : Int32))) (g_w0 : n0 ≤ w0) (E_w1 : Exa Z h0 w1 "[B") (V_w1 : Arv Z h0 w1 kw1 .byte (64 : Int32) [(.int p3), (.int p4), (.int p5), (.int p6), (.int p7), (.int p8), (.int p9), (.int p10), (.int p11), (.int p12), (.int p13), (.int p14), (.int p15)] (.int (0 : Int32))) (g_w1 : n0 ≤ w1) (ne_w0_w1 : w0 ≠ w1) :
    MetFree l (⟨"com/example/siltstone/siltstone/format/ByteSink", "size", "()I"⟩ : MethodName) (head1 (Jvm.Cond.code (⟨"com/example/siltstone/siltstone/format/ByteSink", "size", "()I"⟩ : MethodName) prog_65_method_2_code 1 (some .int) :: ws) ({ frames := 0, cells := 0, slots := 0, locals := 0 } : Room)) (fun a U => a = #[(.ref w0)] ∧ Z.Warmed39 U.vm ∧ U.heap = h0) (fun _ _ _ _ _ => True) (fun _ U o U' => ∃ v L, o = .returned v ∧ (Fr n0 L ∧ Q_11 Z w0 w1 kw1 p3 p4 p5 p6 p7 p8 p9 p10 p11 p12 p13 p14 p15 h0 n0 v U'.heap) ∧ FrameEnd U o U' L ({ frames := 0, cells := 0, slots := 0, locals := 0 } : Room).cells ({ frames := 0, cells := 0, slots := 0, locals := 0 } : Room).slots) := by
  refine own_enter (Q := Q_11 Z w0 w1 kw1 p3 p4 p5 p6 p7 p8 p9 p10 p11 p12 p13 p14 p15 h0 n0) (F := fun m => mkF m 0 #[.val (.ref w0)] []) (plainFor_of_name pn_0) (fun m => by first | (simp [entryFrame, mkF, argsToLocals, Value.category]; done) | rfl) ?_
  intro p e s m below meth c s₁ B X0
  have K : Keep h0 h0 [] := Keep.refl h0 _
  refine own_aloadN (pc' := 1) B X0 d10_0 rfl rfl rfl ?_
  refine own_getfield (pc' := 4) B X0 (host := "") (Or.inl (own_w hw 21 rfl)) Via.refl F_w0_size d10_1 rfl ?_
  intro T1 X1
  exact own_retI B X1 d10_4 (by decide) (by decide) (⟨rfl, rfl⟩)
def Q_12 (Z : State) (w0 : Addr) (w1 : Addr) (kw1 : ClassId) (p3 : Int32) (p4 : Int32) (p5 : Int32) (p6 : Int32) (p7 : Int32) (p8 : Int32) (p9 : Int32) (p10 : Int32) (p11 : Int32) (p12 : Int32) (p13 : Int32) (p14 : Int32) (p15 : Int32) (h0 : Heap) (n0 : Nat) (v : Option Value) (h : Heap) : Prop :=
  (v = none ∧ Keep h0 h [w0] ∧ Exa Z h w0 "com/example/siltstone/siltstone/format/ByteSink" ∧ Fld Z h w0 "com/example/siltstone/siltstone/format/ByteSink" "bytes" "[B" (.ref w1) ∧ Fld Z h w0 "com/example/siltstone/siltstone/format/ByteSink" "size" "I" (.int (0 : Int32)))
set_option maxRecDepth 65536 in
set_option maxHeartbeats 40000000 in
theorem rm_12 (l : Launch) (Z : State) (a0 : Array Value) (hw : ∀ d ∈ tables_1, d.before a0 Z = true) (ws : List Jvm.Cond) (w0 : Addr) (w1 : Addr) (kw1 : ClassId) (p3 : Int32) (p4 : Int32) (p5 : Int32) (p6 : Int32) (p7 : Int32) (p8 : Int32) (p9 : Int32) (p10 : Int32) (p11 : Int32) (p12 : Int32) (p13 : Int32) (p14 : Int32) (p15 : Int32) (h0 : Heap) (n0 : Nat) (Z0 : n0 ≤ h0.size) (E_w0 : Exa Z h0 w0 "com/example/siltstone/siltstone/format/ByteSink") (F_w0_bytes : Fld Z h0 w0 "com/example/siltstone/siltstone/format/ByteSink" "bytes" "[B" (.ref w1)) (F_w0_size : Fld Z h0 w0 "com/example/siltstone/siltstone/format/ByteSink" "size" "I" (.int (13 : Int32))) (g_w0 : n0 ≤ w0) (E_w1 : Exa Z h0 w1 "[B") (V_w1 : Arv Z h0 w1 kw1 .byte (64 : Int32) [(.int p3), (.int p4), (.int p5), (.int p6), (.int p7), (.int p8), (.int p9), (.int p10), (.int p11), (.int p12), (.int p13), (.int p14), (.int p15)] (.int (0 : Int32))) (g_w1 : n0 ≤ w1) (ne_w0_w1 : w0 ≠ w1) :
    MetFree l (⟨"com/example/siltstone/siltstone/format/ByteSink", "clear", "()V"⟩ : MethodName) (head1 (Jvm.Cond.code (⟨"com/example/siltstone/siltstone/format/ByteSink", "clear", "()V"⟩ : MethodName) prog_65_method_3_code 1 none :: ws) ({ frames := 0, cells := 0, slots := 0, locals := 0 } : Room)) (fun a U => a = #[(.ref w0)] ∧ Z.Warmed39 U.vm ∧ U.heap = h0) (fun _ _ _ _ _ => True) (fun _ U o U' => ∃ v L, o = .returned v ∧ (Fr n0 L ∧ Q_12 Z w0 w1 kw1 p3 p4 p5 p6 p7 p8 p9 p10 p11 p12 p13 p14 p15 h0 n0 v U'.heap) ∧ FrameEnd U o U' L ({ frames := 0, cells := 0, slots := 0, locals := 0 } : Room).cells ({ frames := 0, cells := 0, slots := 0, locals := 0 } : Room).slots) := by
  refine own_enter (Q := Q_12 Z w0 w1 kw1 p3 p4 p5 p6 p7 p8 p9 p10 p11 p12 p13 p14 p15 h0 n0) (F := fun m => mkF m 0 #[.val (.ref w0)] []) (plainFor_of_name pn_0) (fun m => by first | (simp [entryFrame, mkF, argsToLocals, Value.category]; done) | rfl) ?_
  intro p e s m below meth c s₁ B X0
  have K : Keep h0 h0 [w0] := Keep.refl h0 _
  refine own_aloadN (pc' := 1) B X0 d14_0 rfl rfl rfl ?_
  refine own_iconst (pc' := 2) B X0 (z := (0 : Int32)) d14_1 rfl rfl ?_
  refine own_putfield (pc' := 5) B X0 (host := "") (Or.inl (own_w hw 21 rfl)) Via.refl F_w0_size E_w0 g_w0 (Or.inl (own_w hw 22 rfl)) (own_w hw 2 rfl) (ty := .int) (by decide) rfl rfl d14_2 rfl ?_
  intro T1 h1 X1 W1 F_w0_size
  replace E_w0 := E_w0.wr W1
  replace F_w0_bytes := F_w0_bytes.other W1 (Or.inr (slot_ne (Or.inl (own_w hw 11 rfl)) (Or.inl (own_w hw 22 rfl)) (by decide) (t := (.array .byte)) (t' := .int) (by decide) (by decide)))
  replace E_w1 := E_w1.wr W1
  replace V_w1 := V_w1.other W1 (Ne.symm ne_w0_w1)
  replace K := K.wr W1 (Or.inl (List.mem_of_getElem? (i := 0) rfl))
  exact own_ret B X1 d14_5 (by decide) (by decide) (⟨rfl, K, E_w0, F_w0_bytes, F_w0_size⟩)
def Q_15 (Z : State)  (h0 : Heap) (n0 : Nat) (v : Option Value) (h : Heap) : Prop :=
  (v = some (.int (0 : Int32)) ∧ h0 = h)
set_option maxRecDepth 65536 in
set_option maxHeartbeats 40000000 in
theorem rm_15 (l : Launch) (Z : State) (a0 : Array Value) (hw : ∀ d ∈ tables_1, d.before a0 Z = true) (ws : List Jvm.Cond)  (h0 : Heap) (n0 : Nat) (Z0 : n0 ≤ h0.size)  :
    MetFree l (⟨"java/lang/Math", "min", "(II)I"⟩ : MethodName) (head1 (Jvm.Cond.code (⟨"java/lang/Math", "min", "(II)I"⟩ : MethodName) jdk_29_method_69_code 2 (some .int) :: ws) ({ frames := 0, cells := 0, slots := 0, locals := 0 } : Room)) (fun a U => a = #[(.int (64 : Int32)), (.int (0 : Int32))] ∧ Z.Warmed39 U.vm ∧ U.heap = h0) (fun _ _ _ _ _ => True) (fun _ U o U' => ∃ v L, o = .returned v ∧ (Fr n0 L ∧ Q_15 Z  h0 n0 v U'.heap) ∧ FrameEnd U o U' L ({ frames := 0, cells := 0, slots := 0, locals := 0 } : Room).cells ({ frames := 0, cells := 0, slots := 0, locals := 0 } : Room).slots) := by
  refine own_enter (Q := Q_15 Z  h0 n0) (F := fun m => mkF m 0 #[.val (.int (64 : Int32)), .val (.int (0 : Int32))] []) (Jvm.Free.JP.mathPlain rfl (by decide +kernel)) (fun m => by first | (simp [entryFrame, mkF, argsToLocals, Value.category]; done) | rfl) ?_
  intro p e s m below meth c s₁ B X0
  have K : Keep h0 h0 [] := Keep.refl h0 _
  refine own_iloadN (pc' := 1) B X0 d9_0 rfl rfl ?_
  refine own_iloadN (pc' := 2) B X0 d9_1 rfl rfl ?_
  refine own_icmpYes (pc' := 9) B X0 d9_2 (tlt (by decide : (0 : Int32) < (64 : Int32))).2.2.1 (by decide) rfl ?_
  refine own_iloadN (pc' := 10) B X0 d9_9 rfl rfl ?_
  exact own_retI B X0 d9_10 (by decide) (by decide) (⟨rfl, rfl⟩)
def Q_14 (Z : State) (w0 : Addr) (kw0 : ClassId) (p2 : Int32) (p3 : Int32) (p4 : Int32) (p5 : Int32) (p6 : Int32) (p7 : Int32) (p8 : Int32) (p9 : Int32) (p10 : Int32) (p11 : Int32) (p12 : Int32) (p13 : Int32) (p14 : Int32) (h0 : Heap) (n0 : Nat) (v : Option Value) (h : Heap) : Prop :=
  (∃ (b1 : Addr) (kb1 : ClassId), v = some (.ref b1) ∧ Keep h0 h [] ∧ h0.size ≤ b1 ∧ Exa Z h b1 "[B" ∧ Arv Z h b1 kb1 .byte (0 : Int32) [] (.int (0 : Int32)))
set_option maxRecDepth 65536 in
set_option maxHeartbeats 40000000 in
theorem rm_14 (l : Launch) (Z : State) (a0 : Array Value) (hw : ∀ d ∈ tables_1, d.before a0 Z = true) (ws : List Jvm.Cond) (w0 : Addr) (kw0 : ClassId) (p2 : Int32) (p3 : Int32) (p4 : Int32) (p5 : Int32) (p6 : Int32) (p7 : Int32) (p8 : Int32) (p9 : Int32) (p10 : Int32) (p11 : Int32) (p12 : Int32) (p13 : Int32) (p14 : Int32) (h0 : Heap) (n0 : Nat) (Z0 : n0 ≤ h0.size) (E_w0 : Exa Z h0 w0 "[B") (V_w0 : Arv Z h0 w0 kw0 .byte (64 : Int32) [(.int p2), (.int p3), (.int p4), (.int p5), (.int p6), (.int p7), (.int p8), (.int p9), (.int p10), (.int p11), (.int p12), (.int p13), (.int p14)] (.int (0 : Int32))) (g_w0 : n0 ≤ w0) :
    MetFree l (⟨"java/util/Arrays", "copyOf", "([BI)[B"⟩ : MethodName) (head1 (Jvm.Cond.code (⟨"java/util/Arrays", "copyOf", "([BI)[B"⟩ : MethodName) jdk_65_method_121_code 3 (some (.array .byte)) :: ws) ({ frames := 1, cells := 1, slots := 0, locals := 40 } : Room)) (fun a U => a = #[(.ref w0), (.int (0 : Int32))] ∧ Z.Warmed39 U.vm ∧ U.heap = h0) (fun _ _ _ _ _ => True) (fun _ U o U' => ∃ v L, o = .returned v ∧ (Fr n0 L ∧ Q_14 Z w0 kw0 p2 p3 p4 p5 p6 p7 p8 p9 p10 p11 p12 p13 p14 h0 n0 v U'.heap) ∧ FrameEnd U o U' L ({ frames := 1, cells := 1, slots := 0, locals := 40 } : Room).cells ({ frames := 1, cells := 1, slots := 0, locals := 40 } : Room).slots) := by
  refine own_enter (Q := Q_14 Z w0 kw0 p2 p3 p4 p5 p6 p7 p8 p9 p10 p11 p12 p13 p14 h0 n0) (F := fun m => mkF m 0 #[.val (.ref w0), .val (.int (0 : Int32)), .unset] []) (plainFor_of_name pn_1) (fun m => by first | (simp [entryFrame, mkF, argsToLocals, Value.category]; done) | rfl) ?_
  intro p e s m below meth c s₁ B X0
  have K : Keep h0 h0 [] := Keep.refl h0 _
  refine own_iloadN (pc' := 1) B X0 d8_0 rfl rfl ?_
  refine own_aloadN (pc' := 2) B X0 d8_1 rfl rfl rfl ?_
  refine own_arraylength (pc' := 3) B X0 V_w0 d8_2 rfl ?_
  refine own_icmpYes (pc' := 14) B X0 d8_3 (feq (by decide : ¬ ((0 : Int32) = (64 : Int32)))).2 (by decide) rfl ?_
  refine own_iloadN (pc' := 15) B X0 d8_14 rfl rfl ?_
  refine own_newarray (pc' := 17) B X0 (own_w hw 0 rfl) d8_15 rfl rfl (by decide) 0 (by decide) (by decide) (k' := 1) (n' := 0) rfl rfl (by decide) (by decide) "[B" (by decide) (.int (0 : Int32)) rfl ?_
  intro T1 h1 b1 kb1 X1 g1 E1 V_b1 E_b1
  have ne_w0_b1 : w0 ≠ b1 := own_ne E_w0.lt g1
  have sz_b1 : h0.size ≤ b1 := own_sz K g1
  have g_b1 : n0 ≤ b1 := Nat.le_trans Z0 sz_b1
  replace K := K.ext E1
  replace E_w0 := E_w0.ext E1
  replace V_w0 := V_w0.ext E1
  refine own_astoreN (pc' := 18) B X1 (Ls' := #[.val (.ref w0), .val (.int (0 : Int32)), .val (.ref b1)]) d8_17 rfl rfl rfl ?_
  refine own_aloadN (pc' := 19) B X1 d8_18 rfl rfl rfl ?_
  refine own_iconst (pc' := 20) B X1 (z := (0 : Int32)) d8_19 rfl rfl ?_
  refine own_aloadN (pc' := 21) B X1 d8_20 rfl rfl rfl ?_
  refine own_iconst (pc' := 22) B X1 (z := (0 : Int32)) d8_21 rfl rfl ?_
  refine own_aloadN (pc' := 23) B X1 d8_22 rfl rfl rfl ?_
  refine own_arraylength (pc' := 24) B X1 V_w0 d8_23 rfl ?_
  refine own_iloadN (pc' := 25) B X1 d8_24 rfl rfl ?_
  refine own_callS (pc' := 28) B X1 (own_w hw 42 rfl) (own_w hw 43 rfl) (own_w hw 44 rfl) (own_w hw 45 rfl) (by decide) [(.int (64 : Int32)), (.int (0 : Int32))] [(.int (0 : Int32)), (.ref b1), (.int (0 : Int32)), (.ref w0)] (rm_15 l Z a0 hw []  h1 n0 (Nat.le_trans Z0 K.1) ) 4 (by decide) (by decide) rfl pd_3 rfl rfl (Nat.le_of_eq rfl) d8_25 rfl (k' := 1) (n' := 0) rfl rfl (by decide) (by decide) ?_
  intro T2 v2 h2 X2 q2
  obtain ⟨rfl, rfl⟩ := q2
  show own_Go p e below (T2.setTop (mkF m 28 #[.val (.ref w0), .val (.int (0 : Int32)), .val (.ref b1)] [(.int (0 : Int32)), (.int (0 : Int32)), (.ref b1), (.int (0 : Int32)), (.ref w0)])) _
  refine own_arraycopy (pc' := 31) B X2 (own_w hw 46 rfl) (own_w hw 49 rfl) (own_w hw 47 rfl) (own_w hw 48 rfl) V_w0 V_b1 rfl g_b1 (by decide) (by decide) (by decide) (by decide) (by decide) (us := []) rfl (Nat.le_of_ble_eq_true rfl) (rs := []) rfl d8_28 rfl rfl (by decide) 0 (Nat.le_of_eq rfl) (by decide) ?_
  intro T3 h3 X3 K3 V_b1
  replace K := K.trans K3 (allS (Or.inr sz_b1) all0)
  replace E_w0 := E_w0.keep K3
  replace V_w0 := V_w0.keep K3 (ninS ne_w0_b1 nin0)
  replace E_b1 := E_b1.keep K3
  refine own_aloadN (pc' := 32) B X3 d8_31 rfl rfl rfl ?_
  exact own_retA B X3 (t := (.array .byte)) rfl rfl rfl d8_32 (by decide) (by decide) (⟨b1, kb1, rfl, K, sz_b1, E_b1, V_b1⟩)
def Q_13 (Z : State) (w0 : Addr) (w1 : Addr) (kw1 : ClassId) (p3 : Int32) (p4 : Int32) (p5 : Int32) (p6 : Int32) (p7 : Int32) (p8 : Int32) (p9 : Int32) (p10 : Int32) (p11 : Int32) (p12 : Int32) (p13 : Int32) (p14 : Int32) (p15 : Int32) (h0 : Heap) (n0 : Nat) (v : Option Value) (h : Heap) : Prop :=
  (∃ (b4 : Addr) (k5 : ClassId), v = some (.ref b4) ∧ Keep h0 h [] ∧ h0.size ≤ b4 ∧ Exa Z h b4 "[B" ∧ Arv Z h b4 k5 .byte (0 : Int32) [] (.int (0 : Int32)))
set_option maxRecDepth 65536 in
set_option maxHeartbeats 40000000 in
theorem rm_13 (l : Launch) (Z : State) (a0 : Array Value) (hw : ∀ d ∈ tables_1, d.before a0 Z = true) (ws : List Jvm.Cond) (w0 : Addr) (w1 : Addr) (kw1 : ClassId) (p3 : Int32) (p4 : Int32) (p5 : Int32) (p6 : Int32) (p7 : Int32) (p8 : Int32) (p9 : Int32) (p10 : Int32) (p11 : Int32) (p12 : Int32) (p13 : Int32) (p14 : Int32) (p15 : Int32) (h0 : Heap) (n0 : Nat) (Z0 : n0 ≤ h0.size) (E_w0 : Exa Z h0 w0 "com/example/siltstone/siltstone/format/ByteSink") (F_w0_bytes : Fld Z h0 w0 "com/example/siltstone/siltstone/format/ByteSink" "bytes" "[B" (.ref w1)) (F_w0_size : Fld Z h0 w0 "com/example/siltstone/siltstone/format/ByteSink" "size" "I" (.int (0 : Int32))) (g_w0 : n0 ≤ w0) (E_w1 : Exa Z h0 w1 "[B") (V_w1 : Arv Z h0 w1 kw1 .byte (64 : Int32) [(.int p3), (.int p4), (.int p5), (.int p6), (.int p7), (.int p8), (.int p9), (.int p10), (.int p11), (.int p12), (.int p13), (.int p14), (.int p15)] (.int (0 : Int32))) (g_w1 : n0 ≤ w1) (ne_w0_w1 : w0 ≠ w1) :
    MetFree l (⟨"com/example/siltstone/siltstone/format/ByteSink", "toByteArray", "()[B"⟩ : MethodName) (head1 (Jvm.Cond.code (⟨"com/example/siltstone/siltstone/format/ByteSink", "toByteArray", "()[B"⟩ : MethodName) prog_65_method_4_code 1 (some (.array .byte)) :: ws) ({ frames := 2, cells := 1, slots := 0, locals := 54 } : Room)) (fun a U => a = #[(.ref w0)] ∧ Z.Warmed39 U.vm ∧ U.heap = h0) (fun _ _ _ _ _ => True) (fun _ U o U' => ∃ v L, o = .returned v ∧ (Fr n0 L ∧ Q_13 Z w0 w1 kw1 p3 p4 p5 p6 p7 p8 p9 p10 p11 p12 p13 p14 p15 h0 n0 v U'.heap) ∧ FrameEnd U o U' L ({ frames := 2, cells := 1, slots := 0, locals := 54 } : Room).cells ({ frames := 2, cells := 1, slots := 0, locals := 54 } : Room).slots) := by
  refine own_enter (Q := Q_13 Z w0 w1 kw1 p3 p4 p5 p6 p7 p8 p9 p10 p11 p12 p13 p14 p15 h0 n0) (F := fun m => mkF m 0 #[.val (.ref w0)] []) (plainFor_of_name pn_0) (fun m => by first | (simp [entryFrame, mkF, argsToLocals, Value.category]; done) | rfl) ?_
  intro p e s m below meth c s₁ B X0
  have K : Keep h0 h0 [] := Keep.refl h0 _
  refine own_aloadN (pc' := 1) B X0 d7_0 rfl rfl rfl ?_
  refine own_getfield (pc' := 4) B X0 (host := "") (Or.inl (own_w hw 10 rfl)) Via.refl F_w0_bytes d7_1 rfl ?_
  intro T1 X1
  refine own_aloadN (pc' := 5) B X1 d7_4 rfl rfl rfl ?_
  refine own_getfield (pc' := 8) B X1 (host := "") (Or.inl (own_w hw 21 rfl)) Via.refl F_w0_size d7_5 rfl ?_
  intro T2 X2
  refine own_callS (pc' := 11) B X2 (own_w hw 38 rfl) (own_w hw 39 rfl) (own_w hw 40 rfl) (own_w hw 41 rfl) (by decide) [(.ref w1), (.int (0 : Int32))] [] (rm_14 l Z a0 hw [] w1 kw1 (p3) (p4) (p5) (p6) (p7) (p8) (p9) (p10) (p11) (p12) (p13) (p14) (p15) h0 n0 (Nat.le_trans Z0 K.1) E_w1 V_w1 g_w1) 0 (by decide) (by decide) rfl pd_4 rfl rfl (Nat.le_of_eq rfl) d7_8 rfl (k' := 1) (n' := 0) rfl rfl (by decide) (by decide) ?_
  intro T3 v3 h3 X3 q3
  have lt_w0 := E_w0.lt
  have lt_w1 := E_w1.lt
  obtain ⟨b4, k5, rfl, K3, z_b4, E_b4, V_b4⟩ := q3
  have ne_w0_b4 : w0 ≠ b4 := own_ne' lt_w0 z_b4
  have ne_w1_b4 : w1 ≠ b4 := own_ne' lt_w1 z_b4
  have sz_b4 : h0.size ≤ b4 := Nat.le_trans K.1 z_b4
  have g_b4 : n0 ≤ b4 := Nat.le_trans Z0 sz_b4
  replace K := K.trans K3 all0
  replace E_w0 := E_w0.keep K3
  replace F_w0_bytes := F_w0_bytes.keep K3 nin0
  replace F_w0_size := F_w0_size.keep K3 nin0
  replace E_w1 := E_w1.keep K3
  replace V_w1 := V_w1.keep K3 nin0
  show own_Go p e below (T3.setTop (mkF m 11 #[.val (.ref w0)] [(.ref b4)])) _
  exact own_retA B X3 (t := (.array .byte)) rfl rfl rfl d7_11 (by decide) (by decide) (⟨b4, k5, rfl, K, sz_b4, E_b4, V_b4⟩)
def Q_16 (Z : State) (w0 : Addr) (w1 : Addr) (kw1 : ClassId) (p3 : Int32) (p4 : Int32) (p5 : Int32) (p6 : Int32) (p7 : Int32) (p8 : Int32) (p9 : Int32) (p10 : Int32) (p11 : Int32) (p12 : Int32) (p13 : Int32) (p14 : Int32) (p15 : Int32) (h0 : Heap) (n0 : Nat) (v : Option Value) (h : Heap) : Prop :=
  (v = some (.int (0 : Int32)) ∧ h0 = h)
set_option maxRecDepth 65536 in
set_option maxHeartbeats 40000000 in
theorem rm_16 (l : Launch) (Z : State) (a0 : Array Value) (hw : ∀ d ∈ tables_1, d.before a0 Z = true) (ws : List Jvm.Cond) (w0 : Addr) (w1 : Addr) (kw1 : ClassId) (p3 : Int32) (p4 : Int32) (p5 : Int32) (p6 : Int32) (p7 : Int32) (p8 : Int32) (p9 : Int32) (p10 : Int32) (p11 : Int32) (p12 : Int32) (p13 : Int32) (p14 : Int32) (p15 : Int32) (h0 : Heap) (n0 : Nat) (Z0 : n0 ≤ h0.size) (E_w0 : Exa Z h0 w0 "com/example/siltstone/siltstone/format/ByteSink") (F_w0_bytes : Fld Z h0 w0 "com/example/siltstone/siltstone/format/ByteSink" "bytes" "[B" (.ref w1)) (F_w0_size : Fld Z h0 w0 "com/example/siltstone/siltstone/format/ByteSink" "size" "I" (.int (0 : Int32))) (g_w0 : n0 ≤ w0) (E_w1 : Exa Z h0 w1 "[B") (V_w1 : Arv Z h0 w1 kw1 .byte (64 : Int32) [(.int p3), (.int p4), (.int p5), (.int p6), (.int p7), (.int p8), (.int p9), (.int p10), (.int p11), (.int p12), (.int p13), (.int p14), (.int p15)] (.int (0 : Int32))) (g_w1 : n0 ≤ w1) (ne_w0_w1 : w0 ≠ w1) :
    MetFree l (⟨"com/example/siltstone/siltstone/format/ByteSink", "size", "()I"⟩ : MethodName) (head1 (Jvm.Cond.code (⟨"com/example/siltstone/siltstone/format/ByteSink", "size", "()I"⟩ : MethodName) prog_65_method_2_code 1 (some .int) :: ws) ({ frames := 0, cells := 0, slots := 0, locals := 0 } : Room)) (fun a U => a = #[(.ref w0)] ∧ Z.Warmed39 U.vm ∧ U.heap = h0) (fun _ _ _ _ _ => True) (fun _ U o U' => ∃ v L, o = .returned v ∧ (Fr n0 L ∧ Q_16 Z w0 w1 kw1 p3 p4 p5 p6 p7 p8 p9 p10 p11 p12 p13 p14 p15 h0 n0 v U'.heap) ∧ FrameEnd U o U' L ({ frames := 0, cells := 0, slots := 0, locals := 0 } : Room).cells ({ frames := 0, cells := 0, slots := 0, locals := 0 } : Room).slots) := by
  refine own_enter (Q := Q_16 Z w0 w1 kw1 p3 p4 p5 p6 p7 p8 p9 p10 p11 p12 p13 p14 p15 h0 n0) (F := fun m => mkF m 0 #[.val (.ref w0)] []) (plainFor_of_name pn_0) (fun m => by first | (simp [entryFrame, mkF, argsToLocals, Value.category]; done) | rfl) ?_
  intro p e s m below meth c s₁ B X0
  have K : Keep h0 h0 [] := Keep.refl h0 _
  refine own_aloadN (pc' := 1) B X0 d10_0 rfl rfl rfl ?_
  refine own_getfield (pc' := 4) B X0 (host := "") (Or.inl (own_w hw 21 rfl)) Via.refl F_w0_size d10_1 rfl ?_
  intro T1 X1
  exact own_retI B X1 d10_4 (by decide) (by decide) (⟨rfl, rfl⟩)
def Q_18 (Z : State) (w0 : Addr) (w1 : Addr) (kw1 : ClassId) (p3 : Int32) (p4 : Int32) (p5 : Int32) (p6 : Int32) (p7 : Int32) (p8 : Int32) (p9 : Int32) (p10 : Int32) (p11 : Int32) (p12 : Int32) (p13 : Int32) (p14 : Int32) (p15 : Int32) (h0 : Heap) (n0 : Nat) (v : Option Value) (h : Heap) : Prop :=
  (v = none ∧ h0 = h)
set_option maxRecDepth 65536 in
set_option maxHeartbeats 40000000 in
theorem rm_18 (l : Launch) (Z : State) (a0 : Array Value) (hw : ∀ d ∈ tables_1, d.before a0 Z = true) (ws : List Jvm.Cond) (w0 : Addr) (w1 : Addr) (kw1 : ClassId) (p3 : Int32) (p4 : Int32) (p5 : Int32) (p6 : Int32) (p7 : Int32) (p8 : Int32) (p9 : Int32) (p10 : Int32) (p11 : Int32) (p12 : Int32) (p13 : Int32) (p14 : Int32) (p15 : Int32) (h0 : Heap) (n0 : Nat) (Z0 : n0 ≤ h0.size) (E_w0 : Exa Z h0 w0 "com/example/siltstone/siltstone/format/ByteSink") (F_w0_bytes : Fld Z h0 w0 "com/example/siltstone/siltstone/format/ByteSink" "bytes" "[B" (.ref w1)) (F_w0_size : Fld Z h0 w0 "com/example/siltstone/siltstone/format/ByteSink" "size" "I" (.int (0 : Int32))) (g_w0 : n0 ≤ w0) (E_w1 : Exa Z h0 w1 "[B") (V_w1 : Arv Z h0 w1 kw1 .byte (64 : Int32) [(.int p3), (.int p4), (.int p5), (.int p6), (.int p7), (.int p8), (.int p9), (.int p10), (.int p11), (.int p12), (.int p13), (.int p14), (.int p15)] (.int (0 : Int32))) (g_w1 : n0 ≤ w1) (ne_w0_w1 : w0 ≠ w1) :
    MetFree l (⟨"com/example/siltstone/siltstone/format/ByteSink", "ensure", "(I)V"⟩ : MethodName) (head1 (Jvm.Cond.code (⟨"com/example/siltstone/siltstone/format/ByteSink", "ensure", "(I)V"⟩ : MethodName) prog_65_method_12_code 4 none :: ws) ({ frames := 0, cells := 0, slots := 0, locals := 0 } : Room)) (fun a U => a = #[(.ref w0), (.int (1 : Int32))] ∧ Z.Warmed39 U.vm ∧ U.heap = h0) (fun _ _ _ _ _ => True) (fun _ U o U' => ∃ v L, o = .returned v ∧ (Fr n0 L ∧ Q_18 Z w0 w1 kw1 p3 p4 p5 p6 p7 p8 p9 p10 p11 p12 p13 p14 p15 h0 n0 v U'.heap) ∧ FrameEnd U o U' L ({ frames := 0, cells := 0, slots := 0, locals := 0 } : Room).cells ({ frames := 0, cells := 0, slots := 0, locals := 0 } : Room).slots) := by
  refine own_enter (Q := Q_18 Z w0 w1 kw1 p3 p4 p5 p6 p7 p8 p9 p10 p11 p12 p13 p14 p15 h0 n0) (F := fun m => mkF m 0 #[.val (.ref w0), .val (.int (1 : Int32)), .unset, .unset] []) (plainFor_of_name pn_0) (fun m => by first | (simp [entryFrame, mkF, argsToLocals, Value.category]; done) | rfl) ?_
  intro p e s m below meth c s₁ B X0
  have K : Keep h0 h0 [] := Keep.refl h0 _
  refine own_iloadN (pc' := 1) B X0 d4_0 rfl rfl ?_
  refine own_aloadN (pc' := 2) B X0 d4_1 rfl rfl rfl ?_
  refine own_getfield (pc' := 5) B X0 (host := "") (Or.inl (own_w hw 10 rfl)) Via.refl F_w0_bytes d4_2 rfl ?_
  intro T1 X1
  refine own_arraylength (pc' := 6) B X1 V_w1 d4_5 rfl ?_
  refine own_aloadN (pc' := 7) B X1 d4_6 rfl rfl rfl ?_
  refine own_getfield (pc' := 10) B X1 (host := "") (Or.inl (own_w hw 21 rfl)) Via.refl F_w0_size d4_7 rfl ?_
  intro T2 X2
  refine own_isub (pc' := 11) B X2 (z := (64 : Int32)) d4_10 rfl (by decide) ?_
  refine own_icmpYes (pc' := 67) B X2 d4_11 (flt (by decide : ¬ ((64 : Int32) < (1 : Int32)))).2.2.2 (by decide) rfl ?_
  exact own_ret B X2 d4_67 (by decide) (by decide) (⟨rfl, rfl⟩)
def Q_17 (Z : State) (w0 : Addr) (w1 : Addr) (kw1 : ClassId) (p3 : Int32) (p4 : Int32) (p5 : Int32) (p6 : Int32) (p7 : Int32) (p8 : Int32) (p9 : Int32) (p10 : Int32) (p11 : Int32) (p12 : Int32) (p13 : Int32) (p14 : Int32) (p15 : Int32) (p16 : Int32) (h0 : Heap) (n0 : Nat) (v : Option Value) (h : Heap) : Prop :=
  (∃ (y5 : Int32), p16.toInt8.toInt32 = y5 ∧ v = none ∧ Keep h0 h [w0, w1] ∧ Exa Z h w0 "com/example/siltstone/siltstone/format/ByteSink" ∧ Fld Z h w0 "com/example/siltstone/siltstone/format/ByteSink" "bytes" "[B" (.ref w1) ∧ Fld Z h w0 "com/example/siltstone/siltstone/format/ByteSink" "size" "I" (.int (1 : Int32)) ∧ Exa Z h w1 "[B" ∧ Arv Z h w1 kw1 .byte (64 : Int32) [(.int y5), (.int p4), (.int p5), (.int p6), (.int p7), (.int p8), (.int p9), (.int p10), (.int p11), (.int p12), (.int p13), (.int p14), (.int p15)] (.int (0 : Int32)))
set_option maxRecDepth 65536 in
set_option maxHeartbeats 40000000 in
theorem rm_17 (l : Launch) (Z : State) (a0 : Array Value) (hw : ∀ d ∈ tables_1, d.before a0 Z = true) (ws : List Jvm.Cond) (w0 : Addr) (w1 : Addr) (kw1 : ClassId) (p3 : Int32) (p4 : Int32) (p5 : Int32) (p6 : Int32) (p7 : Int32) (p8 : Int32) (p9 : Int32) (p10 : Int32) (p11 : Int32) (p12 : Int32) (p13 : Int32) (p14 : Int32) (p15 : Int32) (p16 : Int32) (h0 : Heap) (n0 : Nat) (Z0 : n0 ≤ h0.size) (E_w0 : Exa Z h0 w0 "com/example/siltstone/siltstone/format/ByteSink") (F_w0_bytes : Fld Z h0 w0 "com/example/siltstone/siltstone/format/ByteSink" "bytes" "[B" (.ref w1)) (F_w0_size : Fld Z h0 w0 "com/example/siltstone/siltstone/format/ByteSink" "size" "I" (.int (0 : Int32))) (g_w0 : n0 ≤ w0) (E_w1 : Exa Z h0 w1 "[B") (V_w1 : Arv Z h0 w1 kw1 .byte (64 : Int32) [(.int p3), (.int p4), (.int p5), (.int p6), (.int p7), (.int p8), (.int p9), (.int p10), (.int p11), (.int p12), (.int p13), (.int p14), (.int p15)] (.int (0 : Int32))) (g_w1 : n0 ≤ w1) (ne_w0_w1 : w0 ≠ w1) :
    MetFree l (⟨"com/example/siltstone/siltstone/format/ByteSink", "writeByte", "(I)V"⟩ : MethodName) (head1 (Jvm.Cond.code (⟨"com/example/siltstone/siltstone/format/ByteSink", "writeByte", "(I)V"⟩ : MethodName) prog_65_method_6_code 2 none :: ws) ({ frames := 1, cells := 0, slots := 0, locals := 15 } : Room)) (fun a U => a = #[(.ref w0), (.int p16)] ∧ Z.Warmed39 U.vm ∧ U.heap = h0) (fun _ _ _ _ _ => True) (fun _ U o U' => ∃ v L, o = .returned v ∧ (Fr n0 L ∧ Q_17 Z w0 w1 kw1 p3 p4 p5 p6 p7 p8 p9 p10 p11 p12 p13 p14 p15 p16 h0 n0 v U'.heap) ∧ FrameEnd U o U' L ({ frames := 1, cells := 0, slots := 0, locals := 15 } : Room).cells ({ frames := 1, cells := 0, slots := 0, locals := 15 } : Room).slots) := by
  refine own_enter (Q := Q_17 Z w0 w1 kw1 p3 p4 p5 p6 p7 p8 p9 p10 p11 p12 p13 p14 p15 p16 h0 n0) (F := fun m => mkF m 0 #[.val (.ref w0), .val (.int p16)] []) (plainFor_of_name pn_0) (fun m => by first | (simp [entryFrame, mkF, argsToLocals, Value.category]; done) | rfl) ?_
  intro p e s m below meth c s₁ B X0
  have K : Keep h0 h0 [w0, w1] := Keep.refl h0 _
  refine own_aloadN (pc' := 1) B X0 d6_0 rfl rfl rfl ?_
  refine own_iconst (pc' := 2) B X0 (z := (1 : Int32)) d6_1 rfl rfl ?_
  refine own_callP (pc' := 5) B X0 (own_w hw 17 rfl) (own_w hw 18 rfl) (own_w hw 19 rfl) (own_w hw 2 rfl) (own_w hw 3 rfl) (own_w hw 20 rfl) E_w0 (by decide) [(.int (1 : Int32))] [] (rm_18 l Z a0 hw [] w0 w1 kw1 (p3) (p4) (p5) (p6) (p7) (p8) (p9) (p10) (p11) (p12) (p13) (p14) (p15) h0 n0 (Nat.le_trans Z0 K.1) E_w0 F_w0_bytes F_w0_size g_w0 E_w1 V_w1 g_w1 ne_w0_w1) 0 (by decide) (by decide) rfl pd_1 rfl rfl (Nat.le_of_eq rfl) d6_2 rfl (k' := 0) (n' := 0) rfl rfl (by decide) (by decide) ?_
  intro T1 v1 h1 X1 q1
  obtain ⟨rfl, rfl⟩ := q1
  show own_Go p e below (T1.setTop (mkF m 5 #[.val (.ref w0), .val (.int p16)] [])) _
  refine own_aloadN (pc' := 6) B X1 d6_5 rfl rfl rfl ?_
  refine own_getfield (pc' := 9) B X1 (host := "") (Or.inl (own_w hw 10 rfl)) Via.refl F_w0_bytes d6_6 rfl ?_
  intro T2 X2
  refine own_aloadN (pc' := 10) B X2 d6_9 rfl rfl rfl ?_
  refine own_dup (pc' := 11) B X2 d6_10 rfl rfl ?_
  refine own_getfield (pc' := 14) B X2 (host := "") (Or.inl (own_w hw 21 rfl)) Via.refl F_w0_size d6_11 rfl ?_
  intro T3 X3
  refine own_dup_x1 (pc' := 15) B X3 d6_14 rfl rfl rfl ?_
  refine own_iconst (pc' := 16) B X3 (z := (1 : Int32)) d6_15 rfl rfl ?_
  refine own_iadd (pc' := 17) B X3 (z := (1 : Int32)) d6_16 rfl (by decide) ?_
  refine own_putfield (pc' := 20) B X3 (host := "") (Or.inl (own_w hw 21 rfl)) Via.refl F_w0_size E_w0 g_w0 (Or.inl (own_w hw 22 rfl)) (own_w hw 2 rfl) (ty := .int) (by decide) rfl rfl d6_17 rfl ?_
  intro T4 h4 X4 W4 F_w0_size
  replace E_w0 := E_w0.wr W4
  replace F_w0_bytes := F_w0_bytes.other W4 (Or.inr (slot_ne (Or.inl (own_w hw 11 rfl)) (Or.inl (own_w hw 22 rfl)) (by decide) (t := (.array .byte)) (t' := .int) (by decide) (by decide)))
  replace E_w1 := E_w1.wr W4
  replace V_w1 := V_w1.other W4 (Ne.symm ne_w0_w1)
  replace K := K.wr W4 (Or.inl (List.mem_of_getElem? (i := 0) rfl))
  refine own_iloadN (pc' := 21) B X4 d6_20 rfl rfl ?_
  obtain ⟨y5, hy5⟩ : ∃ z : Int32, p16.toInt8.toInt32 = z := ⟨_, rfl⟩
  refine own_i2b (pc' := 22) B X4 d6_21 rfl hy5 ?_
  refine own_bastore (pc' := 23) B X4 (x' := y5) V_w1 g_w1 ⟨by decide, by decide⟩ 0 (by decide) (Nat.le_of_ble_eq_true rfl) (own_idem_i2b hy5) d6_22 rfl ?_
  intro T6 h6 X6 W6 V_w1
  replace V_w1 : Arv Z h6 w1 kw1 .byte (64 : Int32) [(.int y5), (.int p4), (.int p5), (.int p6), (.int p7), (.int p8), (.int p9), (.int p10), (.int p11), (.int p12), (.int p13), (.int p14), (.int p15)] (.int (0 : Int32)) := V_w1
  replace E_w0 := E_w0.wr W6
  replace F_w0_bytes := F_w0_bytes.other W6 (Or.inl ne_w0_w1)
  replace F_w0_size := F_w0_size.other W6 (Or.inl ne_w0_w1)
  replace E_w1 := E_w1.wr W6
  replace K := K.wr W6 (Or.inl (List.mem_of_getElem? (i := 1) rfl))
  exact own_ret B X6 d6_23 (by decide) (by decide) (⟨y5, hy5, rfl, K, E_w0, F_w0_bytes, F_w0_size, E_w1, V_w1⟩)
def Q_21 (Z : State)  (h0 : Heap) (n0 : Nat) (v : Option Value) (h : Heap) : Prop :=
  (v = some (.int (1 : Int32)) ∧ h0 = h)
set_option maxRecDepth 65536 in
set_option maxHeartbeats 40000000 in
theorem rm_21 (l : Launch) (Z : State) (a0 : Array Value) (hw : ∀ d ∈ tables_1, d.before a0 Z = true) (ws : List Jvm.Cond)  (h0 : Heap) (n0 : Nat) (Z0 : n0 ≤ h0.size)  :
    MetFree l (⟨"java/lang/Math", "min", "(II)I"⟩ : MethodName) (head1 (Jvm.Cond.code (⟨"java/lang/Math", "min", "(II)I"⟩ : MethodName) jdk_29_method_69_code 2 (some .int) :: ws) ({ frames := 0, cells := 0, slots := 0, locals := 0 } : Room)) (fun a U => a = #[(.int (64 : Int32)), (.int (1 : Int32))] ∧ Z.Warmed39 U.vm ∧ U.heap = h0) (fun _ _ _ _ _ => True) (fun _ U o U' => ∃ v L, o = .returned v ∧ (Fr n0 L ∧ Q_21 Z  h0 n0 v U'.heap) ∧ FrameEnd U o U' L ({ frames := 0, cells := 0, slots := 0, locals := 0 } : Room).cells ({ frames := 0, cells := 0, slots := 0, locals := 0 } : Room).slots) := by
  refine own_enter (Q := Q_21 Z  h0 n0) (F := fun m => mkF m 0 #[.val (.int (64 : Int32)), .val (.int (1 : Int32))] []) (Jvm.Free.JP.mathPlain rfl (by decide +kernel)) (fun m => by first | (simp [entryFrame, mkF, argsToLocals, Value.category]; done) | rfl) ?_
  intro p e s m below meth c s₁ B X0
  have K : Keep h0 h0 [] := Keep.refl h0 _
  refine own_iloadN (pc' := 1) B X0 d9_0 rfl rfl ?_
  refine own_iloadN (pc' := 2) B X0 d9_1 rfl rfl ?_
  refine own_icmpYes (pc' := 9) B X0 d9_2 (tlt (by decide : (1 : Int32) < (64 : Int32))).2.2.1 (by decide) rfl ?_
  refine own_iloadN (pc' := 10) B X0 d9_9 rfl rfl ?_
  exact own_retI B X0 d9_10 (by decide) (by decide) (⟨rfl, rfl⟩)
def Q_20 (Z : State) (w0 : Addr) (kw0 : ClassId) (p2 : Int32) (p3 : Int32) (p4 : Int32) (p5 : Int32) (p6 : Int32) (p7 : Int32) (p8 : Int32) (p9 : Int32) (p10 : Int32) (p11 : Int32) (p12 : Int32) (p13 : Int32) (p14 : Int32) (h0 : Heap) (n0 : Nat) (v : Option Value) (h : Heap) : Prop :=
  (∃ (b1 : Addr) (kb1 : ClassId), v = some (.ref b1) ∧ Keep h0 h [] ∧ h0.size ≤ b1 ∧ Exa Z h b1 "[B" ∧ Arv Z h b1 kb1 .byte (1 : Int32) [(.int p2)] (.int (0 : Int32)))
set_option maxRecDepth 65536 in
set_option maxHeartbeats 40000000 in
theorem rm_20 (l : Launch) (Z : State) (a0 : Array Value) (hw : ∀ d ∈ tables_1, d.before a0 Z = true) (ws : List Jvm.Cond) (w0 : Addr) (kw0 : ClassId) (p2 : Int32) (p3 : Int32) (p4 : Int32) (p5 : Int32) (p6 : Int32) (p7 : Int32) (p8 : Int32) (p9 : Int32) (p10 : Int32) (p11 : Int32) (p12 : Int32) (p13 : Int32) (p14 : Int32) (h0 : Heap) (n0 : Nat) (Z0 : n0 ≤ h0.size) (E_w0 : Exa Z h0 w0 "[B") (V_w0 : Arv Z h0 w0 kw0 .byte (64 : Int32) [(.int p2), (.int p3), (.int p4), (.int p5), (.int p6), (.int p7), (.int p8), (.int p9), (.int p10), (.int p11), (.int p12), (.int p13), (.int p14)] (.int (0 : Int32))) (g_w0 : n0 ≤ w0) :
    MetFree l (⟨"java/util/Arrays", "copyOf", "([BI)[B"⟩ : MethodName) (head1 (Jvm.Cond.code (⟨"java/util/Arrays", "copyOf", "([BI)[B"⟩ : MethodName) jdk_65_method_121_code 3 (some (.array .byte)) :: ws) ({ frames := 1, cells := 1, slots := 1, locals := 40 } : Room)) (fun a U => a = #[(.ref w0), (.int (1 : Int32))] ∧ Z.Warmed39 U.vm ∧ U.heap = h0) (fun _ _ _ _ _ => True) (fun _ U o U' => ∃ v L, o = .returned v ∧ (Fr n0 L ∧ Q_20 Z w0 kw0 p2 p3 p4 p5 p6 p7 p8 p9 p10 p11 p12 p13 p14 h0 n0 v U'.heap) ∧ FrameEnd U o U' L ({ frames := 1, cells := 1, slots := 1, locals := 40 } : Room).cells ({ frames := 1, cells := 1, slots := 1, locals := 40 } : Room).slots) := by
  refine own_enter (Q := Q_20 Z w0 kw0 p2 p3 p4 p5 p6 p7 p8 p9 p10 p11 p12 p13 p14 h0 n0) (F := fun m => mkF m 0 #[.val (.ref w0), .val (.int (1 : Int32)), .unset] []) (plainFor_of_name pn_1) (fun m => by first | (simp [entryFrame, mkF, argsToLocals, Value.category]; done) | rfl) ?_
  intro p e s m below meth c s₁ B X0
  have K : Keep h0 h0 [] := Keep.refl h0 _
  refine own_iloadN (pc' := 1) B X0 d8_0 rfl rfl ?_
  refine own_aloadN (pc' := 2) B X0 d8_1 rfl rfl rfl ?_
  refine own_arraylength (pc' := 3) B X0 V_w0 d8_2 rfl ?_
  refine own_icmpYes (pc' := 14) B X0 d8_3 (feq (by decide : ¬ ((1 : Int32) = (64 : Int32)))).2 (by decide) rfl ?_
  refine own_iloadN (pc' := 15) B X0 d8_14 rfl rfl ?_
  refine own_newarray (pc' := 17) B X0 (own_w hw 0 rfl) d8_15 rfl rfl (by decide) 1 (by decide) (by decide) (k' := 1) (n' := 1) rfl rfl (by decide) (by decide) "[B" (by decide) (.int (0 : Int32)) rfl ?_
  intro T1 h1 b1 kb1 X1 g1 E1 V_b1 E_b1
  have ne_w0_b1 : w0 ≠ b1 := own_ne E_w0.lt g1
  have sz_b1 : h0.size ≤ b1 := own_sz K g1
  have g_b1 : n0 ≤ b1 := Nat.le_trans Z0 sz_b1
  replace K := K.ext E1
  replace E_w0 := E_w0.ext E1
  replace V_w0 := V_w0.ext E1
  replace V_b1 : Arv Z h1 b1 kb1 .byte (1 : Int32) [(.int (0 : Int32))] (.int (0 : Int32)) := V_b1.pad (pad_rep [] (.int (0 : Int32)) 1)
  refine own_astoreN (pc' := 18) B X1 (Ls' := #[.val (.ref w0), .val (.int (1 : Int32)), .val (.ref b1)]) d8_17 rfl rfl rfl ?_
  refine own_aloadN (pc' := 19) B X1 d8_18 rfl rfl rfl ?_
  refine own_iconst (pc' := 20) B X1 (z := (0 : Int32)) d8_19 rfl rfl ?_
  refine own_aloadN (pc' := 21) B X1 d8_20 rfl rfl rfl ?_
  refine own_iconst (pc' := 22) B X1 (z := (0 : Int32)) d8_21 rfl rfl ?_
  refine own_aloadN (pc' := 23) B X1 d8_22 rfl rfl rfl ?_
  refine own_arraylength (pc' := 24) B X1 V_w0 d8_23 rfl ?_
  refine own_iloadN (pc' := 25) B X1 d8_24 rfl rfl ?_
  refine own_callS (pc' := 28) B X1 (own_w hw 42 rfl) (own_w hw 43 rfl) (own_w hw 44 rfl) (own_w hw 45 rfl) (by decide) [(.int (64 : Int32)), (.int (1 : Int32))] [(.int (0 : Int32)), (.ref b1), (.int (0 : Int32)), (.ref w0)] (rm_21 l Z a0 hw []  h1 n0 (Nat.le_trans Z0 K.1) ) 4 (by decide) (by decide) rfl pd_3 rfl rfl (Nat.le_of_eq rfl) d8_25 rfl (k' := 1) (n' := 1) rfl rfl (by decide) (by decide) ?_
  intro T2 v2 h2 X2 q2
  obtain ⟨rfl, rfl⟩ := q2
  show own_Go p e below (T2.setTop (mkF m 28 #[.val (.ref w0), .val (.int (1 : Int32)), .val (.ref b1)] [(.int (1 : Int32)), (.int (0 : Int32)), (.ref b1), (.int (0 : Int32)), (.ref w0)])) _
  refine own_arraycopy (pc' := 31) B X2 (own_w hw 46 rfl) (own_w hw 49 rfl) (own_w hw 47 rfl) (own_w hw 48 rfl) V_w0 V_b1 rfl g_b1 (by decide) (by decide) (by decide) (by decide) (by decide) (us := [(.int p2)]) rfl (Nat.le_of_ble_eq_true rfl) (rs := [(.int p2)]) rfl d8_28 rfl rfl (by decide) 0 (Nat.le_of_eq rfl) (by decide) ?_
  intro T3 h3 X3 K3 V_b1
  replace K := K.trans K3 (allS (Or.inr sz_b1) all0)
  replace E_w0 := E_w0.keep K3
  replace V_w0 := V_w0.keep K3 (ninS ne_w0_b1 nin0)
  replace E_b1 := E_b1.keep K3
  refine own_aloadN (pc' := 32) B X3 d8_31 rfl rfl rfl ?_
  exact own_retA B X3 (t := (.array .byte)) rfl rfl rfl d8_32 (by decide) (by decide) (⟨b1, kb1, rfl, K, sz_b1, E_b1, V_b1⟩)
def Q_19 (Z : State) (w0 : Addr) (w1 : Addr) (kw1 : ClassId) (p3 : Int32) (p4 : Int32) (p5 : Int32) (p6 : Int32) (p7 : Int32) (p8 : Int32) (p9 : Int32) (p10 : Int32) (p11 : Int32) (p12 : Int32) (p13 : Int32) (p14 : Int32) (p15 : Int32) (h0 : Heap) (n0 : Nat) (v : Option Value) (h : Heap) : Prop :=
  (∃ (b4 : Addr) (k5 : ClassId), v = some (.ref b4) ∧ Keep h0 h [] ∧ h0.size ≤ b4 ∧ Exa Z h b4 "[B" ∧ Arv Z h b4 k5 .byte (1 : Int32) [(.int p3)] (.int (0 : Int32)))
set_option maxRecDepth 65536 in
set_option maxHeartbeats 40000000 in
theorem rm_19 (l : Launch) (Z : State) (a0 : Array Value) (hw : ∀ d ∈ tables_1, d.before a0 Z = true) (ws : List Jvm.Cond) (w0 : Addr) (w1 : Addr) (kw1 : ClassId) (p3 : Int32) (p4 : Int32) (p5 : Int32) (p6 : Int32) (p7 : Int32) (p8 : Int32) (p9 : Int32) (p10 : Int32) (p11 : Int32) (p12 : Int32) (p13 : Int32) (p14 : Int32) (p15 : Int32) (h0 : Heap) (n0 : Nat) (Z0 : n0 ≤ h0.size) (E_w0 : Exa Z h0 w0 "com/example/siltstone/siltstone/format/ByteSink") (F_w0_bytes : Fld Z h0 w0 "com/example/siltstone/siltstone/format/ByteSink" "bytes" "[B" (.ref w1)) (F_w0_size : Fld Z h0 w0 "com/example/siltstone/siltstone/format/ByteSink" "size" "I" (.int (1 : Int32))) (g_w0 : n0 ≤ w0) (E_w1 : Exa Z h0 w1 "[B") (V_w1 : Arv Z h0 w1 kw1 .byte (64 : Int32) [(.int p3), (.int p4), (.int p5), (.int p6), (.int p7), (.int p8), (.int p9), (.int p10), (.int p11), (.int p12), (.int p13), (.int p14), (.int p15)] (.int (0 : Int32))) (g_w1 : n0 ≤ w1) (ne_w0_w1 : w0 ≠ w1) :
    MetFree l (⟨"com/example/siltstone/siltstone/format/ByteSink", "toByteArray", "()[B"⟩ : MethodName) (head1 (Jvm.Cond.code (⟨"com/example/siltstone/siltstone/format/ByteSink", "toByteArray", "()[B"⟩ : MethodName) prog_65_method_4_code 1 (some (.array .byte)) :: ws) ({ frames := 2, cells := 1, slots := 1, locals := 54 } : Room)) (fun a U => a = #[(.ref w0)] ∧ Z.Warmed39 U.vm ∧ U.heap = h0) (fun _ _ _ _ _ => True) (fun _ U o U' => ∃ v L, o = .returned v ∧ (Fr n0 L ∧ Q_19 Z w0 w1 kw1 p3 p4 p5 p6 p7 p8 p9 p10 p11 p12 p13 p14 p15 h0 n0 v U'.heap) ∧ FrameEnd U o U' L ({ frames := 2, cells := 1, slots := 1, locals := 54 } : Room).cells ({ frames := 2, cells := 1, slots := 1, locals := 54 } : Room).slots) := by
  refine own_enter (Q := Q_19 Z w0 w1 kw1 p3 p4 p5 p6 p7 p8 p9 p10 p11 p12 p13 p14 p15 h0 n0) (F := fun m => mkF m 0 #[.val (.ref w0)] []) (plainFor_of_name pn_0) (fun m => by first | (simp [entryFrame, mkF, argsToLocals, Value.category]; done) | rfl) ?_
  intro p e s m below meth c s₁ B X0
  have K : Keep h0 h0 [] := Keep.refl h0 _
  refine own_aloadN (pc' := 1) B X0 d7_0 rfl rfl rfl ?_
  refine own_getfield (pc' := 4) B X0 (host := "") (Or.inl (own_w hw 10 rfl)) Via.refl F_w0_bytes d7_1 rfl ?_
  intro T1 X1
  refine own_aloadN (pc' := 5) B X1 d7_4 rfl rfl rfl ?_
  refine own_getfield (pc' := 8) B X1 (host := "") (Or.inl (own_w hw 21 rfl)) Via.refl F_w0_size d7_5 rfl ?_
  intro T2 X2
  refine own_callS (pc' := 11) B X2 (own_w hw 38 rfl) (own_w hw 39 rfl) (own_w hw 40 rfl) (own_w hw 41 rfl) (by decide) [(.ref w1), (.int (1 : Int32))] [] (rm_20 l Z a0 hw [] w1 kw1 (p3) (p4) (p5) (p6) (p7) (p8) (p9) (p10) (p11) (p12) (p13) (p14) (p15) h0 n0 (Nat.le_trans Z0 K.1) E_w1 V_w1 g_w1) 0 (by decide) (by decide) rfl pd_4 rfl rfl (Nat.le_of_eq rfl) d7_8 rfl (k' := 1) (n' := 1) rfl rfl (by decide) (by decide) ?_
  intro T3 v3 h3 X3 q3
  have lt_w0 := E_w0.lt
  have lt_w1 := E_w1.lt
  obtain ⟨b4, k5, rfl, K3, z_b4, E_b4, V_b4⟩ := q3
  have ne_w0_b4 : w0 ≠ b4 := own_ne' lt_w0 z_b4
  have ne_w1_b4 : w1 ≠ b4 := own_ne' lt_w1 z_b4
  have sz_b4 : h0.size ≤ b4 := Nat.le_trans K.1 z_b4
  have g_b4 : n0 ≤ b4 := Nat.le_trans Z0 sz_b4
  replace K := K.trans K3 all0
  replace E_w0 := E_w0.keep K3
  replace F_w0_bytes := F_w0_bytes.keep K3 nin0
  replace F_w0_size := F_w0_size.keep K3 nin0
  replace E_w1 := E_w1.keep K3
  replace V_w1 := V_w1.keep K3 nin0
  show own_Go p e below (T3.setTop (mkF m 11 #[.val (.ref w0)] [(.ref b4)])) _
  exact own_retA B X3 (t := (.array .byte)) rfl rfl rfl d7_11 (by decide) (by decide) (⟨b4, k5, rfl, K, sz_b4, E_b4, V_b4⟩)
def Q_22 (Z : State) (w0 : Addr) (w1 : Addr) (kw1 : ClassId) (p3 : Int32) (p4 : Int32) (p5 : Int32) (p6 : Int32) (p7 : Int32) (p8 : Int32) (p9 : Int32) (p10 : Int32) (p11 : Int32) (p12 : Int32) (p13 : Int32) (p14 : Int32) (p15 : Int32) (h0 : Heap) (n0 : Nat) (v : Option Value) (h : Heap) : Prop :=
  (v = some (.int (1 : Int32)) ∧ h0 = h)
set_option maxRecDepth 65536 in
set_option maxHeartbeats 40000000 in
theorem rm_22 (l : Launch) (Z : State) (a0 : Array Value) (hw : ∀ d ∈ tables_1, d.before a0 Z = true) (ws : List Jvm.Cond) (w0 : Addr) (w1 : Addr) (kw1 : ClassId) (p3 : Int32) (p4 : Int32) (p5 : Int32) (p6 : Int32) (p7 : Int32) (p8 : Int32) (p9 : Int32) (p10 : Int32) (p11 : Int32) (p12 : Int32) (p13 : Int32) (p14 : Int32) (p15 : Int32) (h0 : Heap) (n0 : Nat) (Z0 : n0 ≤ h0.size) (E_w0 : Exa Z h0 w0 "com/example/siltstone/siltstone/format/ByteSink") (F_w0_bytes : Fld Z h0 w0 "com/example/siltstone/siltstone/format/ByteSink" "bytes" "[B" (.ref w1)) (F_w0_size : Fld Z h0 w0 "com/example/siltstone/siltstone/format/ByteSink" "size" "I" (.int (1 : Int32))) (g_w0 : n0 ≤ w0) (E_w1 : Exa Z h0 w1 "[B") (V_w1 : Arv Z h0 w1 kw1 .byte (64 : Int32) [(.int p3), (.int p4), (.int p5), (.int p6), (.int p7), (.int p8), (.int p9), (.int p10), (.int p11), (.int p12), (.int p13), (.int p14), (.int p15)] (.int (0 : Int32))) (g_w1 : n0 ≤ w1) (ne_w0_w1 : w0 ≠ w1) :
    MetFree l (⟨"com/example/siltstone/siltstone/format/ByteSink", "size", "()I"⟩ : MethodName) (head1 (Jvm.Cond.code (⟨"com/example/siltstone/siltstone/format/ByteSink", "size", "()I"⟩ : MethodName) prog_65_method_2_code 1 (some .int) :: ws) ({ frames := 0, cells := 0, slots := 0, locals := 0 } : Room)) (fun a U => a = #[(.ref w0)] ∧ Z.Warmed39 U.vm ∧ U.heap = h0) (fun _ _ _ _ _ => True) (fun _ U o U' => ∃ v L, o = .returned v ∧ (Fr n0 L ∧ Q_22 Z w0 w1 kw1 p3 p4 p5 p6 p7 p8 p9 p10 p11 p12 p13 p14 p15 h0 n0 v U'.heap) ∧ FrameEnd U o U' L ({ frames := 0, cells := 0, slots := 0, locals := 0 } : Room).cells ({ frames := 0, cells := 0, slots := 0, locals := 0 } : Room).slots) := by
  refine own_enter (Q := Q_22 Z w0 w1 kw1 p3 p4 p5 p6 p7 p8 p9 p10 p11 p12 p13 p14 p15 h0 n0) (F := fun m => mkF m 0 #[.val (.ref w0)] []) (plainFor_of_name pn_0) (fun m => by first | (simp [entryFrame, mkF, argsToLocals, Value.category]; done) | rfl) ?_
  intro p e s m below meth c s₁ B X0
  have K : Keep h0 h0 [] := Keep.refl h0 _
  refine own_aloadN (pc' := 1) B X0 d10_0 rfl rfl rfl ?_
  refine own_getfield (pc' := 4) B X0 (host := "") (Or.inl (own_w hw 21 rfl)) Via.refl F_w0_size d10_1 rfl ?_
  intro T1 X1
  exact own_retI B X1 d10_4 (by decide) (by decide) (⟨rfl, rfl⟩)
def Q_25 (Z : State) (w0 : Addr) (w1 : Addr) (kw1 : ClassId) (h0 : Heap) (n0 : Nat) (v : Option Value) (h : Heap) : Prop :=
  (v = none ∧ h0 = h)
set_option maxRecDepth 65536 in
set_option maxHeartbeats 40000000 in
theorem rm_25 (l : Launch) (Z : State) (a0 : Array Value) (hw : ∀ d ∈ tables_1, d.before a0 Z = true) (ws : List Jvm.Cond) (w0 : Addr) (w1 : Addr) (kw1 : ClassId) (h0 : Heap) (n0 : Nat) (Z0 : n0 ≤ h0.size) (E_w0 : Exa Z h0 w0 "com/example/siltstone/siltstone/format/ByteSink") (F_w0_bytes : Fld Z h0 w0 "com/example/siltstone/siltstone/format/ByteSink" "bytes" "[B" (.ref w1)) (F_w0_size : Fld Z h0 w0 "com/example/siltstone/siltstone/format/ByteSink" "size" "I" (.int (0 : Int32))) (g_w0 : n0 ≤ w0) (E_w1 : Exa Z h0 w1 "[B") (V_w1 : Arv Z h0 w1 kw1 .byte (64 : Int32) [] (.int (0 : Int32))) (g_w1 : n0 ≤ w1) (ne_w0_w1 : w0 ≠ w1) :
    MetFree l (⟨"com/example/siltstone/siltstone/format/ByteSink", "ensure", "(I)V"⟩ : MethodName) (head1 (Jvm.Cond.code (⟨"com/example/siltstone/siltstone/format/ByteSink", "ensure", "(I)V"⟩ : MethodName) prog_65_method_12_code 4 none :: ws) ({ frames := 0, cells := 0, slots := 0, locals := 0 } : Room)) (fun a U => a = #[(.ref w0), (.int (60 : Int32))] ∧ Z.Warmed39 U.vm ∧ U.heap = h0) (fun _ _ _ _ _ => True) (fun _ U o U' => ∃ v L, o = .returned v ∧ (Fr n0 L ∧ Q_25 Z w0 w1 kw1 h0 n0 v U'.heap) ∧ FrameEnd U o U' L ({ frames := 0, cells := 0, slots := 0, locals := 0 } : Room).cells ({ frames := 0, cells := 0, slots := 0, locals := 0 } : Room).slots) := by
  refine own_enter (Q := Q_25 Z w0 w1 kw1 h0 n0) (F := fun m => mkF m 0 #[.val (.ref w0), .val (.int (60 : Int32)), .unset, .unset] []) (plainFor_of_name pn_0) (fun m => by first | (simp [entryFrame, mkF, argsToLocals, Value.category]; done) | rfl) ?_
  intro p e s m below meth c s₁ B X0
  have K : Keep h0 h0 [] := Keep.refl h0 _
  refine own_iloadN (pc' := 1) B X0 d4_0 rfl rfl ?_
  refine own_aloadN (pc' := 2) B X0 d4_1 rfl rfl rfl ?_
  refine own_getfield (pc' := 5) B X0 (host := "") (Or.inl (own_w hw 10 rfl)) Via.refl F_w0_bytes d4_2 rfl ?_
  intro T1 X1
  refine own_arraylength (pc' := 6) B X1 V_w1 d4_5 rfl ?_
  refine own_aloadN (pc' := 7) B X1 d4_6 rfl rfl rfl ?_
  refine own_getfield (pc' := 10) B X1 (host := "") (Or.inl (own_w hw 21 rfl)) Via.refl F_w0_size d4_7 rfl ?_
  intro T2 X2
  refine own_isub (pc' := 11) B X2 (z := (64 : Int32)) d4_10 rfl (by decide) ?_
  refine own_icmpYes (pc' := 67) B X2 d4_11 (flt (by decide : ¬ ((64 : Int32) < (60 : Int32)))).2.2.2 (by decide) rfl ?_
  exact own_ret B X2 d4_67 (by decide) (by decide) (⟨rfl, rfl⟩)
def Q_24 (Z : State) (w0 : Addr) (w1 : Addr) (kw1 : ClassId) (w3 : Addr) (kw3 : ClassId) (p5 : Int32) (p6 : Int32) (h0 : Heap) (n0 : Nat) (v : Option Value) (h : Heap) : Prop :=
  (v = none ∧ Keep h0 h [w1, w0] ∧ Exa Z h w0 "com/example/siltstone/siltstone/format/ByteSink" ∧ Fld Z h w0 "com/example/siltstone/siltstone/format/ByteSink" "bytes" "[B" (.ref w1) ∧ Fld Z h w0 "com/example/siltstone/siltstone/format/ByteSink" "size" "I" (.int (60 : Int32)) ∧ Exa Z h w1 "[B" ∧ Arv Z h w1 kw1 .byte (64 : Int32) ((.int p5) :: (.int (0 : Int32)) :: (.int (0 : Int32)) :: (.int (0 : Int32)) :: (.int (0 : Int32)) :: (.int (0 : Int32)) :: (.int (0 : Int32)) :: (.int (0 : Int32)) :: (.int (0 : Int32)) :: (.int (0 : Int32)) :: (.int (0 : Int32)) :: (.int (0 : Int32)) :: (.int (0 : Int32)) :: (.int (0 : Int32)) :: (.int (0 : Int32)) :: (.int (0 : Int32)) :: (.int (0 : Int32)) :: (.int (0 : Int32)) :: (.int (0 : Int32)) :: (.int (0 : Int32)) :: (.int (0 : Int32)) :: (.int (0 : Int32)) :: (.int (0 : Int32)) :: (.int (0 : Int32)) :: (.int (0 : Int32)) :: (.int (0 : Int32)) :: (.int (0 : Int32)) :: (.int (0 : Int32)) :: (.int (0 : Int32)) :: (.int (0 : Int32)) :: (.int (0 : Int32)) :: (.int (0 : Int32)) :: (.int (0 : Int32)) :: (.int (0 : Int32)) :: (.int (0 : Int32)) :: (.int (0 : Int32)) :: (.int (0 : Int32)) :: (.int (0 : Int32)) :: (.int (0 : Int32)) :: (.int (0 : Int32)) :: (.int (0 : Int32)) :: (.int (0 : Int32)) :: (.int (0 : Int32)) :: (.int (0 : Int32)) :: (.int (0 : Int32)) :: (.int (0 : Int32)) :: (.int (0 : Int32)) :: (.int (0 : Int32)) :: (.int (0 : Int32)) :: (.int (0 : Int32)) :: (.int (0 : Int32)) :: (.int (0 : Int32)) :: (.int (0 : Int32)) :: (.int (0 : Int32)) :: (.int (0 : Int32)) :: (.int (0 : Int32)) :: (.int (0 : Int32)) :: (.int (0 : Int32)) :: (.int (0 : Int32)) :: (.int p6) :: []) (.int (0 : Int32)))
set_option maxRecDepth 65536 in
set_option maxHeartbeats 40000000 in
theorem rm_24 (l : Launch) (Z : State) (a0 : Array Value) (hw : ∀ d ∈ tables_1, d.before a0 Z = true) (ws : List Jvm.Cond) (w0 : Addr) (w1 : Addr) (kw1 : ClassId) (w3 : Addr) (kw3 : ClassId) (p5 : Int32) (p6 : Int32) (h0 : Heap) (n0 : Nat) (Z0 : n0 ≤ h0.size) (E_w0 : Exa Z h0 w0 "com/example/siltstone/siltstone/format/ByteSink") (F_w0_bytes : Fld Z h0 w0 "com/example/siltstone/siltstone/format/ByteSink" "bytes" "[B" (.ref w1)) (F_w0_size : Fld Z h0 w0 "com/example/siltstone/siltstone/format/ByteSink" "size" "I" (.int (0 : Int32))) (g_w0 : n0 ≤ w0) (E_w1 : Exa Z h0 w1 "[B") (V_w1 : Arv Z h0 w1 kw1 .byte (64 : Int32) [] (.int (0 : Int32))) (g_w1 : n0 ≤ w1) (E_w3 : Exa Z h0 w3 "[B") (V_w3 : Arv Z h0 w3 kw3 .byte (60 : Int32) ((.int p5) :: (.int (0 : Int32)) :: (.int (0 : Int32)) :: (.int (0 : Int32)) :: (.int (0 : Int32)) :: (.int (0 : Int32)) :: (.int (0 : Int32)) :: (.int (0 : Int32)) :: (.int (0 : Int32)) :: (.int (0 : Int32)) :: (.int (0 : Int32)) :: (.int (0 : Int32)) :: (.int (0 : Int32)) :: (.int (0 : Int32)) :: (.int (0 : Int32)) :: (.int (0 : Int32)) :: (.int (0 : Int32)) :: (.int (0 : Int32)) :: (.int (0 : Int32)) :: (.int (0 : Int32)) :: (.int (0 : Int32)) :: (.int (0 : Int32)) :: (.int (0 : Int32)) :: (.int (0 : Int32)) :: (.int (0 : Int32)) :: (.int (0 : Int32)) :: (.int (0 : Int32)) :: (.int (0 : Int32)) :: (.int (0 : Int32)) :: (.int (0 : Int32)) :: (.int (0 : Int32)) :: (.int (0 : Int32)) :: (.int (0 : Int32)) :: (.int (0 : Int32)) :: (.int (0 : Int32)) :: (.int (0 : Int32)) :: (.int (0 : Int32)) :: (.int (0 : Int32)) :: (.int (0 : Int32)) :: (.int (0 : Int32)) :: (.int (0 : Int32)) :: (.int (0 : Int32)) :: (.int (0 : Int32)) :: (.int (0 : Int32)) :: (.int (0 : Int32)) :: (.int (0 : Int32)) :: (.int (0 : Int32)) :: (.int (0 : Int32)) :: (.int (0 : Int32)) :: (.int (0 : Int32)) :: (.int (0 : Int32)) :: (.int (0 : Int32)) :: (.int (0 : Int32)) :: (.int (0 : Int32)) :: (.int (0 : Int32)) :: (.int (0 : Int32)) :: (.int (0 : Int32)) :: (.int (0 : Int32)) :: (.int (0 : Int32)) :: (.int p6) :: []) (.int (0 : Int32))) (g_w3 : n0 ≤ w3) (ne_w0_w1 : w0 ≠ w1) (ne_w0_w3 : w0 ≠ w3) (ne_w1_w3 : w1 ≠ w3) :
    MetFree l (⟨"com/example/siltstone/siltstone/format/ByteSink", "write", "([BII)V"⟩ : MethodName) (head1 (Jvm.Cond.code (⟨"com/example/siltstone/siltstone/format/ByteSink", "write", "([BII)V"⟩ : MethodName) prog_65_method_10_code 4 none :: ws) ({ frames := 1, cells := 0, slots := 0, locals := 40 } : Room)) (fun a U => a = #[(.ref w0), (.ref w3), (.int (0 : Int32)), (.int (60 : Int32))] ∧ Z.Warmed39 U.vm ∧ U.heap = h0) (fun _ _ _ _ _ => True) (fun _ U o U' => ∃ v L, o = .returned v ∧ (Fr n0 L ∧ Q_24 Z w0 w1 kw1 w3 kw3 p5 p6 h0 n0 v U'.heap) ∧ FrameEnd U o U' L ({ frames := 1, cells := 0, slots := 0, locals := 40 } : Room).cells ({ frames := 1, cells := 0, slots := 0, locals := 40 } : Room).slots) := by
  refine own_enter (Q := Q_24 Z w0 w1 kw1 w3 kw3 p5 p6 h0 n0) (F := fun m => mkF m 0 #[.val (.ref w0), .val (.ref w3), .val (.int (0 : Int32)), .val (.int (60 : Int32))] []) (plainFor_of_name pn_0) (fun m => by first | (simp [entryFrame, mkF, argsToLocals, Value.category]; done) | rfl) ?_
  intro p e s m below meth c s₁ B X0
  have K : Keep h0 h0 [w1, w0] := Keep.refl h0 _
  refine own_aloadN (pc' := 1) B X0 d12_0 rfl rfl rfl ?_
  refine own_iloadN (pc' := 2) B X0 d12_1 rfl rfl ?_
  refine own_callP (pc' := 5) B X0 (own_w hw 17 rfl) (own_w hw 18 rfl) (own_w hw 19 rfl) (own_w hw 2 rfl) (own_w hw 3 rfl) (own_w hw 20 rfl) E_w0 (by decide) [(.int (60 : Int32))] [] (rm_25 l Z a0 hw [] w0 w1 kw1 h0 n0 (Nat.le_trans Z0 K.1) E_w0 F_w0_bytes F_w0_size g_w0 E_w1 V_w1 g_w1 ne_w0_w1) 0 (by decide) (by decide) rfl pd_1 rfl rfl (Nat.le_of_eq rfl) d12_2 rfl (k' := 0) (n' := 0) rfl rfl (by decide) (by decide) ?_
  intro T1 v1 h1 X1 q1
  obtain ⟨rfl, rfl⟩ := q1
  show own_Go p e below (T1.setTop (mkF m 5 #[.val (.ref w0), .val (.ref w3), .val (.int (0 : Int32)), .val (.int (60 : Int32))] [])) _
  refine own_aloadN (pc' := 6) B X1 d12_5 rfl rfl rfl ?_
  refine own_iloadN (pc' := 7) B X1 d12_6 rfl rfl ?_
  refine own_aloadN (pc' := 8) B X1 d12_7 rfl rfl rfl ?_
  refine own_getfield (pc' := 11) B X1 (host := "") (Or.inl (own_w hw 10 rfl)) Via.refl F_w0_bytes d12_8 rfl ?_
  intro T2 X2
  refine own_aloadN (pc' := 12) B X2 d12_11 rfl rfl rfl ?_
  refine own_getfield (pc' := 15) B X2 (host := "") (Or.inl (own_w hw 21 rfl)) Via.refl F_w0_size d12_12 rfl ?_
  intro T3 X3
  refine own_iloadN (pc' := 16) B X3 d12_15 rfl rfl ?_
  replace V_w1 : Arv Z h0 w1 kw1 .byte (64 : Int32) ((.int (0 : Int32)) :: (.int (0 : Int32)) :: (.int (0 : Int32)) :: (.int (0 : Int32)) :: (.int (0 : Int32)) :: (.int (0 : Int32)) :: (.int (0 : Int32)) :: (.int (0 : Int32)) :: (.int (0 : Int32)) :: (.int (0 : Int32)) :: (.int (0 : Int32)) :: (.int (0 : Int32)) :: (.int (0 : Int32)) :: (.int (0 : Int32)) :: (.int (0 : Int32)) :: (.int (0 : Int32)) :: (.int (0 : Int32)) :: (.int (0 : Int32)) :: (.int (0 : Int32)) :: (.int (0 : Int32)) :: (.int (0 : Int32)) :: (.int (0 : Int32)) :: (.int (0 : Int32)) :: (.int (0 : Int32)) :: (.int (0 : Int32)) :: (.int (0 : Int32)) :: (.int (0 : Int32)) :: (.int (0 : Int32)) :: (.int (0 : Int32)) :: (.int (0 : Int32)) :: (.int (0 : Int32)) :: (.int (0 : Int32)) :: (.int (0 : Int32)) :: (.int (0 : Int32)) :: (.int (0 : Int32)) :: (.int (0 : Int32)) :: (.int (0 : Int32)) :: (.int (0 : Int32)) :: (.int (0 : Int32)) :: (.int (0 : Int32)) :: (.int (0 : Int32)) :: (.int (0 : Int32)) :: (.int (0 : Int32)) :: (.int (0 : Int32)) :: (.int (0 : Int32)) :: (.int (0 : Int32)) :: (.int (0 : Int32)) :: (.int (0 : Int32)) :: (.int (0 : Int32)) :: (.int (0 : Int32)) :: (.int (0 : Int32)) :: (.int (0 : Int32)) :: (.int (0 : Int32)) :: (.int (0 : Int32)) :: (.int (0 : Int32)) :: (.int (0 : Int32)) :: (.int (0 : Int32)) :: (.int (0 : Int32)) :: (.int (0 : Int32)) :: (.int (0 : Int32)) :: []) (.int (0 : Int32)) := V_w1.pad (pad_rep [] (.int (0 : Int32)) 60)
  refine own_arraycopy (pc' := 19) B X3 (own_w hw 65 rfl) (own_w hw 49 rfl) (own_w hw 47 rfl) (own_w hw 48 rfl) V_w3 V_w1 rfl g_w1 (by decide) (by decide) (by decide) (by decide) (by decide) (us := ((.int p5) :: (.int (0 : Int32)) :: (.int (0 : Int32)) :: (.int (0 : Int32)) :: (.int (0 : Int32)) :: (.int (0 : Int32)) :: (.int (0 : Int32)) :: (.int (0 : Int32)) :: (.int (0 : Int32)) :: (.int (0 : Int32)) :: (.int (0 : Int32)) :: (.int (0 : Int32)) :: (.int (0 : Int32)) :: (.int (0 : Int32)) :: (.int (0 : Int32)) :: (.int (0 : Int32)) :: (.int (0 : Int32)) :: (.int (0 : Int32)) :: (.int (0 : Int32)) :: (.int (0 : Int32)) :: (.int (0 : Int32)) :: (.int (0 : Int32)) :: (.int (0 : Int32)) :: (.int (0 : Int32)) :: (.int (0 : Int32)) :: (.int (0 : Int32)) :: (.int (0 : Int32)) :: (.int (0 : Int32)) :: (.int (0 : Int32)) :: (.int (0 : Int32)) :: (.int (0 : Int32)) :: (.int (0 : Int32)) :: (.int (0 : Int32)) :: (.int (0 : Int32)) :: (.int (0 : Int32)) :: (.int (0 : Int32)) :: (.int (0 : Int32)) :: (.int (0 : Int32)) :: (.int (0 : Int32)) :: (.int (0 : Int32)) :: (.int (0 : Int32)) :: (.int (0 : Int32)) :: (.int (0 : Int32)) :: (.int (0 : Int32)) :: (.int (0 : Int32)) :: (.int (0 : Int32)) :: (.int (0 : Int32)) :: (.int (0 : Int32)) :: (.int (0 : Int32)) :: (.int (0 : Int32)) :: (.int (0 : Int32)) :: (.int (0 : Int32)) :: (.int (0 : Int32)) :: (.int (0 : Int32)) :: (.int (0 : Int32)) :: (.int (0 : Int32)) :: (.int (0 : Int32)) :: (.int (0 : Int32)) :: (.int (0 : Int32)) :: (.int p6) :: [])) rfl (Nat.le_of_ble_eq_true rfl) (rs := ((.int p5) :: (.int (0 : Int32)) :: (.int (0 : Int32)) :: (.int (0 : Int32)) :: (.int (0 : Int32)) :: (.int (0 : Int32)) :: (.int (0 : Int32)) :: (.int (0 : Int32)) :: (.int (0 : Int32)) :: (.int (0 : Int32)) :: (.int (0 : Int32)) :: (.int (0 : Int32)) :: (.int (0 : Int32)) :: (.int (0 : Int32)) :: (.int (0 : Int32)) :: (.int (0 : Int32)) :: (.int (0 : Int32)) :: (.int (0 : Int32)) :: (.int (0 : Int32)) :: (.int (0 : Int32)) :: (.int (0 : Int32)) :: (.int (0 : Int32)) :: (.int (0 : Int32)) :: (.int (0 : Int32)) :: (.int (0 : Int32)) :: (.int (0 : Int32)) :: (.int (0 : Int32)) :: (.int (0 : Int32)) :: (.int (0 : Int32)) :: (.int (0 : Int32)) :: (.int (0 : Int32)) :: (.int (0 : Int32)) :: (.int (0 : Int32)) :: (.int (0 : Int32)) :: (.int (0 : Int32)) :: (.int (0 : Int32)) :: (.int (0 : Int32)) :: (.int (0 : Int32)) :: (.int (0 : Int32)) :: (.int (0 : Int32)) :: (.int (0 : Int32)) :: (.int (0 : Int32)) :: (.int (0 : Int32)) :: (.int (0 : Int32)) :: (.int (0 : Int32)) :: (.int (0 : Int32)) :: (.int (0 : Int32)) :: (.int (0 : Int32)) :: (.int (0 : Int32)) :: (.int (0 : Int32)) :: (.int (0 : Int32)) :: (.int (0 : Int32)) :: (.int (0 : Int32)) :: (.int (0 : Int32)) :: (.int (0 : Int32)) :: (.int (0 : Int32)) :: (.int (0 : Int32)) :: (.int (0 : Int32)) :: (.int (0 : Int32)) :: (.int p6) :: [])) rfl d12_16 rfl rfl (by decide) 0 (Nat.le_of_eq rfl) (by decide) ?_
  intro T4 h4 X4 K4 V_w1
  replace K := K.trans K4 (allS (Or.inl (List.mem_of_getElem? (i := 0) rfl)) all0)
  replace E_w0 := E_w0.keep K4
  replace F_w0_bytes := F_w0_bytes.keep K4 (ninS ne_w0_w1 nin0)
  replace F_w0_size := F_w0_size.keep K4 (ninS ne_w0_w1 nin0)
  replace E_w1 := E_w1.keep K4
  replace E_w3 := E_w3.keep K4
  replace V_w3 := V_w3.keep K4 (ninS (Ne.symm ne_w1_w3) nin0)
  refine own_aloadN (pc' := 20) B X4 d12_19 rfl rfl rfl ?_
  refine own_dup (pc' := 21) B X4 d12_20 rfl rfl ?_
  refine own_getfield (pc' := 24) B X4 (host := "") (Or.inl (own_w hw 21 rfl)) Via.refl F_w0_size d12_21 rfl ?_
  intro T5 X5
  refine own_iloadN (pc' := 25) B X5 d12_24 rfl rfl ?_
  refine own_iadd (pc' := 26) B X5 (z := (60 : Int32)) d12_25 rfl (by decide) ?_
  refine own_putfield (pc' := 29) B X5 (host := "") (Or.inl (own_w hw 21 rfl)) Via.refl F_w0_size E_w0 g_w0 (Or.inl (own_w hw 22 rfl)) (own_w hw 2 rfl) (ty := .int) (by decide) rfl rfl d12_26 rfl ?_
  intro T6 h6 X6 W6 F_w0_size
  replace E_w0 := E_w0.wr W6
  replace F_w0_bytes := F_w0_bytes.other W6 (Or.inr (slot_ne (Or.inl (own_w hw 11 rfl)) (Or.inl (own_w hw 22 rfl)) (by decide) (t := (.array .byte)) (t' := .int) (by decide) (by decide)))
  replace E_w1 := E_w1.wr W6
  replace V_w1 := V_w1.other W6 (Ne.symm ne_w0_w1)
  replace E_w3 := E_w3.wr W6
  replace V_w3 := V_w3.other W6 (Ne.symm ne_w0_w3)
  replace K := K.wr W6 (Or.inl (List.mem_of_getElem? (i := 1) rfl))
  exact own_ret B X6 d12_29 (by decide) (by decide) (⟨rfl, K, E_w0, F_w0_bytes, F_w0_size, E_w1, V_w1⟩)
def Q_23 (Z : State) (w0 : Addr) (w1 : Addr) (kw1 : ClassId) (w3 : Addr) (kw3 : ClassId) (p5 : Int32) (p6 : Int32) (h0 : Heap) (n0 : Nat) (v : Option Value) (h : Heap) : Prop :=
  (v = none ∧ Keep h0 h [w1, w0] ∧ Exa Z h w0 "com/example/siltstone/siltstone/format/ByteSink" ∧ Fld Z h w0 "com/example/siltstone/siltstone/format/ByteSink" "bytes" "[B" (.ref w1) ∧ Fld Z h w0 "com/example/siltstone/siltstone/format/ByteSink" "size" "I" (.int (60 : Int32)) ∧ Exa Z h w1 "[B" ∧ Arv Z h w1 kw1 .byte (64 : Int32) ((.int p5) :: (.int (0 : Int32)) :: (.int (0 : Int32)) :: (.int (0 : Int32)) :: (.int (0 : Int32)) :: (.int (0 : Int32)) :: (.int (0 : Int32)) :: (.int (0 : Int32)) :: (.int (0 : Int32)) :: (.int (0 : Int32)) :: (.int (0 : Int32)) :: (.int (0 : Int32)) :: (.int (0 : Int32)) :: (.int (0 : Int32)) :: (.int (0 : Int32)) :: (.int (0 : Int32)) :: (.int (0 : Int32)) :: (.int (0 : Int32)) :: (.int (0 : Int32)) :: (.int (0 : Int32)) :: (.int (0 : Int32)) :: (.int (0 : Int32)) :: (.int (0 : Int32)) :: (.int (0 : Int32)) :: (.int (0 : Int32)) :: (.int (0 : Int32)) :: (.int (0 : Int32)) :: (.int (0 : Int32)) :: (.int (0 : Int32)) :: (.int (0 : Int32)) :: (.int (0 : Int32)) :: (.int (0 : Int32)) :: (.int (0 : Int32)) :: (.int (0 : Int32)) :: (.int (0 : Int32)) :: (.int (0 : Int32)) :: (.int (0 : Int32)) :: (.int (0 : Int32)) :: (.int (0 : Int32)) :: (.int (0 : Int32)) :: (.int (0 : Int32)) :: (.int (0 : Int32)) :: (.int (0 : Int32)) :: (.int (0 : Int32)) :: (.int (0 : Int32)) :: (.int (0 : Int32)) :: (.int (0 : Int32)) :: (.int (0 : Int32)) :: (.int (0 : Int32)) :: (.int (0 : Int32)) :: (.int (0 : Int32)) :: (.int (0 : Int32)) :: (.int (0 : Int32)) :: (.int (0 : Int32)) :: (.int (0 : Int32)) :: (.int (0 : Int32)) :: (.int (0 : Int32)) :: (.int (0 : Int32)) :: (.int (0 : Int32)) :: (.int p6) :: []) (.int (0 : Int32)))
set_option maxRecDepth 65536 in
set_option maxHeartbeats 40000000 in
theorem rm_23 (l : Launch) (Z : State) (a0 : Array Value) (hw : ∀ d ∈ tables_1, d.before a0 Z = true) (ws : List Jvm.Cond) (w0 : Addr) (w1 : Addr) (kw1 : ClassId) (w3 : Addr) (kw3 : ClassId) (p5 : Int32) (p6 : Int32) (h0 : Heap) (n0 : Nat) (Z0 : n0 ≤ h0.size) (E_w0 : Exa Z h0 w0 "com/example/siltstone/siltstone/format/ByteSink") (F_w0_bytes : Fld Z h0 w0 "com/example/siltstone/siltstone/format/ByteSink" "bytes" "[B" (.ref w1)) (F_w0_size : Fld Z h0 w0 "com/example/siltstone/siltstone/format/ByteSink" "size" "I" (.int (0 : Int32))) (g_w0 : n0 ≤ w0) (E_w1 : Exa Z h0 w1 "[B") (V_w1 : Arv Z h0 w1 kw1 .byte (64 : Int32) [] (.int (0 : Int32))) (g_w1 : n0 ≤ w1) (E_w3 : Exa Z h0 w3 "[B") (V_w3 : Arv Z h0 w3 kw3 .byte (60 : Int32) ((.int p5) :: (.int (0 : Int32)) :: (.int (0 : Int32)) :: (.int (0 : Int32)) :: (.int (0 : Int32)) :: (.int (0 : Int32)) :: (.int (0 : Int32)) :: (.int (0 : Int32)) :: (.int (0 : Int32)) :: (.int (0 : Int32)) :: (.int (0 : Int32)) :: (.int (0 : Int32)) :: (.int (0 : Int32)) :: (.int (0 : Int32)) :: (.int (0 : Int32)) :: (.int (0 : Int32)) :: (.int (0 : Int32)) :: (.int (0 : Int32)) :: (.int (0 : Int32)) :: (.int (0 : Int32)) :: (.int (0 : Int32)) :: (.int (0 : Int32)) :: (.int (0 : Int32)) :: (.int (0 : Int32)) :: (.int (0 : Int32)) :: (.int (0 : Int32)) :: (.int (0 : Int32)) :: (.int (0 : Int32)) :: (.int (0 : Int32)) :: (.int (0 : Int32)) :: (.int (0 : Int32)) :: (.int (0 : Int32)) :: (.int (0 : Int32)) :: (.int (0 : Int32)) :: (.int (0 : Int32)) :: (.int (0 : Int32)) :: (.int (0 : Int32)) :: (.int (0 : Int32)) :: (.int (0 : Int32)) :: (.int (0 : Int32)) :: (.int (0 : Int32)) :: (.int (0 : Int32)) :: (.int (0 : Int32)) :: (.int (0 : Int32)) :: (.int (0 : Int32)) :: (.int (0 : Int32)) :: (.int (0 : Int32)) :: (.int (0 : Int32)) :: (.int (0 : Int32)) :: (.int (0 : Int32)) :: (.int (0 : Int32)) :: (.int (0 : Int32)) :: (.int (0 : Int32)) :: (.int (0 : Int32)) :: (.int (0 : Int32)) :: (.int (0 : Int32)) :: (.int (0 : Int32)) :: (.int (0 : Int32)) :: (.int (0 : Int32)) :: (.int p6) :: []) (.int (0 : Int32))) (g_w3 : n0 ≤ w3) (ne_w0_w1 : w0 ≠ w1) (ne_w0_w3 : w0 ≠ w3) (ne_w1_w3 : w1 ≠ w3) :
    MetFree l (⟨"com/example/siltstone/siltstone/format/ByteSink", "write", "([B)V"⟩ : MethodName) (head1 (Jvm.Cond.code (⟨"com/example/siltstone/siltstone/format/ByteSink", "write", "([B)V"⟩ : MethodName) prog_65_method_9_code 2 none :: ws) ({ frames := 2, cells := 0, slots := 0, locals := 55 } : Room)) (fun a U => a = #[(.ref w0), (.ref w3)] ∧ Z.Warmed39 U.vm ∧ U.heap = h0) (fun _ _ _ _ _ => True) (fun _ U o U' => ∃ v L, o = .returned v ∧ (Fr n0 L ∧ Q_23 Z w0 w1 kw1 w3 kw3 p5 p6 h0 n0 v U'.heap) ∧ FrameEnd U o U' L ({ frames := 2, cells := 0, slots := 0, locals := 55 } : Room).cells ({ frames := 2, cells := 0, slots := 0, locals := 55 } : Room).slots) := by
  refine own_enter (Q := Q_23 Z w0 w1 kw1 w3 kw3 p5 p6 h0 n0) (F := fun m => mkF m 0 #[.val (.ref w0), .val (.ref w3)] []) (plainFor_of_name pn_0) (fun m => by first | (simp [entryFrame, mkF, argsToLocals, Value.category]; done) | rfl) ?_
  intro p e s m below meth c s₁ B X0
  have K : Keep h0 h0 [w1, w0] := Keep.refl h0 _
  refine own_aloadN (pc' := 1) B X0 d11_0 rfl rfl rfl ?_
  refine own_aloadN (pc' := 2) B X0 d11_1 rfl rfl rfl ?_
  refine own_iconst (pc' := 3) B X0 (z := (0 : Int32)) d11_2 rfl rfl ?_
  refine own_aloadN (pc' := 4) B X0 d11_3 rfl rfl rfl ?_
  refine own_arraylength (pc' := 5) B X0 V_w3 d11_4 rfl ?_
  refine own_callV (pc' := 8) B X0 (own_w hw 60 rfl) (own_w hw 61 rfl) (own_w hw 63 rfl) (own_w hw 62 rfl) (own_w hw 3 rfl) (own_w hw 64 rfl) E_w0 (by decide) [(.ref w3), (.int (0 : Int32)), (.int (60 : Int32))] [] (rm_24 l Z a0 hw [] w0 w1 kw1 w3 kw3 (p5) (p6) h0 n0 (Nat.le_trans Z0 K.1) E_w0 F_w0_bytes F_w0_size g_w0 E_w1 V_w1 g_w1 E_w3 V_w3 g_w3 ne_w0_w1 ne_w0_w3 ne_w1_w3) 0 (by decide) (by decide) rfl pd_7 rfl rfl (Nat.le_of_eq rfl) d11_5 rfl (k' := 0) (n' := 0) rfl rfl (by decide) (by decide) ?_
  intro T1 v1 h1 X1 q1
  obtain ⟨rfl, K1, E_w0, F_w0_bytes, F_w0_size, E_w1, V_w1⟩ := q1
  replace K := K.trans K1 (allS (Or.inl (List.mem_of_getElem? (i := 0) rfl)) (allS (Or.inl (List.mem_of_getElem? (i := 1) rfl)) all0))
  replace E_w3 := E_w3.keep K1
  replace V_w3 := V_w3.keep K1 (ninS (Ne.symm ne_w1_w3) (ninS (Ne.symm ne_w0_w3) nin0))
  show own_Go p e below (T1.setTop (mkF m 8 #[.val (.ref w0), .val (.ref w3)] [])) _
  exact own_ret B X1 d11_8 (by decide) (by decide) (⟨rfl, K, E_w0, F_w0_bytes, F_w0_size, E_w1, V_w1⟩)
def Q_27 (Z : State) (w0 : Addr) (w1 : Addr) (kw1 : ClassId) (p3 : Int32) (p4 : Int32) (h0 : Heap) (n0 : Nat) (v : Option Value) (h : Heap) : Prop :=
  (v = none ∧ h0 = h)
set_option maxRecDepth 65536 in
set_option maxHeartbeats 40000000 in
theorem rm_27 (l : Launch) (Z : State) (a0 : Array Value) (hw : ∀ d ∈ tables_1, d.before a0 Z = true) (ws : List Jvm.Cond) (w0 : Addr) (w1 : Addr) (kw1 : ClassId) (p3 : Int32) (p4 : Int32) (h0 : Heap) (n0 : Nat) (Z0 : n0 ≤ h0.size) (E_w0 : Exa Z h0 w0 "com/example/siltstone/siltstone/format/ByteSink") (F_w0_bytes : Fld Z h0 w0 "com/example/siltstone/siltstone/format/ByteSink" "bytes" "[B" (.ref w1)) (F_w0_size : Fld Z h0 w0 "com/example/siltstone/siltstone/format/ByteSink" "size" "I" (.int (60 : Int32))) (g_w0 : n0 ≤ w0) (E_w1 : Exa Z h0 w1 "[B") (V_w1 : Arv Z h0 w1 kw1 .byte (64 : Int32) ((.int p3) :: (.int (0 : Int32)) :: (.int (0 : Int32)) :: (.int (0 : Int32)) :: (.int (0 : Int32)) :: (.int (0 : Int32)) :: (.int (0 : Int32)) :: (.int (0 : Int32)) :: (.int (0 : Int32)) :: (.int (0 : Int32)) :: (.int (0 : Int32)) :: (.int (0 : Int32)) :: (.int (0 : Int32)) :: (.int (0 : Int32)) :: (.int (0 : Int32)) :: (.int (0 : Int32)) :: (.int (0 : Int32)) :: (.int (0 : Int32)) :: (.int (0 : Int32)) :: (.int (0 : Int32)) :: (.int (0 : Int32)) :: (.int (0 : Int32)) :: (.int (0 : Int32)) :: (.int (0 : Int32)) :: (.int (0 : Int32)) :: (.int (0 : Int32)) :: (.int (0 : Int32)) :: (.int (0 : Int32)) :: (.int (0 : Int32)) :: (.int (0 : Int32)) :: (.int (0 : Int32)) :: (.int (0 : Int32)) :: (.int (0 : Int32)) :: (.int (0 : Int32)) :: (.int (0 : Int32)) :: (.int (0 : Int32)) :: (.int (0 : Int32)) :: (.int (0 : Int32)) :: (.int (0 : Int32)) :: (.int (0 : Int32)) :: (.int (0 : Int32)) :: (.int (0 : Int32)) :: (.int (0 : Int32)) :: (.int (0 : Int32)) :: (.int (0 : Int32)) :: (.int (0 : Int32)) :: (.int (0 : Int32)) :: (.int (0 : Int32)) :: (.int (0 : Int32)) :: (.int (0 : Int32)) :: (.int (0 : Int32)) :: (.int (0 : Int32)) :: (.int (0 : Int32)) :: (.int (0 : Int32)) :: (.int (0 : Int32)) :: (.int (0 : Int32)) :: (.int (0 : Int32)) :: (.int (0 : Int32)) :: (.int (0 : Int32)) :: (.int p4) :: []) (.int (0 : Int32))) (g_w1 : n0 ≤ w1) (ne_w0_w1 : w0 ≠ w1) :
    MetFree l (⟨"com/example/siltstone/siltstone/format/ByteSink", "ensure", "(I)V"⟩ : MethodName) (head1 (Jvm.Cond.code (⟨"com/example/siltstone/siltstone/format/ByteSink", "ensure", "(I)V"⟩ : MethodName) prog_65_method_12_code 4 none :: ws) ({ frames := 0, cells := 0, slots := 0, locals := 0 } : Room)) (fun a U => a = #[(.ref w0), (.int (4 : Int32))] ∧ Z.Warmed39 U.vm ∧ U.heap = h0) (fun _ _ _ _ _ => True) (fun _ U o U' => ∃ v L, o = .returned v ∧ (Fr n0 L ∧ Q_27 Z w0 w1 kw1 p3 p4 h0 n0 v U'.heap) ∧ FrameEnd U o U' L ({ frames := 0, cells := 0, slots := 0, locals := 0 } : Room).cells ({ frames := 0, cells := 0, slots := 0, locals := 0 } : Room).slots) := by
  refine own_enter (Q := Q_27 Z w0 w1 kw1 p3 p4 h0 n0) (F := fun m => mkF m 0 #[.val (.ref w0), .val (.int (4 : Int32)), .unset, .unset] []) (plainFor_of_name pn_0) (fun m => by first | (simp [entryFrame, mkF, argsToLocals, Value.category]; done) | rfl) ?_
  intro p e s m below meth c s₁ B X0
  have K : Keep h0 h0 [] := Keep.refl h0 _
  refine own_iloadN (pc' := 1) B X0 d4_0 rfl rfl ?_
  refine own_aloadN (pc' := 2) B X0 d4_1 rfl rfl rfl ?_
  refine own_getfield (pc' := 5) B X0 (host := "") (Or.inl (own_w hw 10 rfl)) Via.refl F_w0_bytes d4_2 rfl ?_
  intro T1 X1
  refine own_arraylength (pc' := 6) B X1 V_w1 d4_5 rfl ?_
  refine own_aloadN (pc' := 7) B X1 d4_6 rfl rfl rfl ?_
  refine own_getfield (pc' := 10) B X1 (host := "") (Or.inl (own_w hw 21 rfl)) Via.refl F_w0_size d4_7 rfl ?_
  intro T2 X2
  refine own_isub (pc' := 11) B X2 (z := (4 : Int32)) d4_10 rfl (by decide) ?_
  refine own_icmpYes (pc' := 67) B X2 d4_11 (flt (by decide : ¬ ((4 : Int32) < (4 : Int32)))).2.2.2 (by decide) rfl ?_
  exact own_ret B X2 d4_67 (by decide) (by decide) (⟨rfl, rfl⟩)
def Q_26 (Z : State) (w0 : Addr) (w1 : Addr) (kw1 : ClassId) (p3 : Int32) (p4 : Int32) (p5 : Int32) (h0 : Heap) (n0 : Nat) (v : Option Value) (h : Heap) : Prop :=
  (∃ (y5 : Int32) (y10 : Int32) (y11 : Int32) (y16 : Int32) (y17 : Int32) (y22 : Int32) (y23 : Int32), p5.toInt8.toInt32 = y5 ∧ (p5.toUInt32 >>> ((8 : Int32) &&& 31).toUInt32).toInt32 = y10 ∧ y10.toInt8.toInt32 = y11 ∧ (p5.toUInt32 >>> ((16 : Int32) &&& 31).toUInt32).toInt32 = y16 ∧ y16.toInt8.toInt32 = y17 ∧ (p5.toUInt32 >>> ((24 : Int32) &&& 31).toUInt32).toInt32 = y22 ∧ y22.toInt8.toInt32 = y23 ∧ v = none ∧ Keep h0 h [w0, w1] ∧ Exa Z h w0 "com/example/siltstone/siltstone/format/ByteSink" ∧ Fld Z h w0 "com/example/siltstone/siltstone/format/ByteSink" "bytes" "[B" (.ref w1) ∧ Fld Z h w0 "com/example/siltstone/siltstone/format/ByteSink" "size" "I" (.int (64 : Int32)) ∧ Exa Z h w1 "[B" ∧ Arv Z h w1 kw1 .byte (64 : Int32) ((.int p3) :: (.int (0 : Int32)) :: (.int (0 : Int32)) :: (.int (0 : Int32)) :: (.int (0 : Int32)) :: (.int (0 : Int32)) :: (.int (0 : Int32)) :: (.int (0 : Int32)) :: (.int (0 : Int32)) :: (.int (0 : Int32)) :: (.int (0 : Int32)) :: (.int (0 : Int32)) :: (.int (0 : Int32)) :: (.int (0 : Int32)) :: (.int (0 : Int32)) :: (.int (0 : Int32)) :: (.int (0 : Int32)) :: (.int (0 : Int32)) :: (.int (0 : Int32)) :: (.int (0 : Int32)) :: (.int (0 : Int32)) :: (.int (0 : Int32)) :: (.int (0 : Int32)) :: (.int (0 : Int32)) :: (.int (0 : Int32)) :: (.int (0 : Int32)) :: (.int (0 : Int32)) :: (.int (0 : Int32)) :: (.int (0 : Int32)) :: (.int (0 : Int32)) :: (.int (0 : Int32)) :: (.int (0 : Int32)) :: (.int (0 : Int32)) :: (.int (0 : Int32)) :: (.int (0 : Int32)) :: (.int (0 : Int32)) :: (.int (0 : Int32)) :: (.int (0 : Int32)) :: (.int (0 : Int32)) :: (.int (0 : Int32)) :: (.int (0 : Int32)) :: (.int (0 : Int32)) :: (.int (0 : Int32)) :: (.int (0 : Int32)) :: (.int (0 : Int32)) :: (.int (0 : Int32)) :: (.int (0 : Int32)) :: (.int (0 : Int32)) :: (.int (0 : Int32)) :: (.int (0 : Int32)) :: (.int (0 : Int32)) :: (.int (0 : Int32)) :: (.int (0 : Int32)) :: (.int (0 : Int32)) :: (.int (0 : Int32)) :: (.int (0 : Int32)) :: (.int (0 : Int32)) :: (.int (0 : Int32)) :: (.int (0 : Int32)) :: (.int p4) :: (.int y5) :: (.int y11) :: (.int y17) :: (.int y23) :: []) (.int (0 : Int32)))
set_option maxRecDepth 65536 in
set_option maxHeartbeats 40000000 in
theorem rm_26 (l : Launch) (Z : State) (a0 : Array Value) (hw : ∀ d ∈ tables_1, d.before a0 Z = true) (ws : List Jvm.Cond) (w0 : Addr) (w1 : Addr) (kw1 : ClassId) (p3 : Int32) (p4 : Int32) (p5 : Int32) (h0 : Heap) (n0 : Nat) (Z0 : n0 ≤ h0.size) (E_w0 : Exa Z h0 w0 "com/example/siltstone/siltstone/format/ByteSink") (F_w0_bytes : Fld Z h0 w0 "com/example/siltstone/siltstone/format/ByteSink" "bytes" "[B" (.ref w1)) (F_w0_size : Fld Z h0 w0 "com/example/siltstone/siltstone/format/ByteSink" "size" "I" (.int (60 : Int32))) (g_w0 : n0 ≤ w0) (E_w1 : Exa Z h0 w1 "[B") (V_w1 : Arv Z h0 w1 kw1 .byte (64 : Int32) ((.int p3) :: (.int (0 : Int32)) :: (.int (0 : Int32)) :: (.int (0 : Int32)) :: (.int (0 : Int32)) :: (.int (0 : Int32)) :: (.int (0 : Int32)) :: (.int (0 : Int32)) :: (.int (0 : Int32)) :: (.int (0 : Int32)) :: (.int (0 : Int32)) :: (.int (0 : Int32)) :: (.int (0 : Int32)) :: (.int (0 : Int32)) :: (.int (0 : Int32)) :: (.int (0 : Int32)) :: (.int (0 : Int32)) :: (.int (0 : Int32)) :: (.int (0 : Int32)) :: (.int (0 : Int32)) :: (.int (0 : Int32)) :: (.int (0 : Int32)) :: (.int (0 : Int32)) :: (.int (0 : Int32)) :: (.int (0 : Int32)) :: (.int (0 : Int32)) :: (.int (0 : Int32)) :: (.int (0 : Int32)) :: (.int (0 : Int32)) :: (.int (0 : Int32)) :: (.int (0 : Int32)) :: (.int (0 : Int32)) :: (.int (0 : Int32)) :: (.int (0 : Int32)) :: (.int (0 : Int32)) :: (.int (0 : Int32)) :: (.int (0 : Int32)) :: (.int (0 : Int32)) :: (.int (0 : Int32)) :: (.int (0 : Int32)) :: (.int (0 : Int32)) :: (.int (0 : Int32)) :: (.int (0 : Int32)) :: (.int (0 : Int32)) :: (.int (0 : Int32)) :: (.int (0 : Int32)) :: (.int (0 : Int32)) :: (.int (0 : Int32)) :: (.int (0 : Int32)) :: (.int (0 : Int32)) :: (.int (0 : Int32)) :: (.int (0 : Int32)) :: (.int (0 : Int32)) :: (.int (0 : Int32)) :: (.int (0 : Int32)) :: (.int (0 : Int32)) :: (.int (0 : Int32)) :: (.int (0 : Int32)) :: (.int (0 : Int32)) :: (.int p4) :: []) (.int (0 : Int32))) (g_w1 : n0 ≤ w1) (ne_w0_w1 : w0 ≠ w1) :
    MetFree l (⟨"com/example/siltstone/siltstone/format/ByteSink", "writeIntLe", "(I)V"⟩ : MethodName) (head1 (Jvm.Cond.code (⟨"com/example/siltstone/siltstone/format/ByteSink", "writeIntLe", "(I)V"⟩ : MethodName) prog_65_method_7_code 3 none :: ws) ({ frames := 1, cells := 0, slots := 0, locals := 15 } : Room)) (fun a U => a = #[(.ref w0), (.int p5)] ∧ Z.Warmed39 U.vm ∧ U.heap = h0) (fun _ _ _ _ _ => True) (fun _ U o U' => ∃ v L, o = .returned v ∧ (Fr n0 L ∧ Q_26 Z w0 w1 kw1 p3 p4 p5 h0 n0 v U'.heap) ∧ FrameEnd U o U' L ({ frames := 1, cells := 0, slots := 0, locals := 15 } : Room).cells ({ frames := 1, cells := 0, slots := 0, locals := 15 } : Room).slots) := by
  refine own_enter (Q := Q_26 Z w0 w1 kw1 p3 p4 p5 h0 n0) (F := fun m => mkF m 0 #[.val (.ref w0), .val (.int p5), .unset] []) (plainFor_of_name pn_0) (fun m => by first | (simp [entryFrame, mkF, argsToLocals, Value.category]; done) | rfl) ?_
  intro p e s m below meth c s₁ B X0
  have K : Keep h0 h0 [w0, w1] := Keep.refl h0 _
  refine own_aloadN (pc' := 1) B X0 d3_0 rfl rfl rfl ?_
  refine own_iconst (pc' := 2) B X0 (z := (4 : Int32)) d3_1 rfl rfl ?_
  refine own_callP (pc' := 5) B X0 (own_w hw 17 rfl) (own_w hw 18 rfl) (own_w hw 19 rfl) (own_w hw 2 rfl) (own_w hw 3 rfl) (own_w hw 20 rfl) E_w0 (by decide) [(.int (4 : Int32))] [] (rm_27 l Z a0 hw [] w0 w1 kw1 (p3) (p4) h0 n0 (Nat.le_trans Z0 K.1) E_w0 F_w0_bytes F_w0_size g_w0 E_w1 V_w1 g_w1 ne_w0_w1) 0 (by decide) (by decide) rfl pd_1 rfl rfl (Nat.le_of_eq rfl) d3_2 rfl (k' := 0) (n' := 0) rfl rfl (by decide) (by decide) ?_
  intro T1 v1 h1 X1 q1
  obtain ⟨rfl, rfl⟩ := q1
  show own_Go p e below (T1.setTop (mkF m 5 #[.val (.ref w0), .val (.int p5), .unset] [])) _
  refine own_iconst (pc' := 6) B X1 (z := (0 : Int32)) d3_5 rfl rfl ?_
  refine own_istoreN (pc' := 7) B X1 (Ls' := #[.val (.ref w0), .val (.int p5), .val (.int (0 : Int32))]) d3_6 rfl rfl ?_
  refine own_iloadN (pc' := 8) B X1 d3_7 rfl rfl ?_
  refine own_iconst (pc' := 9) B X1 (z := (4 : Int32)) d3_8 rfl rfl ?_
  refine own_icmpNo (pc' := 12) B X1 d3_9 (tlt (by decide : (0 : Int32) < (4 : Int32))).2.1 rfl ?_
  refine own_aloadN (pc' := 13) B X1 d3_12 rfl rfl rfl ?_
  refine own_getfield (pc' := 16) B X1 (host := "") (Or.inl (own_w hw 10 rfl)) Via.refl F_w0_bytes d3_13 rfl ?_
  intro T2 X2
  refine own_aloadN (pc' := 17) B X2 d3_16 rfl rfl rfl ?_
  refine own_dup (pc' := 18) B X2 d3_17 rfl rfl ?_
  refine own_getfield (pc' := 21) B X2 (host := "") (Or.inl (own_w hw 21 rfl)) Via.refl F_w0_size d3_18 rfl ?_
  intro T3 X3
  refine own_dup_x1 (pc' := 22) B X3 d3_21 rfl rfl rfl ?_
  refine own_iconst (pc' := 23) B X3 (z := (1 : Int32)) d3_22 rfl rfl ?_
  refine own_iadd (pc' := 24) B X3 (z := (61 : Int32)) d3_23 rfl (by decide) ?_
  refine own_putfield (pc' := 27) B X3 (host := "") (Or.inl (own_w hw 21 rfl)) Via.refl F_w0_size E_w0 g_w0 (Or.inl (own_w hw 22 rfl)) (own_w hw 2 rfl) (ty := .int) (by decide) rfl rfl d3_24 rfl ?_
  intro T4 h4 X4 W4 F_w0_size
  replace E_w0 := E_w0.wr W4
  replace F_w0_bytes := F_w0_bytes.other W4 (Or.inr (slot_ne (Or.inl (own_w hw 11 rfl)) (Or.inl (own_w hw 22 rfl)) (by decide) (t := (.array .byte)) (t' := .int) (by decide) (by decide)))
  replace E_w1 := E_w1.wr W4
  replace V_w1 := V_w1.other W4 (Ne.symm ne_w0_w1)
  replace K := K.wr W4 (Or.inl (List.mem_of_getElem? (i := 0) rfl))
  refine own_iloadN (pc' := 28) B X4 d3_27 rfl rfl ?_
  refine own_bipush (pc' := 30) B X4 (z := (8 : Int32)) d3_28 rfl (by decide) ?_
  refine own_iloadN (pc' := 31) B X4 d3_30 rfl rfl ?_
  refine own_imul (pc' := 32) B X4 (z := (0 : Int32)) d3_31 rfl (by decide) ?_
  refine own_iushr (pc' := 33) B X4 d3_32 rfl (own_ush0 _) ?_
  obtain ⟨y5, hy5⟩ : ∃ z : Int32, p5.toInt8.toInt32 = z := ⟨_, rfl⟩
  refine own_i2b (pc' := 34) B X4 d3_33 rfl hy5 ?_
  replace V_w1 : Arv Z h4 w1 kw1 .byte (64 : Int32) ((.int p3) :: (.int (0 : Int32)) :: (.int (0 : Int32)) :: (.int (0 : Int32)) :: (.int (0 : Int32)) :: (.int (0 : Int32)) :: (.int (0 : Int32)) :: (.int (0 : Int32)) :: (.int (0 : Int32)) :: (.int (0 : Int32)) :: (.int (0 : Int32)) :: (.int (0 : Int32)) :: (.int (0 : Int32)) :: (.int (0 : Int32)) :: (.int (0 : Int32)) :: (.int (0 : Int32)) :: (.int (0 : Int32)) :: (.int (0 : Int32)) :: (.int (0 : Int32)) :: (.int (0 : Int32)) :: (.int (0 : Int32)) :: (.int (0 : Int32)) :: (.int (0 : Int32)) :: (.int (0 : Int32)) :: (.int (0 : Int32)) :: (.int (0 : Int32)) :: (.int (0 : Int32)) :: (.int (0 : Int32)) :: (.int (0 : Int32)) :: (.int (0 : Int32)) :: (.int (0 : Int32)) :: (.int (0 : Int32)) :: (.int (0 : Int32)) :: (.int (0 : Int32)) :: (.int (0 : Int32)) :: (.int (0 : Int32)) :: (.int (0 : Int32)) :: (.int (0 : Int32)) :: (.int (0 : Int32)) :: (.int (0 : Int32)) :: (.int (0 : Int32)) :: (.int (0 : Int32)) :: (.int (0 : Int32)) :: (.int (0 : Int32)) :: (.int (0 : Int32)) :: (.int (0 : Int32)) :: (.int (0 : Int32)) :: (.int (0 : Int32)) :: (.int (0 : Int32)) :: (.int (0 : Int32)) :: (.int (0 : Int32)) :: (.int (0 : Int32)) :: (.int (0 : Int32)) :: (.int (0 : Int32)) :: (.int (0 : Int32)) :: (.int (0 : Int32)) :: (.int (0 : Int32)) :: (.int (0 : Int32)) :: (.int (0 : Int32)) :: (.int p4) :: (.int (0 : Int32)) :: []) (.int (0 : Int32)) := V_w1.pad (pad_rep ((.int p3) :: (.int (0 : Int32)) :: (.int (0 : Int32)) :: (.int (0 : Int32)) :: (.int (0 : Int32)) :: (.int (0 : Int32)) :: (.int (0 : Int32)) :: (.int (0 : Int32)) :: (.int (0 : Int32)) :: (.int (0 : Int32)) :: (.int (0 : Int32)) :: (.int (0 : Int32)) :: (.int (0 : Int32)) :: (.int (0 : Int32)) :: (.int (0 : Int32)) :: (.int (0 : Int32)) :: (.int (0 : Int32)) :: (.int (0 : Int32)) :: (.int (0 : Int32)) :: (.int (0 : Int32)) :: (.int (0 : Int32)) :: (.int (0 : Int32)) :: (.int (0 : Int32)) :: (.int (0 : Int32)) :: (.int (0 : Int32)) :: (.int (0 : Int32)) :: (.int (0 : Int32)) :: (.int (0 : Int32)) :: (.int (0 : Int32)) :: (.int (0 : Int32)) :: (.int (0 : Int32)) :: (.int (0 : Int32)) :: (.int (0 : Int32)) :: (.int (0 : Int32)) :: (.int (0 : Int32)) :: (.int (0 : Int32)) :: (.int (0 : Int32)) :: (.int (0 : Int32)) :: (.int (0 : Int32)) :: (.int (0 : Int32)) :: (.int (0 : Int32)) :: (.int (0 : Int32)) :: (.int (0 : Int32)) :: (.int (0 : Int32)) :: (.int (0 : Int32)) :: (.int (0 : Int32)) :: (.int (0 : Int32)) :: (.int (0 : Int32)) :: (.int (0 : Int32)) :: (.int (0 : Int32)) :: (.int (0 : Int32)) :: (.int (0 : Int32)) :: (.int (0 : Int32)) :: (.int (0 : Int32)) :: (.int (0 : Int32)) :: (.int (0 : Int32)) :: (.int (0 : Int32)) :: (.int (0 : Int32)) :: (.int (0 : Int32)) :: (.int p4) :: []) (.int (0 : Int32)) 1)
  refine own_bastore (pc' := 35) B X4 (x' := y5) V_w1 g_w1 ⟨by decide, by decide⟩ 60 (by decide) (Nat.le_of_ble_eq_true rfl) (own_idem_i2b hy5) d3_34 rfl ?_
  intro T6 h6 X6 W6 V_w1
  replace V_w1 : Arv Z h6 w1 kw1 .byte (64 : Int32) ((.int p3) :: (.int (0 : Int32)) :: (.int (0 : Int32)) :: (.int (0 : Int32)) :: (.int (0 : Int32)) :: (.int (0 : Int32)) :: (.int (0 : Int32)) :: (.int (0 : Int32)) :: (.int (0 : Int32)) :: (.int (0 : Int32)) :: (.int (0 : Int32)) :: (.int (0 : Int32)) :: (.int (0 : Int32)) :: (.int (0 : Int32)) :: (.int (0 : Int32)) :: (.int (0 : Int32)) :: (.int (0 : Int32)) :: (.int (0 : Int32)) :: (.int (0 : Int32)) :: (.int (0 : Int32)) :: (.int (0 : Int32)) :: (.int (0 : Int32)) :: (.int (0 : Int32)) :: (.int (0 : Int32)) :: (.int (0 : Int32)) :: (.int (0 : Int32)) :: (.int (0 : Int32)) :: (.int (0 : Int32)) :: (.int (0 : Int32)) :: (.int (0 : Int32)) :: (.int (0 : Int32)) :: (.int (0 : Int32)) :: (.int (0 : Int32)) :: (.int (0 : Int32)) :: (.int (0 : Int32)) :: (.int (0 : Int32)) :: (.int (0 : Int32)) :: (.int (0 : Int32)) :: (.int (0 : Int32)) :: (.int (0 : Int32)) :: (.int (0 : Int32)) :: (.int (0 : Int32)) :: (.int (0 : Int32)) :: (.int (0 : Int32)) :: (.int (0 : Int32)) :: (.int (0 : Int32)) :: (.int (0 : Int32)) :: (.int (0 : Int32)) :: (.int (0 : Int32)) :: (.int (0 : Int32)) :: (.int (0 : Int32)) :: (.int (0 : Int32)) :: (.int (0 : Int32)) :: (.int (0 : Int32)) :: (.int (0 : Int32)) :: (.int (0 : Int32)) :: (.int (0 : Int32)) :: (.int (0 : Int32)) :: (.int (0 : Int32)) :: (.int p4) :: (.int y5) :: []) (.int (0 : Int32)) := V_w1
  replace E_w0 := E_w0.wr W6
  replace F_w0_bytes := F_w0_bytes.other W6 (Or.inl ne_w0_w1)
  replace F_w0_size := F_w0_size.other W6 (Or.inl ne_w0_w1)
  replace E_w1 := E_w1.wr W6
  replace K := K.wr W6 (Or.inl (List.mem_of_getElem? (i := 1) rfl))
  refine own_iinc (pc' := 38) B X6 (Ls' := #[.val (.ref w0), .val (.int p5), .val (.int (1 : Int32))]) d3_35 rfl rfl (z := (1 : Int32)) (by decide) rfl ?_
  refine own_goto (pc' := 7) B X6 d3_38 (by decide) rfl ?_
  refine own_iloadN (pc' := 8) B X6 d3_7 rfl rfl ?_
  refine own_iconst (pc' := 9) B X6 (z := (4 : Int32)) d3_8 rfl rfl ?_
  refine own_icmpNo (pc' := 12) B X6 d3_9 (tlt (by decide : (1 : Int32) < (4 : Int32))).2.1 rfl ?_
  refine own_aloadN (pc' := 13) B X6 d3_12 rfl rfl rfl ?_
  refine own_getfield (pc' := 16) B X6 (host := "") (Or.inl (own_w hw 10 rfl)) Via.refl F_w0_bytes d3_13 rfl ?_
  intro T7 X7
  refine own_aloadN (pc' := 17) B X7 d3_16 rfl rfl rfl ?_
  refine own_dup (pc' := 18) B X7 d3_17 rfl rfl ?_
  refine own_getfield (pc' := 21) B X7 (host := "") (Or.inl (own_w hw 21 rfl)) Via.refl F_w0_size d3_18 rfl ?_
  intro T8 X8
  refine own_dup_x1 (pc' := 22) B X8 d3_21 rfl rfl rfl ?_
  refine own_iconst (pc' := 23) B X8 (z := (1 : Int32)) d3_22 rfl rfl ?_
  refine own_iadd (pc' := 24) B X8 (z := (62 : Int32)) d3_23 rfl (by decide) ?_
  refine own_putfield (pc' := 27) B X8 (host := "") (Or.inl (own_w hw 21 rfl)) Via.refl F_w0_size E_w0 g_w0 (Or.inl (own_w hw 22 rfl)) (own_w hw 2 rfl) (ty := .int) (by decide) rfl rfl d3_24 rfl ?_
  intro T9 h9 X9 W9 F_w0_size
  replace E_w0 := E_w0.wr W9
  replace F_w0_bytes := F_w0_bytes.other W9 (Or.inr (slot_ne (Or.inl (own_w hw 11 rfl)) (Or.inl (own_w hw 22 rfl)) (by decide) (t := (.array .byte)) (t' := .int) (by decide) (by decide)))
  replace E_w1 := E_w1.wr W9
  replace V_w1 := V_w1.other W9 (Ne.symm ne_w0_w1)
  replace K := K.wr W9 (Or.inl (List.mem_of_getElem? (i := 0) rfl))
  refine own_iloadN (pc' := 28) B X9 d3_27 rfl rfl ?_
  refine own_bipush (pc' := 30) B X9 (z := (8 : Int32)) d3_28 rfl (by decide) ?_
  refine own_iloadN (pc' := 31) B X9 d3_30 rfl rfl ?_
  refine own_imul (pc' := 32) B X9 (z := (8 : Int32)) d3_31 rfl (by decide) ?_
  obtain ⟨y10, hy10⟩ : ∃ z : Int32, (p5.toUInt32 >>> ((8 : Int32) &&& 31).toUInt32).toInt32 = z := ⟨_, rfl⟩
  refine own_iushr (pc' := 33) B X9 d3_32 rfl hy10 ?_
  obtain ⟨y11, hy11⟩ : ∃ z : Int32, y10.toInt8.toInt32 = z := ⟨_, rfl⟩
  refine own_i2b (pc' := 34) B X9 d3_33 rfl hy11 ?_
  replace V_w1 : Arv Z h9 w1 kw1 .byte (64 : Int32) ((.int p3) :: (.int (0 : Int32)) :: (.int (0 : Int32)) :: (.int (0 : Int32)) :: (.int (0 : Int32)) :: (.int (0 : Int32)) :: (.int (0 : Int32)) :: (.int (0 : Int32)) :: (.int (0 : Int32)) :: (.int (0 : Int32)) :: (.int (0 : Int32)) :: (.int (0 : Int32)) :: (.int (0 : Int32)) :: (.int (0 : Int32)) :: (.int (0 : Int32)) :: (.int (0 : Int32)) :: (.int (0 : Int32)) :: (.int (0 : Int32)) :: (.int (0 : Int32)) :: (.int (0 : Int32)) :: (.int (0 : Int32)) :: (.int (0 : Int32)) :: (.int (0 : Int32)) :: (.int (0 : Int32)) :: (.int (0 : Int32)) :: (.int (0 : Int32)) :: (.int (0 : Int32)) :: (.int (0 : Int32)) :: (.int (0 : Int32)) :: (.int (0 : Int32)) :: (.int (0 : Int32)) :: (.int (0 : Int32)) :: (.int (0 : Int32)) :: (.int (0 : Int32)) :: (.int (0 : Int32)) :: (.int (0 : Int32)) :: (.int (0 : Int32)) :: (.int (0 : Int32)) :: (.int (0 : Int32)) :: (.int (0 : Int32)) :: (.int (0 : Int32)) :: (.int (0 : Int32)) :: (.int (0 : Int32)) :: (.int (0 : Int32)) :: (.int (0 : Int32)) :: (.int (0 : Int32)) :: (.int (0 : Int32)) :: (.int (0 : Int32)) :: (.int (0 : Int32)) :: (.int (0 : Int32)) :: (.int (0 : Int32)) :: (.int (0 : Int32)) :: (.int (0 : Int32)) :: (.int (0 : Int32)) :: (.int (0 : Int32)) :: (.int (0 : Int32)) :: (.int (0 : Int32)) :: (.int (0 : Int32)) :: (.int (0 : Int32)) :: (.int p4) :: (.int y5) :: (.int (0 : Int32)) :: []) (.int (0 : Int32)) := V_w1.pad (pad_rep ((.int p3) :: (.int (0 : Int32)) :: (.int (0 : Int32)) :: (.int (0 : Int32)) :: (.int (0 : Int32)) :: (.int (0 : Int32)) :: (.int (0 : Int32)) :: (.int (0 : Int32)) :: (.int (0 : Int32)) :: (.int (0 : Int32)) :: (.int (0 : Int32)) :: (.int (0 : Int32)) :: (.int (0 : Int32)) :: (.int (0 : Int32)) :: (.int (0 : Int32)) :: (.int (0 : Int32)) :: (.int (0 : Int32)) :: (.int (0 : Int32)) :: (.int (0 : Int32)) :: (.int (0 : Int32)) :: (.int (0 : Int32)) :: (.int (0 : Int32)) :: (.int (0 : Int32)) :: (.int (0 : Int32)) :: (.int (0 : Int32)) :: (.int (0 : Int32)) :: (.int (0 : Int32)) :: (.int (0 : Int32)) :: (.int (0 : Int32)) :: (.int (0 : Int32)) :: (.int (0 : Int32)) :: (.int (0 : Int32)) :: (.int (0 : Int32)) :: (.int (0 : Int32)) :: (.int (0 : Int32)) :: (.int (0 : Int32)) :: (.int (0 : Int32)) :: (.int (0 : Int32)) :: (.int (0 : Int32)) :: (.int (0 : Int32)) :: (.int (0 : Int32)) :: (.int (0 : Int32)) :: (.int (0 : Int32)) :: (.int (0 : Int32)) :: (.int (0 : Int32)) :: (.int (0 : Int32)) :: (.int (0 : Int32)) :: (.int (0 : Int32)) :: (.int (0 : Int32)) :: (.int (0 : Int32)) :: (.int (0 : Int32)) :: (.int (0 : Int32)) :: (.int (0 : Int32)) :: (.int (0 : Int32)) :: (.int (0 : Int32)) :: (.int (0 : Int32)) :: (.int (0 : Int32)) :: (.int (0 : Int32)) :: (.int (0 : Int32)) :: (.int p4) :: (.int y5) :: []) (.int (0 : Int32)) 1)
  refine own_bastore (pc' := 35) B X9 (x' := y11) V_w1 g_w1 ⟨by decide, by decide⟩ 61 (by decide) (Nat.le_of_ble_eq_true rfl) (own_idem_i2b hy11) d3_34 rfl ?_
  intro T12 h12 X12 W12 V_w1
  replace V_w1 : Arv Z h12 w1 kw1 .byte (64 : Int32) ((.int p3) :: (.int (0 : Int32)) :: (.int (0 : Int32)) :: (.int (0 : Int32)) :: (.int (0 : Int32)) :: (.int (0 : Int32)) :: (.int (0 : Int32)) :: (.int (0 : Int32)) :: (.int (0 : Int32)) :: (.int (0 : Int32)) :: (.int (0 : Int32)) :: (.int (0 : Int32)) :: (.int (0 : Int32)) :: (.int (0 : Int32)) :: (.int (0 : Int32)) :: (.int (0 : Int32)) :: (.int (0 : Int32)) :: (.int (0 : Int32)) :: (.int (0 : Int32)) :: (.int (0 : Int32)) :: (.int (0 : Int32)) :: (.int (0 : Int32)) :: (.int (0 : Int32)) :: (.int (0 : Int32)) :: (.int (0 : Int32)) :: (.int (0 : Int32)) :: (.int (0 : Int32)) :: (.int (0 : Int32)) :: (.int (0 : Int32)) :: (.int (0 : Int32)) :: (.int (0 : Int32)) :: (.int (0 : Int32)) :: (.int (0 : Int32)) :: (.int (0 : Int32)) :: (.int (0 : Int32)) :: (.int (0 : Int32)) :: (.int (0 : Int32)) :: (.int (0 : Int32)) :: (.int (0 : Int32)) :: (.int (0 : Int32)) :: (.int (0 : Int32)) :: (.int (0 : Int32)) :: (.int (0 : Int32)) :: (.int (0 : Int32)) :: (.int (0 : Int32)) :: (.int (0 : Int32)) :: (.int (0 : Int32)) :: (.int (0 : Int32)) :: (.int (0 : Int32)) :: (.int (0 : Int32)) :: (.int (0 : Int32)) :: (.int (0 : Int32)) :: (.int (0 : Int32)) :: (.int (0 : Int32)) :: (.int (0 : Int32)) :: (.int (0 : Int32)) :: (.int (0 : Int32)) :: (.int (0 : Int32)) :: (.int (0 : Int32)) :: (.int p4) :: (.int y5) :: (.int y11) :: []) (.int (0 : Int32)) := V_w1
  replace E_w0 := E_w0.wr W12
  replace F_w0_bytes := F_w0_bytes.other W12 (Or.inl ne_w0_w1)
  replace F_w0_size := F_w0_size.other W12 (Or.inl ne_w0_w1)
  replace E_w1 := E_w1.wr W12
  replace K := K.wr W12 (Or.inl (List.mem_of_getElem? (i := 1) rfl))
  refine own_iinc (pc' := 38) B X12 (Ls' := #[.val (.ref w0), .val (.int p5), .val (.int (2 : Int32))]) d3_35 rfl rfl (z := (2 : Int32)) (by decide) rfl ?_
  refine own_goto (pc' := 7) B X12 d3_38 (by decide) rfl ?_
  refine own_iloadN (pc' := 8) B X12 d3_7 rfl rfl ?_
  refine own_iconst (pc' := 9) B X12 (z := (4 : Int32)) d3_8 rfl rfl ?_
  refine own_icmpNo (pc' := 12) B X12 d3_9 (tlt (by decide : (2 : Int32) < (4 : Int32))).2.1 rfl ?_
  refine own_aloadN (pc' := 13) B X12 d3_12 rfl rfl rfl ?_
  refine own_getfield (pc' := 16) B X12 (host := "") (Or.inl (own_w hw 10 rfl)) Via.refl F_w0_bytes d3_13 rfl ?_
  intro T13 X13
  refine own_aloadN (pc' := 17) B X13 d3_16 rfl rfl rfl ?_
  refine own_dup (pc' := 18) B X13 d3_17 rfl rfl ?_
  refine own_getfield (pc' := 21) B X13 (host := "") (Or.inl (own_w hw 21 rfl)) Via.refl F_w0_size d3_18 rfl ?_
  intro T14 X14
  refine own_dup_x1 (pc' := 22) B X14 d3_21 rfl rfl rfl ?_
  refine own_iconst (pc' := 23) B X14 (z := (1 : Int32)) d3_22 rfl rfl ?_
  refine own_iadd (pc' := 24) B X14 (z := (63 : Int32)) d3_23 rfl (by decide) ?_
  refine own_putfield (pc' := 27) B X14 (host := "") (Or.inl (own_w hw 21 rfl)) Via.refl F_w0_size E_w0 g_w0 (Or.inl (own_w hw 22 rfl)) (own_w hw 2 rfl) (ty := .int) (by decide) rfl rfl d3_24 rfl ?_
  intro T15 h15 X15 W15 F_w0_size
  replace E_w0 := E_w0.wr W15
  replace F_w0_bytes := F_w0_bytes.other W15 (Or.inr (slot_ne (Or.inl (own_w hw 11 rfl)) (Or.inl (own_w hw 22 rfl)) (by decide) (t := (.array .byte)) (t' := .int) (by decide) (by decide)))
  replace E_w1 := E_w1.wr W15
  replace V_w1 := V_w1.other W15 (Ne.symm ne_w0_w1)
  replace K := K.wr W15 (Or.inl (List.mem_of_getElem? (i := 0) rfl))
  refine own_iloadN (pc' := 28) B X15 d3_27 rfl rfl ?_
  refine own_bipush (pc' := 30) B X15 (z := (8 : Int32)) d3_28 rfl (by decide) ?_
  refine own_iloadN (pc' := 31) B X15 d3_30 rfl rfl ?_
  refine own_imul (pc' := 32) B X15 (z := (16 : Int32)) d3_31 rfl (by decide) ?_
  obtain ⟨y16, hy16⟩ : ∃ z : Int32, (p5.toUInt32 >>> ((16 : Int32) &&& 31).toUInt32).toInt32 = z := ⟨_, rfl⟩
  refine own_iushr (pc' := 33) B X15 d3_32 rfl hy16 ?_
  obtain ⟨y17, hy17⟩ : ∃ z : Int32, y16.toInt8.toInt32 = z := ⟨_, rfl⟩
  refine own_i2b (pc' := 34) B X15 d3_33 rfl hy17 ?_
  replace V_w1 : Arv Z h15 w1 kw1 .byte (64 : Int32) ((.int p3) :: (.int (0 : Int32)) :: (.int (0 : Int32)) :: (.int (0 : Int32)) :: (.int (0 : Int32)) :: (.int (0 : Int32)) :: (.int (0 : Int32)) :: (.int (0 : Int32)) :: (.int (0 : Int32)) :: (.int (0 : Int32)) :: (.int (0 : Int32)) :: (.int (0 : Int32)) :: (.int (0 : Int32)) :: (.int (0 : Int32)) :: (.int (0 : Int32)) :: (.int (0 : Int32)) :: (.int (0 : Int32)) :: (.int (0 : Int32)) :: (.int (0 : Int32)) :: (.int (0 : Int32)) :: (.int (0 : Int32)) :: (.int (0 : Int32)) :: (.int (0 : Int32)) :: (.int (0 : Int32)) :: (.int (0 : Int32)) :: (.int (0 : Int32)) :: (.int (0 : Int32)) :: (.int (0 : Int32)) :: (.int (0 : Int32)) :: (.int (0 : Int32)) :: (.int (0 : Int32)) :: (.int (0 : Int32)) :: (.int (0 : Int32)) :: (.int (0 : Int32)) :: (.int (0 : Int32)) :: (.int (0 : Int32)) :: (.int (0 : Int32)) :: (.int (0 : Int32)) :: (.int (0 : Int32)) :: (.int (0 : Int32)) :: (.int (0 : Int32)) :: (.int (0 : Int32)) :: (.int (0 : Int32)) :: (.int (0 : Int32)) :: (.int (0 : Int32)) :: (.int (0 : Int32)) :: (.int (0 : Int32)) :: (.int (0 : Int32)) :: (.int (0 : Int32)) :: (.int (0 : Int32)) :: (.int (0 : Int32)) :: (.int (0 : Int32)) :: (.int (0 : Int32)) :: (.int (0 : Int32)) :: (.int (0 : Int32)) :: (.int (0 : Int32)) :: (.int (0 : Int32)) :: (.int (0 : Int32)) :: (.int (0 : Int32)) :: (.int p4) :: (.int y5) :: (.int y11) :: (.int (0 : Int32)) :: []) (.int (0 : Int32)) := V_w1.pad (pad_rep ((.int p3) :: (.int (0 : Int32)) :: (.int (0 : Int32)) :: (.int (0 : Int32)) :: (.int (0 : Int32)) :: (.int (0 : Int32)) :: (.int (0 : Int32)) :: (.int (0 : Int32)) :: (.int (0 : Int32)) :: (.int (0 : Int32)) :: (.int (0 : Int32)) :: (.int (0 : Int32)) :: (.int (0 : Int32)) :: (.int (0 : Int32)) :: (.int (0 : Int32)) :: (.int (0 : Int32)) :: (.int (0 : Int32)) :: (.int (0 : Int32)) :: (.int (0 : Int32)) :: (.int (0 : Int32)) :: (.int (0 : Int32)) :: (.int (0 : Int32)) :: (.int (0 : Int32)) :: (.int (0 : Int32)) :: (.int (0 : Int32)) :: (.int (0 : Int32)) :: (.int (0 : Int32)) :: (.int (0 : Int32)) :: (.int (0 : Int32)) :: (.int (0 : Int32)) :: (.int (0 : Int32)) :: (.int (0 : Int32)) :: (.int (0 : Int32)) :: (.int (0 : Int32)) :: (.int (0 : Int32)) :: (.int (0 : Int32)) :: (.int (0 : Int32)) :: (.int (0 : Int32)) :: (.int (0 : Int32)) :: (.int (0 : Int32)) :: (.int (0 : Int32)) :: (.int (0 : Int32)) :: (.int (0 : Int32)) :: (.int (0 : Int32)) :: (.int (0 : Int32)) :: (.int (0 : Int32)) :: (.int (0 : Int32)) :: (.int (0 : Int32)) :: (.int (0 : Int32)) :: (.int (0 : Int32)) :: (.int (0 : Int32)) :: (.int (0 : Int32)) :: (.int (0 : Int32)) :: (.int (0 : Int32)) :: (.int (0 : Int32)) :: (.int (0 : Int32)) :: (.int (0 : Int32)) :: (.int (0 : Int32)) :: (.int (0 : Int32)) :: (.int p4) :: (.int y5) :: (.int y11) :: []) (.int (0 : Int32)) 1)
  refine own_bastore (pc' := 35) B X15 (x' := y17) V_w1 g_w1 ⟨by decide, by decide⟩ 62 (by decide) (Nat.le_of_ble_eq_true rfl) (own_idem_i2b hy17) d3_34 rfl ?_
  intro T18 h18 X18 W18 V_w1
  replace V_w1 : Arv Z h18 w1 kw1 .byte (64 : Int32) ((.int p3) :: (.int (0 : Int32)) :: (.int (0 : Int32)) :: (.int (0 : Int32)) :: (.int (0 : Int32)) :: (.int (0 : Int32)) :: (.int (0 : Int32)) :: (.int (0 : Int32)) :: (.int (0 : Int32)) :: (.int (0 : Int32)) :: (.int (0 : Int32)) :: (.int (0 : Int32)) :: (.int (0 : Int32)) :: (.int (0 : Int32)) :: (.int (0 : Int32)) :: (.int (0 : Int32)) :: (.int (0 : Int32)) :: (.int (0 : Int32)) :: (.int (0 : Int32)) :: (.int (0 : Int32)) :: (.int (0 : Int32)) :: (.int (0 : Int32)) :: (.int (0 : Int32)) :: (.int (0 : Int32)) :: (.int (0 : Int32)) :: (.int (0 : Int32)) :: (.int (0 : Int32)) :: (.int (0 : Int32)) :: (.int (0 : Int32)) :: (.int (0 : Int32)) :: (.int (0 : Int32)) :: (.int (0 : Int32)) :: (.int (0 : Int32)) :: (.int (0 : Int32)) :: (.int (0 : Int32)) :: (.int (0 : Int32)) :: (.int (0 : Int32)) :: (.int (0 : Int32)) :: (.int (0 : Int32)) :: (.int (0 : Int32)) :: (.int (0 : Int32)) :: (.int (0 : Int32)) :: (.int (0 : Int32)) :: (.int (0 : Int32)) :: (.int (0 : Int32)) :: (.int (0 : Int32)) :: (.int (0 : Int32)) :: (.int (0 : Int32)) :: (.int (0 : Int32)) :: (.int (0 : Int32)) :: (.int (0 : Int32)) :: (.int (0 : Int32)) :: (.int (0 : Int32)) :: (.int (0 : Int32)) :: (.int (0 : Int32)) :: (.int (0 : Int32)) :: (.int (0 : Int32)) :: (.int (0 : Int32)) :: (.int (0 : Int32)) :: (.int p4) :: (.int y5) :: (.int y11) :: (.int y17) :: []) (.int (0 : Int32)) := V_w1
  replace E_w0 := E_w0.wr W18
  replace F_w0_bytes := F_w0_bytes.other W18 (Or.inl ne_w0_w1)
  replace F_w0_size := F_w0_size.other W18 (Or.inl ne_w0_w1)
  replace E_w1 := E_w1.wr W18
  replace K := K.wr W18 (Or.inl (List.mem_of_getElem? (i := 1) rfl))
  refine own_iinc (pc' := 38) B X18 (Ls' := #[.val (.ref w0), .val (.int p5), .val (.int (3 : Int32))]) d3_35 rfl rfl (z := (3 : Int32)) (by decide) rfl ?_
  refine own_goto (pc' := 7) B X18 d3_38 (by decide) rfl ?_
  refine own_iloadN (pc' := 8) B X18 d3_7 rfl rfl ?_
  refine own_iconst (pc' := 9) B X18 (z := (4 : Int32)) d3_8 rfl rfl ?_
  refine own_icmpNo (pc' := 12) B X18 d3_9 (tlt (by decide : (3 : Int32) < (4 : Int32))).2.1 rfl ?_
  refine own_aloadN (pc' := 13) B X18 d3_12 rfl rfl rfl ?_
  refine own_getfield (pc' := 16) B X18 (host := "") (Or.inl (own_w hw 10 rfl)) Via.refl F_w0_bytes d3_13 rfl ?_
  intro T19 X19
  refine own_aloadN (pc' := 17) B X19 d3_16 rfl rfl rfl ?_
  refine own_dup (pc' := 18) B X19 d3_17 rfl rfl ?_
  refine own_getfield (pc' := 21) B X19 (host := "") (Or.inl (own_w hw 21 rfl)) Via.refl F_w0_size d3_18 rfl ?_
  intro T20 X20
  refine own_dup_x1 (pc' := 22) B X20 d3_21 rfl rfl rfl ?_
  refine own_iconst (pc' := 23) B X20 (z := (1 : Int32)) d3_22 rfl rfl ?_
  refine own_iadd (pc' := 24) B X20 (z := (64 : Int32)) d3_23 rfl (by decide) ?_
  refine own_putfield (pc' := 27) B X20 (host := "") (Or.inl (own_w hw 21 rfl)) Via.refl F_w0_size E_w0 g_w0 (Or.inl (own_w hw 22 rfl)) (own_w hw 2 rfl) (ty := .int) (by decide) rfl rfl d3_24 rfl ?_
  intro T21 h21 X21 W21 F_w0_size
  replace E_w0 := E_w0.wr W21
  replace F_w0_bytes := F_w0_bytes.other W21 (Or.inr (slot_ne (Or.inl (own_w hw 11 rfl)) (Or.inl (own_w hw 22 rfl)) (by decide) (t := (.array .byte)) (t' := .int) (by decide) (by decide)))
  replace E_w1 := E_w1.wr W21
  replace V_w1 := V_w1.other W21 (Ne.symm ne_w0_w1)
  replace K := K.wr W21 (Or.inl (List.mem_of_getElem? (i := 0) rfl))
  refine own_iloadN (pc' := 28) B X21 d3_27 rfl rfl ?_
  refine own_bipush (pc' := 30) B X21 (z := (8 : Int32)) d3_28 rfl (by decide) ?_
  refine own_iloadN (pc' := 31) B X21 d3_30 rfl rfl ?_
  refine own_imul (pc' := 32) B X21 (z := (24 : Int32)) d3_31 rfl (by decide) ?_
  obtain ⟨y22, hy22⟩ : ∃ z : Int32, (p5.toUInt32 >>> ((24 : Int32) &&& 31).toUInt32).toInt32 = z := ⟨_, rfl⟩
  refine own_iushr (pc' := 33) B X21 d3_32 rfl hy22 ?_
  obtain ⟨y23, hy23⟩ : ∃ z : Int32, y22.toInt8.toInt32 = z := ⟨_, rfl⟩
  refine own_i2b (pc' := 34) B X21 d3_33 rfl hy23 ?_
  replace V_w1 : Arv Z h21 w1 kw1 .byte (64 : Int32) ((.int p3) :: (.int (0 : Int32)) :: (.int (0 : Int32)) :: (.int (0 : Int32)) :: (.int (0 : Int32)) :: (.int (0 : Int32)) :: (.int (0 : Int32)) :: (.int (0 : Int32)) :: (.int (0 : Int32)) :: (.int (0 : Int32)) :: (.int (0 : Int32)) :: (.int (0 : Int32)) :: (.int (0 : Int32)) :: (.int (0 : Int32)) :: (.int (0 : Int32)) :: (.int (0 : Int32)) :: (.int (0 : Int32)) :: (.int (0 : Int32)) :: (.int (0 : Int32)) :: (.int (0 : Int32)) :: (.int (0 : Int32)) :: (.int (0 : Int32)) :: (.int (0 : Int32)) :: (.int (0 : Int32)) :: (.int (0 : Int32)) :: (.int (0 : Int32)) :: (.int (0 : Int32)) :: (.int (0 : Int32)) :: (.int (0 : Int32)) :: (.int (0 : Int32)) :: (.int (0 : Int32)) :: (.int (0 : Int32)) :: (.int (0 : Int32)) :: (.int (0 : Int32)) :: (.int (0 : Int32)) :: (.int (0 : Int32)) :: (.int (0 : Int32)) :: (.int (0 : Int32)) :: (.int (0 : Int32)) :: (.int (0 : Int32)) :: (.int (0 : Int32)) :: (.int (0 : Int32)) :: (.int (0 : Int32)) :: (.int (0 : Int32)) :: (.int (0 : Int32)) :: (.int (0 : Int32)) :: (.int (0 : Int32)) :: (.int (0 : Int32)) :: (.int (0 : Int32)) :: (.int (0 : Int32)) :: (.int (0 : Int32)) :: (.int (0 : Int32)) :: (.int (0 : Int32)) :: (.int (0 : Int32)) :: (.int (0 : Int32)) :: (.int (0 : Int32)) :: (.int (0 : Int32)) :: (.int (0 : Int32)) :: (.int (0 : Int32)) :: (.int p4) :: (.int y5) :: (.int y11) :: (.int y17) :: (.int (0 : Int32)) :: []) (.int (0 : Int32)) := V_w1.pad (pad_rep ((.int p3) :: (.int (0 : Int32)) :: (.int (0 : Int32)) :: (.int (0 : Int32)) :: (.int (0 : Int32)) :: (.int (0 : Int32)) :: (.int (0 : Int32)) :: (.int (0 : Int32)) :: (.int (0 : Int32)) :: (.int (0 : Int32)) :: (.int (0 : Int32)) :: (.int (0 : Int32)) :: (.int (0 : Int32)) :: (.int (0 : Int32)) :: (.int (0 : Int32)) :: (.int (0 : Int32)) :: (.int (0 : Int32)) :: (.int (0 : Int32)) :: (.int (0 : Int32)) :: (.int (0 : Int32)) :: (.int (0 : Int32)) :: (.int (0 : Int32)) :: (.int (0 : Int32)) :: (.int (0 : Int32)) :: (.int (0 : Int32)) :: (.int (0 : Int32)) :: (.int (0 : Int32)) :: (.int (0 : Int32)) :: (.int (0 : Int32)) :: (.int (0 : Int32)) :: (.int (0 : Int32)) :: (.int (0 : Int32)) :: (.int (0 : Int32)) :: (.int (0 : Int32)) :: (.int (0 : Int32)) :: (.int (0 : Int32)) :: (.int (0 : Int32)) :: (.int (0 : Int32)) :: (.int (0 : Int32)) :: (.int (0 : Int32)) :: (.int (0 : Int32)) :: (.int (0 : Int32)) :: (.int (0 : Int32)) :: (.int (0 : Int32)) :: (.int (0 : Int32)) :: (.int (0 : Int32)) :: (.int (0 : Int32)) :: (.int (0 : Int32)) :: (.int (0 : Int32)) :: (.int (0 : Int32)) :: (.int (0 : Int32)) :: (.int (0 : Int32)) :: (.int (0 : Int32)) :: (.int (0 : Int32)) :: (.int (0 : Int32)) :: (.int (0 : Int32)) :: (.int (0 : Int32)) :: (.int (0 : Int32)) :: (.int (0 : Int32)) :: (.int p4) :: (.int y5) :: (.int y11) :: (.int y17) :: []) (.int (0 : Int32)) 1)
  refine own_bastore (pc' := 35) B X21 (x' := y23) V_w1 g_w1 ⟨by decide, by decide⟩ 63 (by decide) (Nat.le_of_ble_eq_true rfl) (own_idem_i2b hy23) d3_34 rfl ?_
  intro T24 h24 X24 W24 V_w1
  replace V_w1 : Arv Z h24 w1 kw1 .byte (64 : Int32) ((.int p3) :: (.int (0 : Int32)) :: (.int (0 : Int32)) :: (.int (0 : Int32)) :: (.int (0 : Int32)) :: (.int (0 : Int32)) :: (.int (0 : Int32)) :: (.int (0 : Int32)) :: (.int (0 : Int32)) :: (.int (0 : Int32)) :: (.int (0 : Int32)) :: (.int (0 : Int32)) :: (.int (0 : Int32)) :: (.int (0 : Int32)) :: (.int (0 : Int32)) :: (.int (0 : Int32)) :: (.int (0 : Int32)) :: (.int (0 : Int32)) :: (.int (0 : Int32)) :: (.int (0 : Int32)) :: (.int (0 : Int32)) :: (.int (0 : Int32)) :: (.int (0 : Int32)) :: (.int (0 : Int32)) :: (.int (0 : Int32)) :: (.int (0 : Int32)) :: (.int (0 : Int32)) :: (.int (0 : Int32)) :: (.int (0 : Int32)) :: (.int (0 : Int32)) :: (.int (0 : Int32)) :: (.int (0 : Int32)) :: (.int (0 : Int32)) :: (.int (0 : Int32)) :: (.int (0 : Int32)) :: (.int (0 : Int32)) :: (.int (0 : Int32)) :: (.int (0 : Int32)) :: (.int (0 : Int32)) :: (.int (0 : Int32)) :: (.int (0 : Int32)) :: (.int (0 : Int32)) :: (.int (0 : Int32)) :: (.int (0 : Int32)) :: (.int (0 : Int32)) :: (.int (0 : Int32)) :: (.int (0 : Int32)) :: (.int (0 : Int32)) :: (.int (0 : Int32)) :: (.int (0 : Int32)) :: (.int (0 : Int32)) :: (.int (0 : Int32)) :: (.int (0 : Int32)) :: (.int (0 : Int32)) :: (.int (0 : Int32)) :: (.int (0 : Int32)) :: (.int (0 : Int32)) :: (.int (0 : Int32)) :: (.int (0 : Int32)) :: (.int p4) :: (.int y5) :: (.int y11) :: (.int y17) :: (.int y23) :: []) (.int (0 : Int32)) := V_w1
  replace E_w0 := E_w0.wr W24
  replace F_w0_bytes := F_w0_bytes.other W24 (Or.inl ne_w0_w1)
  replace F_w0_size := F_w0_size.other W24 (Or.inl ne_w0_w1)
  replace E_w1 := E_w1.wr W24
  replace K := K.wr W24 (Or.inl (List.mem_of_getElem? (i := 1) rfl))
  refine own_iinc (pc' := 38) B X24 (Ls' := #[.val (.ref w0), .val (.int p5), .val (.int (4 : Int32))]) d3_35 rfl rfl (z := (4 : Int32)) (by decide) rfl ?_
  refine own_goto (pc' := 7) B X24 d3_38 (by decide) rfl ?_
  refine own_iloadN (pc' := 8) B X24 d3_7 rfl rfl ?_
  refine own_iconst (pc' := 9) B X24 (z := (4 : Int32)) d3_8 rfl rfl ?_
  refine own_icmpYes (pc' := 41) B X24 d3_9 (flt (by decide : ¬ ((4 : Int32) < (4 : Int32)))).2.1 (by decide) rfl ?_
  exact own_ret B X24 d3_41 (by decide) (by decide) (⟨y5, y10, y11, y16, y17, y22, y23, hy5, hy10, hy11, hy16, hy17, hy22, hy23, rfl, K, E_w0, F_w0_bytes, F_w0_size, E_w1, V_w1⟩)
def Q_30 (Z : State)  (h0 : Heap) (n0 : Nat) (v : Option Value) (h : Heap) : Prop :=
  (v = some (.long (128 : Int64)) ∧ h0 = h)
set_option maxRecDepth 65536 in
set_option maxHeartbeats 40000000 in
theorem rm_30 (l : Launch) (Z : State) (a0 : Array Value) (hw : ∀ d ∈ tables_1, d.before a0 Z = true) (ws : List Jvm.Cond)  (h0 : Heap) (n0 : Nat) (Z0 : n0 ≤ h0.size)  :
    MetFree l (⟨"java/lang/Math", "max", "(JJ)J"⟩ : MethodName) (head1 (Jvm.Cond.code (⟨"java/lang/Math", "max", "(JJ)J"⟩ : MethodName) jdk_29_method_66_code 4 (some .long) :: ws) ({ frames := 0, cells := 0, slots := 0, locals := 0 } : Room)) (fun a U => a = #[(.long (128 : Int64)), (.long (72 : Int64))] ∧ Z.Warmed39 U.vm ∧ U.heap = h0) (fun _ _ _ _ _ => True) (fun _ U o U' => ∃ v L, o = .returned v ∧ (Fr n0 L ∧ Q_30 Z  h0 n0 v U'.heap) ∧ FrameEnd U o U' L ({ frames := 0, cells := 0, slots := 0, locals := 0 } : Room).cells ({ frames := 0, cells := 0, slots := 0, locals := 0 } : Room).slots) := by
  refine own_enter (Q := Q_30 Z  h0 n0) (F := fun m => mkF m 0 #[.val (.long (128 : Int64)), .second, .val (.long (72 : Int64)), .second] []) (Jvm.Free.JP.mathPlain rfl (by decide +kernel)) (fun m => by first | (simp [entryFrame, mkF, argsToLocals, Value.category]; done) | rfl) ?_
  intro p e s m below meth c s₁ B X0
  have K : Keep h0 h0 [] := Keep.refl h0 _
  refine own_lloadN (pc' := 1) B X0 d13_0 rfl rfl ?_
  refine own_lloadN (pc' := 2) B X0 d13_1 rfl rfl ?_
  refine own_lcmp (pc' := 3) B X0 (z := (1 : Int32)) d13_2 rfl (by decide) ?_
  refine own_ifNo (pc' := 6) B X0 d13_3 ((if0 _ _).trans (flt (by decide : ¬ ((1 : Int32) < (0 : Int32)))).1) rfl ?_
  refine own_lloadN (pc' := 7) B X0 d13_6 rfl rfl ?_
  refine own_goto (pc' := 11) B X0 d13_7 (by decide) rfl ?_
  exact own_retJ B X0 d13_11 (by decide) (by decide) (⟨rfl, rfl⟩)
def Q_32 (Z : State)  (h0 : Heap) (n0 : Nat) (v : Option Value) (h : Heap) : Prop :=
  (v = some (.int (64 : Int32)) ∧ h0 = h)
set_option maxRecDepth 65536 in
set_option maxHeartbeats 40000000 in
theorem rm_32 (l : Launch) (Z : State) (a0 : Array Value) (hw : ∀ d ∈ tables_1, d.before a0 Z = true) (ws : List Jvm.Cond)  (h0 : Heap) (n0 : Nat) (Z0 : n0 ≤ h0.size)  :
    MetFree l (⟨"java/lang/Math", "min", "(II)I"⟩ : MethodName) (head1 (Jvm.Cond.code (⟨"java/lang/Math", "min", "(II)I"⟩ : MethodName) jdk_29_method_69_code 2 (some .int) :: ws) ({ frames := 0, cells := 0, slots := 0, locals := 0 } : Room)) (fun a U => a = #[(.int (64 : Int32)), (.int (128 : Int32))] ∧ Z.Warmed39 U.vm ∧ U.heap = h0) (fun _ _ _ _ _ => True) (fun _ U o U' => ∃ v L, o = .returned v ∧ (Fr n0 L ∧ Q_32 Z  h0 n0 v U'.heap) ∧ FrameEnd U o U' L ({ frames := 0, cells := 0, slots := 0, locals := 0 } : Room).cells ({ frames := 0, cells := 0, slots := 0, locals := 0 } : Room).slots) := by
  refine own_enter (Q := Q_32 Z  h0 n0) (F := fun m => mkF m 0 #[.val (.int (64 : Int32)), .val (.int (128 : Int32))] []) (Jvm.Free.JP.mathPlain rfl (by decide +kernel)) (fun m => by first | (simp [entryFrame, mkF, argsToLocals, Value.category]; done) | rfl) ?_
  intro p e s m below meth c s₁ B X0
  have K : Keep h0 h0 [] := Keep.refl h0 _
  refine own_iloadN (pc' := 1) B X0 d9_0 rfl rfl ?_
  refine own_iloadN (pc' := 2) B X0 d9_1 rfl rfl ?_
  refine own_icmpNo (pc' := 5) B X0 d9_2 (flt (by decide : ¬ ((128 : Int32) < (64 : Int32)))).2.2.1 rfl ?_
  refine own_iloadN (pc' := 6) B X0 d9_5 rfl rfl ?_
  refine own_goto (pc' := 10) B X0 d9_6 (by decide) rfl ?_
  exact own_retI B X0 d9_10 (by decide) (by decide) (⟨rfl, rfl⟩)
def Q_31 (Z : State) (w0 : Addr) (kw0 : ClassId) (p2 : Int32) (p3 : Int32) (p4 : Int32) (p5 : Int32) (p6 : Int32) (p7 : Int32) (h0 : Heap) (n0 : Nat) (v : Option Value) (h : Heap) : Prop :=
  (∃ (b1 : Addr) (kb1 : ClassId), v = some (.ref b1) ∧ Keep h0 h [] ∧ h0.size ≤ b1 ∧ Exa Z h b1 "[B" ∧ Arv Z h b1 kb1 .byte (128 : Int32) ((.int p2) :: (.int (0 : Int32)) :: (.int (0 : Int32)) :: (.int (0 : Int32)) :: (.int (0 : Int32)) :: (.int (0 : Int32)) :: (.int (0 : Int32)) :: (.int (0 : Int32)) :: (.int (0 : Int32)) :: (.int (0 : Int32)) :: (.int (0 : Int32)) :: (.int (0 : Int32)) :: (.int (0 : Int32)) :: (.int (0 : Int32)) :: (.int (0 : Int32)) :: (.int (0 : Int32)) :: (.int (0 : Int32)) :: (.int (0 : Int32)) :: (.int (0 : Int32)) :: (.int (0 : Int32)) :: (.int (0 : Int32)) :: (.int (0 : Int32)) :: (.int (0 : Int32)) :: (.int (0 : Int32)) :: (.int (0 : Int32)) :: (.int (0 : Int32)) :: (.int (0 : Int32)) :: (.int (0 : Int32)) :: (.int (0 : Int32)) :: (.int (0 : Int32)) :: (.int (0 : Int32)) :: (.int (0 : Int32)) :: (.int (0 : Int32)) :: (.int (0 : Int32)) :: (.int (0 : Int32)) :: (.int (0 : Int32)) :: (.int (0 : Int32)) :: (.int (0 : Int32)) :: (.int (0 : Int32)) :: (.int (0 : Int32)) :: (.int (0 : Int32)) :: (.int (0 : Int32)) :: (.int (0 : Int32)) :: (.int (0 : Int32)) :: (.int (0 : Int32)) :: (.int (0 : Int32)) :: (.int (0 : Int32)) :: (.int (0 : Int32)) :: (.int (0 : Int32)) :: (.int (0 : Int32)) :: (.int (0 : Int32)) :: (.int (0 : Int32)) :: (.int (0 : Int32)) :: (.int (0 : Int32)) :: (.int (0 : Int32)) :: (.int (0 : Int32)) :: (.int (0 : Int32)) :: (.int (0 : Int32)) :: (.int (0 : Int32)) :: (.int p3) :: (.int p4) :: (.int p5) :: (.int p6) :: (.int p7) :: []) (.int (0 : Int32)))
set_option maxRecDepth 65536 in
set_option maxHeartbeats 40000000 in
theorem rm_31 (l : Launch) (Z : State) (a0 : Array Value) (hw : ∀ d ∈ tables_1, d.before a0 Z = true) (ws : List Jvm.Cond) (w0 : Addr) (kw0 : ClassId) (p2 : Int32) (p3 : Int32) (p4 : Int32) (p5 : Int32) (p6 : Int32) (p7 : Int32) (h0 : Heap) (n0 : Nat) (Z0 : n0 ≤ h0.size) (E_w0 : Exa Z h0 w0 "[B") (V_w0 : Arv Z h0 w0 kw0 .byte (64 : Int32) ((.int p2) :: (.int (0 : Int32)) :: (.int (0 : Int32)) :: (.int (0 : Int32)) :: (.int (0 : Int32)) :: (.int (0 : Int32)) :: (.int (0 : Int32)) :: (.int (0 : Int32)) :: (.int (0 : Int32)) :: (.int (0 : Int32)) :: (.int (0 : Int32)) :: (.int (0 : Int32)) :: (.int (0 : Int32)) :: (.int (0 : Int32)) :: (.int (0 : Int32)) :: (.int (0 : Int32)) :: (.int (0 : Int32)) :: (.int (0 : Int32)) :: (.int (0 : Int32)) :: (.int (0 : Int32)) :: (.int (0 : Int32)) :: (.int (0 : Int32)) :: (.int (0 : Int32)) :: (.int (0 : Int32)) :: (.int (0 : Int32)) :: (.int (0 : Int32)) :: (.int (0 : Int32)) :: (.int (0 : Int32)) :: (.int (0 : Int32)) :: (.int (0 : Int32)) :: (.int (0 : Int32)) :: (.int (0 : Int32)) :: (.int (0 : Int32)) :: (.int (0 : Int32)) :: (.int (0 : Int32)) :: (.int (0 : Int32)) :: (.int (0 : Int32)) :: (.int (0 : Int32)) :: (.int (0 : Int32)) :: (.int (0 : Int32)) :: (.int (0 : Int32)) :: (.int (0 : Int32)) :: (.int (0 : Int32)) :: (.int (0 : Int32)) :: (.int (0 : Int32)) :: (.int (0 : Int32)) :: (.int (0 : Int32)) :: (.int (0 : Int32)) :: (.int (0 : Int32)) :: (.int (0 : Int32)) :: (.int (0 : Int32)) :: (.int (0 : Int32)) :: (.int (0 : Int32)) :: (.int (0 : Int32)) :: (.int (0 : Int32)) :: (.int (0 : Int32)) :: (.int (0 : Int32)) :: (.int (0 : Int32)) :: (.int (0 : Int32)) :: (.int p3) :: (.int p4) :: (.int p5) :: (.int p6) :: (.int p7) :: []) (.int (0 : Int32))) (g_w0 : n0 ≤ w0) :
    MetFree l (⟨"java/util/Arrays", "copyOf", "([BI)[B"⟩ : MethodName) (head1 (Jvm.Cond.code (⟨"java/util/Arrays", "copyOf", "([BI)[B"⟩ : MethodName) jdk_65_method_121_code 3 (some (.array .byte)) :: ws) ({ frames := 1, cells := 1, slots := 128, locals := 40 } : Room)) (fun a U => a = #[(.ref w0), (.int (128 : Int32))] ∧ Z.Warmed39 U.vm ∧ U.heap = h0) (fun _ _ _ _ _ => True) (fun _ U o U' => ∃ v L, o = .returned v ∧ (Fr n0 L ∧ Q_31 Z w0 kw0 p2 p3 p4 p5 p6 p7 h0 n0 v U'.heap) ∧ FrameEnd U o U' L ({ frames := 1, cells := 1, slots := 128, locals := 40 } : Room).cells ({ frames := 1, cells := 1, slots := 128, locals := 40 } : Room).slots) := by
  refine own_enter (Q := Q_31 Z w0 kw0 p2 p3 p4 p5 p6 p7 h0 n0) (F := fun m => mkF m 0 #[.val (.ref w0), .val (.int (128 : Int32)), .unset] []) (plainFor_of_name pn_1) (fun m => by first | (simp [entryFrame, mkF, argsToLocals, Value.category]; done) | rfl) ?_
  intro p e s m below meth c s₁ B X0
  have K : Keep h0 h0 [] := Keep.refl h0 _
  refine own_iloadN (pc' := 1) B X0 d8_0 rfl rfl ?_
  refine own_aloadN (pc' := 2) B X0 d8_1 rfl rfl rfl ?_
  refine own_arraylength (pc' := 3) B X0 V_w0 d8_2 rfl ?_
  refine own_icmpYes (pc' := 14) B X0 d8_3 (feq (by decide : ¬ ((128 : Int32) = (64 : Int32)))).2 (by decide) rfl ?_
  refine own_iloadN (pc' := 15) B X0 d8_14 rfl rfl ?_
  refine own_newarray (pc' := 17) B X0 (own_w hw 0 rfl) d8_15 rfl rfl (by decide) 128 (by decide) (by decide) (k' := 1) (n' := 128) rfl rfl (by decide) (by decide) "[B" (by decide) (.int (0 : Int32)) rfl ?_
  intro T1 h1 b1 kb1 X1 g1 E1 V_b1 E_b1
  have ne_w0_b1 : w0 ≠ b1 := own_ne E_w0.lt g1
  have sz_b1 : h0.size ≤ b1 := own_sz K g1
  have g_b1 : n0 ≤ b1 := Nat.le_trans Z0 sz_b1
  replace K := K.ext E1
  replace E_w0 := E_w0.ext E1
  replace V_w0 := V_w0.ext E1
  refine own_astoreN (pc' := 18) B X1 (Ls' := #[.val (.ref w0), .val (.int (128 : Int32)), .val (.ref b1)]) d8_17 rfl rfl rfl ?_
  refine own_aloadN (pc' := 19) B X1 d8_18 rfl rfl rfl ?_
  refine own_iconst (pc' := 20) B X1 (z := (0 : Int32)) d8_19 rfl rfl ?_
  refine own_aloadN (pc' := 21) B X1 d8_20 rfl rfl rfl ?_
  refine own_iconst (pc' := 22) B X1 (z := (0 : Int32)) d8_21 rfl rfl ?_
  refine own_aloadN (pc' := 23) B X1 d8_22 rfl rfl rfl ?_
  refine own_arraylength (pc' := 24) B X1 V_w0 d8_23 rfl ?_
  refine own_iloadN (pc' := 25) B X1 d8_24 rfl rfl ?_
  refine own_callS (pc' := 28) B X1 (own_w hw 42 rfl) (own_w hw 43 rfl) (own_w hw 44 rfl) (own_w hw 45 rfl) (by decide) [(.int (64 : Int32)), (.int (128 : Int32))] [(.int (0 : Int32)), (.ref b1), (.int (0 : Int32)), (.ref w0)] (rm_32 l Z a0 hw []  h1 n0 (Nat.le_trans Z0 K.1) ) 4 (by decide) (by decide) rfl pd_3 rfl rfl (Nat.le_of_eq rfl) d8_25 rfl (k' := 1) (n' := 128) rfl rfl (by decide) (by decide) ?_
  intro T2 v2 h2 X2 q2
  obtain ⟨rfl, rfl⟩ := q2
  show own_Go p e below (T2.setTop (mkF m 28 #[.val (.ref w0), .val (.int (128 : Int32)), .val (.ref b1)] [(.int (64 : Int32)), (.int (0 : Int32)), (.ref b1), (.int (0 : Int32)), (.ref w0)])) _
  replace V_b1 : Arv Z h1 b1 kb1 .byte (128 : Int32) ((.int (0 : Int32)) :: (.int (0 : Int32)) :: (.int (0 : Int32)) :: (.int (0 : Int32)) :: (.int (0 : Int32)) :: (.int (0 : Int32)) :: (.int (0 : Int32)) :: (.int (0 : Int32)) :: (.int (0 : Int32)) :: (.int (0 : Int32)) :: (.int (0 : Int32)) :: (.int (0 : Int32)) :: (.int (0 : Int32)) :: (.int (0 : Int32)) :: (.int (0 : Int32)) :: (.int (0 : Int32)) :: (.int (0 : Int32)) :: (.int (0 : Int32)) :: (.int (0 : Int32)) :: (.int (0 : Int32)) :: (.int (0 : Int32)) :: (.int (0 : Int32)) :: (.int (0 : Int32)) :: (.int (0 : Int32)) :: (.int (0 : Int32)) :: (.int (0 : Int32)) :: (.int (0 : Int32)) :: (.int (0 : Int32)) :: (.int (0 : Int32)) :: (.int (0 : Int32)) :: (.int (0 : Int32)) :: (.int (0 : Int32)) :: (.int (0 : Int32)) :: (.int (0 : Int32)) :: (.int (0 : Int32)) :: (.int (0 : Int32)) :: (.int (0 : Int32)) :: (.int (0 : Int32)) :: (.int (0 : Int32)) :: (.int (0 : Int32)) :: (.int (0 : Int32)) :: (.int (0 : Int32)) :: (.int (0 : Int32)) :: (.int (0 : Int32)) :: (.int (0 : Int32)) :: (.int (0 : Int32)) :: (.int (0 : Int32)) :: (.int (0 : Int32)) :: (.int (0 : Int32)) :: (.int (0 : Int32)) :: (.int (0 : Int32)) :: (.int (0 : Int32)) :: (.int (0 : Int32)) :: (.int (0 : Int32)) :: (.int (0 : Int32)) :: (.int (0 : Int32)) :: (.int (0 : Int32)) :: (.int (0 : Int32)) :: (.int (0 : Int32)) :: (.int (0 : Int32)) :: (.int (0 : Int32)) :: (.int (0 : Int32)) :: (.int (0 : Int32)) :: (.int (0 : Int32)) :: []) (.int (0 : Int32)) := V_b1.pad (pad_rep [] (.int (0 : Int32)) 64)
  refine own_arraycopy (pc' := 31) B X2 (own_w hw 46 rfl) (own_w hw 49 rfl) (own_w hw 47 rfl) (own_w hw 48 rfl) V_w0 V_b1 rfl g_b1 (by decide) (by decide) (by decide) (by decide) (by decide) (us := ((.int p2) :: (.int (0 : Int32)) :: (.int (0 : Int32)) :: (.int (0 : Int32)) :: (.int (0 : Int32)) :: (.int (0 : Int32)) :: (.int (0 : Int32)) :: (.int (0 : Int32)) :: (.int (0 : Int32)) :: (.int (0 : Int32)) :: (.int (0 : Int32)) :: (.int (0 : Int32)) :: (.int (0 : Int32)) :: (.int (0 : Int32)) :: (.int (0 : Int32)) :: (.int (0 : Int32)) :: (.int (0 : Int32)) :: (.int (0 : Int32)) :: (.int (0 : Int32)) :: (.int (0 : Int32)) :: (.int (0 : Int32)) :: (.int (0 : Int32)) :: (.int (0 : Int32)) :: (.int (0 : Int32)) :: (.int (0 : Int32)) :: (.int (0 : Int32)) :: (.int (0 : Int32)) :: (.int (0 : Int32)) :: (.int (0 : Int32)) :: (.int (0 : Int32)) :: (.int (0 : Int32)) :: (.int (0 : Int32)) :: (.int (0 : Int32)) :: (.int (0 : Int32)) :: (.int (0 : Int32)) :: (.int (0 : Int32)) :: (.int (0 : Int32)) :: (.int (0 : Int32)) :: (.int (0 : Int32)) :: (.int (0 : Int32)) :: (.int (0 : Int32)) :: (.int (0 : Int32)) :: (.int (0 : Int32)) :: (.int (0 : Int32)) :: (.int (0 : Int32)) :: (.int (0 : Int32)) :: (.int (0 : Int32)) :: (.int (0 : Int32)) :: (.int (0 : Int32)) :: (.int (0 : Int32)) :: (.int (0 : Int32)) :: (.int (0 : Int32)) :: (.int (0 : Int32)) :: (.int (0 : Int32)) :: (.int (0 : Int32)) :: (.int (0 : Int32)) :: (.int (0 : Int32)) :: (.int (0 : Int32)) :: (.int (0 : Int32)) :: (.int p3) :: (.int p4) :: (.int p5) :: (.int p6) :: (.int p7) :: [])) rfl (Nat.le_of_ble_eq_true rfl) (rs := ((.int p2) :: (.int (0 : Int32)) :: (.int (0 : Int32)) :: (.int (0 : Int32)) :: (.int (0 : Int32)) :: (.int (0 : Int32)) :: (.int (0 : Int32)) :: (.int (0 : Int32)) :: (.int (0 : Int32)) :: (.int (0 : Int32)) :: (.int (0 : Int32)) :: (.int (0 : Int32)) :: (.int (0 : Int32)) :: (.int (0 : Int32)) :: (.int (0 : Int32)) :: (.int (0 : Int32)) :: (.int (0 : Int32)) :: (.int (0 : Int32)) :: (.int (0 : Int32)) :: (.int (0 : Int32)) :: (.int (0 : Int32)) :: (.int (0 : Int32)) :: (.int (0 : Int32)) :: (.int (0 : Int32)) :: (.int (0 : Int32)) :: (.int (0 : Int32)) :: (.int (0 : Int32)) :: (.int (0 : Int32)) :: (.int (0 : Int32)) :: (.int (0 : Int32)) :: (.int (0 : Int32)) :: (.int (0 : Int32)) :: (.int (0 : Int32)) :: (.int (0 : Int32)) :: (.int (0 : Int32)) :: (.int (0 : Int32)) :: (.int (0 : Int32)) :: (.int (0 : Int32)) :: (.int (0 : Int32)) :: (.int (0 : Int32)) :: (.int (0 : Int32)) :: (.int (0 : Int32)) :: (.int (0 : Int32)) :: (.int (0 : Int32)) :: (.int (0 : Int32)) :: (.int (0 : Int32)) :: (.int (0 : Int32)) :: (.int (0 : Int32)) :: (.int (0 : Int32)) :: (.int (0 : Int32)) :: (.int (0 : Int32)) :: (.int (0 : Int32)) :: (.int (0 : Int32)) :: (.int (0 : Int32)) :: (.int (0 : Int32)) :: (.int (0 : Int32)) :: (.int (0 : Int32)) :: (.int (0 : Int32)) :: (.int (0 : Int32)) :: (.int p3) :: (.int p4) :: (.int p5) :: (.int p6) :: (.int p7) :: [])) rfl d8_28 rfl rfl (by decide) 0 (Nat.le_of_eq rfl) (by decide) ?_
  intro T3 h3 X3 K3 V_b1
  replace K := K.trans K3 (allS (Or.inr sz_b1) all0)
  replace E_w0 := E_w0.keep K3
  replace V_w0 := V_w0.keep K3 (ninS ne_w0_b1 nin0)
  replace E_b1 := E_b1.keep K3
  refine own_aloadN (pc' := 32) B X3 d8_31 rfl rfl rfl ?_
  exact own_retA B X3 (t := (.array .byte)) rfl rfl rfl d8_32 (by decide) (by decide) (⟨b1, kb1, rfl, K, sz_b1, E_b1, V_b1⟩)
def Q_29 (Z : State) (w0 : Addr) (w1 : Addr) (kw1 : ClassId) (p3 : Int32) (p4 : Int32) (p5 : Int32) (p6 : Int32) (p7 : Int32) (p8 : Int32) (h0 : Heap) (n0 : Nat) (v : Option Value) (h : Heap) : Prop :=
  (∃ (b8 : Addr) (k9 : ClassId), v = none ∧ Keep h0 h [w0] ∧ h0.size ≤ b8 ∧ Exa Z h w0 "com/example/siltstone/siltstone/format/ByteSink" ∧ Fld Z h w0 "com/example/siltstone/siltstone/format/ByteSink" "bytes" "[B" (.ref b8) ∧ Fld Z h w0 "com/example/siltstone/siltstone/format/ByteSink" "size" "I" (.int (64 : Int32)) ∧ Exa Z h b8 "[B" ∧ Arv Z h b8 k9 .byte (128 : Int32) ((.int p3) :: (.int (0 : Int32)) :: (.int (0 : Int32)) :: (.int (0 : Int32)) :: (.int (0 : Int32)) :: (.int (0 : Int32)) :: (.int (0 : Int32)) :: (.int (0 : Int32)) :: (.int (0 : Int32)) :: (.int (0 : Int32)) :: (.int (0 : Int32)) :: (.int (0 : Int32)) :: (.int (0 : Int32)) :: (.int (0 : Int32)) :: (.int (0 : Int32)) :: (.int (0 : Int32)) :: (.int (0 : Int32)) :: (.int (0 : Int32)) :: (.int (0 : Int32)) :: (.int (0 : Int32)) :: (.int (0 : Int32)) :: (.int (0 : Int32)) :: (.int (0 : Int32)) :: (.int (0 : Int32)) :: (.int (0 : Int32)) :: (.int (0 : Int32)) :: (.int (0 : Int32)) :: (.int (0 : Int32)) :: (.int (0 : Int32)) :: (.int (0 : Int32)) :: (.int (0 : Int32)) :: (.int (0 : Int32)) :: (.int (0 : Int32)) :: (.int (0 : Int32)) :: (.int (0 : Int32)) :: (.int (0 : Int32)) :: (.int (0 : Int32)) :: (.int (0 : Int32)) :: (.int (0 : Int32)) :: (.int (0 : Int32)) :: (.int (0 : Int32)) :: (.int (0 : Int32)) :: (.int (0 : Int32)) :: (.int (0 : Int32)) :: (.int (0 : Int32)) :: (.int (0 : Int32)) :: (.int (0 : Int32)) :: (.int (0 : Int32)) :: (.int (0 : Int32)) :: (.int (0 : Int32)) :: (.int (0 : Int32)) :: (.int (0 : Int32)) :: (.int (0 : Int32)) :: (.int (0 : Int32)) :: (.int (0 : Int32)) :: (.int (0 : Int32)) :: (.int (0 : Int32)) :: (.int (0 : Int32)) :: (.int (0 : Int32)) :: (.int p4) :: (.int p5) :: (.int p6) :: (.int p7) :: (.int p8) :: []) (.int (0 : Int32)))
set_option maxRecDepth 65536 in
set_option maxHeartbeats 40000000 in
theorem rm_29 (l : Launch) (Z : State) (a0 : Array Value) (hw : ∀ d ∈ tables_1, d.before a0 Z = true) (ws : List Jvm.Cond) (w0 : Addr) (w1 : Addr) (kw1 : ClassId) (p3 : Int32) (p4 : Int32) (p5 : Int32) (p6 : Int32) (p7 : Int32) (p8 : Int32) (h0 : Heap) (n0 : Nat) (Z0 : n0 ≤ h0.size) (E_w0 : Exa Z h0 w0 "com/example/siltstone/siltstone/format/ByteSink") (F_w0_bytes : Fld Z h0 w0 "com/example/siltstone/siltstone/format/ByteSink" "bytes" "[B" (.ref w1)) (F_w0_size : Fld Z h0 w0 "com/example/siltstone/siltstone/format/ByteSink" "size" "I" (.int (64 : Int32))) (g_w0 : n0 ≤ w0) (E_w1 : Exa Z h0 w1 "[B") (V_w1 : Arv Z h0 w1 kw1 .byte (64 : Int32) ((.int p3) :: (.int (0 : Int32)) :: (.int (0 : Int32)) :: (.int (0 : Int32)) :: (.int (0 : Int32)) :: (.int (0 : Int32)) :: (.int (0 : Int32)) :: (.int (0 : Int32)) :: (.int (0 : Int32)) :: (.int (0 : Int32)) :: (.int (0 : Int32)) :: (.int (0 : Int32)) :: (.int (0 : Int32)) :: (.int (0 : Int32)) :: (.int (0 : Int32)) :: (.int (0 : Int32)) :: (.int (0 : Int32)) :: (.int (0 : Int32)) :: (.int (0 : Int32)) :: (.int (0 : Int32)) :: (.int (0 : Int32)) :: (.int (0 : Int32)) :: (.int (0 : Int32)) :: (.int (0 : Int32)) :: (.int (0 : Int32)) :: (.int (0 : Int32)) :: (.int (0 : Int32)) :: (.int (0 : Int32)) :: (.int (0 : Int32)) :: (.int (0 : Int32)) :: (.int (0 : Int32)) :: (.int (0 : Int32)) :: (.int (0 : Int32)) :: (.int (0 : Int32)) :: (.int (0 : Int32)) :: (.int (0 : Int32)) :: (.int (0 : Int32)) :: (.int (0 : Int32)) :: (.int (0 : Int32)) :: (.int (0 : Int32)) :: (.int (0 : Int32)) :: (.int (0 : Int32)) :: (.int (0 : Int32)) :: (.int (0 : Int32)) :: (.int (0 : Int32)) :: (.int (0 : Int32)) :: (.int (0 : Int32)) :: (.int (0 : Int32)) :: (.int (0 : Int32)) :: (.int (0 : Int32)) :: (.int (0 : Int32)) :: (.int (0 : Int32)) :: (.int (0 : Int32)) :: (.int (0 : Int32)) :: (.int (0 : Int32)) :: (.int (0 : Int32)) :: (.int (0 : Int32)) :: (.int (0 : Int32)) :: (.int (0 : Int32)) :: (.int p4) :: (.int p5) :: (.int p6) :: (.int p7) :: (.int p8) :: []) (.int (0 : Int32))) (g_w1 : n0 ≤ w1) (ne_w0_w1 : w0 ≠ w1) :
    MetFree l (⟨"com/example/siltstone/siltstone/format/ByteSink", "ensure", "(I)V"⟩ : MethodName) (head1 (Jvm.Cond.code (⟨"com/example/siltstone/siltstone/format/ByteSink", "ensure", "(I)V"⟩ : MethodName) prog_65_method_12_code 4 none :: ws) ({ frames := 2, cells := 1, slots := 128, locals := 55 } : Room)) (fun a U => a = #[(.ref w0), (.int (8 : Int32))] ∧ Z.Warmed39 U.vm ∧ U.heap = h0) (fun _ _ _ _ _ => True) (fun _ U o U' => ∃ v L, o = .returned v ∧ (Fr n0 L ∧ Q_29 Z w0 w1 kw1 p3 p4 p5 p6 p7 p8 h0 n0 v U'.heap) ∧ FrameEnd U o U' L ({ frames := 2, cells := 1, slots := 128, locals := 55 } : Room).cells ({ frames := 2, cells := 1, slots := 128, locals := 55 } : Room).slots) := by
  refine own_enter (Q := Q_29 Z w0 w1 kw1 p3 p4 p5 p6 p7 p8 h0 n0) (F := fun m => mkF m 0 #[.val (.ref w0), .val (.int (8 : Int32)), .unset, .unset] []) (plainFor_of_name pn_0) (fun m => by first | (simp [entryFrame, mkF, argsToLocals, Value.category]; done) | rfl) ?_
  intro p e s m below meth c s₁ B X0
  have K : Keep h0 h0 [w0] := Keep.refl h0 _
  refine own_iloadN (pc' := 1) B X0 d4_0 rfl rfl ?_
  refine own_aloadN (pc' := 2) B X0 d4_1 rfl rfl rfl ?_
  refine own_getfield (pc' := 5) B X0 (host := "") (Or.inl (own_w hw 10 rfl)) Via.refl F_w0_bytes d4_2 rfl ?_
  intro T1 X1
  refine own_arraylength (pc' := 6) B X1 V_w1 d4_5 rfl ?_
  refine own_aloadN (pc' := 7) B X1 d4_6 rfl rfl rfl ?_
  refine own_getfield (pc' := 10) B X1 (host := "") (Or.inl (own_w hw 21 rfl)) Via.refl F_w0_size d4_7 rfl ?_
  intro T2 X2
  refine own_isub (pc' := 11) B X2 (z := (0 : Int32)) d4_10 rfl (by decide) ?_
  refine own_icmpNo (pc' := 14) B X2 d4_11 (tlt (by decide : (0 : Int32) < (8 : Int32))).2.2.2 rfl ?_
  refine own_aloadN (pc' := 15) B X2 d4_14 rfl rfl rfl ?_
  refine own_getfield (pc' := 18) B X2 (host := "") (Or.inl (own_w hw 10 rfl)) Via.refl F_w0_bytes d4_15 rfl ?_
  intro T3 X3
  refine own_arraylength (pc' := 19) B X3 V_w1 d4_18 rfl ?_
  refine own_i2l (pc' := 20) B X3 (z := (64 : Int64)) d4_19 rfl (by decide) ?_
  refine own_ldc2J (pc' := 23) B X3 (own_w hw 66 rfl) d4_20 rfl ?_
  refine own_lmul (pc' := 24) B X3 (z := (128 : Int64)) d4_23 rfl (by decide) ?_
  refine own_aloadN (pc' := 25) B X3 d4_24 rfl rfl rfl ?_
  refine own_getfield (pc' := 28) B X3 (host := "") (Or.inl (own_w hw 21 rfl)) Via.refl F_w0_size d4_25 rfl ?_
  intro T4 X4
  refine own_i2l (pc' := 29) B X4 (z := (64 : Int64)) d4_28 rfl (by decide) ?_
  refine own_iloadN (pc' := 30) B X4 d4_29 rfl rfl ?_
  refine own_i2l (pc' := 31) B X4 (z := (8 : Int64)) d4_30 rfl (by decide) ?_
  refine own_ladd (pc' := 32) B X4 (z := (72 : Int64)) d4_31 rfl (by decide) ?_
  refine own_callS (pc' := 35) B X4 (own_w hw 67 rfl) (own_w hw 68 rfl) (own_w hw 44 rfl) (own_w hw 69 rfl) (by decide) [(.long (128 : Int64)), (.long (72 : Int64))] [] (rm_30 l Z a0 hw []  h0 n0 (Nat.le_trans Z0 K.1) ) 0 (by decide) (by decide) rfl pd_9 rfl rfl (Nat.le_of_eq rfl) d4_32 rfl (k' := 0) (n' := 0) rfl rfl (by decide) (by decide) ?_
  intro T5 v5 h5 X5 q5
  obtain ⟨rfl, rfl⟩ := q5
  show own_Go p e below (T5.setTop (mkF m 35 #[.val (.ref w0), .val (.int (8 : Int32)), .unset, .unset] [(.long (128 : Int64))])) _
  refine own_lstoreN (pc' := 36) B X5 (Ls' := #[.val (.ref w0), .val (.int (8 : Int32)), .val (.long (128 : Int64)), .second]) d4_35 rfl rfl ?_
  refine own_lloadN (pc' := 37) B X5 d4_36 rfl rfl ?_
  refine own_ldc2J (pc' := 40) B X5 (own_w hw 70 rfl) d4_37 rfl ?_
  refine own_lcmp (pc' := 41) B X5 (z := (-1 : Int32)) d4_40 rfl (by decide) ?_
  refine own_ifYes (pc' := 54) B X5 d4_41 ((if0 _ _).trans (flt (by decide : ¬ ((0 : Int32) < (-1 : Int32)))).2.2.2) (by decide) rfl ?_
  refine own_aloadN (pc' := 55) B X5 d4_54 rfl rfl rfl ?_
  refine own_aloadN (pc' := 56) B X5 d4_55 rfl rfl rfl ?_
  refine own_getfield (pc' := 59) B X5 (host := "") (Or.inl (own_w hw 10 rfl)) Via.refl F_w0_bytes d4_56 rfl ?_
  intro T6 X6
  refine own_lloadN (pc' := 60) B X6 d4_59 rfl rfl ?_
  refine own_l2i (pc' := 61) B X6 (z := (128 : Int32)) d4_60 rfl (by decide) ?_
  refine own_callS (pc' := 64) B X6 (own_w hw 38 rfl) (own_w hw 39 rfl) (own_w hw 40 rfl) (own_w hw 41 rfl) (by decide) [(.ref w1), (.int (128 : Int32))] [(.ref w0)] (rm_31 l Z a0 hw [] w1 kw1 (p3) (p4) (p5) (p6) (p7) (p8) h0 n0 (Nat.le_trans Z0 K.1) E_w1 V_w1 g_w1) 1 (by decide) (by decide) rfl pd_4 rfl rfl (Nat.le_of_eq rfl) d4_61 rfl (k' := 1) (n' := 128) rfl rfl (by decide) (by decide) ?_
  intro T7 v7 h7 X7 q7
  have lt_w0 := E_w0.lt
  have lt_w1 := E_w1.lt
  obtain ⟨b8, k9, rfl, K7, z_b8, E_b8, V_b8⟩ := q7
  have ne_w0_b8 : w0 ≠ b8 := own_ne' lt_w0 z_b8
  have ne_w1_b8 : w1 ≠ b8 := own_ne' lt_w1 z_b8
  have sz_b8 : h0.size ≤ b8 := Nat.le_trans K.1 z_b8
  have g_b8 : n0 ≤ b8 := Nat.le_trans Z0 sz_b8
  replace K := K.trans K7 all0
  replace E_w0 := E_w0.keep K7
  replace F_w0_bytes := F_w0_bytes.keep K7 nin0
  replace F_w0_size := F_w0_size.keep K7 nin0
  replace E_w1 := E_w1.keep K7
  replace V_w1 := V_w1.keep K7 nin0
  show own_Go p e below (T7.setTop (mkF m 64 #[.val (.ref w0), .val (.int (8 : Int32)), .val (.long (128 : Int64)), .second] [(.ref b8), (.ref w0)])) _
  refine own_putfield (pc' := 67) B X7 (host := "") (Or.inl (own_w hw 10 rfl)) Via.refl F_w0_bytes E_w0 g_w0 (Or.inl (own_w hw 11 rfl)) (own_w hw 2 rfl) (ty := (.array .byte)) (by decide) rfl rfl d4_64 rfl ?_
  intro T10 h10 X10 W10 F_w0_bytes
  replace E_w0 := E_w0.wr W10
  replace F_w0_size := F_w0_size.other W10 (Or.inr (slot_ne (Or.inl (own_w hw 22 rfl)) (Or.inl (own_w hw 11 rfl)) (by decide) (t := .int) (t' := (.array .byte)) (by decide) (by decide)))
  replace E_w1 := E_w1.wr W10
  replace V_w1 := V_w1.other W10 (Ne.symm ne_w0_w1)
  replace E_b8 := E_b8.wr W10
  replace V_b8 := V_b8.other W10 (Ne.symm ne_w0_b8)
  replace K := K.wr W10 (Or.inl (List.mem_of_getElem? (i := 0) rfl))
  exact own_ret B X10 d4_67 (by decide) (by decide) (⟨b8, k9, rfl, K, sz_b8, E_w0, F_w0_bytes, F_w0_size, E_b8, V_b8⟩)
def Q_28 (Z : State) (w0 : Addr) (w1 : Addr) (kw1 : ClassId) (p3 : Int32) (p4 : Int32) (p5 : Int32) (p6 : Int32) (p7 : Int32) (p8 : Int32) (q9 : Int64) (h0 : Heap) (n0 : Nat) (v : Option Value) (h : Heap) : Prop :=
  (∃ (y7 : Int32) (y8 : Int32) (y13 : Int64) (y14 : Int32) (y15 : Int32) (y20 : Int64) (y21 : Int32) (y22 : Int32) (y27 : Int64) (y28 : Int32) (y29 : Int32) (y34 : Int64) (y35 : Int32) (y36 : Int32) (y41 : Int64) (y42 : Int32) (y43 : Int32) (y48 : Int64) (y49 : Int32) (y50 : Int32) (y55 : Int64) (y56 : Int32) (y57 : Int32) (b2 : Addr) (k3 : ClassId), q9.toInt32 = y7 ∧ y7.toInt8.toInt32 = y8 ∧ (q9.toUInt64 >>> ((8 : Int32) &&& 0x3f).toInt64.toUInt64).toInt64 = y13 ∧ y13.toInt32 = y14 ∧ y14.toInt8.toInt32 = y15 ∧ (q9.toUInt64 >>> ((16 : Int32) &&& 0x3f).toInt64.toUInt64).toInt64 = y20 ∧ y20.toInt32 = y21 ∧ y21.toInt8.toInt32 = y22 ∧ (q9.toUInt64 >>> ((24 : Int32) &&& 0x3f).toInt64.toUInt64).toInt64 = y27 ∧ y27.toInt32 = y28 ∧ y28.toInt8.toInt32 = y29 ∧ (q9.toUInt64 >>> ((32 : Int32) &&& 0x3f).toInt64.toUInt64).toInt64 = y34 ∧ y34.toInt32 = y35 ∧ y35.toInt8.toInt32 = y36 ∧ (q9.toUInt64 >>> ((40 : Int32) &&& 0x3f).toInt64.toUInt64).toInt64 = y41 ∧ y41.toInt32 = y42 ∧ y42.toInt8.toInt32 = y43 ∧ (q9.toUInt64 >>> ((48 : Int32) &&& 0x3f).toInt64.toUInt64).toInt64 = y48 ∧ y48.toInt32 = y49 ∧ y49.toInt8.toInt32 = y50 ∧ (q9.toUInt64 >>> ((56 : Int32) &&& 0x3f).toInt64.toUInt64).toInt64 = y55 ∧ y55.toInt32 = y56 ∧ y56.toInt8.toInt32 = y57 ∧ v = none ∧ Keep h0 h [w0] ∧ h0.size ≤ b2 ∧ Exa Z h w0 "com/example/siltstone/siltstone/format/ByteSink" ∧ Fld Z h w0 "com/example/siltstone/siltstone/format/ByteSink" "bytes" "[B" (.ref b2) ∧ Fld Z h w0 "com/example/siltstone/siltstone/format/ByteSink" "size" "I" (.int (72 : Int32)) ∧ Exa Z h b2 "[B" ∧ Arv Z h b2 k3 .byte (128 : Int32) ((.int p3) :: (.int (0 : Int32)) :: (.int (0 : Int32)) :: (.int (0 : Int32)) :: (.int (0 : Int32)) :: (.int (0 : Int32)) :: (.int (0 : Int32)) :: (.int (0 : Int32)) :: (.int (0 : Int32)) :: (.int (0 : Int32)) :: (.int (0 : Int32)) :: (.int (0 : Int32)) :: (.int (0 : Int32)) :: (.int (0 : Int32)) :: (.int (0 : Int32)) :: (.int (0 : Int32)) :: (.int (0 : Int32)) :: (.int (0 : Int32)) :: (.int (0 : Int32)) :: (.int (0 : Int32)) :: (.int (0 : Int32)) :: (.int (0 : Int32)) :: (.int (0 : Int32)) :: (.int (0 : Int32)) :: (.int (0 : Int32)) :: (.int (0 : Int32)) :: (.int (0 : Int32)) :: (.int (0 : Int32)) :: (.int (0 : Int32)) :: (.int (0 : Int32)) :: (.int (0 : Int32)) :: (.int (0 : Int32)) :: (.int (0 : Int32)) :: (.int (0 : Int32)) :: (.int (0 : Int32)) :: (.int (0 : Int32)) :: (.int (0 : Int32)) :: (.int (0 : Int32)) :: (.int (0 : Int32)) :: (.int (0 : Int32)) :: (.int (0 : Int32)) :: (.int (0 : Int32)) :: (.int (0 : Int32)) :: (.int (0 : Int32)) :: (.int (0 : Int32)) :: (.int (0 : Int32)) :: (.int (0 : Int32)) :: (.int (0 : Int32)) :: (.int (0 : Int32)) :: (.int (0 : Int32)) :: (.int (0 : Int32)) :: (.int (0 : Int32)) :: (.int (0 : Int32)) :: (.int (0 : Int32)) :: (.int (0 : Int32)) :: (.int (0 : Int32)) :: (.int (0 : Int32)) :: (.int (0 : Int32)) :: (.int (0 : Int32)) :: (.int p4) :: (.int p5) :: (.int p6) :: (.int p7) :: (.int p8) :: (.int y8) :: (.int y15) :: (.int y22) :: (.int y29) :: (.int y36) :: (.int y43) :: (.int y50) :: (.int y57) :: []) (.int (0 : Int32)))
set_option maxRecDepth 65536 in
set_option maxHeartbeats 40000000 in
theorem rm_28 (l : Launch) (Z : State) (a0 : Array Value) (hw : ∀ d ∈ tables_1, d.before a0 Z = true) (ws : List Jvm.Cond) (w0 : Addr) (w1 : Addr) (kw1 : ClassId) (p3 : Int32) (p4 : Int32) (p5 : Int32) (p6 : Int32) (p7 : Int32) (p8 : Int32) (q9 : Int64) (h0 : Heap) (n0 : Nat) (Z0 : n0 ≤ h0.size) (E_w0 : Exa Z h0 w0 "com/example/siltstone/siltstone/format/ByteSink") (F_w0_bytes : Fld Z h0 w0 "com/example/siltstone/siltstone/format/ByteSink" "bytes" "[B" (.ref w1)) (F_w0_size : Fld Z h0 w0 "com/example/siltstone/siltstone/format/ByteSink" "size" "I" (.int (64 : Int32))) (g_w0 : n0 ≤ w0) (E_w1 : Exa Z h0 w1 "[B") (V_w1 : Arv Z h0 w1 kw1 .byte (64 : Int32) ((.int p3) :: (.int (0 : Int32)) :: (.int (0 : Int32)) :: (.int (0 : Int32)) :: (.int (0 : Int32)) :: (.int (0 : Int32)) :: (.int (0 : Int32)) :: (.int (0 : Int32)) :: (.int (0 : Int32)) :: (.int (0 : Int32)) :: (.int (0 : Int32)) :: (.int (0 : Int32)) :: (.int (0 : Int32)) :: (.int (0 : Int32)) :: (.int (0 : Int32)) :: (.int (0 : Int32)) :: (.int (0 : Int32)) :: (.int (0 : Int32)) :: (.int (0 : Int32)) :: (.int (0 : Int32)) :: (.int (0 : Int32)) :: (.int (0 : Int32)) :: (.int (0 : Int32)) :: (.int (0 : Int32)) :: (.int (0 : Int32)) :: (.int (0 : Int32)) :: (.int (0 : Int32)) :: (.int (0 : Int32)) :: (.int (0 : Int32)) :: (.int (0 : Int32)) :: (.int (0 : Int32)) :: (.int (0 : Int32)) :: (.int (0 : Int32)) :: (.int (0 : Int32)) :: (.int (0 : Int32)) :: (.int (0 : Int32)) :: (.int (0 : Int32)) :: (.int (0 : Int32)) :: (.int (0 : Int32)) :: (.int (0 : Int32)) :: (.int (0 : Int32)) :: (.int (0 : Int32)) :: (.int (0 : Int32)) :: (.int (0 : Int32)) :: (.int (0 : Int32)) :: (.int (0 : Int32)) :: (.int (0 : Int32)) :: (.int (0 : Int32)) :: (.int (0 : Int32)) :: (.int (0 : Int32)) :: (.int (0 : Int32)) :: (.int (0 : Int32)) :: (.int (0 : Int32)) :: (.int (0 : Int32)) :: (.int (0 : Int32)) :: (.int (0 : Int32)) :: (.int (0 : Int32)) :: (.int (0 : Int32)) :: (.int (0 : Int32)) :: (.int p4) :: (.int p5) :: (.int p6) :: (.int p7) :: (.int p8) :: []) (.int (0 : Int32))) (g_w1 : n0 ≤ w1) (ne_w0_w1 : w0 ≠ w1) :
    MetFree l (⟨"com/example/siltstone/siltstone/format/ByteSink", "writeLongLe", "(J)V"⟩ : MethodName) (head1 (Jvm.Cond.code (⟨"com/example/siltstone/siltstone/format/ByteSink", "writeLongLe", "(J)V"⟩ : MethodName) prog_65_method_8_code 4 none :: ws) ({ frames := 3, cells := 1, slots := 128, locals := 70 } : Room)) (fun a U => a = #[(.ref w0), (.long q9)] ∧ Z.Warmed39 U.vm ∧ U.heap = h0) (fun _ _ _ _ _ => True) (fun _ U o U' => ∃ v L, o = .returned v ∧ (Fr n0 L ∧ Q_28 Z w0 w1 kw1 p3 p4 p5 p6 p7 p8 q9 h0 n0 v U'.heap) ∧ FrameEnd U o U' L ({ frames := 3, cells := 1, slots := 128, locals := 70 } : Room).cells ({ frames := 3, cells := 1, slots := 128, locals := 70 } : Room).slots) := by
  refine own_enter (Q := Q_28 Z w0 w1 kw1 p3 p4 p5 p6 p7 p8 q9 h0 n0) (F := fun m => mkF m 0 #[.val (.ref w0), .val (.long q9), .second, .unset] []) (plainFor_of_name pn_0) (fun m => by first | (simp [entryFrame, mkF, argsToLocals, Value.category]; done) | rfl) ?_
  intro p e s m below meth c s₁ B X0
  have K : Keep h0 h0 [w0] := Keep.refl h0 _
  refine own_aloadN (pc' := 1) B X0 d5_0 rfl rfl rfl ?_
  refine own_bipush (pc' := 3) B X0 (z := (8 : Int32)) d5_1 rfl (by decide) ?_
  refine own_callP (pc' := 6) B X0 (own_w hw 17 rfl) (own_w hw 18 rfl) (own_w hw 19 rfl) (own_w hw 2 rfl) (own_w hw 3 rfl) (own_w hw 20 rfl) E_w0 (by decide) [(.int (8 : Int32))] [] (rm_29 l Z a0 hw [] w0 w1 kw1 (p3) (p4) (p5) (p6) (p7) (p8) h0 n0 (Nat.le_trans Z0 K.1) E_w0 F_w0_bytes F_w0_size g_w0 E_w1 V_w1 g_w1 ne_w0_w1) 0 (by decide) (by decide) rfl pd_1 rfl rfl (Nat.le_of_eq rfl) d5_3 rfl (k' := 1) (n' := 128) rfl rfl (by decide) (by decide) ?_
  intro T1 v1 h1 X1 q1
  have lt_w0 := E_w0.lt
  have lt_w1 := E_w1.lt
  obtain ⟨b2, k3, rfl, K1, z_b2, E_w0, F_w0_bytes, F_w0_size, E_b2, V_b2⟩ := q1
  have ne_w0_b2 : w0 ≠ b2 := own_ne' lt_w0 z_b2
  have ne_w1_b2 : w1 ≠ b2 := own_ne' lt_w1 z_b2
  have sz_b2 : h0.size ≤ b2 := Nat.le_trans K.1 z_b2
  have g_b2 : n0 ≤ b2 := Nat.le_trans Z0 sz_b2
  replace K := K.trans K1 (allS (Or.inl (List.mem_of_getElem? (i := 0) rfl)) all0)
  replace E_w1 := E_w1.keep K1
  replace V_w1 := V_w1.keep K1 (ninS (Ne.symm ne_w0_w1) nin0)
  show own_Go p e below (T1.setTop (mkF m 6 #[.val (.ref w0), .val (.long q9), .second, .unset] [])) _
  refine own_iconst (pc' := 7) B X1 (z := (0 : Int32)) d5_6 rfl rfl ?_
  refine own_istoreN (pc' := 8) B X1 (Ls' := #[.val (.ref w0), .val (.long q9), .second, .val (.int (0 : Int32))]) d5_7 rfl rfl ?_
  refine own_iloadN (pc' := 9) B X1 d5_8 rfl rfl ?_
  refine own_bipush (pc' := 11) B X1 (z := (8 : Int32)) d5_9 rfl (by decide) ?_
  refine own_icmpNo (pc' := 14) B X1 d5_11 (tlt (by decide : (0 : Int32) < (8 : Int32))).2.1 rfl ?_
  refine own_aloadN (pc' := 15) B X1 d5_14 rfl rfl rfl ?_
  refine own_getfield (pc' := 18) B X1 (host := "") (Or.inl (own_w hw 10 rfl)) Via.refl F_w0_bytes d5_15 rfl ?_
  intro T4 X4
  refine own_aloadN (pc' := 19) B X4 d5_18 rfl rfl rfl ?_
  refine own_dup (pc' := 20) B X4 d5_19 rfl rfl ?_
  refine own_getfield (pc' := 23) B X4 (host := "") (Or.inl (own_w hw 21 rfl)) Via.refl F_w0_size d5_20 rfl ?_
  intro T5 X5
  refine own_dup_x1 (pc' := 24) B X5 d5_23 rfl rfl rfl ?_
  refine own_iconst (pc' := 25) B X5 (z := (1 : Int32)) d5_24 rfl rfl ?_
  refine own_iadd (pc' := 26) B X5 (z := (65 : Int32)) d5_25 rfl (by decide) ?_
  refine own_putfield (pc' := 29) B X5 (host := "") (Or.inl (own_w hw 21 rfl)) Via.refl F_w0_size E_w0 g_w0 (Or.inl (own_w hw 22 rfl)) (own_w hw 2 rfl) (ty := .int) (by decide) rfl rfl d5_26 rfl ?_
  intro T6 h6 X6 W6 F_w0_size
  replace E_w0 := E_w0.wr W6
  replace F_w0_bytes := F_w0_bytes.other W6 (Or.inr (slot_ne (Or.inl (own_w hw 11 rfl)) (Or.inl (own_w hw 22 rfl)) (by decide) (t := (.array .byte)) (t' := .int) (by decide) (by decide)))
  replace E_w1 := E_w1.wr W6
  replace V_w1 := V_w1.other W6 (Ne.symm ne_w0_w1)
  replace E_b2 := E_b2.wr W6
  replace V_b2 := V_b2.other W6 (Ne.symm ne_w0_b2)
  replace K := K.wr W6 (Or.inl (List.mem_of_getElem? (i := 0) rfl))
  refine own_lloadN (pc' := 30) B X6 d5_29 rfl rfl ?_
  refine own_bipush (pc' := 32) B X6 (z := (8 : Int32)) d5_30 rfl (by decide) ?_
  refine own_iloadN (pc' := 33) B X6 d5_32 rfl rfl ?_
  refine own_imul (pc' := 34) B X6 (z := (0 : Int32)) d5_33 rfl (by decide) ?_
  refine own_lushr (pc' := 35) B X6 d5_34 rfl (own_ush0L _) ?_
  obtain ⟨y7, hy7⟩ : ∃ z : Int32, q9.toInt32 = z := ⟨_, rfl⟩
  refine own_l2i (pc' := 36) B X6 d5_35 rfl hy7 ?_
  obtain ⟨y8, hy8⟩ : ∃ z : Int32, y7.toInt8.toInt32 = z := ⟨_, rfl⟩
  refine own_i2b (pc' := 37) B X6 d5_36 rfl hy8 ?_
  replace V_b2 : Arv Z h6 b2 k3 .byte (128 : Int32) ((.int p3) :: (.int (0 : Int32)) :: (.int (0 : Int32)) :: (.int (0 : Int32)) :: (.int (0 : Int32)) :: (.int (0 : Int32)) :: (.int (0 : Int32)) :: (.int (0 : Int32)) :: (.int (0 : Int32)) :: (.int (0 : Int32)) :: (.int (0 : Int32)) :: (.int (0 : Int32)) :: (.int (0 : Int32)) :: (.int (0 : Int32)) :: (.int (0 : Int32)) :: (.int (0 : Int32)) :: (.int (0 : Int32)) :: (.int (0 : Int32)) :: (.int (0 : Int32)) :: (.int (0 : Int32)) :: (.int (0 : Int32)) :: (.int (0 : Int32)) :: (.int (0 : Int32)) :: (.int (0 : Int32)) :: (.int (0 : Int32)) :: (.int (0 : Int32)) :: (.int (0 : Int32)) :: (.int (0 : Int32)) :: (.int (0 : Int32)) :: (.int (0 : Int32)) :: (.int (0 : Int32)) :: (.int (0 : Int32)) :: (.int (0 : Int32)) :: (.int (0 : Int32)) :: (.int (0 : Int32)) :: (.int (0 : Int32)) :: (.int (0 : Int32)) :: (.int (0 : Int32)) :: (.int (0 : Int32)) :: (.int (0 : Int32)) :: (.int (0 : Int32)) :: (.int (0 : Int32)) :: (.int (0 : Int32)) :: (.int (0 : Int32)) :: (.int (0 : Int32)) :: (.int (0 : Int32)) :: (.int (0 : Int32)) :: (.int (0 : Int32)) :: (.int (0 : Int32)) :: (.int (0 : Int32)) :: (.int (0 : Int32)) :: (.int (0 : Int32)) :: (.int (0 : Int32)) :: (.int (0 : Int32)) :: (.int (0 : Int32)) :: (.int (0 : Int32)) :: (.int (0 : Int32)) :: (.int (0 : Int32)) :: (.int (0 : Int32)) :: (.int p4) :: (.int p5) :: (.int p6) :: (.int p7) :: (.int p8) :: (.int (0 : Int32)) :: []) (.int (0 : Int32)) := V_b2.pad (pad_rep ((.int p3) :: (.int (0 : Int32)) :: (.int (0 : Int32)) :: (.int (0 : Int32)) :: (.int (0 : Int32)) :: (.int (0 : Int32)) :: (.int (0 : Int32)) :: (.int (0 : Int32)) :: (.int (0 : Int32)) :: (.int (0 : Int32)) :: (.int (0 : Int32)) :: (.int (0 : Int32)) :: (.int (0 : Int32)) :: (.int (0 : Int32)) :: (.int (0 : Int32)) :: (.int (0 : Int32)) :: (.int (0 : Int32)) :: (.int (0 : Int32)) :: (.int (0 : Int32)) :: (.int (0 : Int32)) :: (.int (0 : Int32)) :: (.int (0 : Int32)) :: (.int (0 : Int32)) :: (.int (0 : Int32)) :: (.int (0 : Int32)) :: (.int (0 : Int32)) :: (.int (0 : Int32)) :: (.int (0 : Int32)) :: (.int (0 : Int32)) :: (.int (0 : Int32)) :: (.int (0 : Int32)) :: (.int (0 : Int32)) :: (.int (0 : Int32)) :: (.int (0 : Int32)) :: (.int (0 : Int32)) :: (.int (0 : Int32)) :: (.int (0 : Int32)) :: (.int (0 : Int32)) :: (.int (0 : Int32)) :: (.int (0 : Int32)) :: (.int (0 : Int32)) :: (.int (0 : Int32)) :: (.int (0 : Int32)) :: (.int (0 : Int32)) :: (.int (0 : Int32)) :: (.int (0 : Int32)) :: (.int (0 : Int32)) :: (.int (0 : Int32)) :: (.int (0 : Int32)) :: (.int (0 : Int32)) :: (.int (0 : Int32)) :: (.int (0 : Int32)) :: (.int (0 : Int32)) :: (.int (0 : Int32)) :: (.int (0 : Int32)) :: (.int (0 : Int32)) :: (.int (0 : Int32)) :: (.int (0 : Int32)) :: (.int (0 : Int32)) :: (.int p4) :: (.int p5) :: (.int p6) :: (.int p7) :: (.int p8) :: []) (.int (0 : Int32)) 1)
  refine own_bastore (pc' := 38) B X6 (x' := y8) V_b2 g_b2 ⟨by decide, by decide⟩ 64 (by decide) (Nat.le_of_ble_eq_true rfl) (own_idem_i2b hy8) d5_37 rfl ?_
  intro T9 h9 X9 W9 V_b2
  replace V_b2 : Arv Z h9 b2 k3 .byte (128 : Int32) ((.int p3) :: (.int (0 : Int32)) :: (.int (0 : Int32)) :: (.int (0 : Int32)) :: (.int (0 : Int32)) :: (.int (0 : Int32)) :: (.int (0 : Int32)) :: (.int (0 : Int32)) :: (.int (0 : Int32)) :: (.int (0 : Int32)) :: (.int (0 : Int32)) :: (.int (0 : Int32)) :: (.int (0 : Int32)) :: (.int (0 : Int32)) :: (.int (0 : Int32)) :: (.int (0 : Int32)) :: (.int (0 : Int32)) :: (.int (0 : Int32)) :: (.int (0 : Int32)) :: (.int (0 : Int32)) :: (.int (0 : Int32)) :: (.int (0 : Int32)) :: (.int (0 : Int32)) :: (.int (0 : Int32)) :: (.int (0 : Int32)) :: (.int (0 : Int32)) :: (.int (0 : Int32)) :: (.int (0 : Int32)) :: (.int (0 : Int32)) :: (.int (0 : Int32)) :: (.int (0 : Int32)) :: (.int (0 : Int32)) :: (.int (0 : Int32)) :: (.int (0 : Int32)) :: (.int (0 : Int32)) :: (.int (0 : Int32)) :: (.int (0 : Int32)) :: (.int (0 : Int32)) :: (.int (0 : Int32)) :: (.int (0 : Int32)) :: (.int (0 : Int32)) :: (.int (0 : Int32)) :: (.int (0 : Int32)) :: (.int (0 : Int32)) :: (.int (0 : Int32)) :: (.int (0 : Int32)) :: (.int (0 : Int32)) :: (.int (0 : Int32)) :: (.int (0 : Int32)) :: (.int (0 : Int32)) :: (.int (0 : Int32)) :: (.int (0 : Int32)) :: (.int (0 : Int32)) :: (.int (0 : Int32)) :: (.int (0 : Int32)) :: (.int (0 : Int32)) :: (.int (0 : Int32)) :: (.int (0 : Int32)) :: (.int (0 : Int32)) :: (.int p4) :: (.int p5) :: (.int p6) :: (.int p7) :: (.int p8) :: (.int y8) :: []) (.int (0 : Int32)) := V_b2
  replace E_w0 := E_w0.wr W9
  replace F_w0_bytes := F_w0_bytes.other W9 (Or.inl ne_w0_b2)
  replace F_w0_size := F_w0_size.other W9 (Or.inl ne_w0_b2)
  replace E_w1 := E_w1.wr W9
  replace V_w1 := V_w1.other W9 ne_w1_b2
  replace E_b2 := E_b2.wr W9
  replace K := K.wr W9 (Or.inr sz_b2)
  refine own_iinc (pc' := 41) B X9 (Ls' := #[.val (.ref w0), .val (.long q9), .second, .val (.int (1 : Int32))]) d5_38 rfl rfl (z := (1 : Int32)) (by decide) rfl ?_
  refine own_goto (pc' := 8) B X9 d5_41 (by decide) rfl ?_
  refine own_iloadN (pc' := 9) B X9 d5_8 rfl rfl ?_
  refine own_bipush (pc' := 11) B X9 (z := (8 : Int32)) d5_9 rfl (by decide) ?_
  refine own_icmpNo (pc' := 14) B X9 d5_11 (tlt (by decide : (1 : Int32) < (8 : Int32))).2.1 rfl ?_
  refine own_aloadN (pc' := 15) B X9 d5_14 rfl rfl rfl ?_
  refine own_getfield (pc' := 18) B X9 (host := "") (Or.inl (own_w hw 10 rfl)) Via.refl F_w0_bytes d5_15 rfl ?_
  intro T10 X10
  refine own_aloadN (pc' := 19) B X10 d5_18 rfl rfl rfl ?_
  refine own_dup (pc' := 20) B X10 d5_19 rfl rfl ?_
  refine own_getfield (pc' := 23) B X10 (host := "") (Or.inl (own_w hw 21 rfl)) Via.refl F_w0_size d5_20 rfl ?_
  intro T11 X11
  refine own_dup_x1 (pc' := 24) B X11 d5_23 rfl rfl rfl ?_
  refine own_iconst (pc' := 25) B X11 (z := (1 : Int32)) d5_24 rfl rfl ?_
  refine own_iadd (pc' := 26) B X11 (z := (66 : Int32)) d5_25 rfl (by decide) ?_
  refine own_putfield (pc' := 29) B X11 (host := "") (Or.inl (own_w hw 21 rfl)) Via.refl F_w0_size E_w0 g_w0 (Or.inl (own_w hw 22 rfl)) (own_w hw 2 rfl) (ty := .int) (by decide) rfl rfl d5_26 rfl ?_
  intro T12 h12 X12 W12 F_w0_size
  replace E_w0 := E_w0.wr W12
  replace F_w0_bytes := F_w0_bytes.other W12 (Or.inr (slot_ne (Or.inl (own_w hw 11 rfl)) (Or.inl (own_w hw 22 rfl)) (by decide) (t := (.array .byte)) (t' := .int) (by decide) (by decide)))
  replace E_w1 := E_w1.wr W12
  replace V_w1 := V_w1.other W12 (Ne.symm ne_w0_w1)
  replace E_b2 := E_b2.wr W12
  replace V_b2 := V_b2.other W12 (Ne.symm ne_w0_b2)
  replace K := K.wr W12 (Or.inl (List.mem_of_getElem? (i := 0) rfl))
  refine own_lloadN (pc' := 30) B X12 d5_29 rfl rfl ?_
  refine own_bipush (pc' := 32) B X12 (z := (8 : Int32)) d5_30 rfl (by decide) ?_
  refine own_iloadN (pc' := 33) B X12 d5_32 rfl rfl ?_
  refine own_imul (pc' := 34) B X12 (z := (8 : Int32)) d5_33 rfl (by decide) ?_
  obtain ⟨y13, hy13⟩ : ∃ z : Int64, (q9.toUInt64 >>> ((8 : Int32) &&& 0x3f).toInt64.toUInt64).toInt64 = z := ⟨_, rfl⟩
  refine own_lushr (pc' := 35) B X12 d5_34 rfl hy13 ?_
  obtain ⟨y14, hy14⟩ : ∃ z : Int32, y13.toInt32 = z := ⟨_, rfl⟩
  refine own_l2i (pc' := 36) B X12 d5_35 rfl hy14 ?_
  obtain ⟨y15, hy15⟩ : ∃ z : Int32, y14.toInt8.toInt32 = z := ⟨_, rfl⟩
  refine own_i2b (pc' := 37) B X12 d5_36 rfl hy15 ?_
  replace V_b2 : Arv Z h12 b2 k3 .byte (128 : Int32) ((.int p3) :: (.int (0 : Int32)) :: (.int (0 : Int32)) :: (.int (0 : Int32)) :: (.int (0 : Int32)) :: (.int (0 : Int32)) :: (.int (0 : Int32)) :: (.int (0 : Int32)) :: (.int (0 : Int32)) :: (.int (0 : Int32)) :: (.int (0 : Int32)) :: (.int (0 : Int32)) :: (.int (0 : Int32)) :: (.int (0 : Int32)) :: (.int (0 : Int32)) :: (.int (0 : Int32)) :: (.int (0 : Int32)) :: (.int (0 : Int32)) :: (.int (0 : Int32)) :: (.int (0 : Int32)) :: (.int (0 : Int32)) :: (.int (0 : Int32)) :: (.int (0 : Int32)) :: (.int (0 : Int32)) :: (.int (0 : Int32)) :: (.int (0 : Int32)) :: (.int (0 : Int32)) :: (.int (0 : Int32)) :: (.int (0 : Int32)) :: (.int (0 : Int32)) :: (.int (0 : Int32)) :: (.int (0 : Int32)) :: (.int (0 : Int32)) :: (.int (0 : Int32)) :: (.int (0 : Int32)) :: (.int (0 : Int32)) :: (.int (0 : Int32)) :: (.int (0 : Int32)) :: (.int (0 : Int32)) :: (.int (0 : Int32)) :: (.int (0 : Int32)) :: (.int (0 : Int32)) :: (.int (0 : Int32)) :: (.int (0 : Int32)) :: (.int (0 : Int32)) :: (.int (0 : Int32)) :: (.int (0 : Int32)) :: (.int (0 : Int32)) :: (.int (0 : Int32)) :: (.int (0 : Int32)) :: (.int (0 : Int32)) :: (.int (0 : Int32)) :: (.int (0 : Int32)) :: (.int (0 : Int32)) :: (.int (0 : Int32)) :: (.int (0 : Int32)) :: (.int (0 : Int32)) :: (.int (0 : Int32)) :: (.int (0 : Int32)) :: (.int p4) :: (.int p5) :: (.int p6) :: (.int p7) :: (.int p8) :: (.int y8) :: (.int (0 : Int32)) :: []) (.int (0 : Int32)) := V_b2.pad (pad_rep ((.int p3) :: (.int (0 : Int32)) :: (.int (0 : Int32)) :: (.int (0 : Int32)) :: (.int (0 : Int32)) :: (.int (0 : Int32)) :: (.int (0 : Int32)) :: (.int (0 : Int32)) :: (.int (0 : Int32)) :: (.int (0 : Int32)) :: (.int (0 : Int32)) :: (.int (0 : Int32)) :: (.int (0 : Int32)) :: (.int (0 : Int32)) :: (.int (0 : Int32)) :: (.int (0 : Int32)) :: (.int (0 : Int32)) :: (.int (0 : Int32)) :: (.int (0 : Int32)) :: (.int (0 : Int32)) :: (.int (0 : Int32)) :: (.int (0 : Int32)) :: (.int (0 : Int32)) :: (.int (0 : Int32)) :: (.int (0 : Int32)) :: (.int (0 : Int32)) :: (.int (0 : Int32)) :: (.int (0 : Int32)) :: (.int (0 : Int32)) :: (.int (0 : Int32)) :: (.int (0 : Int32)) :: (.int (0 : Int32)) :: (.int (0 : Int32)) :: (.int (0 : Int32)) :: (.int (0 : Int32)) :: (.int (0 : Int32)) :: (.int (0 : Int32)) :: (.int (0 : Int32)) :: (.int (0 : Int32)) :: (.int (0 : Int32)) :: (.int (0 : Int32)) :: (.int (0 : Int32)) :: (.int (0 : Int32)) :: (.int (0 : Int32)) :: (.int (0 : Int32)) :: (.int (0 : Int32)) :: (.int (0 : Int32)) :: (.int (0 : Int32)) :: (.int (0 : Int32)) :: (.int (0 : Int32)) :: (.int (0 : Int32)) :: (.int (0 : Int32)) :: (.int (0 : Int32)) :: (.int (0 : Int32)) :: (.int (0 : Int32)) :: (.int (0 : Int32)) :: (.int (0 : Int32)) :: (.int (0 : Int32)) :: (.int (0 : Int32)) :: (.int p4) :: (.int p5) :: (.int p6) :: (.int p7) :: (.int p8) :: (.int y8) :: []) (.int (0 : Int32)) 1)
  refine own_bastore (pc' := 38) B X12 (x' := y15) V_b2 g_b2 ⟨by decide, by decide⟩ 65 (by decide) (Nat.le_of_ble_eq_true rfl) (own_idem_i2b hy15) d5_37 rfl ?_
  intro T16 h16 X16 W16 V_b2
  replace V_b2 : Arv Z h16 b2 k3 .byte (128 : Int32) ((.int p3) :: (.int (0 : Int32)) :: (.int (0 : Int32)) :: (.int (0 : Int32)) :: (.int (0 : Int32)) :: (.int (0 : Int32)) :: (.int (0 : Int32)) :: (.int (0 : Int32)) :: (.int (0 : Int32)) :: (.int (0 : Int32)) :: (.int (0 : Int32)) :: (.int (0 : Int32)) :: (.int (0 : Int32)) :: (.int (0 : Int32)) :: (.int (0 : Int32)) :: (.int (0 : Int32)) :: (.int (0 : Int32)) :: (.int (0 : Int32)) :: (.int (0 : Int32)) :: (.int (0 : Int32)) :: (.int (0 : Int32)) :: (.int (0 : Int32)) :: (.int (0 : Int32)) :: (.int (0 : Int32)) :: (.int (0 : Int32)) :: (.int (0 : Int32)) :: (.int (0 : Int32)) :: (.int (0 : Int32)) :: (.int (0 : Int32)) :: (.int (0 : Int32)) :: (.int (0 : Int32)) :: (.int (0 : Int32)) :: (.int (0 : Int32)) :: (.int (0 : Int32)) :: (.int (0 : Int32)) :: (.int (0 : Int32)) :: (.int (0 : Int32)) :: (.int (0 : Int32)) :: (.int (0 : Int32)) :: (.int (0 : Int32)) :: (.int (0 : Int32)) :: (.int (0 : Int32)) :: (.int (0 : Int32)) :: (.int (0 : Int32)) :: (.int (0 : Int32)) :: (.int (0 : Int32)) :: (.int (0 : Int32)) :: (.int (0 : Int32)) :: (.int (0 : Int32)) :: (.int (0 : Int32)) :: (.int (0 : Int32)) :: (.int (0 : Int32)) :: (.int (0 : Int32)) :: (.int (0 : Int32)) :: (.int (0 : Int32)) :: (.int (0 : Int32)) :: (.int (0 : Int32)) :: (.int (0 : Int32)) :: (.int (0 : Int32)) :: (.int p4) :: (.int p5) :: (.int p6) :: (.int p7) :: (.int p8) :: (.int y8) :: (.int y15) :: []) (.int (0 : Int32)) := V_b2
  replace E_w0 := E_w0.wr W16
  replace F_w0_bytes := F_w0_bytes.other W16 (Or.inl ne_w0_b2)
  replace F_w0_size := F_w0_size.other W16 (Or.inl ne_w0_b2)
  replace E_w1 := E_w1.wr W16
  replace V_w1 := V_w1.other W16 ne_w1_b2
  replace E_b2 := E_b2.wr W16
  replace K := K.wr W16 (Or.inr sz_b2)
  refine own_iinc (pc' := 41) B X16 (Ls' := #[.val (.ref w0), .val (.long q9), .second, .val (.int (2 : Int32))]) d5_38 rfl rfl (z := (2 : Int32)) (by decide) rfl ?_
  refine own_goto (pc' := 8) B X16 d5_41 (by decide) rfl ?_
  refine own_iloadN (pc' := 9) B X16 d5_8 rfl rfl ?_
  refine own_bipush (pc' := 11) B X16 (z := (8 : Int32)) d5_9 rfl (by decide) ?_
  refine own_icmpNo (pc' := 14) B X16 d5_11 (tlt (by decide : (2 : Int32) < (8 : Int32))).2.1 rfl ?_
  refine own_aloadN (pc' := 15) B X16 d5_14 rfl rfl rfl ?_
  refine own_getfield (pc' := 18) B X16 (host := "") (Or.inl (own_w hw 10 rfl)) Via.refl F_w0_bytes d5_15 rfl ?_
  intro T17 X17
  refine own_aloadN (pc' := 19) B X17 d5_18 rfl rfl rfl ?_
  refine own_dup (pc' := 20) B X17 d5_19 rfl rfl ?_
  refine own_getfield (pc' := 23) B X17 (host := "") (Or.inl (own_w hw 21 rfl)) Via.refl F_w0_size d5_20 rfl ?_
  intro T18 X18
  refine own_dup_x1 (pc' := 24) B X18 d5_23 rfl rfl rfl ?_
  refine own_iconst (pc' := 25) B X18 (z := (1 : Int32)) d5_24 rfl rfl ?_
  refine own_iadd (pc' := 26) B X18 (z := (67 : Int32)) d5_25 rfl (by decide) ?_
  refine own_putfield (pc' := 29) B X18 (host := "") (Or.inl (own_w hw 21 rfl)) Via.refl F_w0_size E_w0 g_w0 (Or.inl (own_w hw 22 rfl)) (own_w hw 2 rfl) (ty := .int) (by decide) rfl rfl d5_26 rfl ?_
  intro T19 h19 X19 W19 F_w0_size
  replace E_w0 := E_w0.wr W19
  replace F_w0_bytes := F_w0_bytes.other W19 (Or.inr (slot_ne (Or.inl (own_w hw 11 rfl)) (Or.inl (own_w hw 22 rfl)) (by decide) (t := (.array .byte)) (t' := .int) (by decide) (by decide)))
  replace E_w1 := E_w1.wr W19
  replace V_w1 := V_w1.other W19 (Ne.symm ne_w0_w1)
  replace E_b2 := E_b2.wr W19
  replace V_b2 := V_b2.other W19 (Ne.symm ne_w0_b2)
  replace K := K.wr W19 (Or.inl (List.mem_of_getElem? (i := 0) rfl))
  refine own_lloadN (pc' := 30) B X19 d5_29 rfl rfl ?_
  refine own_bipush (pc' := 32) B X19 (z := (8 : Int32)) d5_30 rfl (by decide) ?_
  refine own_iloadN (pc' := 33) B X19 d5_32 rfl rfl ?_
  refine own_imul (pc' := 34) B X19 (z := (16 : Int32)) d5_33 rfl (by decide) ?_
  obtain ⟨y20, hy20⟩ : ∃ z : Int64, (q9.toUInt64 >>> ((16 : Int32) &&& 0x3f).toInt64.toUInt64).toInt64 = z := ⟨_, rfl⟩
  refine own_lushr (pc' := 35) B X19 d5_34 rfl hy20 ?_
  obtain ⟨y21, hy21⟩ : ∃ z : Int32, y20.toInt32 = z := ⟨_, rfl⟩
  refine own_l2i (pc' := 36) B X19 d5_35 rfl hy21 ?_
  obtain ⟨y22, hy22⟩ : ∃ z : Int32, y21.toInt8.toInt32 = z := ⟨_, rfl⟩
  refine own_i2b (pc' := 37) B X19 d5_36 rfl hy22 ?_
  replace V_b2 : Arv Z h19 b2 k3 .byte (128 : Int32) ((.int p3) :: (.int (0 : Int32)) :: (.int (0 : Int32)) :: (.int (0 : Int32)) :: (.int (0 : Int32)) :: (.int (0 : Int32)) :: (.int (0 : Int32)) :: (.int (0 : Int32)) :: (.int (0 : Int32)) :: (.int (0 : Int32)) :: (.int (0 : Int32)) :: (.int (0 : Int32)) :: (.int (0 : Int32)) :: (.int (0 : Int32)) :: (.int (0 : Int32)) :: (.int (0 : Int32)) :: (.int (0 : Int32)) :: (.int (0 : Int32)) :: (.int (0 : Int32)) :: (.int (0 : Int32)) :: (.int (0 : Int32)) :: (.int (0 : Int32)) :: (.int (0 : Int32)) :: (.int (0 : Int32)) :: (.int (0 : Int32)) :: (.int (0 : Int32)) :: (.int (0 : Int32)) :: (.int (0 : Int32)) :: (.int (0 : Int32)) :: (.int (0 : Int32)) :: (.int (0 : Int32)) :: (.int (0 : Int32)) :: (.int (0 : Int32)) :: (.int (0 : Int32)) :: (.int (0 : Int32)) :: (.int (0 : Int32)) :: (.int (0 : Int32)) :: (.int (0 : Int32)) :: (.int (0 : Int32)) :: (.int (0 : Int32)) :: (.int (0 : Int32)) :: (.int (0 : Int32)) :: (.int (0 : Int32)) :: (.int (0 : Int32)) :: (.int (0 : Int32)) :: (.int (0 : Int32)) :: (.int (0 : Int32)) :: (.int (0 : Int32)) :: (.int (0 : Int32)) :: (.int (0 : Int32)) :: (.int (0 : Int32)) :: (.int (0 : Int32)) :: (.int (0 : Int32)) :: (.int (0 : Int32)) :: (.int (0 : Int32)) :: (.int (0 : Int32)) :: (.int (0 : Int32)) :: (.int (0 : Int32)) :: (.int (0 : Int32)) :: (.int p4) :: (.int p5) :: (.int p6) :: (.int p7) :: (.int p8) :: (.int y8) :: (.int y15) :: (.int (0 : Int32)) :: []) (.int (0 : Int32)) := V_b2.pad (pad_rep ((.int p3) :: (.int (0 : Int32)) :: (.int (0 : Int32)) :: (.int (0 : Int32)) :: (.int (0 : Int32)) :: (.int (0 : Int32)) :: (.int (0 : Int32)) :: (.int (0 : Int32)) :: (.int (0 : Int32)) :: (.int (0 : Int32)) :: (.int (0 : Int32)) :: (.int (0 : Int32)) :: (.int (0 : Int32)) :: (.int (0 : Int32)) :: (.int (0 : Int32)) :: (.int (0 : Int32)) :: (.int (0 : Int32)) :: (.int (0 : Int32)) :: (.int (0 : Int32)) :: (.int (0 : Int32)) :: (.int (0 : Int32)) :: (.int (0 : Int32)) :: (.int (0 : Int32)) :: (.int (0 : Int32)) :: (.int (0 : Int32)) :: (.int (0 : Int32)) :: (.int (0 : Int32)) :: (.int (0 : Int32)) :: (.int (0 : Int32)) :: (.int (0 : Int32)) :: (.int (0 : Int32)) :: (.int (0 : Int32)) :: (.int (0 : Int32)) :: (.int (0 : Int32)) :: (.int (0 : Int32)) :: (.int (0 : Int32)) :: (.int (0 : Int32)) :: (.int (0 : Int32)) :: (.int (0 : Int32)) :: (.int (0 : Int32)) :: (.int (0 : Int32)) :: (.int (0 : Int32)) :: (.int (0 : Int32)) :: (.int (0 : Int32)) :: (.int (0 : Int32)) :: (.int (0 : Int32)) :: (.int (0 : Int32)) :: (.int (0 : Int32)) :: (.int (0 : Int32)) :: (.int (0 : Int32)) :: (.int (0 : Int32)) :: (.int (0 : Int32)) :: (.int (0 : Int32)) :: (.int (0 : Int32)) :: (.int (0 : Int32)) :: (.int (0 : Int32)) :: (.int (0 : Int32)) :: (.int (0 : Int32)) :: (.int (0 : Int32)) :: (.int p4) :: (.int p5) :: (.int p6) :: (.int p7) :: (.int p8) :: (.int y8) :: (.int y15) :: []) (.int (0 : Int32)) 1)
  refine own_bastore (pc' := 38) B X19 (x' := y22) V_b2 g_b2 ⟨by decide, by decide⟩ 66 (by decide) (Nat.le_of_ble_eq_true rfl) (own_idem_i2b hy22) d5_37 rfl ?_
  intro T23 h23 X23 W23 V_b2
  replace V_b2 : Arv Z h23 b2 k3 .byte (128 : Int32) ((.int p3) :: (.int (0 : Int32)) :: (.int (0 : Int32)) :: (.int (0 : Int32)) :: (.int (0 : Int32)) :: (.int (0 : Int32)) :: (.int (0 : Int32)) :: (.int (0 : Int32)) :: (.int (0 : Int32)) :: (.int (0 : Int32)) :: (.int (0 : Int32)) :: (.int (0 : Int32)) :: (.int (0 : Int32)) :: (.int (0 : Int32)) :: (.int (0 : Int32)) :: (.int (0 : Int32)) :: (.int (0 : Int32)) :: (.int (0 : Int32)) :: (.int (0 : Int32)) :: (.int (0 : Int32)) :: (.int (0 : Int32)) :: (.int (0 : Int32)) :: (.int (0 : Int32)) :: (.int (0 : Int32)) :: (.int (0 : Int32)) :: (.int (0 : Int32)) :: (.int (0 : Int32)) :: (.int (0 : Int32)) :: (.int (0 : Int32)) :: (.int (0 : Int32)) :: (.int (0 : Int32)) :: (.int (0 : Int32)) :: (.int (0 : Int32)) :: (.int (0 : Int32)) :: (.int (0 : Int32)) :: (.int (0 : Int32)) :: (.int (0 : Int32)) :: (.int (0 : Int32)) :: (.int (0 : Int32)) :: (.int (0 : Int32)) :: (.int (0 : Int32)) :: (.int (0 : Int32)) :: (.int (0 : Int32)) :: (.int (0 : Int32)) :: (.int (0 : Int32)) :: (.int (0 : Int32)) :: (.int (0 : Int32)) :: (.int (0 : Int32)) :: (.int (0 : Int32)) :: (.int (0 : Int32)) :: (.int (0 : Int32)) :: (.int (0 : Int32)) :: (.int (0 : Int32)) :: (.int (0 : Int32)) :: (.int (0 : Int32)) :: (.int (0 : Int32)) :: (.int (0 : Int32)) :: (.int (0 : Int32)) :: (.int (0 : Int32)) :: (.int p4) :: (.int p5) :: (.int p6) :: (.int p7) :: (.int p8) :: (.int y8) :: (.int y15) :: (.int y22) :: []) (.int (0 : Int32)) := V_b2
  replace E_w0 := E_w0.wr W23
  replace F_w0_bytes := F_w0_bytes.other W23 (Or.inl ne_w0_b2)
  replace F_w0_size := F_w0_size.other W23 (Or.inl ne_w0_b2)
  replace E_w1 := E_w1.wr W23
  replace V_w1 := V_w1.other W23 ne_w1_b2
  replace E_b2 := E_b2.wr W23
  replace K := K.wr W23 (Or.inr sz_b2)
  refine own_iinc (pc' := 41) B X23 (Ls' := #[.val (.ref w0), .val (.long q9), .second, .val (.int (3 : Int32))]) d5_38 rfl rfl (z := (3 : Int32)) (by decide) rfl ?_
  refine own_goto (pc' := 8) B X23 d5_41 (by decide) rfl ?_
  refine own_iloadN (pc' := 9) B X23 d5_8 rfl rfl ?_
  refine own_bipush (pc' := 11) B X23 (z := (8 : Int32)) d5_9 rfl (by decide) ?_
  refine own_icmpNo (pc' := 14) B X23 d5_11 (tlt (by decide : (3 : Int32) < (8 : Int32))).2.1 rfl ?_
  refine own_aloadN (pc' := 15) B X23 d5_14 rfl rfl rfl ?_
  refine own_getfield (pc' := 18) B X23 (host := "") (Or.inl (own_w hw 10 rfl)) Via.refl F_w0_bytes d5_15 rfl ?_
  intro T24 X24
  refine own_aloadN (pc' := 19) B X24 d5_18 rfl rfl rfl ?_
  refine own_dup (pc' := 20) B X24 d5_19 rfl rfl ?_
  refine own_getfield (pc' := 23) B X24 (host := "") (Or.inl (own_w hw 21 rfl)) Via.refl F_w0_size d5_20 rfl ?_
  intro T25 X25
  refine own_dup_x1 (pc' := 24) B X25 d5_23 rfl rfl rfl ?_
  refine own_iconst (pc' := 25) B X25 (z := (1 : Int32)) d5_24 rfl rfl ?_
  refine own_iadd (pc' := 26) B X25 (z := (68 : Int32)) d5_25 rfl (by decide) ?_
  refine own_putfield (pc' := 29) B X25 (host := "") (Or.inl (own_w hw 21 rfl)) Via.refl F_w0_size E_w0 g_w0 (Or.inl (own_w hw 22 rfl)) (own_w hw 2 rfl) (ty := .int) (by decide) rfl rfl d5_26 rfl ?_
  intro T26 h26 X26 W26 F_w0_size
  replace E_w0 := E_w0.wr W26
  replace F_w0_bytes := F_w0_bytes.other W26 (Or.inr (slot_ne (Or.inl (own_w hw 11 rfl)) (Or.inl (own_w hw 22 rfl)) (by decide) (t := (.array .byte)) (t' := .int) (by decide) (by decide)))
  replace E_w1 := E_w1.wr W26
  replace V_w1 := V_w1.other W26 (Ne.symm ne_w0_w1)
  replace E_b2 := E_b2.wr W26
  replace V_b2 := V_b2.other W26 (Ne.symm ne_w0_b2)
  replace K := K.wr W26 (Or.inl (List.mem_of_getElem? (i := 0) rfl))
  refine own_lloadN (pc' := 30) B X26 d5_29 rfl rfl ?_
  refine own_bipush (pc' := 32) B X26 (z := (8 : Int32)) d5_30 rfl (by decide) ?_
  refine own_iloadN (pc' := 33) B X26 d5_32 rfl rfl ?_
  refine own_imul (pc' := 34) B X26 (z := (24 : Int32)) d5_33 rfl (by decide) ?_
  obtain ⟨y27, hy27⟩ : ∃ z : Int64, (q9.toUInt64 >>> ((24 : Int32) &&& 0x3f).toInt64.toUInt64).toInt64 = z := ⟨_, rfl⟩
  refine own_lushr (pc' := 35) B X26 d5_34 rfl hy27 ?_
  obtain ⟨y28, hy28⟩ : ∃ z : Int32, y27.toInt32 = z := ⟨_, rfl⟩
  refine own_l2i (pc' := 36) B X26 d5_35 rfl hy28 ?_
  obtain ⟨y29, hy29⟩ : ∃ z : Int32, y28.toInt8.toInt32 = z := ⟨_, rfl⟩
  refine own_i2b (pc' := 37) B X26 d5_36 rfl hy29 ?_
  replace V_b2 : Arv Z h26 b2 k3 .byte (128 : Int32) ((.int p3) :: (.int (0 : Int32)) :: (.int (0 : Int32)) :: (.int (0 : Int32)) :: (.int (0 : Int32)) :: (.int (0 : Int32)) :: (.int (0 : Int32)) :: (.int (0 : Int32)) :: (.int (0 : Int32)) :: (.int (0 : Int32)) :: (.int (0 : Int32)) :: (.int (0 : Int32)) :: (.int (0 : Int32)) :: (.int (0 : Int32)) :: (.int (0 : Int32)) :: (.int (0 : Int32)) :: (.int (0 : Int32)) :: (.int (0 : Int32)) :: (.int (0 : Int32)) :: (.int (0 : Int32)) :: (.int (0 : Int32)) :: (.int (0 : Int32)) :: (.int (0 : Int32)) :: (.int (0 : Int32)) :: (.int (0 : Int32)) :: (.int (0 : Int32)) :: (.int (0 : Int32)) :: (.int (0 : Int32)) :: (.int (0 : Int32)) :: (.int (0 : Int32)) :: (.int (0 : Int32)) :: (.int (0 : Int32)) :: (.int (0 : Int32)) :: (.int (0 : Int32)) :: (.int (0 : Int32)) :: (.int (0 : Int32)) :: (.int (0 : Int32)) :: (.int (0 : Int32)) :: (.int (0 : Int32)) :: (.int (0 : Int32)) :: (.int (0 : Int32)) :: (.int (0 : Int32)) :: (.int (0 : Int32)) :: (.int (0 : Int32)) :: (.int (0 : Int32)) :: (.int (0 : Int32)) :: (.int (0 : Int32)) :: (.int (0 : Int32)) :: (.int (0 : Int32)) :: (.int (0 : Int32)) :: (.int (0 : Int32)) :: (.int (0 : Int32)) :: (.int (0 : Int32)) :: (.int (0 : Int32)) :: (.int (0 : Int32)) :: (.int (0 : Int32)) :: (.int (0 : Int32)) :: (.int (0 : Int32)) :: (.int (0 : Int32)) :: (.int p4) :: (.int p5) :: (.int p6) :: (.int p7) :: (.int p8) :: (.int y8) :: (.int y15) :: (.int y22) :: (.int (0 : Int32)) :: []) (.int (0 : Int32)) := V_b2.pad (pad_rep ((.int p3) :: (.int (0 : Int32)) :: (.int (0 : Int32)) :: (.int (0 : Int32)) :: (.int (0 : Int32)) :: (.int (0 : Int32)) :: (.int (0 : Int32)) :: (.int (0 : Int32)) :: (.int (0 : Int32)) :: (.int (0 : Int32)) :: (.int (0 : Int32)) :: (.int (0 : Int32)) :: (.int (0 : Int32)) :: (.int (0 : Int32)) :: (.int (0 : Int32)) :: (.int (0 : Int32)) :: (.int (0 : Int32)) :: (.int (0 : Int32)) :: (.int (0 : Int32)) :: (.int (0 : Int32)) :: (.int (0 : Int32)) :: (.int (0 : Int32)) :: (.int (0 : Int32)) :: (.int (0 : Int32)) :: (.int (0 : Int32)) :: (.int (0 : Int32)) :: (.int (0 : Int32)) :: (.int (0 : Int32)) :: (.int (0 : Int32)) :: (.int (0 : Int32)) :: (.int (0 : Int32)) :: (.int (0 : Int32)) :: (.int (0 : Int32)) :: (.int (0 : Int32)) :: (.int (0 : Int32)) :: (.int (0 : Int32)) :: (.int (0 : Int32)) :: (.int (0 : Int32)) :: (.int (0 : Int32)) :: (.int (0 : Int32)) :: (.int (0 : Int32)) :: (.int (0 : Int32)) :: (.int (0 : Int32)) :: (.int (0 : Int32)) :: (.int (0 : Int32)) :: (.int (0 : Int32)) :: (.int (0 : Int32)) :: (.int (0 : Int32)) :: (.int (0 : Int32)) :: (.int (0 : Int32)) :: (.int (0 : Int32)) :: (.int (0 : Int32)) :: (.int (0 : Int32)) :: (.int (0 : Int32)) :: (.int (0 : Int32)) :: (.int (0 : Int32)) :: (.int (0 : Int32)) :: (.int (0 : Int32)) :: (.int (0 : Int32)) :: (.int p4) :: (.int p5) :: (.int p6) :: (.int p7) :: (.int p8) :: (.int y8) :: (.int y15) :: (.int y22) :: []) (.int (0 : Int32)) 1)
  refine own_bastore (pc' := 38) B X26 (x' := y29) V_b2 g_b2 ⟨by decide, by decide⟩ 67 (by decide) (Nat.le_of_ble_eq_true rfl) (own_idem_i2b hy29) d5_37 rfl ?_
  intro T30 h30 X30 W30 V_b2
  replace V_b2 : Arv Z h30 b2 k3 .byte (128 : Int32) ((.int p3) :: (.int (0 : Int32)) :: (.int (0 : Int32)) :: (.int (0 : Int32)) :: (.int (0 : Int32)) :: (.int (0 : Int32)) :: (.int (0 : Int32)) :: (.int (0 : Int32)) :: (.int (0 : Int32)) :: (.int (0 : Int32)) :: (.int (0 : Int32)) :: (.int (0 : Int32)) :: (.int (0 : Int32)) :: (.int (0 : Int32)) :: (.int (0 : Int32)) :: (.int (0 : Int32)) :: (.int (0 : Int32)) :: (.int (0 : Int32)) :: (.int (0 : Int32)) :: (.int (0 : Int32)) :: (.int (0 : Int32)) :: (.int (0 : Int32)) :: (.int (0 : Int32)) :: (.int (0 : Int32)) :: (.int (0 : Int32)) :: (.int (0 : Int32)) :: (.int (0 : Int32)) :: (.int (0 : Int32)) :: (.int (0 : Int32)) :: (.int (0 : Int32)) :: (.int (0 : Int32)) :: (.int (0 : Int32)) :: (.int (0 : Int32)) :: (.int (0 : Int32)) :: (.int (0 : Int32)) :: (.int (0 : Int32)) :: (.int (0 : Int32)) :: (.int (0 : Int32)) :: (.int (0 : Int32)) :: (.int (0 : Int32)) :: (.int (0 : Int32)) :: (.int (0 : Int32)) :: (.int (0 : Int32)) :: (.int (0 : Int32)) :: (.int (0 : Int32)) :: (.int (0 : Int32)) :: (.int (0 : Int32)) :: (.int (0 : Int32)) :: (.int (0 : Int32)) :: (.int (0 : Int32)) :: (.int (0 : Int32)) :: (.int (0 : Int32)) :: (.int (0 : Int32)) :: (.int (0 : Int32)) :: (.int (0 : Int32)) :: (.int (0 : Int32)) :: (.int (0 : Int32)) :: (.int (0 : Int32)) :: (.int (0 : Int32)) :: (.int p4) :: (.int p5) :: (.int p6) :: (.int p7) :: (.int p8) :: (.int y8) :: (.int y15) :: (.int y22) :: (.int y29) :: []) (.int (0 : Int32)) := V_b2
  replace E_w0 := E_w0.wr W30
  replace F_w0_bytes := F_w0_bytes.other W30 (Or.inl ne_w0_b2)
  replace F_w0_size := F_w0_size.other W30 (Or.inl ne_w0_b2)
  replace E_w1 := E_w1.wr W30
  replace V_w1 := V_w1.other W30 ne_w1_b2
  replace E_b2 := E_b2.wr W30
  replace K := K.wr W30 (Or.inr sz_b2)
  refine own_iinc (pc' := 41) B X30 (Ls' := #[.val (.ref w0), .val (.long q9), .second, .val (.int (4 : Int32))]) d5_38 rfl rfl (z := (4 : Int32)) (by decide) rfl ?_
  refine own_goto (pc' := 8) B X30 d5_41 (by decide) rfl ?_
  refine own_iloadN (pc' := 9) B X30 d5_8 rfl rfl ?_
  refine own_bipush (pc' := 11) B X30 (z := (8 : Int32)) d5_9 rfl (by decide) ?_
  refine own_icmpNo (pc' := 14) B X30 d5_11 (tlt (by decide : (4 : Int32) < (8 : Int32))).2.1 rfl ?_
  refine own_aloadN (pc' := 15) B X30 d5_14 rfl rfl rfl ?_
  refine own_getfield (pc' := 18) B X30 (host := "") (Or.inl (own_w hw 10 rfl)) Via.refl F_w0_bytes d5_15 rfl ?_
  intro T31 X31
  refine own_aloadN (pc' := 19) B X31 d5_18 rfl rfl rfl ?_
  refine own_dup (pc' := 20) B X31 d5_19 rfl rfl ?_
  refine own_getfield (pc' := 23) B X31 (host := "") (Or.inl (own_w hw 21 rfl)) Via.refl F_w0_size d5_20 rfl ?_
  intro T32 X32
  refine own_dup_x1 (pc' := 24) B X32 d5_23 rfl rfl rfl ?_
  refine own_iconst (pc' := 25) B X32 (z := (1 : Int32)) d5_24 rfl rfl ?_
  refine own_iadd (pc' := 26) B X32 (z := (69 : Int32)) d5_25 rfl (by decide) ?_
  refine own_putfield (pc' := 29) B X32 (host := "") (Or.inl (own_w hw 21 rfl)) Via.refl F_w0_size E_w0 g_w0 (Or.inl (own_w hw 22 rfl)) (own_w hw 2 rfl) (ty := .int) (by decide) rfl rfl d5_26 rfl ?_
  intro T33 h33 X33 W33 F_w0_size
  replace E_w0 := E_w0.wr W33
  replace F_w0_bytes := F_w0_bytes.other W33 (Or.inr (slot_ne (Or.inl (own_w hw 11 rfl)) (Or.inl (own_w hw 22 rfl)) (by decide) (t := (.array .byte)) (t' := .int) (by decide) (by decide)))
  replace E_w1 := E_w1.wr W33
  replace V_w1 := V_w1.other W33 (Ne.symm ne_w0_w1)
  replace E_b2 := E_b2.wr W33
  replace V_b2 := V_b2.other W33 (Ne.symm ne_w0_b2)
  replace K := K.wr W33 (Or.inl (List.mem_of_getElem? (i := 0) rfl))
  refine own_lloadN (pc' := 30) B X33 d5_29 rfl rfl ?_
  refine own_bipush (pc' := 32) B X33 (z := (8 : Int32)) d5_30 rfl (by decide) ?_
  refine own_iloadN (pc' := 33) B X33 d5_32 rfl rfl ?_
  refine own_imul (pc' := 34) B X33 (z := (32 : Int32)) d5_33 rfl (by decide) ?_
  obtain ⟨y34, hy34⟩ : ∃ z : Int64, (q9.toUInt64 >>> ((32 : Int32) &&& 0x3f).toInt64.toUInt64).toInt64 = z := ⟨_, rfl⟩
  refine own_lushr (pc' := 35) B X33 d5_34 rfl hy34 ?_
  obtain ⟨y35, hy35⟩ : ∃ z : Int32, y34.toInt32 = z := ⟨_, rfl⟩
  refine own_l2i (pc' := 36) B X33 d5_35 rfl hy35 ?_
  obtain ⟨y36, hy36⟩ : ∃ z : Int32, y35.toInt8.toInt32 = z := ⟨_, rfl⟩
  refine own_i2b (pc' := 37) B X33 d5_36 rfl hy36 ?_
  replace V_b2 : Arv Z h33 b2 k3 .byte (128 : Int32) ((.int p3) :: (.int (0 : Int32)) :: (.int (0 : Int32)) :: (.int (0 : Int32)) :: (.int (0 : Int32)) :: (.int (0 : Int32)) :: (.int (0 : Int32)) :: (.int (0 : Int32)) :: (.int (0 : Int32)) :: (.int (0 : Int32)) :: (.int (0 : Int32)) :: (.int (0 : Int32)) :: (.int (0 : Int32)) :: (.int (0 : Int32)) :: (.int (0 : Int32)) :: (.int (0 : Int32)) :: (.int (0 : Int32)) :: (.int (0 : Int32)) :: (.int (0 : Int32)) :: (.int (0 : Int32)) :: (.int (0 : Int32)) :: (.int (0 : Int32)) :: (.int (0 : Int32)) :: (.int (0 : Int32)) :: (.int (0 : Int32)) :: (.int (0 : Int32)) :: (.int (0 : Int32)) :: (.int (0 : Int32)) :: (.int (0 : Int32)) :: (.int (0 : Int32)) :: (.int (0 : Int32)) :: (.int (0 : Int32)) :: (.int (0 : Int32)) :: (.int (0 : Int32)) :: (.int (0 : Int32)) :: (.int (0 : Int32)) :: (.int (0 : Int32)) :: (.int (0 : Int32)) :: (.int (0 : Int32)) :: (.int (0 : Int32)) :: (.int (0 : Int32)) :: (.int (0 : Int32)) :: (.int (0 : Int32)) :: (.int (0 : Int32)) :: (.int (0 : Int32)) :: (.int (0 : Int32)) :: (.int (0 : Int32)) :: (.int (0 : Int32)) :: (.int (0 : Int32)) :: (.int (0 : Int32)) :: (.int (0 : Int32)) :: (.int (0 : Int32)) :: (.int (0 : Int32)) :: (.int (0 : Int32)) :: (.int (0 : Int32)) :: (.int (0 : Int32)) :: (.int (0 : Int32)) :: (.int (0 : Int32)) :: (.int (0 : Int32)) :: (.int p4) :: (.int p5) :: (.int p6) :: (.int p7) :: (.int p8) :: (.int y8) :: (.int y15) :: (.int y22) :: (.int y29) :: (.int (0 : Int32)) :: []) (.int (0 : Int32)) := V_b2.pad (pad_rep ((.int p3) :: (.int (0 : Int32)) :: (.int (0 : Int32)) :: (.int (0 : Int32)) :: (.int (0 : Int32)) :: (.int (0 : Int32)) :: (.int (0 : Int32)) :: (.int (0 : Int32)) :: (.int (0 : Int32)) :: (.int (0 : Int32)) :: (.int (0 : Int32)) :: (.int (0 : Int32)) :: (.int (0 : Int32)) :: (.int (0 : Int32)) :: (.int (0 : Int32)) :: (.int (0 : Int32)) :: (.int (0 : Int32)) :: (.int (0 : Int32)) :: (.int (0 : Int32)) :: (.int (0 : Int32)) :: (.int (0 : Int32)) :: (.int (0 : Int32)) :: (.int (0 : Int32)) :: (.int (0 : Int32)) :: (.int (0 : Int32)) :: (.int (0 : Int32)) :: (.int (0 : Int32)) :: (.int (0 : Int32)) :: (.int (0 : Int32)) :: (.int (0 : Int32)) :: (.int (0 : Int32)) :: (.int (0 : Int32)) :: (.int (0 : Int32)) :: (.int (0 : Int32)) :: (.int (0 : Int32)) :: (.int (0 : Int32)) :: (.int (0 : Int32)) :: (.int (0 : Int32)) :: (.int (0 : Int32)) :: (.int (0 : Int32)) :: (.int (0 : Int32)) :: (.int (0 : Int32)) :: (.int (0 : Int32)) :: (.int (0 : Int32)) :: (.int (0 : Int32)) :: (.int (0 : Int32)) :: (.int (0 : Int32)) :: (.int (0 : Int32)) :: (.int (0 : Int32)) :: (.int (0 : Int32)) :: (.int (0 : Int32)) :: (.int (0 : Int32)) :: (.int (0 : Int32)) :: (.int (0 : Int32)) :: (.int (0 : Int32)) :: (.int (0 : Int32)) :: (.int (0 : Int32)) :: (.int (0 : Int32)) :: (.int (0 : Int32)) :: (.int p4) :: (.int p5) :: (.int p6) :: (.int p7) :: (.int p8) :: (.int y8) :: (.int y15) :: (.int y22) :: (.int y29) :: []) (.int (0 : Int32)) 1)
  refine own_bastore (pc' := 38) B X33 (x' := y36) V_b2 g_b2 ⟨by decide, by decide⟩ 68 (by decide) (Nat.le_of_ble_eq_true rfl) (own_idem_i2b hy36) d5_37 rfl ?_
  intro T37 h37 X37 W37 V_b2
  replace V_b2 : Arv Z h37 b2 k3 .byte (128 : Int32) ((.int p3) :: (.int (0 : Int32)) :: (.int (0 : Int32)) :: (.int (0 : Int32)) :: (.int (0 : Int32)) :: (.int (0 : Int32)) :: (.int (0 : Int32)) :: (.int (0 : Int32)) :: (.int (0 : Int32)) :: (.int (0 : Int32)) :: (.int (0 : Int32)) :: (.int (0 : Int32)) :: (.int (0 : Int32)) :: (.int (0 : Int32)) :: (.int (0 : Int32)) :: (.int (0 : Int32)) :: (.int (0 : Int32)) :: (.int (0 : Int32)) :: (.int (0 : Int32)) :: (.int (0 : Int32)) :: (.int (0 : Int32)) :: (.int (0 : Int32)) :: (.int (0 : Int32)) :: (.int (0 : Int32)) :: (.int (0 : Int32)) :: (.int (0 : Int32)) :: (.int (0 : Int32)) :: (.int (0 : Int32)) :: (.int (0 : Int32)) :: (.int (0 : Int32)) :: (.int (0 : Int32)) :: (.int (0 : Int32)) :: (.int (0 : Int32)) :: (.int (0 : Int32)) :: (.int (0 : Int32)) :: (.int (0 : Int32)) :: (.int (0 : Int32)) :: (.int (0 : Int32)) :: (.int (0 : Int32)) :: (.int (0 : Int32)) :: (.int (0 : Int32)) :: (.int (0 : Int32)) :: (.int (0 : Int32)) :: (.int (0 : Int32)) :: (.int (0 : Int32)) :: (.int (0 : Int32)) :: (.int (0 : Int32)) :: (.int (0 : Int32)) :: (.int (0 : Int32)) :: (.int (0 : Int32)) :: (.int (0 : Int32)) :: (.int (0 : Int32)) :: (.int (0 : Int32)) :: (.int (0 : Int32)) :: (.int (0 : Int32)) :: (.int (0 : Int32)) :: (.int (0 : Int32)) :: (.int (0 : Int32)) :: (.int (0 : Int32)) :: (.int p4) :: (.int p5) :: (.int p6) :: (.int p7) :: (.int p8) :: (.int y8) :: (.int y15) :: (.int y22) :: (.int y29) :: (.int y36) :: []) (.int (0 : Int32)) := V_b2
  replace E_w0 := E_w0.wr W37
  replace F_w0_bytes := F_w0_bytes.other W37 (Or.inl ne_w0_b2)
  replace F_w0_size := F_w0_size.other W37 (Or.inl ne_w0_b2)
  replace E_w1 := E_w1.wr W37
  replace V_w1 := V_w1.other W37 ne_w1_b2
  replace E_b2 := E_b2.wr W37
  replace K := K.wr W37 (Or.inr sz_b2)
  refine own_iinc (pc' := 41) B X37 (Ls' := #[.val (.ref w0), .val (.long q9), .second, .val (.int (5 : Int32))]) d5_38 rfl rfl (z := (5 : Int32)) (by decide) rfl ?_
  refine own_goto (pc' := 8) B X37 d5_41 (by decide) rfl ?_
  refine own_iloadN (pc' := 9) B X37 d5_8 rfl rfl ?_
  refine own_bipush (pc' := 11) B X37 (z := (8 : Int32)) d5_9 rfl (by decide) ?_
  refine own_icmpNo (pc' := 14) B X37 d5_11 (tlt (by decide : (5 : Int32) < (8 : Int32))).2.1 rfl ?_
  refine own_aloadN (pc' := 15) B X37 d5_14 rfl rfl rfl ?_
  refine own_getfield (pc' := 18) B X37 (host := "") (Or.inl (own_w hw 10 rfl)) Via.refl F_w0_bytes d5_15 rfl ?_
  intro T38 X38
  refine own_aloadN (pc' := 19) B X38 d5_18 rfl rfl rfl ?_
  refine own_dup (pc' := 20) B X38 d5_19 rfl rfl ?_
  refine own_getfield (pc' := 23) B X38 (host := "") (Or.inl (own_w hw 21 rfl)) Via.refl F_w0_size d5_20 rfl ?_
  intro T39 X39
  refine own_dup_x1 (pc' := 24) B X39 d5_23 rfl rfl rfl ?_
  refine own_iconst (pc' := 25) B X39 (z := (1 : Int32)) d5_24 rfl rfl ?_
  refine own_iadd (pc' := 26) B X39 (z := (70 : Int32)) d5_25 rfl (by decide) ?_
  refine own_putfield (pc' := 29) B X39 (host := "") (Or.inl (own_w hw 21 rfl)) Via.refl F_w0_size E_w0 g_w0 (Or.inl (own_w hw 22 rfl)) (own_w hw 2 rfl) (ty := .int) (by decide) rfl rfl d5_26 rfl ?_
  intro T40 h40 X40 W40 F_w0_size
  replace E_w0 := E_w0.wr W40
  replace F_w0_bytes := F_w0_bytes.other W40 (Or.inr (slot_ne (Or.inl (own_w hw 11 rfl)) (Or.inl (own_w hw 22 rfl)) (by decide) (t := (.array .byte)) (t' := .int) (by decide) (by decide)))
  replace E_w1 := E_w1.wr W40
  replace V_w1 := V_w1.other W40 (Ne.symm ne_w0_w1)
  replace E_b2 := E_b2.wr W40
  replace V_b2 := V_b2.other W40 (Ne.symm ne_w0_b2)
  replace K := K.wr W40 (Or.inl (List.mem_of_getElem? (i := 0) rfl))
  refine own_lloadN (pc' := 30) B X40 d5_29 rfl rfl ?_
  refine own_bipush (pc' := 32) B X40 (z := (8 : Int32)) d5_30 rfl (by decide) ?_
  refine own_iloadN (pc' := 33) B X40 d5_32 rfl rfl ?_
  refine own_imul (pc' := 34) B X40 (z := (40 : Int32)) d5_33 rfl (by decide) ?_
  obtain ⟨y41, hy41⟩ : ∃ z : Int64, (q9.toUInt64 >>> ((40 : Int32) &&& 0x3f).toInt64.toUInt64).toInt64 = z := ⟨_, rfl⟩
  refine own_lushr (pc' := 35) B X40 d5_34 rfl hy41 ?_
  obtain ⟨y42, hy42⟩ : ∃ z : Int32, y41.toInt32 = z := ⟨_, rfl⟩
  refine own_l2i (pc' := 36) B X40 d5_35 rfl hy42 ?_
  obtain ⟨y43, hy43⟩ : ∃ z : Int32, y42.toInt8.toInt32 = z := ⟨_, rfl⟩
  refine own_i2b (pc' := 37) B X40 d5_36 rfl hy43 ?_
  replace V_b2 : Arv Z h40 b2 k3 .byte (128 : Int32) ((.int p3) :: (.int (0 : Int32)) :: (.int (0 : Int32)) :: (.int (0 : Int32)) :: (.int (0 : Int32)) :: (.int (0 : Int32)) :: (.int (0 : Int32)) :: (.int (0 : Int32)) :: (.int (0 : Int32)) :: (.int (0 : Int32)) :: (.int (0 : Int32)) :: (.int (0 : Int32)) :: (.int (0 : Int32)) :: (.int (0 : Int32)) :: (.int (0 : Int32)) :: (.int (0 : Int32)) :: (.int (0 : Int32)) :: (.int (0 : Int32)) :: (.int (0 : Int32)) :: (.int (0 : Int32)) :: (.int (0 : Int32)) :: (.int (0 : Int32)) :: (.int (0 : Int32)) :: (.int (0 : Int32)) :: (.int (0 : Int32)) :: (.int (0 : Int32)) :: (.int (0 : Int32)) :: (.int (0 : Int32)) :: (.int (0 : Int32)) :: (.int (0 : Int32)) :: (.int (0 : Int32)) :: (.int (0 : Int32)) :: (.int (0 : Int32)) :: (.int (0 : Int32)) :: (.int (0 : Int32)) :: (.int (0 : Int32)) :: (.int (0 : Int32)) :: (.int (0 : Int32)) :: (.int (0 : Int32)) :: (.int (0 : Int32)) :: (.int (0 : Int32)) :: (.int (0 : Int32)) :: (.int (0 : Int32)) :: (.int (0 : Int32)) :: (.int (0 : Int32)) :: (.int (0 : Int32)) :: (.int (0 : Int32)) :: (.int (0 : Int32)) :: (.int (0 : Int32)) :: (.int (0 : Int32)) :: (.int (0 : Int32)) :: (.int (0 : Int32)) :: (.int (0 : Int32)) :: (.int (0 : Int32)) :: (.int (0 : Int32)) :: (.int (0 : Int32)) :: (.int (0 : Int32)) :: (.int (0 : Int32)) :: (.int (0 : Int32)) :: (.int p4) :: (.int p5) :: (.int p6) :: (.int p7) :: (.int p8) :: (.int y8) :: (.int y15) :: (.int y22) :: (.int y29) :: (.int y36) :: (.int (0 : Int32)) :: []) (.int (0 : Int32)) := V_b2.pad (pad_rep ((.int p3) :: (.int (0 : Int32)) :: (.int (0 : Int32)) :: (.int (0 : Int32)) :: (.int (0 : Int32)) :: (.int (0 : Int32)) :: (.int (0 : Int32)) :: (.int (0 : Int32)) :: (.int (0 : Int32)) :: (.int (0 : Int32)) :: (.int (0 : Int32)) :: (.int (0 : Int32)) :: (.int (0 : Int32)) :: (.int (0 : Int32)) :: (.int (0 : Int32)) :: (.int (0 : Int32)) :: (.int (0 : Int32)) :: (.int (0 : Int32)) :: (.int (0 : Int32)) :: (.int (0 : Int32)) :: (.int (0 : Int32)) :: (.int (0 : Int32)) :: (.int (0 : Int32)) :: (.int (0 : Int32)) :: (.int (0 : Int32)) :: (.int (0 : Int32)) :: (.int (0 : Int32)) :: (.int (0 : Int32)) :: (.int (0 : Int32)) :: (.int (0 : Int32)) :: (.int (0 : Int32)) :: (.int (0 : Int32)) :: (.int (0 : Int32)) :: (.int (0 : Int32)) :: (.int (0 : Int32)) :: (.int (0 : Int32)) :: (.int (0 : Int32)) :: (.int (0 : Int32)) :: (.int (0 : Int32)) :: (.int (0 : Int32)) :: (.int (0 : Int32)) :: (.int (0 : Int32)) :: (.int (0 : Int32)) :: (.int (0 : Int32)) :: (.int (0 : Int32)) :: (.int (0 : Int32)) :: (.int (0 : Int32)) :: (.int (0 : Int32)) :: (.int (0 : Int32)) :: (.int (0 : Int32)) :: (.int (0 : Int32)) :: (.int (0 : Int32)) :: (.int (0 : Int32)) :: (.int (0 : Int32)) :: (.int (0 : Int32)) :: (.int (0 : Int32)) :: (.int (0 : Int32)) :: (.int (0 : Int32)) :: (.int (0 : Int32)) :: (.int p4) :: (.int p5) :: (.int p6) :: (.int p7) :: (.int p8) :: (.int y8) :: (.int y15) :: (.int y22) :: (.int y29) :: (.int y36) :: []) (.int (0 : Int32)) 1)
  refine own_bastore (pc' := 38) B X40 (x' := y43) V_b2 g_b2 ⟨by decide, by decide⟩ 69 (by decide) (Nat.le_of_ble_eq_true rfl) (own_idem_i2b hy43) d5_37 rfl ?_
  intro T44 h44 X44 W44 V_b2
  replace V_b2 : Arv Z h44 b2 k3 .byte (128 : Int32) ((.int p3) :: (.int (0 : Int32)) :: (.int (0 : Int32)) :: (.int (0 : Int32)) :: (.int (0 : Int32)) :: (.int (0 : Int32)) :: (.int (0 : Int32)) :: (.int (0 : Int32)) :: (.int (0 : Int32)) :: (.int (0 : Int32)) :: (.int (0 : Int32)) :: (.int (0 : Int32)) :: (.int (0 : Int32)) :: (.int (0 : Int32)) :: (.int (0 : Int32)) :: (.int (0 : Int32)) :: (.int (0 : Int32)) :: (.int (0 : Int32)) :: (.int (0 : Int32)) :: (.int (0 : Int32)) :: (.int (0 : Int32)) :: (.int (0 : Int32)) :: (.int (0 : Int32)) :: (.int (0 : Int32)) :: (.int (0 : Int32)) :: (.int (0 : Int32)) :: (.int (0 : Int32)) :: (.int (0 : Int32)) :: (.int (0 : Int32)) :: (.int (0 : Int32)) :: (.int (0 : Int32)) :: (.int (0 : Int32)) :: (.int (0 : Int32)) :: (.int (0 : Int32)) :: (.int (0 : Int32)) :: (.int (0 : Int32)) :: (.int (0 : Int32)) :: (.int (0 : Int32)) :: (.int (0 : Int32)) :: (.int (0 : Int32)) :: (.int (0 : Int32)) :: (.int (0 : Int32)) :: (.int (0 : Int32)) :: (.int (0 : Int32)) :: (.int (0 : Int32)) :: (.int (0 : Int32)) :: (.int (0 : Int32)) :: (.int (0 : Int32)) :: (.int (0 : Int32)) :: (.int (0 : Int32)) :: (.int (0 : Int32)) :: (.int (0 : Int32)) :: (.int (0 : Int32)) :: (.int (0 : Int32)) :: (.int (0 : Int32)) :: (.int (0 : Int32)) :: (.int (0 : Int32)) :: (.int (0 : Int32)) :: (.int (0 : Int32)) :: (.int p4) :: (.int p5) :: (.int p6) :: (.int p7) :: (.int p8) :: (.int y8) :: (.int y15) :: (.int y22) :: (.int y29) :: (.int y36) :: (.int y43) :: []) (.int (0 : Int32)) := V_b2
  replace E_w0 := E_w0.wr W44
  replace F_w0_bytes := F_w0_bytes.other W44 (Or.inl ne_w0_b2)
  replace F_w0_size := F_w0_size.other W44 (Or.inl ne_w0_b2)
  replace E_w1 := E_w1.wr W44
  replace V_w1 := V_w1.other W44 ne_w1_b2
  replace E_b2 := E_b2.wr W44
  replace K := K.wr W44 (Or.inr sz_b2)
  refine own_iinc (pc' := 41) B X44 (Ls' := #[.val (.ref w0), .val (.long q9), .second, .val (.int (6 : Int32))]) d5_38 rfl rfl (z := (6 : Int32)) (by decide) rfl ?_
  refine own_goto (pc' := 8) B X44 d5_41 (by decide) rfl ?_
  refine own_iloadN (pc' := 9) B X44 d5_8 rfl rfl ?_
  refine own_bipush (pc' := 11) B X44 (z := (8 : Int32)) d5_9 rfl (by decide) ?_
  refine own_icmpNo (pc' := 14) B X44 d5_11 (tlt (by decide : (6 : Int32) < (8 : Int32))).2.1 rfl ?_
  refine own_aloadN (pc' := 15) B X44 d5_14 rfl rfl rfl ?_
  refine own_getfield (pc' := 18) B X44 (host := "") (Or.inl (own_w hw 10 rfl)) Via.refl F_w0_bytes d5_15 rfl ?_
  intro T45 X45
  refine own_aloadN (pc' := 19) B X45 d5_18 rfl rfl rfl ?_
  refine own_dup (pc' := 20) B X45 d5_19 rfl rfl ?_
  refine own_getfield (pc' := 23) B X45 (host := "") (Or.inl (own_w hw 21 rfl)) Via.refl F_w0_size d5_20 rfl ?_
  intro T46 X46
  refine own_dup_x1 (pc' := 24) B X46 d5_23 rfl rfl rfl ?_
  refine own_iconst (pc' := 25) B X46 (z := (1 : Int32)) d5_24 rfl rfl ?_
  refine own_iadd (pc' := 26) B X46 (z := (71 : Int32)) d5_25 rfl (by decide) ?_
  refine own_putfield (pc' := 29) B X46 (host := "") (Or.inl (own_w hw 21 rfl)) Via.refl F_w0_size E_w0 g_w0 (Or.inl (own_w hw 22 rfl)) (own_w hw 2 rfl) (ty := .int) (by decide) rfl rfl d5_26 rfl ?_
  intro T47 h47 X47 W47 F_w0_size
  replace E_w0 := E_w0.wr W47
  replace F_w0_bytes := F_w0_bytes.other W47 (Or.inr (slot_ne (Or.inl (own_w hw 11 rfl)) (Or.inl (own_w hw 22 rfl)) (by decide) (t := (.array .byte)) (t' := .int) (by decide) (by decide)))
  replace E_w1 := E_w1.wr W47
  replace V_w1 := V_w1.other W47 (Ne.symm ne_w0_w1)
  replace E_b2 := E_b2.wr W47
  replace V_b2 := V_b2.other W47 (Ne.symm ne_w0_b2)
  replace K := K.wr W47 (Or.inl (List.mem_of_getElem? (i := 0) rfl))
  refine own_lloadN (pc' := 30) B X47 d5_29 rfl rfl ?_
  refine own_bipush (pc' := 32) B X47 (z := (8 : Int32)) d5_30 rfl (by decide) ?_
  refine own_iloadN (pc' := 33) B X47 d5_32 rfl rfl ?_
  refine own_imul (pc' := 34) B X47 (z := (48 : Int32)) d5_33 rfl (by decide) ?_
  obtain ⟨y48, hy48⟩ : ∃ z : Int64, (q9.toUInt64 >>> ((48 : Int32) &&& 0x3f).toInt64.toUInt64).toInt64 = z := ⟨_, rfl⟩
  refine own_lushr (pc' := 35) B X47 d5_34 rfl hy48 ?_
  obtain ⟨y49, hy49⟩ : ∃ z : Int32, y48.toInt32 = z := ⟨_, rfl⟩
  refine own_l2i (pc' := 36) B X47 d5_35 rfl hy49 ?_
  obtain ⟨y50, hy50⟩ : ∃ z : Int32, y49.toInt8.toInt32 = z := ⟨_, rfl⟩
  refine own_i2b (pc' := 37) B X47 d5_36 rfl hy50 ?_
  replace V_b2 : Arv Z h47 b2 k3 .byte (128 : Int32) ((.int p3) :: (.int (0 : Int32)) :: (.int (0 : Int32)) :: (.int (0 : Int32)) :: (.int (0 : Int32)) :: (.int (0 : Int32)) :: (.int (0 : Int32)) :: (.int (0 : Int32)) :: (.int (0 : Int32)) :: (.int (0 : Int32)) :: (.int (0 : Int32)) :: (.int (0 : Int32)) :: (.int (0 : Int32)) :: (.int (0 : Int32)) :: (.int (0 : Int32)) :: (.int (0 : Int32)) :: (.int (0 : Int32)) :: (.int (0 : Int32)) :: (.int (0 : Int32)) :: (.int (0 : Int32)) :: (.int (0 : Int32)) :: (.int (0 : Int32)) :: (.int (0 : Int32)) :: (.int (0 : Int32)) :: (.int (0 : Int32)) :: (.int (0 : Int32)) :: (.int (0 : Int32)) :: (.int (0 : Int32)) :: (.int (0 : Int32)) :: (.int (0 : Int32)) :: (.int (0 : Int32)) :: (.int (0 : Int32)) :: (.int (0 : Int32)) :: (.int (0 : Int32)) :: (.int (0 : Int32)) :: (.int (0 : Int32)) :: (.int (0 : Int32)) :: (.int (0 : Int32)) :: (.int (0 : Int32)) :: (.int (0 : Int32)) :: (.int (0 : Int32)) :: (.int (0 : Int32)) :: (.int (0 : Int32)) :: (.int (0 : Int32)) :: (.int (0 : Int32)) :: (.int (0 : Int32)) :: (.int (0 : Int32)) :: (.int (0 : Int32)) :: (.int (0 : Int32)) :: (.int (0 : Int32)) :: (.int (0 : Int32)) :: (.int (0 : Int32)) :: (.int (0 : Int32)) :: (.int (0 : Int32)) :: (.int (0 : Int32)) :: (.int (0 : Int32)) :: (.int (0 : Int32)) :: (.int (0 : Int32)) :: (.int (0 : Int32)) :: (.int p4) :: (.int p5) :: (.int p6) :: (.int p7) :: (.int p8) :: (.int y8) :: (.int y15) :: (.int y22) :: (.int y29) :: (.int y36) :: (.int y43) :: (.int (0 : Int32)) :: []) (.int (0 : Int32)) := V_b2.pad (pad_rep ((.int p3) :: (.int (0 : Int32)) :: (.int (0 : Int32)) :: (.int (0 : Int32)) :: (.int (0 : Int32)) :: (.int (0 : Int32)) :: (.int (0 : Int32)) :: (.int (0 : Int32)) :: (.int (0 : Int32)) :: (.int (0 : Int32)) :: (.int (0 : Int32)) :: (.int (0 : Int32)) :: (.int (0 : Int32)) :: (.int (0 : Int32)) :: (.int (0 : Int32)) :: (.int (0 : Int32)) :: (.int (0 : Int32)) :: (.int (0 : Int32)) :: (.int (0 : Int32)) :: (.int (0 : Int32)) :: (.int (0 : Int32)) :: (.int (0 : Int32)) :: (.int (0 : Int32)) :: (.int (0 : Int32)) :: (.int (0 : Int32)) :: (.int (0 : Int32)) :: (.int (0 : Int32)) :: (.int (0 : Int32)) :: (.int (0 : Int32)) :: (.int (0 : Int32)) :: (.int (0 : Int32)) :: (.int (0 : Int32)) :: (.int (0 : Int32)) :: (.int (0 : Int32)) :: (.int (0 : Int32)) :: (.int (0 : Int32)) :: (.int (0 : Int32)) :: (.int (0 : Int32)) :: (.int (0 : Int32)) :: (.int (0 : Int32)) :: (.int (0 : Int32)) :: (.int (0 : Int32)) :: (.int (0 : Int32)) :: (.int (0 : Int32)) :: (.int (0 : Int32)) :: (.int (0 : Int32)) :: (.int (0 : Int32)) :: (.int (0 : Int32)) :: (.int (0 : Int32)) :: (.int (0 : Int32)) :: (.int (0 : Int32)) :: (.int (0 : Int32)) :: (.int (0 : Int32)) :: (.int (0 : Int32)) :: (.int (0 : Int32)) :: (.int (0 : Int32)) :: (.int (0 : Int32)) :: (.int (0 : Int32)) :: (.int (0 : Int32)) :: (.int p4) :: (.int p5) :: (.int p6) :: (.int p7) :: (.int p8) :: (.int y8) :: (.int y15) :: (.int y22) :: (.int y29) :: (.int y36) :: (.int y43) :: []) (.int (0 : Int32)) 1)
  refine own_bastore (pc' := 38) B X47 (x' := y50) V_b2 g_b2 ⟨by decide, by decide⟩ 70 (by decide) (Nat.le_of_ble_eq_true rfl) (own_idem_i2b hy50) d5_37 rfl ?_
  intro T51 h51 X51 W51 V_b2
  replace V_b2 : Arv Z h51 b2 k3 .byte (128 : Int32) ((.int p3) :: (.int (0 : Int32)) :: (.int (0 : Int32)) :: (.int (0 : Int32)) :: (.int (0 : Int32)) :: (.int (0 : Int32)) :: (.int (0 : Int32)) :: (.int (0 : Int32)) :: (.int (0 : Int32)) :: (.int (0 : Int32)) :: (.int (0 : Int32)) :: (.int (0 : Int32)) :: (.int (0 : Int32)) :: (.int (0 : Int32)) :: (.int (0 : Int32)) :: (.int (0 : Int32)) :: (.int (0 : Int32)) :: (.int (0 : Int32)) :: (.int (0 : Int32)) :: (.int (0 : Int32)) :: (.int (0 : Int32)) :: (.int (0 : Int32)) :: (.int (0 : Int32)) :: (.int (0 : Int32)) :: (.int (0 : Int32)) :: (.int (0 : Int32)) :: (.int (0 : Int32)) :: (.int (0 : Int32)) :: (.int (0 : Int32)) :: (.int (0 : Int32)) :: (.int (0 : Int32)) :: (.int (0 : Int32)) :: (.int (0 : Int32)) :: (.int (0 : Int32)) :: (.int (0 : Int32)) :: (.int (0 : Int32)) :: (.int (0 : Int32)) :: (.int (0 : Int32)) :: (.int (0 : Int32)) :: (.int (0 : Int32)) :: (.int (0 : Int32)) :: (.int (0 : Int32)) :: (.int (0 : Int32)) :: (.int (0 : Int32)) :: (.int (0 : Int32)) :: (.int (0 : Int32)) :: (.int (0 : Int32)) :: (.int (0 : Int32)) :: (.int (0 : Int32)) :: (.int (0 : Int32)) :: (.int (0 : Int32)) :: (.int (0 : Int32)) :: (.int (0 : Int32)) :: (.int (0 : Int32)) :: (.int (0 : Int32)) :: (.int (0 : Int32)) :: (.int (0 : Int32)) :: (.int (0 : Int32)) :: (.int (0 : Int32)) :: (.int p4) :: (.int p5) :: (.int p6) :: (.int p7) :: (.int p8) :: (.int y8) :: (.int y15) :: (.int y22) :: (.int y29) :: (.int y36) :: (.int y43) :: (.int y50) :: []) (.int (0 : Int32)) := V_b2
  replace E_w0 := E_w0.wr W51
  replace F_w0_bytes := F_w0_bytes.other W51 (Or.inl ne_w0_b2)
  replace F_w0_size := F_w0_size.other W51 (Or.inl ne_w0_b2)
  replace E_w1 := E_w1.wr W51
  replace V_w1 := V_w1.other W51 ne_w1_b2
  replace E_b2 := E_b2.wr W51
  replace K := K.wr W51 (Or.inr sz_b2)
  refine own_iinc (pc' := 41) B X51 (Ls' := #[.val (.ref w0), .val (.long q9), .second, .val (.int (7 : Int32))]) d5_38 rfl rfl (z := (7 : Int32)) (by decide) rfl ?_
  refine own_goto (pc' := 8) B X51 d5_41 (by decide) rfl ?_
  refine own_iloadN (pc' := 9) B X51 d5_8 rfl rfl ?_
  refine own_bipush (pc' := 11) B X51 (z := (8 : Int32)) d5_9 rfl (by decide) ?_
  refine own_icmpNo (pc' := 14) B X51 d5_11 (tlt (by decide : (7 : Int32) < (8 : Int32))).2.1 rfl ?_
  refine own_aloadN (pc' := 15) B X51 d5_14 rfl rfl rfl ?_
  refine own_getfield (pc' := 18) B X51 (host := "") (Or.inl (own_w hw 10 rfl)) Via.refl F_w0_bytes d5_15 rfl ?_
  intro T52 X52
  refine own_aloadN (pc' := 19) B X52 d5_18 rfl rfl rfl ?_
  refine own_dup (pc' := 20) B X52 d5_19 rfl rfl ?_
  refine own_getfield (pc' := 23) B X52 (host := "") (Or.inl (own_w hw 21 rfl)) Via.refl F_w0_size d5_20 rfl ?_
  intro T53 X53
  refine own_dup_x1 (pc' := 24) B X53 d5_23 rfl rfl rfl ?_
  refine own_iconst (pc' := 25) B X53 (z := (1 : Int32)) d5_24 rfl rfl ?_
  refine own_iadd (pc' := 26) B X53 (z := (72 : Int32)) d5_25 rfl (by decide) ?_
  refine own_putfield (pc' := 29) B X53 (host := "") (Or.inl (own_w hw 21 rfl)) Via.refl F_w0_size E_w0 g_w0 (Or.inl (own_w hw 22 rfl)) (own_w hw 2 rfl) (ty := .int) (by decide) rfl rfl d5_26 rfl ?_
  intro T54 h54 X54 W54 F_w0_size
  replace E_w0 := E_w0.wr W54
  replace F_w0_bytes := F_w0_bytes.other W54 (Or.inr (slot_ne (Or.inl (own_w hw 11 rfl)) (Or.inl (own_w hw 22 rfl)) (by decide) (t := (.array .byte)) (t' := .int) (by decide) (by decide)))
  replace E_w1 := E_w1.wr W54
  replace V_w1 := V_w1.other W54 (Ne.symm ne_w0_w1)
  replace E_b2 := E_b2.wr W54
  replace V_b2 := V_b2.other W54 (Ne.symm ne_w0_b2)
  replace K := K.wr W54 (Or.inl (List.mem_of_getElem? (i := 0) rfl))
  refine own_lloadN (pc' := 30) B X54 d5_29 rfl rfl ?_
  refine own_bipush (pc' := 32) B X54 (z := (8 : Int32)) d5_30 rfl (by decide) ?_
  refine own_iloadN (pc' := 33) B X54 d5_32 rfl rfl ?_
  refine own_imul (pc' := 34) B X54 (z := (56 : Int32)) d5_33 rfl (by decide) ?_
  obtain ⟨y55, hy55⟩ : ∃ z : Int64, (q9.toUInt64 >>> ((56 : Int32) &&& 0x3f).toInt64.toUInt64).toInt64 = z := ⟨_, rfl⟩
  refine own_lushr (pc' := 35) B X54 d5_34 rfl hy55 ?_
  obtain ⟨y56, hy56⟩ : ∃ z : Int32, y55.toInt32 = z := ⟨_, rfl⟩
  refine own_l2i (pc' := 36) B X54 d5_35 rfl hy56 ?_
  obtain ⟨y57, hy57⟩ : ∃ z : Int32, y56.toInt8.toInt32 = z := ⟨_, rfl⟩
  refine own_i2b (pc' := 37) B X54 d5_36 rfl hy57 ?_
  replace V_b2 : Arv Z h54 b2 k3 .byte (128 : Int32) ((.int p3) :: (.int (0 : Int32)) :: (.int (0 : Int32)) :: (.int (0 : Int32)) :: (.int (0 : Int32)) :: (.int (0 : Int32)) :: (.int (0 : Int32)) :: (.int (0 : Int32)) :: (.int (0 : Int32)) :: (.int (0 : Int32)) :: (.int (0 : Int32)) :: (.int (0 : Int32)) :: (.int (0 : Int32)) :: (.int (0 : Int32)) :: (.int (0 : Int32)) :: (.int (0 : Int32)) :: (.int (0 : Int32)) :: (.int (0 : Int32)) :: (.int (0 : Int32)) :: (.int (0 : Int32)) :: (.int (0 : Int32)) :: (.int (0 : Int32)) :: (.int (0 : Int32)) :: (.int (0 : Int32)) :: (.int (0 : Int32)) :: (.int (0 : Int32)) :: (.int (0 : Int32)) :: (.int (0 : Int32)) :: (.int (0 : Int32)) :: (.int (0 : Int32)) :: (.int (0 : Int32)) :: (.int (0 : Int32)) :: (.int (0 : Int32)) :: (.int (0 : Int32)) :: (.int (0 : Int32)) :: (.int (0 : Int32)) :: (.int (0 : Int32)) :: (.int (0 : Int32)) :: (.int (0 : Int32)) :: (.int (0 : Int32)) :: (.int (0 : Int32)) :: (.int (0 : Int32)) :: (.int (0 : Int32)) :: (.int (0 : Int32)) :: (.int (0 : Int32)) :: (.int (0 : Int32)) :: (.int (0 : Int32)) :: (.int (0 : Int32)) :: (.int (0 : Int32)) :: (.int (0 : Int32)) :: (.int (0 : Int32)) :: (.int (0 : Int32)) :: (.int (0 : Int32)) :: (.int (0 : Int32)) :: (.int (0 : Int32)) :: (.int (0 : Int32)) :: (.int (0 : Int32)) :: (.int (0 : Int32)) :: (.int (0 : Int32)) :: (.int p4) :: (.int p5) :: (.int p6) :: (.int p7) :: (.int p8) :: (.int y8) :: (.int y15) :: (.int y22) :: (.int y29) :: (.int y36) :: (.int y43) :: (.int y50) :: (.int (0 : Int32)) :: []) (.int (0 : Int32)) := V_b2.pad (pad_rep ((.int p3) :: (.int (0 : Int32)) :: (.int (0 : Int32)) :: (.int (0 : Int32)) :: (.int (0 : Int32)) :: (.int (0 : Int32)) :: (.int (0 : Int32)) :: (.int (0 : Int32)) :: (.int (0 : Int32)) :: (.int (0 : Int32)) :: (.int (0 : Int32)) :: (.int (0 : Int32)) :: (.int (0 : Int32)) :: (.int (0 : Int32)) :: (.int (0 : Int32)) :: (.int (0 : Int32)) :: (.int (0 : Int32)) :: (.int (0 : Int32)) :: (.int (0 : Int32)) :: (.int (0 : Int32)) :: (.int (0 : Int32)) :: (.int (0 : Int32)) :: (.int (0 : Int32)) :: (.int (0 : Int32)) :: (.int (0 : Int32)) :: (.int (0 : Int32)) :: (.int (0 : Int32)) :: (.int (0 : Int32)) :: (.int (0 : Int32)) :: (.int (0 : Int32)) :: (.int (0 : Int32)) :: (.int (0 : Int32)) :: (.int (0 : Int32)) :: (.int (0 : Int32)) :: (.int (0 : Int32)) :: (.int (0 : Int32)) :: (.int (0 : Int32)) :: (.int (0 : Int32)) :: (.int (0 : Int32)) :: (.int (0 : Int32)) :: (.int (0 : Int32)) :: (.int (0 : Int32)) :: (.int (0 : Int32)) :: (.int (0 : Int32)) :: (.int (0 : Int32)) :: (.int (0 : Int32)) :: (.int (0 : Int32)) :: (.int (0 : Int32)) :: (.int (0 : Int32)) :: (.int (0 : Int32)) :: (.int (0 : Int32)) :: (.int (0 : Int32)) :: (.int (0 : Int32)) :: (.int (0 : Int32)) :: (.int (0 : Int32)) :: (.int (0 : Int32)) :: (.int (0 : Int32)) :: (.int (0 : Int32)) :: (.int (0 : Int32)) :: (.int p4) :: (.int p5) :: (.int p6) :: (.int p7) :: (.int p8) :: (.int y8) :: (.int y15) :: (.int y22) :: (.int y29) :: (.int y36) :: (.int y43) :: (.int y50) :: []) (.int (0 : Int32)) 1)
  refine own_bastore (pc' := 38) B X54 (x' := y57) V_b2 g_b2 ⟨by decide, by decide⟩ 71 (by decide) (Nat.le_of_ble_eq_true rfl) (own_idem_i2b hy57) d5_37 rfl ?_
  intro T58 h58 X58 W58 V_b2
  replace V_b2 : Arv Z h58 b2 k3 .byte (128 : Int32) ((.int p3) :: (.int (0 : Int32)) :: (.int (0 : Int32)) :: (.int (0 : Int32)) :: (.int (0 : Int32)) :: (.int (0 : Int32)) :: (.int (0 : Int32)) :: (.int (0 : Int32)) :: (.int (0 : Int32)) :: (.int (0 : Int32)) :: (.int (0 : Int32)) :: (.int (0 : Int32)) :: (.int (0 : Int32)) :: (.int (0 : Int32)) :: (.int (0 : Int32)) :: (.int (0 : Int32)) :: (.int (0 : Int32)) :: (.int (0 : Int32)) :: (.int (0 : Int32)) :: (.int (0 : Int32)) :: (.int (0 : Int32)) :: (.int (0 : Int32)) :: (.int (0 : Int32)) :: (.int (0 : Int32)) :: (.int (0 : Int32)) :: (.int (0 : Int32)) :: (.int (0 : Int32)) :: (.int (0 : Int32)) :: (.int (0 : Int32)) :: (.int (0 : Int32)) :: (.int (0 : Int32)) :: (.int (0 : Int32)) :: (.int (0 : Int32)) :: (.int (0 : Int32)) :: (.int (0 : Int32)) :: (.int (0 : Int32)) :: (.int (0 : Int32)) :: (.int (0 : Int32)) :: (.int (0 : Int32)) :: (.int (0 : Int32)) :: (.int (0 : Int32)) :: (.int (0 : Int32)) :: (.int (0 : Int32)) :: (.int (0 : Int32)) :: (.int (0 : Int32)) :: (.int (0 : Int32)) :: (.int (0 : Int32)) :: (.int (0 : Int32)) :: (.int (0 : Int32)) :: (.int (0 : Int32)) :: (.int (0 : Int32)) :: (.int (0 : Int32)) :: (.int (0 : Int32)) :: (.int (0 : Int32)) :: (.int (0 : Int32)) :: (.int (0 : Int32)) :: (.int (0 : Int32)) :: (.int (0 : Int32)) :: (.int (0 : Int32)) :: (.int p4) :: (.int p5) :: (.int p6) :: (.int p7) :: (.int p8) :: (.int y8) :: (.int y15) :: (.int y22) :: (.int y29) :: (.int y36) :: (.int y43) :: (.int y50) :: (.int y57) :: []) (.int (0 : Int32)) := V_b2
  replace E_w0 := E_w0.wr W58
  replace F_w0_bytes := F_w0_bytes.other W58 (Or.inl ne_w0_b2)
  replace F_w0_size := F_w0_size.other W58 (Or.inl ne_w0_b2)
  replace E_w1 := E_w1.wr W58
  replace V_w1 := V_w1.other W58 ne_w1_b2
  replace E_b2 := E_b2.wr W58
  replace K := K.wr W58 (Or.inr sz_b2)
  refine own_iinc (pc' := 41) B X58 (Ls' := #[.val (.ref w0), .val (.long q9), .second, .val (.int (8 : Int32))]) d5_38 rfl rfl (z := (8 : Int32)) (by decide) rfl ?_
  refine own_goto (pc' := 8) B X58 d5_41 (by decide) rfl ?_
  refine own_iloadN (pc' := 9) B X58 d5_8 rfl rfl ?_
  refine own_bipush (pc' := 11) B X58 (z := (8 : Int32)) d5_9 rfl (by decide) ?_
  refine own_icmpYes (pc' := 44) B X58 d5_11 (flt (by decide : ¬ ((8 : Int32) < (8 : Int32)))).2.1 (by decide) rfl ?_
  exact own_ret B X58 d5_44 (by decide) (by decide) (⟨y7, y8, y13, y14, y15, y20, y21, y22, y27, y28, y29, y34, y35, y36, y41, y42, y43, y48, y49, y50, y55, y56, y57, b2, k3, hy7, hy8, hy13, hy14, hy15, hy20, hy21, hy22, hy27, hy28, hy29, hy34, hy35, hy36, hy41, hy42, hy43, hy48, hy49, hy50, hy55, hy56, hy57, rfl, K, sz_b2, E_w0, F_w0_bytes, F_w0_size, E_b2, V_b2⟩)
def Q_34 (Z : State) (w0 : Addr) (w1 : Addr) (kw1 : ClassId) (p3 : Int32) (p4 : Int32) (p5 : Int32) (p6 : Int32) (p7 : Int32) (p8 : Int32) (p9 : Int32) (p10 : Int32) (p11 : Int32) (p12 : Int32) (p13 : Int32) (p14 : Int32) (p15 : Int32) (h0 : Heap) (n0 : Nat) (v : Option Value) (h : Heap) : Prop :=
  (v = none ∧ h0 = h)
set_option maxRecDepth 65536 in
set_option maxHeartbeats 40000000 in
theorem rm_34 (l : Launch) (Z : State) (a0 : Array Value) (hw : ∀ d ∈ tables_1, d.before a0 Z = true) (ws : List Jvm.Cond) (w0 : Addr) (w1 : Addr) (kw1 : ClassId) (p3 : Int32) (p4 : Int32) (p5 : Int32) (p6 : Int32) (p7 : Int32) (p8 : Int32) (p9 : Int32) (p10 : Int32) (p11 : Int32) (p12 : Int32) (p13 : Int32) (p14 : Int32) (p15 : Int32) (h0 : Heap) (n0 : Nat) (Z0 : n0 ≤ h0.size) (E_w0 : Exa Z h0 w0 "com/example/siltstone/siltstone/format/ByteSink") (F_w0_bytes : Fld Z h0 w0 "com/example/siltstone/siltstone/format/ByteSink" "bytes" "[B" (.ref w1)) (F_w0_size : Fld Z h0 w0 "com/example/siltstone/siltstone/format/ByteSink" "size" "I" (.int (72 : Int32))) (g_w0 : n0 ≤ w0) (E_w1 : Exa Z h0 w1 "[B") (V_w1 : Arv Z h0 w1 kw1 .byte (128 : Int32) ((.int p3) :: (.int (0 : Int32)) :: (.int (0 : Int32)) :: (.int (0 : Int32)) :: (.int (0 : Int32)) :: (.int (0 : Int32)) :: (.int (0 : Int32)) :: (.int (0 : Int32)) :: (.int (0 : Int32)) :: (.int (0 : Int32)) :: (.int (0 : Int32)) :: (.int (0 : Int32)) :: (.int (0 : Int32)) :: (.int (0 : Int32)) :: (.int (0 : Int32)) :: (.int (0 : Int32)) :: (.int (0 : Int32)) :: (.int (0 : Int32)) :: (.int (0 : Int32)) :: (.int (0 : Int32)) :: (.int (0 : Int32)) :: (.int (0 : Int32)) :: (.int (0 : Int32)) :: (.int (0 : Int32)) :: (.int (0 : Int32)) :: (.int (0 : Int32)) :: (.int (0 : Int32)) :: (.int (0 : Int32)) :: (.int (0 : Int32)) :: (.int (0 : Int32)) :: (.int (0 : Int32)) :: (.int (0 : Int32)) :: (.int (0 : Int32)) :: (.int (0 : Int32)) :: (.int (0 : Int32)) :: (.int (0 : Int32)) :: (.int (0 : Int32)) :: (.int (0 : Int32)) :: (.int (0 : Int32)) :: (.int (0 : Int32)) :: (.int (0 : Int32)) :: (.int (0 : Int32)) :: (.int (0 : Int32)) :: (.int (0 : Int32)) :: (.int (0 : Int32)) :: (.int (0 : Int32)) :: (.int (0 : Int32)) :: (.int (0 : Int32)) :: (.int (0 : Int32)) :: (.int (0 : Int32)) :: (.int (0 : Int32)) :: (.int (0 : Int32)) :: (.int (0 : Int32)) :: (.int (0 : Int32)) :: (.int (0 : Int32)) :: (.int (0 : Int32)) :: (.int (0 : Int32)) :: (.int (0 : Int32)) :: (.int (0 : Int32)) :: (.int p4) :: (.int p5) :: (.int p6) :: (.int p7) :: (.int p8) :: (.int p3) :: (.int p9) :: (.int p10) :: (.int p11) :: (.int p12) :: (.int p13) :: (.int p14) :: (.int p15) :: []) (.int (0 : Int32))) (g_w1 : n0 ≤ w1) (ne_w0_w1 : w0 ≠ w1) :
    MetFree l (⟨"com/example/siltstone/siltstone/format/ByteSink", "ensure", "(I)V"⟩ : MethodName) (head1 (Jvm.Cond.code (⟨"com/example/siltstone/siltstone/format/ByteSink", "ensure", "(I)V"⟩ : MethodName) prog_65_method_12_code 4 none :: ws) ({ frames := 0, cells := 0, slots := 0, locals := 0 } : Room)) (fun a U => a = #[(.ref w0), (.int (1 : Int32))] ∧ Z.Warmed39 U.vm ∧ U.heap = h0) (fun _ _ _ _ _ => True) (fun _ U o U' => ∃ v L, o = .returned v ∧ (Fr n0 L ∧ Q_34 Z w0 w1 kw1 p3 p4 p5 p6 p7 p8 p9 p10 p11 p12 p13 p14 p15 h0 n0 v U'.heap) ∧ FrameEnd U o U' L ({ frames := 0, cells := 0, slots := 0, locals := 0 } : Room).cells ({ frames := 0, cells := 0, slots := 0, locals := 0 } : Room).slots) := by
  refine own_enter (Q := Q_34 Z w0 w1 kw1 p3 p4 p5 p6 p7 p8 p9 p10 p11 p12 p13 p14 p15 h0 n0) (F := fun m => mkF m 0 #[.val (.ref w0), .val (.int (1 : Int32)), .unset, .unset] []) (plainFor_of_name pn_0) (fun m => by first | (simp [entryFrame, mkF, argsToLocals, Value.category]; done) | rfl) ?_
  intro p e s m below meth c s₁ B X0
  have K : Keep h0 h0 [] := Keep.refl h0 _
  refine own_iloadN (pc' := 1) B X0 d4_0 rfl rfl ?_
  refine own_aloadN (pc' := 2) B X0 d4_1 rfl rfl rfl ?_
  refine own_getfield (pc' := 5) B X0 (host := "") (Or.inl (own_w hw 10 rfl)) Via.refl F_w0_bytes d4_2 rfl ?_
  intro T1 X1
  refine own_arraylength (pc' := 6) B X1 V_w1 d4_5 rfl ?_
  refine own_aloadN (pc' := 7) B X1 d4_6 rfl rfl rfl ?_
  refine own_getfield (pc' := 10) B X1 (host := "") (Or.inl (own_w hw 21 rfl)) Via.refl F_w0_size d4_7 rfl ?_
  intro T2 X2
  refine own_isub (pc' := 11) B X2 (z := (56 : Int32)) d4_10 rfl (by decide) ?_
  refine own_icmpYes (pc' := 67) B X2 d4_11 (flt (by decide : ¬ ((56 : Int32) < (1 : Int32)))).2.2.2 (by decide) rfl ?_
  exact own_ret B X2 d4_67 (by decide) (by decide) (⟨rfl, rfl⟩)
def Q_33 (Z : State) (w0 : Addr) (w1 : Addr) (kw1 : ClassId) (p3 : Int32) (p4 : Int32) (p5 : Int32) (p6 : Int32) (p7 : Int32) (p8 : Int32) (p9 : Int32) (p10 : Int32) (p11 : Int32) (p12 : Int32) (p13 : Int32) (p14 : Int32) (p15 : Int32) (p16 : Int32) (h0 : Heap) (n0 : Nat) (v : Option Value) (h : Heap) : Prop :=
  (∃ (y5 : Int32), p16.toInt8.toInt32 = y5 ∧ v = none ∧ Keep h0 h [w0, w1] ∧ Exa Z h w0 "com/example/siltstone/siltstone/format/ByteSink" ∧ Fld Z h w0 "com/example/siltstone/siltstone/format/ByteSink" "bytes" "[B" (.ref w1) ∧ Fld Z h w0 "com/example/siltstone/siltstone/format/ByteSink" "size" "I" (.int (73 : Int32)) ∧ Exa Z h w1 "[B" ∧ Arv Z h w1 kw1 .byte (128 : Int32) ((.int p3) :: (.int (0 : Int32)) :: (.int (0 : Int32)) :: (.int (0 : Int32)) :: (.int (0 : Int32)) :: (.int (0 : Int32)) :: (.int (0 : Int32)) :: (.int (0 : Int32)) :: (.int (0 : Int32)) :: (.int (0 : Int32)) :: (.int (0 : Int32)) :: (.int (0 : Int32)) :: (.int (0 : Int32)) :: (.int (0 : Int32)) :: (.int (0 : Int32)) :: (.int (0 : Int32)) :: (.int (0 : Int32)) :: (.int (0 : Int32)) :: (.int (0 : Int32)) :: (.int (0 : Int32)) :: (.int (0 : Int32)) :: (.int (0 : Int32)) :: (.int (0 : Int32)) :: (.int (0 : Int32)) :: (.int (0 : Int32)) :: (.int (0 : Int32)) :: (.int (0 : Int32)) :: (.int (0 : Int32)) :: (.int (0 : Int32)) :: (.int (0 : Int32)) :: (.int (0 : Int32)) :: (.int (0 : Int32)) :: (.int (0 : Int32)) :: (.int (0 : Int32)) :: (.int (0 : Int32)) :: (.int (0 : Int32)) :: (.int (0 : Int32)) :: (.int (0 : Int32)) :: (.int (0 : Int32)) :: (.int (0 : Int32)) :: (.int (0 : Int32)) :: (.int (0 : Int32)) :: (.int (0 : Int32)) :: (.int (0 : Int32)) :: (.int (0 : Int32)) :: (.int (0 : Int32)) :: (.int (0 : Int32)) :: (.int (0 : Int32)) :: (.int (0 : Int32)) :: (.int (0 : Int32)) :: (.int (0 : Int32)) :: (.int (0 : Int32)) :: (.int (0 : Int32)) :: (.int (0 : Int32)) :: (.int (0 : Int32)) :: (.int (0 : Int32)) :: (.int (0 : Int32)) :: (.int (0 : Int32)) :: (.int (0 : Int32)) :: (.int p4) :: (.int p5) :: (.int p6) :: (.int p7) :: (.int p8) :: (.int p3) :: (.int p9) :: (.int p10) :: (.int p11) :: (.int p12) :: (.int p13) :: (.int p14) :: (.int p15) :: (.int y5) :: []) (.int (0 : Int32)))
set_option maxRecDepth 65536 in
set_option maxHeartbeats 40000000 in
theorem rm_33 (l : Launch) (Z : State) (a0 : Array Value) (hw : ∀ d ∈ tables_1, d.before a0 Z = true) (ws : List Jvm.Cond) (w0 : Addr) (w1 : Addr) (kw1 : ClassId) (p3 : Int32) (p4 : Int32) (p5 : Int32) (p6 : Int32) (p7 : Int32) (p8 : Int32) (p9 : Int32) (p10 : Int32) (p11 : Int32) (p12 : Int32) (p13 : Int32) (p14 : Int32) (p15 : Int32) (p16 : Int32) (h0 : Heap) (n0 : Nat) (Z0 : n0 ≤ h0.size) (E_w0 : Exa Z h0 w0 "com/example/siltstone/siltstone/format/ByteSink") (F_w0_bytes : Fld Z h0 w0 "com/example/siltstone/siltstone/format/ByteSink" "bytes" "[B" (.ref w1)) (F_w0_size : Fld Z h0 w0 "com/example/siltstone/siltstone/format/ByteSink" "size" "I" (.int (72 : Int32))) (g_w0 : n0 ≤ w0) (E_w1 : Exa Z h0 w1 "[B") (V_w1 : Arv Z h0 w1 kw1 .byte (128 : Int32) ((.int p3) :: (.int (0 : Int32)) :: (.int (0 : Int32)) :: (.int (0 : Int32)) :: (.int (0 : Int32)) :: (.int (0 : Int32)) :: (.int (0 : Int32)) :: (.int (0 : Int32)) :: (.int (0 : Int32)) :: (.int (0 : Int32)) :: (.int (0 : Int32)) :: (.int (0 : Int32)) :: (.int (0 : Int32)) :: (.int (0 : Int32)) :: (.int (0 : Int32)) :: (.int (0 : Int32)) :: (.int (0 : Int32)) :: (.int (0 : Int32)) :: (.int (0 : Int32)) :: (.int (0 : Int32)) :: (.int (0 : Int32)) :: (.int (0 : Int32)) :: (.int (0 : Int32)) :: (.int (0 : Int32)) :: (.int (0 : Int32)) :: (.int (0 : Int32)) :: (.int (0 : Int32)) :: (.int (0 : Int32)) :: (.int (0 : Int32)) :: (.int (0 : Int32)) :: (.int (0 : Int32)) :: (.int (0 : Int32)) :: (.int (0 : Int32)) :: (.int (0 : Int32)) :: (.int (0 : Int32)) :: (.int (0 : Int32)) :: (.int (0 : Int32)) :: (.int (0 : Int32)) :: (.int (0 : Int32)) :: (.int (0 : Int32)) :: (.int (0 : Int32)) :: (.int (0 : Int32)) :: (.int (0 : Int32)) :: (.int (0 : Int32)) :: (.int (0 : Int32)) :: (.int (0 : Int32)) :: (.int (0 : Int32)) :: (.int (0 : Int32)) :: (.int (0 : Int32)) :: (.int (0 : Int32)) :: (.int (0 : Int32)) :: (.int (0 : Int32)) :: (.int (0 : Int32)) :: (.int (0 : Int32)) :: (.int (0 : Int32)) :: (.int (0 : Int32)) :: (.int (0 : Int32)) :: (.int (0 : Int32)) :: (.int (0 : Int32)) :: (.int p4) :: (.int p5) :: (.int p6) :: (.int p7) :: (.int p8) :: (.int p3) :: (.int p9) :: (.int p10) :: (.int p11) :: (.int p12) :: (.int p13) :: (.int p14) :: (.int p15) :: []) (.int (0 : Int32))) (g_w1 : n0 ≤ w1) (ne_w0_w1 : w0 ≠ w1) :
    MetFree l (⟨"com/example/siltstone/siltstone/format/ByteSink", "writeByte", "(I)V"⟩ : MethodName) (head1 (Jvm.Cond.code (⟨"com/example/siltstone/siltstone/format/ByteSink", "writeByte", "(I)V"⟩ : MethodName) prog_65_method_6_code 2 none :: ws) ({ frames := 1, cells := 0, slots := 0, locals := 15 } : Room)) (fun a U => a = #[(.ref w0), (.int p16)] ∧ Z.Warmed39 U.vm ∧ U.heap = h0) (fun _ _ _ _ _ => True) (fun _ U o U' => ∃ v L, o = .returned v ∧ (Fr n0 L ∧ Q_33 Z w0 w1 kw1 p3 p4 p5 p6 p7 p8 p9 p10 p11 p12 p13 p14 p15 p16 h0 n0 v U'.heap) ∧ FrameEnd U o U' L ({ frames := 1, cells := 0, slots := 0, locals := 15 } : Room).cells ({ frames := 1, cells := 0, slots := 0, locals := 15 } : Room).slots) := by
  refine own_enter (Q := Q_33 Z w0 w1 kw1 p3 p4 p5 p6 p7 p8 p9 p10 p11 p12 p13 p14 p15 p16 h0 n0) (F := fun m => mkF m 0 #[.val (.ref w0), .val (.int p16)] []) (plainFor_of_name pn_0) (fun m => by first | (simp [entryFrame, mkF, argsToLocals, Value.category]; done) | rfl) ?_
  intro p e s m below meth c s₁ B X0
  have K : Keep h0 h0 [w0, w1] := Keep.refl h0 _
  refine own_aloadN (pc' := 1) B X0 d6_0 rfl rfl rfl ?_
  refine own_iconst (pc' := 2) B X0 (z := (1 : Int32)) d6_1 rfl rfl ?_
  refine own_callP (pc' := 5) B X0 (own_w hw 17 rfl) (own_w hw 18 rfl) (own_w hw 19 rfl) (own_w hw 2 rfl) (own_w hw 3 rfl) (own_w hw 20 rfl) E_w0 (by decide) [(.int (1 : Int32))] [] (rm_34 l Z a0 hw [] w0 w1 kw1 (p3) (p4) (p5) (p6) (p7) (p8) (p9) (p10) (p11) (p12) (p13) (p14) (p15) h0 n0 (Nat.le_trans Z0 K.1) E_w0 F_w0_bytes F_w0_size g_w0 E_w1 V_w1 g_w1 ne_w0_w1) 0 (by decide) (by decide) rfl pd_1 rfl rfl (Nat.le_of_eq rfl) d6_2 rfl (k' := 0) (n' := 0) rfl rfl (by decide) (by decide) ?_
  intro T1 v1 h1 X1 q1
  obtain ⟨rfl, rfl⟩ := q1
  show own_Go p e below (T1.setTop (mkF m 5 #[.val (.ref w0), .val (.int p16)] [])) _
  refine own_aloadN (pc' := 6) B X1 d6_5 rfl rfl rfl ?_
  refine own_getfield (pc' := 9) B X1 (host := "") (Or.inl (own_w hw 10 rfl)) Via.refl F_w0_bytes d6_6 rfl ?_
  intro T2 X2
  refine own_aloadN (pc' := 10) B X2 d6_9 rfl rfl rfl ?_
  refine own_dup (pc' := 11) B X2 d6_10 rfl rfl ?_
  refine own_getfield (pc' := 14) B X2 (host := "") (Or.inl (own_w hw 21 rfl)) Via.refl F_w0_size d6_11 rfl ?_
  intro T3 X3
  refine own_dup_x1 (pc' := 15) B X3 d6_14 rfl rfl rfl ?_
  refine own_iconst (pc' := 16) B X3 (z := (1 : Int32)) d6_15 rfl rfl ?_
  refine own_iadd (pc' := 17) B X3 (z := (73 : Int32)) d6_16 rfl (by decide) ?_
  refine own_putfield (pc' := 20) B X3 (host := "") (Or.inl (own_w hw 21 rfl)) Via.refl F_w0_size E_w0 g_w0 (Or.inl (own_w hw 22 rfl)) (own_w hw 2 rfl) (ty := .int) (by decide) rfl rfl d6_17 rfl ?_
  intro T4 h4 X4 W4 F_w0_size
  replace E_w0 := E_w0.wr W4
  replace F_w0_bytes := F_w0_bytes.other W4 (Or.inr (slot_ne (Or.inl (own_w hw 11 rfl)) (Or.inl (own_w hw 22 rfl)) (by decide) (t := (.array .byte)) (t' := .int) (by decide) (by decide)))
  replace E_w1 := E_w1.wr W4
  replace V_w1 := V_w1.other W4 (Ne.symm ne_w0_w1)
  replace K := K.wr W4 (Or.inl (List.mem_of_getElem? (i := 0) rfl))
  refine own_iloadN (pc' := 21) B X4 d6_20 rfl rfl ?_
  obtain ⟨y5, hy5⟩ : ∃ z : Int32, p16.toInt8.toInt32 = z := ⟨_, rfl⟩
  refine own_i2b (pc' := 22) B X4 d6_21 rfl hy5 ?_
  replace V_w1 : Arv Z h4 w1 kw1 .byte (128 : Int32) ((.int p3) :: (.int (0 : Int32)) :: (.int (0 : Int32)) :: (.int (0 : Int32)) :: (.int (0 : Int32)) :: (.int (0 : Int32)) :: (.int (0 : Int32)) :: (.int (0 : Int32)) :: (.int (0 : Int32)) :: (.int (0 : Int32)) :: (.int (0 : Int32)) :: (.int (0 : Int32)) :: (.int (0 : Int32)) :: (.int (0 : Int32)) :: (.int (0 : Int32)) :: (.int (0 : Int32)) :: (.int (0 : Int32)) :: (.int (0 : Int32)) :: (.int (0 : Int32)) :: (.int (0 : Int32)) :: (.int (0 : Int32)) :: (.int (0 : Int32)) :: (.int (0 : Int32)) :: (.int (0 : Int32)) :: (.int (0 : Int32)) :: (.int (0 : Int32)) :: (.int (0 : Int32)) :: (.int (0 : Int32)) :: (.int (0 : Int32)) :: (.int (0 : Int32)) :: (.int (0 : Int32)) :: (.int (0 : Int32)) :: (.int (0 : Int32)) :: (.int (0 : Int32)) :: (.int (0 : Int32)) :: (.int (0 : Int32)) :: (.int (0 : Int32)) :: (.int (0 : Int32)) :: (.int (0 : Int32)) :: (.int (0 : Int32)) :: (.int (0 : Int32)) :: (.int (0 : Int32)) :: (.int (0 : Int32)) :: (.int (0 : Int32)) :: (.int (0 : Int32)) :: (.int (0 : Int32)) :: (.int (0 : Int32)) :: (.int (0 : Int32)) :: (.int (0 : Int32)) :: (.int (0 : Int32)) :: (.int (0 : Int32)) :: (.int (0 : Int32)) :: (.int (0 : Int32)) :: (.int (0 : Int32)) :: (.int (0 : Int32)) :: (.int (0 : Int32)) :: (.int (0 : Int32)) :: (.int (0 : Int32)) :: (.int (0 : Int32)) :: (.int p4) :: (.int p5) :: (.int p6) :: (.int p7) :: (.int p8) :: (.int p3) :: (.int p9) :: (.int p10) :: (.int p11) :: (.int p12) :: (.int p13) :: (.int p14) :: (.int p15) :: (.int (0 : Int32)) :: []) (.int (0 : Int32)) := V_w1.pad (pad_rep ((.int p3) :: (.int (0 : Int32)) :: (.int (0 : Int32)) :: (.int (0 : Int32)) :: (.int (0 : Int32)) :: (.int (0 : Int32)) :: (.int (0 : Int32)) :: (.int (0 : Int32)) :: (.int (0 : Int32)) :: (.int (0 : Int32)) :: (.int (0 : Int32)) :: (.int (0 : Int32)) :: (.int (0 : Int32)) :: (.int (0 : Int32)) :: (.int (0 : Int32)) :: (.int (0 : Int32)) :: (.int (0 : Int32)) :: (.int (0 : Int32)) :: (.int (0 : Int32)) :: (.int (0 : Int32)) :: (.int (0 : Int32)) :: (.int (0 : Int32)) :: (.int (0 : Int32)) :: (.int (0 : Int32)) :: (.int (0 : Int32)) :: (.int (0 : Int32)) :: (.int (0 : Int32)) :: (.int (0 : Int32)) :: (.int (0 : Int32)) :: (.int (0 : Int32)) :: (.int (0 : Int32)) :: (.int (0 : Int32)) :: (.int (0 : Int32)) :: (.int (0 : Int32)) :: (.int (0 : Int32)) :: (.int (0 : Int32)) :: (.int (0 : Int32)) :: (.int (0 : Int32)) :: (.int (0 : Int32)) :: (.int (0 : Int32)) :: (.int (0 : Int32)) :: (.int (0 : Int32)) :: (.int (0 : Int32)) :: (.int (0 : Int32)) :: (.int (0 : Int32)) :: (.int (0 : Int32)) :: (.int (0 : Int32)) :: (.int (0 : Int32)) :: (.int (0 : Int32)) :: (.int (0 : Int32)) :: (.int (0 : Int32)) :: (.int (0 : Int32)) :: (.int (0 : Int32)) :: (.int (0 : Int32)) :: (.int (0 : Int32)) :: (.int (0 : Int32)) :: (.int (0 : Int32)) :: (.int (0 : Int32)) :: (.int (0 : Int32)) :: (.int p4) :: (.int p5) :: (.int p6) :: (.int p7) :: (.int p8) :: (.int p3) :: (.int p9) :: (.int p10) :: (.int p11) :: (.int p12) :: (.int p13) :: (.int p14) :: (.int p15) :: []) (.int (0 : Int32)) 1)
  refine own_bastore (pc' := 23) B X4 (x' := y5) V_w1 g_w1 ⟨by decide, by decide⟩ 72 (by decide) (Nat.le_of_ble_eq_true rfl) (own_idem_i2b hy5) d6_22 rfl ?_
  intro T6 h6 X6 W6 V_w1
  replace V_w1 : Arv Z h6 w1 kw1 .byte (128 : Int32) ((.int p3) :: (.int (0 : Int32)) :: (.int (0 : Int32)) :: (.int (0 : Int32)) :: (.int (0 : Int32)) :: (.int (0 : Int32)) :: (.int (0 : Int32)) :: (.int (0 : Int32)) :: (.int (0 : Int32)) :: (.int (0 : Int32)) :: (.int (0 : Int32)) :: (.int (0 : Int32)) :: (.int (0 : Int32)) :: (.int (0 : Int32)) :: (.int (0 : Int32)) :: (.int (0 : Int32)) :: (.int (0 : Int32)) :: (.int (0 : Int32)) :: (.int (0 : Int32)) :: (.int (0 : Int32)) :: (.int (0 : Int32)) :: (.int (0 : Int32)) :: (.int (0 : Int32)) :: (.int (0 : Int32)) :: (.int (0 : Int32)) :: (.int (0 : Int32)) :: (.int (0 : Int32)) :: (.int (0 : Int32)) :: (.int (0 : Int32)) :: (.int (0 : Int32)) :: (.int (0 : Int32)) :: (.int (0 : Int32)) :: (.int (0 : Int32)) :: (.int (0 : Int32)) :: (.int (0 : Int32)) :: (.int (0 : Int32)) :: (.int (0 : Int32)) :: (.int (0 : Int32)) :: (.int (0 : Int32)) :: (.int (0 : Int32)) :: (.int (0 : Int32)) :: (.int (0 : Int32)) :: (.int (0 : Int32)) :: (.int (0 : Int32)) :: (.int (0 : Int32)) :: (.int (0 : Int32)) :: (.int (0 : Int32)) :: (.int (0 : Int32)) :: (.int (0 : Int32)) :: (.int (0 : Int32)) :: (.int (0 : Int32)) :: (.int (0 : Int32)) :: (.int (0 : Int32)) :: (.int (0 : Int32)) :: (.int (0 : Int32)) :: (.int (0 : Int32)) :: (.int (0 : Int32)) :: (.int (0 : Int32)) :: (.int (0 : Int32)) :: (.int p4) :: (.int p5) :: (.int p6) :: (.int p7) :: (.int p8) :: (.int p3) :: (.int p9) :: (.int p10) :: (.int p11) :: (.int p12) :: (.int p13) :: (.int p14) :: (.int p15) :: (.int y5) :: []) (.int (0 : Int32)) := V_w1
  replace E_w0 := E_w0.wr W6
  replace F_w0_bytes := F_w0_bytes.other W6 (Or.inl ne_w0_w1)
  replace F_w0_size := F_w0_size.other W6 (Or.inl ne_w0_w1)
  replace E_w1 := E_w1.wr W6
  replace K := K.wr W6 (Or.inl (List.mem_of_getElem? (i := 1) rfl))
  exact own_ret B X6 d6_23 (by decide) (by decide) (⟨y5, hy5, rfl, K, E_w0, F_w0_bytes, F_w0_size, E_w1, V_w1⟩)
def Q_37 (Z : State)  (h0 : Heap) (n0 : Nat) (v : Option Value) (h : Heap) : Prop :=
  (v = some (.int (73 : Int32)) ∧ h0 = h)
set_option maxRecDepth 65536 in
set_option maxHeartbeats 40000000 in
theorem rm_37 (l : Launch) (Z : State) (a0 : Array Value) (hw : ∀ d ∈ tables_1, d.before a0 Z = true) (ws : List Jvm.Cond)  (h0 : Heap) (n0 : Nat) (Z0 : n0 ≤ h0.size)  :
    MetFree l (⟨"java/lang/Math", "min", "(II)I"⟩ : MethodName) (head1 (Jvm.Cond.code (⟨"java/lang/Math", "min", "(II)I"⟩ : MethodName) jdk_29_method_69_code 2 (some .int) :: ws) ({ frames := 0, cells := 0, slots := 0, locals := 0 } : Room)) (fun a U => a = #[(.int (128 : Int32)), (.int (73 : Int32))] ∧ Z.Warmed39 U.vm ∧ U.heap = h0) (fun _ _ _ _ _ => True) (fun _ U o U' => ∃ v L, o = .returned v ∧ (Fr n0 L ∧ Q_37 Z  h0 n0 v U'.heap) ∧ FrameEnd U o U' L ({ frames := 0, cells := 0, slots := 0, locals := 0 } : Room).cells ({ frames := 0, cells := 0, slots := 0, locals := 0 } : Room).slots) := by
  refine own_enter (Q := Q_37 Z  h0 n0) (F := fun m => mkF m 0 #[.val (.int (128 : Int32)), .val (.int (73 : Int32))] []) (Jvm.Free.JP.mathPlain rfl (by decide +kernel)) (fun m => by first | (simp [entryFrame, mkF, argsToLocals, Value.category]; done) | rfl) ?_
  intro p e s m below meth c s₁ B X0
  have K : Keep h0 h0 [] := Keep.refl h0 _
  refine own_iloadN (pc' := 1) B X0 d9_0 rfl rfl ?_
  refine own_iloadN (pc' := 2) B X0 d9_1 rfl rfl ?_
  refine own_icmpYes (pc' := 9) B X0 d9_2 (tlt (by decide : (73 : Int32) < (128 : Int32))).2.2.1 (by decide) rfl ?_
  refine own_iloadN (pc' := 10) B X0 d9_9 rfl rfl ?_
  exact own_retI B X0 d9_10 (by decide) (by decide) (⟨rfl, rfl⟩)
def Q_36 (Z : State) (w0 : Addr) (kw0 : ClassId) (p2 : Int32) (p3 : Int32) (p4 : Int32) (p5 : Int32) (p6 : Int32) (p7 : Int32) (p8 : Int32) (p9 : Int32) (p10 : Int32) (p11 : Int32) (p12 : Int32) (p13 : Int32) (p14 : Int32) (h0 : Heap) (n0 : Nat) (v : Option Value) (h : Heap) : Prop :=
  (∃ (b1 : Addr) (kb1 : ClassId), v = some (.ref b1) ∧ Keep h0 h [] ∧ h0.size ≤ b1 ∧ Exa Z h b1 "[B" ∧ Arv Z h b1 kb1 .byte (73 : Int32) ((.int p2) :: (.int (0 : Int32)) :: (.int (0 : Int32)) :: (.int (0 : Int32)) :: (.int (0 : Int32)) :: (.int (0 : Int32)) :: (.int (0 : Int32)) :: (.int (0 : Int32)) :: (.int (0 : Int32)) :: (.int (0 : Int32)) :: (.int (0 : Int32)) :: (.int (0 : Int32)) :: (.int (0 : Int32)) :: (.int (0 : Int32)) :: (.int (0 : Int32)) :: (.int (0 : Int32)) :: (.int (0 : Int32)) :: (.int (0 : Int32)) :: (.int (0 : Int32)) :: (.int (0 : Int32)) :: (.int (0 : Int32)) :: (.int (0 : Int32)) :: (.int (0 : Int32)) :: (.int (0 : Int32)) :: (.int (0 : Int32)) :: (.int (0 : Int32)) :: (.int (0 : Int32)) :: (.int (0 : Int32)) :: (.int (0 : Int32)) :: (.int (0 : Int32)) :: (.int (0 : Int32)) :: (.int (0 : Int32)) :: (.int (0 : Int32)) :: (.int (0 : Int32)) :: (.int (0 : Int32)) :: (.int (0 : Int32)) :: (.int (0 : Int32)) :: (.int (0 : Int32)) :: (.int (0 : Int32)) :: (.int (0 : Int32)) :: (.int (0 : Int32)) :: (.int (0 : Int32)) :: (.int (0 : Int32)) :: (.int (0 : Int32)) :: (.int (0 : Int32)) :: (.int (0 : Int32)) :: (.int (0 : Int32)) :: (.int (0 : Int32)) :: (.int (0 : Int32)) :: (.int (0 : Int32)) :: (.int (0 : Int32)) :: (.int (0 : Int32)) :: (.int (0 : Int32)) :: (.int (0 : Int32)) :: (.int (0 : Int32)) :: (.int (0 : Int32)) :: (.int (0 : Int32)) :: (.int (0 : Int32)) :: (.int (0 : Int32)) :: (.int p3) :: (.int p4) :: (.int p5) :: (.int p6) :: (.int p7) :: (.int p2) :: (.int p8) :: (.int p9) :: (.int p10) :: (.int p11) :: (.int p12) :: (.int p13) :: (.int p14) :: (.int p3) :: []) (.int (0 : Int32)))
set_option maxRecDepth 65536 in
set_option maxHeartbeats 40000000 in
theorem rm_36 (l : Launch) (Z : State) (a0 : Array Value) (hw : ∀ d ∈ tables_1, d.before a0 Z = true) (ws : List Jvm.Cond) (w0 : Addr) (kw0 : ClassId) (p2 : Int32) (p3 : Int32) (p4 : Int32) (p5 : Int32) (p6 : Int32) (p7 : Int32) (p8 : Int32) (p9 : Int32) (p10 : Int32) (p11 : Int32) (p12 : Int32) (p13 : Int32) (p14 : Int32) (h0 : Heap) (n0 : Nat) (Z0 : n0 ≤ h0.size) (E_w0 : Exa Z h0 w0 "[B") (V_w0 : Arv Z h0 w0 kw0 .byte (128 : Int32) ((.int p2) :: (.int (0 : Int32)) :: (.int (0 : Int32)) :: (.int (0 : Int32)) :: (.int (0 : Int32)) :: (.int (0 : Int32)) :: (.int (0 : Int32)) :: (.int (0 : Int32)) :: (.int (0 : Int32)) :: (.int (0 : Int32)) :: (.int (0 : Int32)) :: (.int (0 : Int32)) :: (.int (0 : Int32)) :: (.int (0 : Int32)) :: (.int (0 : Int32)) :: (.int (0 : Int32)) :: (.int (0 : Int32)) :: (.int (0 : Int32)) :: (.int (0 : Int32)) :: (.int (0 : Int32)) :: (.int (0 : Int32)) :: (.int (0 : Int32)) :: (.int (0 : Int32)) :: (.int (0 : Int32)) :: (.int (0 : Int32)) :: (.int (0 : Int32)) :: (.int (0 : Int32)) :: (.int (0 : Int32)) :: (.int (0 : Int32)) :: (.int (0 : Int32)) :: (.int (0 : Int32)) :: (.int (0 : Int32)) :: (.int (0 : Int32)) :: (.int (0 : Int32)) :: (.int (0 : Int32)) :: (.int (0 : Int32)) :: (.int (0 : Int32)) :: (.int (0 : Int32)) :: (.int (0 : Int32)) :: (.int (0 : Int32)) :: (.int (0 : Int32)) :: (.int (0 : Int32)) :: (.int (0 : Int32)) :: (.int (0 : Int32)) :: (.int (0 : Int32)) :: (.int (0 : Int32)) :: (.int (0 : Int32)) :: (.int (0 : Int32)) :: (.int (0 : Int32)) :: (.int (0 : Int32)) :: (.int (0 : Int32)) :: (.int (0 : Int32)) :: (.int (0 : Int32)) :: (.int (0 : Int32)) :: (.int (0 : Int32)) :: (.int (0 : Int32)) :: (.int (0 : Int32)) :: (.int (0 : Int32)) :: (.int (0 : Int32)) :: (.int p3) :: (.int p4) :: (.int p5) :: (.int p6) :: (.int p7) :: (.int p2) :: (.int p8) :: (.int p9) :: (.int p10) :: (.int p11) :: (.int p12) :: (.int p13) :: (.int p14) :: (.int p3) :: []) (.int (0 : Int32))) (g_w0 : n0 ≤ w0) :
    MetFree l (⟨"java/util/Arrays", "copyOf", "([BI)[B"⟩ : MethodName) (head1 (Jvm.Cond.code (⟨"java/util/Arrays", "copyOf", "([BI)[B"⟩ : MethodName) jdk_65_method_121_code 3 (some (.array .byte)) :: ws) ({ frames := 1, cells := 1, slots := 73, locals := 40 } : Room)) (fun a U => a = #[(.ref w0), (.int (73 : Int32))] ∧ Z.Warmed39 U.vm ∧ U.heap = h0) (fun _ _ _ _ _ => True) (fun _ U o U' => ∃ v L, o = .returned v ∧ (Fr n0 L ∧ Q_36 Z w0 kw0 p2 p3 p4 p5 p6 p7 p8 p9 p10 p11 p12 p13 p14 h0 n0 v U'.heap) ∧ FrameEnd U o U' L ({ frames := 1, cells := 1, slots := 73, locals := 40 } : Room).cells ({ frames := 1, cells := 1, slots := 73, locals := 40 } : Room).slots) := by
  refine own_enter (Q := Q_36 Z w0 kw0 p2 p3 p4 p5 p6 p7 p8 p9 p10 p11 p12 p13 p14 h0 n0) (F := fun m => mkF m 0 #[.val (.ref w0), .val (.int (73 : Int32)), .unset] []) (plainFor_of_name pn_1) (fun m => by first | (simp [entryFrame, mkF, argsToLocals, Value.category]; done) | rfl) ?_
  intro p e s m below meth c s₁ B X0
  have K : Keep h0 h0 [] := Keep.refl h0 _
  refine own_iloadN (pc' := 1) B X0 d8_0 rfl rfl ?_
  refine own_aloadN (pc' := 2) B X0 d8_1 rfl rfl rfl ?_
  refine own_arraylength (pc' := 3) B X0 V_w0 d8_2 rfl ?_
  refine own_icmpYes (pc' := 14) B X0 d8_3 (feq (by decide : ¬ ((73 : Int32) = (128 : Int32)))).2 (by decide) rfl ?_
  refine own_iloadN (pc' := 15) B X0 d8_14 rfl rfl ?_
  refine own_newarray (pc' := 17) B X0 (own_w hw 0 rfl) d8_15 rfl rfl (by decide) 73 (by decide) (by decide) (k' := 1) (n' := 73) rfl rfl (by decide) (by decide) "[B" (by decide) (.int (0 : Int32)) rfl ?_
  intro T1 h1 b1 kb1 X1 g1 E1 V_b1 E_b1
  have ne_w0_b1 : w0 ≠ b1 := own_ne E_w0.lt g1
  have sz_b1 : h0.size ≤ b1 := own_sz K g1
  have g_b1 : n0 ≤ b1 := Nat.le_trans Z0 sz_b1
  replace K := K.ext E1
  replace E_w0 := E_w0.ext E1
  replace V_w0 := V_w0.ext E1
  refine own_astoreN (pc' := 18) B X1 (Ls' := #[.val (.ref w0), .val (.int (73 : Int32)), .val (.ref b1)]) d8_17 rfl rfl rfl ?_
  refine own_aloadN (pc' := 19) B X1 d8_18 rfl rfl rfl ?_
  refine own_iconst (pc' := 20) B X1 (z := (0 : Int32)) d8_19 rfl rfl ?_
  refine own_aloadN (pc' := 21) B X1 d8_20 rfl rfl rfl ?_
  refine own_iconst (pc' := 22) B X1 (z := (0 : Int32)) d8_21 rfl rfl ?_
  refine own_aloadN (pc' := 23) B X1 d8_22 rfl rfl rfl ?_
  refine own_arraylength (pc' := 24) B X1 V_w0 d8_23 rfl ?_
  refine own_iloadN (pc' := 25) B X1 d8_24 rfl rfl ?_
  refine own_callS (pc' := 28) B X1 (own_w hw 42 rfl) (own_w hw 43 rfl) (own_w hw 44 rfl) (own_w hw 45 rfl) (by decide) [(.int (128 : Int32)), (.int (73 : Int32))] [(.int (0 : Int32)), (.ref b1), (.int (0 : Int32)), (.ref w0)] (rm_37 l Z a0 hw []  h1 n0 (Nat.le_trans Z0 K.1) ) 4 (by decide) (by decide) rfl pd_3 rfl rfl (Nat.le_of_eq rfl) d8_25 rfl (k' := 1) (n' := 73) rfl rfl (by decide) (by decide) ?_
  intro T2 v2 h2 X2 q2
  obtain ⟨rfl, rfl⟩ := q2
  show own_Go p e below (T2.setTop (mkF m 28 #[.val (.ref w0), .val (.int (73 : Int32)), .val (.ref b1)] [(.int (73 : Int32)), (.int (0 : Int32)), (.ref b1), (.int (0 : Int32)), (.ref w0)])) _
  replace V_b1 : Arv Z h1 b1 kb1 .byte (73 : Int32) ((.int (0 : Int32)) :: (.int (0 : Int32)) :: (.int (0 : Int32)) :: (.int (0 : Int32)) :: (.int (0 : Int32)) :: (.int (0 : Int32)) :: (.int (0 : Int32)) :: (.int (0 : Int32)) :: (.int (0 : Int32)) :: (.int (0 : Int32)) :: (.int (0 : Int32)) :: (.int (0 : Int32)) :: (.int (0 : Int32)) :: (.int (0 : Int32)) :: (.int (0 : Int32)) :: (.int (0 : Int32)) :: (.int (0 : Int32)) :: (.int (0 : Int32)) :: (.int (0 : Int32)) :: (.int (0 : Int32)) :: (.int (0 : Int32)) :: (.int (0 : Int32)) :: (.int (0 : Int32)) :: (.int (0 : Int32)) :: (.int (0 : Int32)) :: (.int (0 : Int32)) :: (.int (0 : Int32)) :: (.int (0 : Int32)) :: (.int (0 : Int32)) :: (.int (0 : Int32)) :: (.int (0 : Int32)) :: (.int (0 : Int32)) :: (.int (0 : Int32)) :: (.int (0 : Int32)) :: (.int (0 : Int32)) :: (.int (0 : Int32)) :: (.int (0 : Int32)) :: (.int (0 : Int32)) :: (.int (0 : Int32)) :: (.int (0 : Int32)) :: (.int (0 : Int32)) :: (.int (0 : Int32)) :: (.int (0 : Int32)) :: (.int (0 : Int32)) :: (.int (0 : Int32)) :: (.int (0 : Int32)) :: (.int (0 : Int32)) :: (.int (0 : Int32)) :: (.int (0 : Int32)) :: (.int (0 : Int32)) :: (.int (0 : Int32)) :: (.int (0 : Int32)) :: (.int (0 : Int32)) :: (.int (0 : Int32)) :: (.int (0 : Int32)) :: (.int (0 : Int32)) :: (.int (0 : Int32)) :: (.int (0 : Int32)) :: (.int (0 : Int32)) :: (.int (0 : Int32)) :: (.int (0 : Int32)) :: (.int (0 : Int32)) :: (.int (0 : Int32)) :: (.int (0 : Int32)) :: (.int (0 : Int32)) :: (.int (0 : Int32)) :: (.int (0 : Int32)) :: (.int (0 : Int32)) :: (.int (0 : Int32)) :: (.int (0 : Int32)) :: (.int (0 : Int32)) :: (.int (0 : Int32)) :: (.int (0 : Int32)) :: []) (.int (0 : Int32)) := V_b1.pad (pad_rep [] (.int (0 : Int32)) 73)
  refine own_arraycopy (pc' := 31) B X2 (own_w hw 46 rfl) (own_w hw 49 rfl) (own_w hw 47 rfl) (own_w hw 48 rfl) V_w0 V_b1 rfl g_b1 (by decide) (by decide) (by decide) (by decide) (by decide) (us := ((.int p2) :: (.int (0 : Int32)) :: (.int (0 : Int32)) :: (.int (0 : Int32)) :: (.int (0 : Int32)) :: (.int (0 : Int32)) :: (.int (0 : Int32)) :: (.int (0 : Int32)) :: (.int (0 : Int32)) :: (.int (0 : Int32)) :: (.int (0 : Int32)) :: (.int (0 : Int32)) :: (.int (0 : Int32)) :: (.int (0 : Int32)) :: (.int (0 : Int32)) :: (.int (0 : Int32)) :: (.int (0 : Int32)) :: (.int (0 : Int32)) :: (.int (0 : Int32)) :: (.int (0 : Int32)) :: (.int (0 : Int32)) :: (.int (0 : Int32)) :: (.int (0 : Int32)) :: (.int (0 : Int32)) :: (.int (0 : Int32)) :: (.int (0 : Int32)) :: (.int (0 : Int32)) :: (.int (0 : Int32)) :: (.int (0 : Int32)) :: (.int (0 : Int32)) :: (.int (0 : Int32)) :: (.int (0 : Int32)) :: (.int (0 : Int32)) :: (.int (0 : Int32)) :: (.int (0 : Int32)) :: (.int (0 : Int32)) :: (.int (0 : Int32)) :: (.int (0 : Int32)) :: (.int (0 : Int32)) :: (.int (0 : Int32)) :: (.int (0 : Int32)) :: (.int (0 : Int32)) :: (.int (0 : Int32)) :: (.int (0 : Int32)) :: (.int (0 : Int32)) :: (.int (0 : Int32)) :: (.int (0 : Int32)) :: (.int (0 : Int32)) :: (.int (0 : Int32)) :: (.int (0 : Int32)) :: (.int (0 : Int32)) :: (.int (0 : Int32)) :: (.int (0 : Int32)) :: (.int (0 : Int32)) :: (.int (0 : Int32)) :: (.int (0 : Int32)) :: (.int (0 : Int32)) :: (.int (0 : Int32)) :: (.int (0 : Int32)) :: (.int p3) :: (.int p4) :: (.int p5) :: (.int p6) :: (.int p7) :: (.int p2) :: (.int p8) :: (.int p9) :: (.int p10) :: (.int p11) :: (.int p12) :: (.int p13) :: (.int p14) :: (.int p3) :: [])) rfl (Nat.le_of_ble_eq_true rfl) (rs := ((.int p2) :: (.int (0 : Int32)) :: (.int (0 : Int32)) :: (.int (0 : Int32)) :: (.int (0 : Int32)) :: (.int (0 : Int32)) :: (.int (0 : Int32)) :: (.int (0 : Int32)) :: (.int (0 : Int32)) :: (.int (0 : Int32)) :: (.int (0 : Int32)) :: (.int (0 : Int32)) :: (.int (0 : Int32)) :: (.int (0 : Int32)) :: (.int (0 : Int32)) :: (.int (0 : Int32)) :: (.int (0 : Int32)) :: (.int (0 : Int32)) :: (.int (0 : Int32)) :: (.int (0 : Int32)) :: (.int (0 : Int32)) :: (.int (0 : Int32)) :: (.int (0 : Int32)) :: (.int (0 : Int32)) :: (.int (0 : Int32)) :: (.int (0 : Int32)) :: (.int (0 : Int32)) :: (.int (0 : Int32)) :: (.int (0 : Int32)) :: (.int (0 : Int32)) :: (.int (0 : Int32)) :: (.int (0 : Int32)) :: (.int (0 : Int32)) :: (.int (0 : Int32)) :: (.int (0 : Int32)) :: (.int (0 : Int32)) :: (.int (0 : Int32)) :: (.int (0 : Int32)) :: (.int (0 : Int32)) :: (.int (0 : Int32)) :: (.int (0 : Int32)) :: (.int (0 : Int32)) :: (.int (0 : Int32)) :: (.int (0 : Int32)) :: (.int (0 : Int32)) :: (.int (0 : Int32)) :: (.int (0 : Int32)) :: (.int (0 : Int32)) :: (.int (0 : Int32)) :: (.int (0 : Int32)) :: (.int (0 : Int32)) :: (.int (0 : Int32)) :: (.int (0 : Int32)) :: (.int (0 : Int32)) :: (.int (0 : Int32)) :: (.int (0 : Int32)) :: (.int (0 : Int32)) :: (.int (0 : Int32)) :: (.int (0 : Int32)) :: (.int p3) :: (.int p4) :: (.int p5) :: (.int p6) :: (.int p7) :: (.int p2) :: (.int p8) :: (.int p9) :: (.int p10) :: (.int p11) :: (.int p12) :: (.int p13) :: (.int p14) :: (.int p3) :: [])) rfl d8_28 rfl rfl (by decide) 0 (Nat.le_of_eq rfl) (by decide) ?_
  intro T3 h3 X3 K3 V_b1
  replace K := K.trans K3 (allS (Or.inr sz_b1) all0)
  replace E_w0 := E_w0.keep K3
  replace V_w0 := V_w0.keep K3 (ninS ne_w0_b1 nin0)
  replace E_b1 := E_b1.keep K3
  refine own_aloadN (pc' := 32) B X3 d8_31 rfl rfl rfl ?_
  exact own_retA B X3 (t := (.array .byte)) rfl rfl rfl d8_32 (by decide) (by decide) (⟨b1, kb1, rfl, K, sz_b1, E_b1, V_b1⟩)
def Q_35 (Z : State) (w0 : Addr) (w1 : Addr) (kw1 : ClassId) (p3 : Int32) (p4 : Int32) (p5 : Int32) (p6 : Int32) (p7 : Int32) (p8 : Int32) (p9 : Int32) (p10 : Int32) (p11 : Int32) (p12 : Int32) (p13 : Int32) (p14 : Int32) (p15 : Int32) (h0 : Heap) (n0 : Nat) (v : Option Value) (h : Heap) : Prop :=
  (∃ (b4 : Addr) (k5 : ClassId), v = some (.ref b4) ∧ Keep h0 h [] ∧ h0.size ≤ b4 ∧ Exa Z h b4 "[B" ∧ Arv Z h b4 k5 .byte (73 : Int32) ((.int p3) :: (.int (0 : Int32)) :: (.int (0 : Int32)) :: (.int (0 : Int32)) :: (.int (0 : Int32)) :: (.int (0 : Int32)) :: (.int (0 : Int32)) :: (.int (0 : Int32)) :: (.int (0 : Int32)) :: (.int (0 : Int32)) :: (.int (0 : Int32)) :: (.int (0 : Int32)) :: (.int (0 : Int32)) :: (.int (0 : Int32)) :: (.int (0 : Int32)) :: (.int (0 : Int32)) :: (.int (0 : Int32)) :: (.int (0 : Int32)) :: (.int (0 : Int32)) :: (.int (0 : Int32)) :: (.int (0 : Int32)) :: (.int (0 : Int32)) :: (.int (0 : Int32)) :: (.int (0 : Int32)) :: (.int (0 : Int32)) :: (.int (0 : Int32)) :: (.int (0 : Int32)) :: (.int (0 : Int32)) :: (.int (0 : Int32)) :: (.int (0 : Int32)) :: (.int (0 : Int32)) :: (.int (0 : Int32)) :: (.int (0 : Int32)) :: (.int (0 : Int32)) :: (.int (0 : Int32)) :: (.int (0 : Int32)) :: (.int (0 : Int32)) :: (.int (0 : Int32)) :: (.int (0 : Int32)) :: (.int (0 : Int32)) :: (.int (0 : Int32)) :: (.int (0 : Int32)) :: (.int (0 : Int32)) :: (.int (0 : Int32)) :: (.int (0 : Int32)) :: (.int (0 : Int32)) :: (.int (0 : Int32)) :: (.int (0 : Int32)) :: (.int (0 : Int32)) :: (.int (0 : Int32)) :: (.int (0 : Int32)) :: (.int (0 : Int32)) :: (.int (0 : Int32)) :: (.int (0 : Int32)) :: (.int (0 : Int32)) :: (.int (0 : Int32)) :: (.int (0 : Int32)) :: (.int (0 : Int32)) :: (.int (0 : Int32)) :: (.int p4) :: (.int p5) :: (.int p6) :: (.int p7) :: (.int p8) :: (.int p3) :: (.int p9) :: (.int p10) :: (.int p11) :: (.int p12) :: (.int p13) :: (.int p14) :: (.int p15) :: (.int p4) :: []) (.int (0 : Int32)))
set_option maxRecDepth 65536 in
set_option maxHeartbeats 40000000 in
theorem rm_35 (l : Launch) (Z : State) (a0 : Array Value) (hw : ∀ d ∈ tables_1, d.before a0 Z = true) (ws : List Jvm.Cond) (w0 : Addr) (w1 : Addr) (kw1 : ClassId) (p3 : Int32) (p4 : Int32) (p5 : Int32) (p6 : Int32) (p7 : Int32) (p8 : Int32) (p9 : Int32) (p10 : Int32) (p11 : Int32) (p12 : Int32) (p13 : Int32) (p14 : Int32) (p15 : Int32) (h0 : Heap) (n0 : Nat) (Z0 : n0 ≤ h0.size) (E_w0 : Exa Z h0 w0 "com/example/siltstone/siltstone/format/ByteSink") (F_w0_bytes : Fld Z h0 w0 "com/example/siltstone/siltstone/format/ByteSink" "bytes" "[B" (.ref w1)) (F_w0_size : Fld Z h0 w0 "com/example/siltstone/siltstone/format/ByteSink" "size" "I" (.int (73 : Int32))) (g_w0 : n0 ≤ w0) (E_w1 : Exa Z h0 w1 "[B") (V_w1 : Arv Z h0 w1 kw1 .byte (128 : Int32) ((.int p3) :: (.int (0 : Int32)) :: (.int (0 : Int32)) :: (.int (0 : Int32)) :: (.int (0 : Int32)) :: (.int (0 : Int32)) :: (.int (0 : Int32)) :: (.int (0 : Int32)) :: (.int (0 : Int32)) :: (.int (0 : Int32)) :: (.int (0 : Int32)) :: (.int (0 : Int32)) :: (.int (0 : Int32)) :: (.int (0 : Int32)) :: (.int (0 : Int32)) :: (.int (0 : Int32)) :: (.int (0 : Int32)) :: (.int (0 : Int32)) :: (.int (0 : Int32)) :: (.int (0 : Int32)) :: (.int (0 : Int32)) :: (.int (0 : Int32)) :: (.int (0 : Int32)) :: (.int (0 : Int32)) :: (.int (0 : Int32)) :: (.int (0 : Int32)) :: (.int (0 : Int32)) :: (.int (0 : Int32)) :: (.int (0 : Int32)) :: (.int (0 : Int32)) :: (.int (0 : Int32)) :: (.int (0 : Int32)) :: (.int (0 : Int32)) :: (.int (0 : Int32)) :: (.int (0 : Int32)) :: (.int (0 : Int32)) :: (.int (0 : Int32)) :: (.int (0 : Int32)) :: (.int (0 : Int32)) :: (.int (0 : Int32)) :: (.int (0 : Int32)) :: (.int (0 : Int32)) :: (.int (0 : Int32)) :: (.int (0 : Int32)) :: (.int (0 : Int32)) :: (.int (0 : Int32)) :: (.int (0 : Int32)) :: (.int (0 : Int32)) :: (.int (0 : Int32)) :: (.int (0 : Int32)) :: (.int (0 : Int32)) :: (.int (0 : Int32)) :: (.int (0 : Int32)) :: (.int (0 : Int32)) :: (.int (0 : Int32)) :: (.int (0 : Int32)) :: (.int (0 : Int32)) :: (.int (0 : Int32)) :: (.int (0 : Int32)) :: (.int p4) :: (.int p5) :: (.int p6) :: (.int p7) :: (.int p8) :: (.int p3) :: (.int p9) :: (.int p10) :: (.int p11) :: (.int p12) :: (.int p13) :: (.int p14) :: (.int p15) :: (.int p4) :: []) (.int (0 : Int32))) (g_w1 : n0 ≤ w1) (ne_w0_w1 : w0 ≠ w1) :
    MetFree l (⟨"com/example/siltstone/siltstone/format/ByteSink", "toByteArray", "()[B"⟩ : MethodName) (head1 (Jvm.Cond.code (⟨"com/example/siltstone/siltstone/format/ByteSink", "toByteArray", "()[B"⟩ : MethodName) prog_65_method_4_code 1 (some (.array .byte)) :: ws) ({ frames := 2, cells := 1, slots := 73, locals := 54 } : Room)) (fun a U => a = #[(.ref w0)] ∧ Z.Warmed39 U.vm ∧ U.heap = h0) (fun _ _ _ _ _ => True) (fun _ U o U' => ∃ v L, o = .returned v ∧ (Fr n0 L ∧ Q_35 Z w0 w1 kw1 p3 p4 p5 p6 p7 p8 p9 p10 p11 p12 p13 p14 p15 h0 n0 v U'.heap) ∧ FrameEnd U o U' L ({ frames := 2, cells := 1, slots := 73, locals := 54 } : Room).cells ({ frames := 2, cells := 1, slots := 73, locals := 54 } : Room).slots) := by
  refine own_enter (Q := Q_35 Z w0 w1 kw1 p3 p4 p5 p6 p7 p8 p9 p10 p11 p12 p13 p14 p15 h0 n0) (F := fun m => mkF m 0 #[.val (.ref w0)] []) (plainFor_of_name pn_0) (fun m => by first | (simp [entryFrame, mkF, argsToLocals, Value.category]; done) | rfl) ?_
  intro p e s m below meth c s₁ B X0
  have K : Keep h0 h0 [] := Keep.refl h0 _
  refine own_aloadN (pc' := 1) B X0 d7_0 rfl rfl rfl ?_
  refine own_getfield (pc' := 4) B X0 (host := "") (Or.inl (own_w hw 10 rfl)) Via.refl F_w0_bytes d7_1 rfl ?_
  intro T1 X1
  refine own_aloadN (pc' := 5) B X1 d7_4 rfl rfl rfl ?_
  refine own_getfield (pc' := 8) B X1 (host := "") (Or.inl (own_w hw 21 rfl)) Via.refl F_w0_size d7_5 rfl ?_
  intro T2 X2
  refine own_callS (pc' := 11) B X2 (own_w hw 38 rfl) (own_w hw 39 rfl) (own_w hw 40 rfl) (own_w hw 41 rfl) (by decide) [(.ref w1), (.int (73 : Int32))] [] (rm_36 l Z a0 hw [] w1 kw1 (p3) (p4) (p5) (p6) (p7) (p8) (p9) (p10) (p11) (p12) (p13) (p14) (p15) h0 n0 (Nat.le_trans Z0 K.1) E_w1 V_w1 g_w1) 0 (by decide) (by decide) rfl pd_4 rfl rfl (Nat.le_of_eq rfl) d7_8 rfl (k' := 1) (n' := 73) rfl rfl (by decide) (by decide) ?_
  intro T3 v3 h3 X3 q3
  have lt_w0 := E_w0.lt
  have lt_w1 := E_w1.lt
  obtain ⟨b4, k5, rfl, K3, z_b4, E_b4, V_b4⟩ := q3
  have ne_w0_b4 : w0 ≠ b4 := own_ne' lt_w0 z_b4
  have ne_w1_b4 : w1 ≠ b4 := own_ne' lt_w1 z_b4
  have sz_b4 : h0.size ≤ b4 := Nat.le_trans K.1 z_b4
  have g_b4 : n0 ≤ b4 := Nat.le_trans Z0 sz_b4
  replace K := K.trans K3 all0
  replace E_w0 := E_w0.keep K3
  replace F_w0_bytes := F_w0_bytes.keep K3 nin0
  replace F_w0_size := F_w0_size.keep K3 nin0
  replace E_w1 := E_w1.keep K3
  replace V_w1 := V_w1.keep K3 nin0
  show own_Go p e below (T3.setTop (mkF m 11 #[.val (.ref w0)] [(.ref b4)])) _
  exact own_retA B X3 (t := (.array .byte)) rfl rfl rfl d7_11 (by decide) (by decide) (⟨b4, k5, rfl, K, sz_b4, E_b4, V_b4⟩)
def Q_38 (Z : State) (w0 : Addr) (w1 : Addr) (kw1 : ClassId) (p3 : Int32) (p4 : Int32) (p5 : Int32) (p6 : Int32) (p7 : Int32) (p8 : Int32) (p9 : Int32) (p10 : Int32) (p11 : Int32) (p12 : Int32) (p13 : Int32) (p14 : Int32) (p15 : Int32) (h0 : Heap) (n0 : Nat) (v : Option Value) (h : Heap) : Prop :=
  (v = some (.int (73 : Int32)) ∧ h0 = h)
set_option maxRecDepth 65536 in
set_option maxHeartbeats 40000000 in
theorem rm_38 (l : Launch) (Z : State) (a0 : Array Value) (hw : ∀ d ∈ tables_1, d.before a0 Z = true) (ws : List Jvm.Cond) (w0 : Addr) (w1 : Addr) (kw1 : ClassId) (p3 : Int32) (p4 : Int32) (p5 : Int32) (p6 : Int32) (p7 : Int32) (p8 : Int32) (p9 : Int32) (p10 : Int32) (p11 : Int32) (p12 : Int32) (p13 : Int32) (p14 : Int32) (p15 : Int32) (h0 : Heap) (n0 : Nat) (Z0 : n0 ≤ h0.size) (E_w0 : Exa Z h0 w0 "com/example/siltstone/siltstone/format/ByteSink") (F_w0_bytes : Fld Z h0 w0 "com/example/siltstone/siltstone/format/ByteSink" "bytes" "[B" (.ref w1)) (F_w0_size : Fld Z h0 w0 "com/example/siltstone/siltstone/format/ByteSink" "size" "I" (.int (73 : Int32))) (g_w0 : n0 ≤ w0) (E_w1 : Exa Z h0 w1 "[B") (V_w1 : Arv Z h0 w1 kw1 .byte (128 : Int32) ((.int p3) :: (.int (0 : Int32)) :: (.int (0 : Int32)) :: (.int (0 : Int32)) :: (.int (0 : Int32)) :: (.int (0 : Int32)) :: (.int (0 : Int32)) :: (.int (0 : Int32)) :: (.int (0 : Int32)) :: (.int (0 : Int32)) :: (.int (0 : Int32)) :: (.int (0 : Int32)) :: (.int (0 : Int32)) :: (.int (0 : Int32)) :: (.int (0 : Int32)) :: (.int (0 : Int32)) :: (.int (0 : Int32)) :: (.int (0 : Int32)) :: (.int (0 : Int32)) :: (.int (0 : Int32)) :: (.int (0 : Int32)) :: (.int (0 : Int32)) :: (.int (0 : Int32)) :: (.int (0 : Int32)) :: (.int (0 : Int32)) :: (.int (0 : Int32)) :: (.int (0 : Int32)) :: (.int (0 : Int32)) :: (.int (0 : Int32)) :: (.int (0 : Int32)) :: (.int (0 : Int32)) :: (.int (0 : Int32)) :: (.int (0 : Int32)) :: (.int (0 : Int32)) :: (.int (0 : Int32)) :: (.int (0 : Int32)) :: (.int (0 : Int32)) :: (.int (0 : Int32)) :: (.int (0 : Int32)) :: (.int (0 : Int32)) :: (.int (0 : Int32)) :: (.int (0 : Int32)) :: (.int (0 : Int32)) :: (.int (0 : Int32)) :: (.int (0 : Int32)) :: (.int (0 : Int32)) :: (.int (0 : Int32)) :: (.int (0 : Int32)) :: (.int (0 : Int32)) :: (.int (0 : Int32)) :: (.int (0 : Int32)) :: (.int (0 : Int32)) :: (.int (0 : Int32)) :: (.int (0 : Int32)) :: (.int (0 : Int32)) :: (.int (0 : Int32)) :: (.int (0 : Int32)) :: (.int (0 : Int32)) :: (.int (0 : Int32)) :: (.int p4) :: (.int p5) :: (.int p6) :: (.int p7) :: (.int p8) :: (.int p3) :: (.int p9) :: (.int p10) :: (.int p11) :: (.int p12) :: (.int p13) :: (.int p14) :: (.int p15) :: (.int p4) :: []) (.int (0 : Int32))) (g_w1 : n0 ≤ w1) (ne_w0_w1 : w0 ≠ w1) :
    MetFree l (⟨"com/example/siltstone/siltstone/format/ByteSink", "size", "()I"⟩ : MethodName) (head1 (Jvm.Cond.code (⟨"com/example/siltstone/siltstone/format/ByteSink", "size", "()I"⟩ : MethodName) prog_65_method_2_code 1 (some .int) :: ws) ({ frames := 0, cells := 0, slots := 0, locals := 0 } : Room)) (fun a U => a = #[(.ref w0)] ∧ Z.Warmed39 U.vm ∧ U.heap = h0) (fun _ _ _ _ _ => True) (fun _ U o U' => ∃ v L, o = .returned v ∧ (Fr n0 L ∧ Q_38 Z w0 w1 kw1 p3 p4 p5 p6 p7 p8 p9 p10 p11 p12 p13 p14 p15 h0 n0 v U'.heap) ∧ FrameEnd U o U' L ({ frames := 0, cells := 0, slots := 0, locals := 0 } : Room).cells ({ frames := 0, cells := 0, slots := 0, locals := 0 } : Room).slots) := by
  refine own_enter (Q := Q_38 Z w0 w1 kw1 p3 p4 p5 p6 p7 p8 p9 p10 p11 p12 p13 p14 p15 h0 n0) (F := fun m => mkF m 0 #[.val (.ref w0)] []) (plainFor_of_name pn_0) (fun m => by first | (simp [entryFrame, mkF, argsToLocals, Value.category]; done) | rfl) ?_
  intro p e s m below meth c s₁ B X0
  have K : Keep h0 h0 [] := Keep.refl h0 _
  refine own_aloadN (pc' := 1) B X0 d10_0 rfl rfl rfl ?_
  refine own_getfield (pc' := 4) B X0 (host := "") (Or.inl (own_w hw 21 rfl)) Via.refl F_w0_size d10_1 rfl ?_
  intro T1 X1
  exact own_retI B X1 d10_4 (by decide) (by decide) (⟨rfl, rfl⟩)
def Q_39 (Z : State) (w0 : Addr) (w1 : Addr) (kw1 : ClassId) (p3 : Int32) (p4 : Int32) (p5 : Int32) (p6 : Int32) (p7 : Int32) (p8 : Int32) (p9 : Int32) (p10 : Int32) (p11 : Int32) (p12 : Int32) (p13 : Int32) (p14 : Int32) (p15 : Int32) (h0 : Heap) (n0 : Nat) (v : Option Value) (h : Heap) : Prop :=
  (v = none ∧ Keep h0 h [w0] ∧ Exa Z h w0 "com/example/siltstone/siltstone/format/ByteSink" ∧ Fld Z h w0 "com/example/siltstone/siltstone/format/ByteSink" "bytes" "[B" (.ref w1) ∧ Fld Z h w0 "com/example/siltstone/siltstone/format/ByteSink" "size" "I" (.int (0 : Int32)))
set_option maxRecDepth 65536 in
set_option maxHeartbeats 40000000 in
theorem rm_39 (l : Launch) (Z : State) (a0 : Array Value) (hw : ∀ d ∈ tables_1, d.before a0 Z = true) (ws : List Jvm.Cond) (w0 : Addr) (w1 : Addr) (kw1 : ClassId) (p3 : Int32) (p4 : Int32) (p5 : Int32) (p6 : Int32) (p7 : Int32) (p8 : Int32) (p9 : Int32) (p10 : Int32) (p11 : Int32) (p12 : Int32) (p13 : Int32) (p14 : Int32) (p15 : Int32) (h0 : Heap) (n0 : Nat) (Z0 : n0 ≤ h0.size) (E_w0 : Exa Z h0 w0 "com/example/siltstone/siltstone/format/ByteSink") (F_w0_bytes : Fld Z h0 w0 "com/example/siltstone/siltstone/format/ByteSink" "bytes" "[B" (.ref w1)) (F_w0_size : Fld Z h0 w0 "com/example/siltstone/siltstone/format/ByteSink" "size" "I" (.int (73 : Int32))) (g_w0 : n0 ≤ w0) (E_w1 : Exa Z h0 w1 "[B") (V_w1 : Arv Z h0 w1 kw1 .byte (128 : Int32) ((.int p3) :: (.int (0 : Int32)) :: (.int (0 : Int32)) :: (.int (0 : Int32)) :: (.int (0 : Int32)) :: (.int (0 : Int32)) :: (.int (0 : Int32)) :: (.int (0 : Int32)) :: (.int (0 : Int32)) :: (.int (0 : Int32)) :: (.int (0 : Int32)) :: (.int (0 : Int32)) :: (.int (0 : Int32)) :: (.int (0 : Int32)) :: (.int (0 : Int32)) :: (.int (0 : Int32)) :: (.int (0 : Int32)) :: (.int (0 : Int32)) :: (.int (0 : Int32)) :: (.int (0 : Int32)) :: (.int (0 : Int32)) :: (.int (0 : Int32)) :: (.int (0 : Int32)) :: (.int (0 : Int32)) :: (.int (0 : Int32)) :: (.int (0 : Int32)) :: (.int (0 : Int32)) :: (.int (0 : Int32)) :: (.int (0 : Int32)) :: (.int (0 : Int32)) :: (.int (0 : Int32)) :: (.int (0 : Int32)) :: (.int (0 : Int32)) :: (.int (0 : Int32)) :: (.int (0 : Int32)) :: (.int (0 : Int32)) :: (.int (0 : Int32)) :: (.int (0 : Int32)) :: (.int (0 : Int32)) :: (.int (0 : Int32)) :: (.int (0 : Int32)) :: (.int (0 : Int32)) :: (.int (0 : Int32)) :: (.int (0 : Int32)) :: (.int (0 : Int32)) :: (.int (0 : Int32)) :: (.int (0 : Int32)) :: (.int (0 : Int32)) :: (.int (0 : Int32)) :: (.int (0 : Int32)) :: (.int (0 : Int32)) :: (.int (0 : Int32)) :: (.int (0 : Int32)) :: (.int (0 : Int32)) :: (.int (0 : Int32)) :: (.int (0 : Int32)) :: (.int (0 : Int32)) :: (.int (0 : Int32)) :: (.int (0 : Int32)) :: (.int p4) :: (.int p5) :: (.int p6) :: (.int p7) :: (.int p8) :: (.int p3) :: (.int p9) :: (.int p10) :: (.int p11) :: (.int p12) :: (.int p13) :: (.int p14) :: (.int p15) :: (.int p4) :: []) (.int (0 : Int32))) (g_w1 : n0 ≤ w1) (ne_w0_w1 : w0 ≠ w1) :
    MetFree l (⟨"com/example/siltstone/siltstone/format/ByteSink", "clear", "()V"⟩ : MethodName) (head1 (Jvm.Cond.code (⟨"com/example/siltstone/siltstone/format/ByteSink", "clear", "()V"⟩ : MethodName) prog_65_method_3_code 1 none :: ws) ({ frames := 0, cells := 0, slots := 0, locals := 0 } : Room)) (fun a U => a = #[(.ref w0)] ∧ Z.Warmed39 U.vm ∧ U.heap = h0) (fun _ _ _ _ _ => True) (fun _ U o U' => ∃ v L, o = .returned v ∧ (Fr n0 L ∧ Q_39 Z w0 w1 kw1 p3 p4 p5 p6 p7 p8 p9 p10 p11 p12 p13 p14 p15 h0 n0 v U'.heap) ∧ FrameEnd U o U' L ({ frames := 0, cells := 0, slots := 0, locals := 0 } : Room).cells ({ frames := 0, cells := 0, slots := 0, locals := 0 } : Room).slots) := by
  refine own_enter (Q := Q_39 Z w0 w1 kw1 p3 p4 p5 p6 p7 p8 p9 p10 p11 p12 p13 p14 p15 h0 n0) (F := fun m => mkF m 0 #[.val (.ref w0)] []) (plainFor_of_name pn_0) (fun m => by first | (simp [entryFrame, mkF, argsToLocals, Value.category]; done) | rfl) ?_
  intro p e s m below meth c s₁ B X0
  have K : Keep h0 h0 [w0] := Keep.refl h0 _
  refine own_aloadN (pc' := 1) B X0 d14_0 rfl rfl rfl ?_
  refine own_iconst (pc' := 2) B X0 (z := (0 : Int32)) d14_1 rfl rfl ?_
  refine own_putfield (pc' := 5) B X0 (host := "") (Or.inl (own_w hw 21 rfl)) Via.refl F_w0_size E_w0 g_w0 (Or.inl (own_w hw 22 rfl)) (own_w hw 2 rfl) (ty := .int) (by decide) rfl rfl d14_2 rfl ?_
  intro T1 h1 X1 W1 F_w0_size
  replace E_w0 := E_w0.wr W1
  replace F_w0_bytes := F_w0_bytes.other W1 (Or.inr (slot_ne (Or.inl (own_w hw 11 rfl)) (Or.inl (own_w hw 22 rfl)) (by decide) (t := (.array .byte)) (t' := .int) (by decide) (by decide)))
  replace E_w1 := E_w1.wr W1
  replace V_w1 := V_w1.other W1 (Ne.symm ne_w0_w1)
  replace K := K.wr W1 (Or.inl (List.mem_of_getElem? (i := 0) rfl))
  exact own_ret B X1 d14_5 (by decide) (by decide) (⟨rfl, K, E_w0, F_w0_bytes, F_w0_size⟩)
def Q_42 (Z : State)  (h0 : Heap) (n0 : Nat) (v : Option Value) (h : Heap) : Prop :=
  (v = some (.int (0 : Int32)) ∧ h0 = h)
set_option maxRecDepth 65536 in
set_option maxHeartbeats 40000000 in
theorem rm_42 (l : Launch) (Z : State) (a0 : Array Value) (hw : ∀ d ∈ tables_1, d.before a0 Z = true) (ws : List Jvm.Cond)  (h0 : Heap) (n0 : Nat) (Z0 : n0 ≤ h0.size)  :
    MetFree l (⟨"java/lang/Math", "min", "(II)I"⟩ : MethodName) (head1 (Jvm.Cond.code (⟨"java/lang/Math", "min", "(II)I"⟩ : MethodName) jdk_29_method_69_code 2 (some .int) :: ws) ({ frames := 0, cells := 0, slots := 0, locals := 0 } : Room)) (fun a U => a = #[(.int (128 : Int32)), (.int (0 : Int32))] ∧ Z.Warmed39 U.vm ∧ U.heap = h0) (fun _ _ _ _ _ => True) (fun _ U o U' => ∃ v L, o = .returned v ∧ (Fr n0 L ∧ Q_42 Z  h0 n0 v U'.heap) ∧ FrameEnd U o U' L ({ frames := 0, cells := 0, slots := 0, locals := 0 } : Room).cells ({ frames := 0, cells := 0, slots := 0, locals := 0 } : Room).slots) := by
  refine own_enter (Q := Q_42 Z  h0 n0) (F := fun m => mkF m 0 #[.val (.int (128 : Int32)), .val (.int (0 : Int32))] []) (Jvm.Free.JP.mathPlain rfl (by decide +kernel)) (fun m => by first | (simp [entryFrame, mkF, argsToLocals, Value.category]; done) | rfl) ?_
  intro p e s m below meth c s₁ B X0
  have K : Keep h0 h0 [] := Keep.refl h0 _
  refine own_iloadN (pc' := 1) B X0 d9_0 rfl rfl ?_
  refine own_iloadN (pc' := 2) B X0 d9_1 rfl rfl ?_
  refine own_icmpYes (pc' := 9) B X0 d9_2 (tlt (by decide : (0 : Int32) < (128 : Int32))).2.2.1 (by decide) rfl ?_
  refine own_iloadN (pc' := 10) B X0 d9_9 rfl rfl ?_
  exact own_retI B X0 d9_10 (by decide) (by decide) (⟨rfl, rfl⟩)
def Q_41 (Z : State) (w0 : Addr) (kw0 : ClassId) (p2 : Int32) (p3 : Int32) (p4 : Int32) (p5 : Int32) (p6 : Int32) (p7 : Int32) (p8 : Int32) (p9 : Int32) (p10 : Int32) (p11 : Int32) (p12 : Int32) (p13 : Int32) (p14 : Int32) (h0 : Heap) (n0 : Nat) (v : Option Value) (h : Heap) : Prop :=
  (∃ (b1 : Addr) (kb1 : ClassId), v = some (.ref b1) ∧ Keep h0 h [] ∧ h0.size ≤ b1 ∧ Exa Z h b1 "[B" ∧ Arv Z h b1 kb1 .byte (0 : Int32) [] (.int (0 : Int32)))
set_option maxRecDepth 65536 in
set_option maxHeartbeats 40000000 in
theorem rm_41 (l : Launch) (Z : State) (a0 : Array Value) (hw : ∀ d ∈ tables_1, d.before a0 Z = true) (ws : List Jvm.Cond) (w0 : Addr) (kw0 : ClassId) (p2 : Int32) (p3 : Int32) (p4 : Int32) (p5 : Int32) (p6 : Int32) (p7 : Int32) (p8 : Int32) (p9 : Int32) (p10 : Int32) (p11 : Int32) (p12 : Int32) (p13 : Int32) (p14 : Int32) (h0 : Heap) (n0 : Nat) (Z0 : n0 ≤ h0.size) (E_w0 : Exa Z h0 w0 "[B") (V_w0 : Arv Z h0 w0 kw0 .byte (128 : Int32) ((.int p2) :: (.int (0 : Int32)) :: (.int (0 : Int32)) :: (.int (0 : Int32)) :: (.int (0 : Int32)) :: (.int (0 : Int32)) :: (.int (0 : Int32)) :: (.int (0 : Int32)) :: (.int (0 : Int32)) :: (.int (0 : Int32)) :: (.int (0 : Int32)) :: (.int (0 : Int32)) :: (.int (0 : Int32)) :: (.int (0 : Int32)) :: (.int (0 : Int32)) :: (.int (0 : Int32)) :: (.int (0 : Int32)) :: (.int (0 : Int32)) :: (.int (0 : Int32)) :: (.int (0 : Int32)) :: (.int (0 : Int32)) :: (.int (0 : Int32)) :: (.int (0 : Int32)) :: (.int (0 : Int32)) :: (.int (0 : Int32)) :: (.int (0 : Int32)) :: (.int (0 : Int32)) :: (.int (0 : Int32)) :: (.int (0 : Int32)) :: (.int (0 : Int32)) :: (.int (0 : Int32)) :: (.int (0 : Int32)) :: (.int (0 : Int32)) :: (.int (0 : Int32)) :: (.int (0 : Int32)) :: (.int (0 : Int32)) :: (.int (0 : Int32)) :: (.int (0 : Int32)) :: (.int (0 : Int32)) :: (.int (0 : Int32)) :: (.int (0 : Int32)) :: (.int (0 : Int32)) :: (.int (0 : Int32)) :: (.int (0 : Int32)) :: (.int (0 : Int32)) :: (.int (0 : Int32)) :: (.int (0 : Int32)) :: (.int (0 : Int32)) :: (.int (0 : Int32)) :: (.int (0 : Int32)) :: (.int (0 : Int32)) :: (.int (0 : Int32)) :: (.int (0 : Int32)) :: (.int (0 : Int32)) :: (.int (0 : Int32)) :: (.int (0 : Int32)) :: (.int (0 : Int32)) :: (.int (0 : Int32)) :: (.int (0 : Int32)) :: (.int p3) :: (.int p4) :: (.int p5) :: (.int p6) :: (.int p7) :: (.int p2) :: (.int p8) :: (.int p9) :: (.int p10) :: (.int p11) :: (.int p12) :: (.int p13) :: (.int p14) :: (.int p3) :: []) (.int (0 : Int32))) (g_w0 : n0 ≤ w0) :
    MetFree l (⟨"java/util/Arrays", "copyOf", "([BI)[B"⟩ : MethodName) (head1 (Jvm.Cond.code (⟨"java/util/Arrays", "copyOf", "([BI)[B"⟩ : MethodName) jdk_65_method_121_code 3 (some (.array .byte)) :: ws) ({ frames := 1, cells := 1, slots := 0, locals := 40 } : Room)) (fun a U => a = #[(.ref w0), (.int (0 : Int32))] ∧ Z.Warmed39 U.vm ∧ U.heap = h0) (fun _ _ _ _ _ => True) (fun _ U o U' => ∃ v L, o = .returned v ∧ (Fr n0 L ∧ Q_41 Z w0 kw0 p2 p3 p4 p5 p6 p7 p8 p9 p10 p11 p12 p13 p14 h0 n0 v U'.heap) ∧ FrameEnd U o U' L ({ frames := 1, cells := 1, slots := 0, locals := 40 } : Room).cells ({ frames := 1, cells := 1, slots := 0, locals := 40 } : Room).slots) := by
  refine own_enter (Q := Q_41 Z w0 kw0 p2 p3 p4 p5 p6 p7 p8 p9 p10 p11 p12 p13 p14 h0 n0) (F := fun m => mkF m 0 #[.val (.ref w0), .val (.int (0 : Int32)), .unset] []) (plainFor_of_name pn_1) (fun m => by first | (simp [entryFrame, mkF, argsToLocals, Value.category]; done) | rfl) ?_
  intro p e s m below meth c s₁ B X0
  have K : Keep h0 h0 [] := Keep.refl h0 _
  refine own_iloadN (pc' := 1) B X0 d8_0 rfl rfl ?_
  refine own_aloadN (pc' := 2) B X0 d8_1 rfl rfl rfl ?_
  refine own_arraylength (pc' := 3) B X0 V_w0 d8_2 rfl ?_
  refine own_icmpYes (pc' := 14) B X0 d8_3 (feq (by decide : ¬ ((0 : Int32) = (128 : Int32)))).2 (by decide) rfl ?_
  refine own_iloadN (pc' := 15) B X0 d8_14 rfl rfl ?_
  refine own_newarray (pc' := 17) B X0 (own_w hw 0 rfl) d8_15 rfl rfl (by decide) 0 (by decide) (by decide) (k' := 1) (n' := 0) rfl rfl (by decide) (by decide) "[B" (by decide) (.int (0 : Int32)) rfl ?_
  intro T1 h1 b1 kb1 X1 g1 E1 V_b1 E_b1
  have ne_w0_b1 : w0 ≠ b1 := own_ne E_w0.lt g1
  have sz_b1 : h0.size ≤ b1 := own_sz K g1
  have g_b1 : n0 ≤ b1 := Nat.le_trans Z0 sz_b1
  replace K := K.ext E1
  replace E_w0 := E_w0.ext E1
  replace V_w0 := V_w0.ext E1
  refine own_astoreN (pc' := 18) B X1 (Ls' := #[.val (.ref w0), .val (.int (0 : Int32)), .val (.ref b1)]) d8_17 rfl rfl rfl ?_
  refine own_aloadN (pc' := 19) B X1 d8_18 rfl rfl rfl ?_
  refine own_iconst (pc' := 20) B X1 (z := (0 : Int32)) d8_19 rfl rfl ?_
  refine own_aloadN (pc' := 21) B X1 d8_20 rfl rfl rfl ?_
  refine own_iconst (pc' := 22) B X1 (z := (0 : Int32)) d8_21 rfl rfl ?_
  refine own_aloadN (pc' := 23) B X1 d8_22 rfl rfl rfl ?_
  refine own_arraylength (pc' := 24) B X1 V_w0 d8_23 rfl ?_
  refine own_iloadN (pc' := 25) B X1 d8_24 rfl rfl ?_
  refine own_callS (pc' := 28) B X1 (own_w hw 42 rfl) (own_w hw 43 rfl) (own_w hw 44 rfl) (own_w hw 45 rfl) (by decide) [(.int (128 : Int32)), (.int (0 : Int32))] [(.int (0 : Int32)), (.ref b1), (.int (0 : Int32)), (.ref w0)] (rm_42 l Z a0 hw []  h1 n0 (Nat.le_trans Z0 K.1) ) 4 (by decide) (by decide) rfl pd_3 rfl rfl (Nat.le_of_eq rfl) d8_25 rfl (k' := 1) (n' := 0) rfl rfl (by decide) (by decide) ?_
  intro T2 v2 h2 X2 q2
  obtain ⟨rfl, rfl⟩ := q2
  show own_Go p e below (T2.setTop (mkF m 28 #[.val (.ref w0), .val (.int (0 : Int32)), .val (.ref b1)] [(.int (0 : Int32)), (.int (0 : Int32)), (.ref b1), (.int (0 : Int32)), (.ref w0)])) _
  refine own_arraycopy (pc' := 31) B X2 (own_w hw 46 rfl) (own_w hw 49 rfl) (own_w hw 47 rfl) (own_w hw 48 rfl) V_w0 V_b1 rfl g_b1 (by decide) (by decide) (by decide) (by decide) (by decide) (us := []) rfl (Nat.le_of_ble_eq_true rfl) (rs := []) rfl d8_28 rfl rfl (by decide) 0 (Nat.le_of_eq rfl) (by decide) ?_
  intro T3 h3 X3 K3 V_b1
  replace K := K.trans K3 (allS (Or.inr sz_b1) all0)
  replace E_w0 := E_w0.keep K3
  replace V_w0 := V_w0.keep K3 (ninS ne_w0_b1 nin0)
  replace E_b1 := E_b1.keep K3
  refine own_aloadN (pc' := 32) B X3 d8_31 rfl rfl rfl ?_
  exact own_retA B X3 (t := (.array .byte)) rfl rfl rfl d8_32 (by decide) (by decide) (⟨b1, kb1, rfl, K, sz_b1, E_b1, V_b1⟩)
def Q_40 (Z : State) (w0 : Addr) (w1 : Addr) (kw1 : ClassId) (p3 : Int32) (p4 : Int32) (p5 : Int32) (p6 : Int32) (p7 : Int32) (p8 : Int32) (p9 : Int32) (p10 : Int32) (p11 : Int32) (p12 : Int32) (p13 : Int32) (p14 : Int32) (p15 : Int32) (h0 : Heap) (n0 : Nat) (v : Option Value) (h : Heap) : Prop :=
  (∃ (b4 : Addr) (k5 : ClassId), v = some (.ref b4) ∧ Keep h0 h [] ∧ h0.size ≤ b4 ∧ Exa Z h b4 "[B" ∧ Arv Z h b4 k5 .byte (0 : Int32) [] (.int (0 : Int32)))
set_option maxRecDepth 65536 in
set_option maxHeartbeats 40000000 in
theorem rm_40 (l : Launch) (Z : State) (a0 : Array Value) (hw : ∀ d ∈ tables_1, d.before a0 Z = true) (ws : List Jvm.Cond) (w0 : Addr) (w1 : Addr) (kw1 : ClassId) (p3 : Int32) (p4 : Int32) (p5 : Int32) (p6 : Int32) (p7 : Int32) (p8 : Int32) (p9 : Int32) (p10 : Int32) (p11 : Int32) (p12 : Int32) (p13 : Int32) (p14 : Int32) (p15 : Int32) (h0 : Heap) (n0 : Nat) (Z0 : n0 ≤ h0.size) (E_w0 : Exa Z h0 w0 "com/example/siltstone/siltstone/format/ByteSink") (F_w0_bytes : Fld Z h0 w0 "com/example/siltstone/siltstone/format/ByteSink" "bytes" "[B" (.ref w1)) (F_w0_size : Fld Z h0 w0 "com/example/siltstone/siltstone/format/ByteSink" "size" "I" (.int (0 : Int32))) (g_w0 : n0 ≤ w0) (E_w1 : Exa Z h0 w1 "[B") (V_w1 : Arv Z h0 w1 kw1 .byte (128 : Int32) ((.int p3) :: (.int (0 : Int32)) :: (.int (0 : Int32)) :: (.int (0 : Int32)) :: (.int (0 : Int32)) :: (.int (0 : Int32)) :: (.int (0 : Int32)) :: (.int (0 : Int32)) :: (.int (0 : Int32)) :: (.int (0 : Int32)) :: (.int (0 : Int32)) :: (.int (0 : Int32)) :: (.int (0 : Int32)) :: (.int (0 : Int32)) :: (.int (0 : Int32)) :: (.int (0 : Int32)) :: (.int (0 : Int32)) :: (.int (0 : Int32)) :: (.int (0 : Int32)) :: (.int (0 : Int32)) :: (.int (0 : Int32)) :: (.int (0 : Int32)) :: (.int (0 : Int32)) :: (.int (0 : Int32)) :: (.int (0 : Int32)) :: (.int (0 : Int32)) :: (.int (0 : Int32)) :: (.int (0 : Int32)) :: (.int (0 : Int32)) :: (.int (0 : Int32)) :: (.int (0 : Int32)) :: (.int (0 : Int32)) :: (.int (0 : Int32)) :: (.int (0 : Int32)) :: (.int (0 : Int32)) :: (.int (0 : Int32)) :: (.int (0 : Int32)) :: (.int (0 : Int32)) :: (.int (0 : Int32)) :: (.int (0 : Int32)) :: (.int (0 : Int32)) :: (.int (0 : Int32)) :: (.int (0 : Int32)) :: (.int (0 : Int32)) :: (.int (0 : Int32)) :: (.int (0 : Int32)) :: (.int (0 : Int32)) :: (.int (0 : Int32)) :: (.int (0 : Int32)) :: (.int (0 : Int32)) :: (.int (0 : Int32)) :: (.int (0 : Int32)) :: (.int (0 : Int32)) :: (.int (0 : Int32)) :: (.int (0 : Int32)) :: (.int (0 : Int32)) :: (.int (0 : Int32)) :: (.int (0 : Int32)) :: (.int (0 : Int32)) :: (.int p4) :: (.int p5) :: (.int p6) :: (.int p7) :: (.int p8) :: (.int p3) :: (.int p9) :: (.int p10) :: (.int p11) :: (.int p12) :: (.int p13) :: (.int p14) :: (.int p15) :: (.int p4) :: []) (.int (0 : Int32))) (g_w1 : n0 ≤ w1) (ne_w0_w1 : w0 ≠ w1) :
    MetFree l (⟨"com/example/siltstone/siltstone/format/ByteSink", "toByteArray", "()[B"⟩ : MethodName) (head1 (Jvm.Cond.code (⟨"com/example/siltstone/siltstone/format/ByteSink", "toByteArray", "()[B"⟩ : MethodName) prog_65_method_4_code 1 (some (.array .byte)) :: ws) ({ frames := 2, cells := 1, slots := 0, locals := 54 } : Room)) (fun a U => a = #[(.ref w0)] ∧ Z.Warmed39 U.vm ∧ U.heap = h0) (fun _ _ _ _ _ => True) (fun _ U o U' => ∃ v L, o = .returned v ∧ (Fr n0 L ∧ Q_40 Z w0 w1 kw1 p3 p4 p5 p6 p7 p8 p9 p10 p11 p12 p13 p14 p15 h0 n0 v U'.heap) ∧ FrameEnd U o U' L ({ frames := 2, cells := 1, slots := 0, locals := 54 } : Room).cells ({ frames := 2, cells := 1, slots := 0, locals := 54 } : Room).slots) := by
  refine own_enter (Q := Q_40 Z w0 w1 kw1 p3 p4 p5 p6 p7 p8 p9 p10 p11 p12 p13 p14 p15 h0 n0) (F := fun m => mkF m 0 #[.val (.ref w0)] []) (plainFor_of_name pn_0) (fun m => by first | (simp [entryFrame, mkF, argsToLocals, Value.category]; done) | rfl) ?_
  intro p e s m below meth c s₁ B X0
  have K : Keep h0 h0 [] := Keep.refl h0 _
  refine own_aloadN (pc' := 1) B X0 d7_0 rfl rfl rfl ?_
  refine own_getfield (pc' := 4) B X0 (host := "") (Or.inl (own_w hw 10 rfl)) Via.refl F_w0_bytes d7_1 rfl ?_
  intro T1 X1
  refine own_aloadN (pc' := 5) B X1 d7_4 rfl rfl rfl ?_
  refine own_getfield (pc' := 8) B X1 (host := "") (Or.inl (own_w hw 21 rfl)) Via.refl F_w0_size d7_5 rfl ?_
  intro T2 X2
  refine own_callS (pc' := 11) B X2 (own_w hw 38 rfl) (own_w hw 39 rfl) (own_w hw 40 rfl) (own_w hw 41 rfl) (by decide) [(.ref w1), (.int (0 : Int32))] [] (rm_41 l Z a0 hw [] w1 kw1 (p3) (p4) (p5) (p6) (p7) (p8) (p9) (p10) (p11) (p12) (p13) (p14) (p15) h0 n0 (Nat.le_trans Z0 K.1) E_w1 V_w1 g_w1) 0 (by decide) (by decide) rfl pd_4 rfl rfl (Nat.le_of_eq rfl) d7_8 rfl (k' := 1) (n' := 0) rfl rfl (by decide) (by decide) ?_
  intro T3 v3 h3 X3 q3
  have lt_w0 := E_w0.lt
  have lt_w1 := E_w1.lt
  obtain ⟨b4, k5, rfl, K3, z_b4, E_b4, V_b4⟩ := q3
  have ne_w0_b4 : w0 ≠ b4 := own_ne' lt_w0 z_b4
  have ne_w1_b4 : w1 ≠ b4 := own_ne' lt_w1 z_b4
  have sz_b4 : h0.size ≤ b4 := Nat.le_trans K.1 z_b4
  have g_b4 : n0 ≤ b4 := Nat.le_trans Z0 sz_b4
  replace K := K.trans K3 all0
  replace E_w0 := E_w0.keep K3
  replace F_w0_bytes := F_w0_bytes.keep K3 nin0
  replace F_w0_size := F_w0_size.keep K3 nin0
  replace E_w1 := E_w1.keep K3
  replace V_w1 := V_w1.keep K3 nin0
  show own_Go p e below (T3.setTop (mkF m 11 #[.val (.ref w0)] [(.ref b4)])) _
  exact own_retA B X3 (t := (.array .byte)) rfl rfl rfl d7_11 (by decide) (by decide) (⟨b4, k5, rfl, K, sz_b4, E_b4, V_b4⟩)
def Q_43 (Z : State) (w0 : Addr) (w1 : Addr) (kw1 : ClassId) (p3 : Int32) (p4 : Int32) (p5 : Int32) (p6 : Int32) (p7 : Int32) (p8 : Int32) (p9 : Int32) (p10 : Int32) (p11 : Int32) (p12 : Int32) (p13 : Int32) (p14 : Int32) (p15 : Int32) (h0 : Heap) (n0 : Nat) (v : Option Value) (h : Heap) : Prop :=
  (v = some (.int (0 : Int32)) ∧ h0 = h)
set_option maxRecDepth 65536 in
set_option maxHeartbeats 40000000 in
theorem rm_43 (l : Launch) (Z : State) (a0 : Array Value) (hw : ∀ d ∈ tables_1, d.before a0 Z = true) (ws : List Jvm.Cond) (w0 : Addr) (w1 : Addr) (kw1 : ClassId) (p3 : Int32) (p4 : Int32) (p5 : Int32) (p6 : Int32) (p7 : Int32) (p8 : Int32) (p9 : Int32) (p10 : Int32) (p11 : Int32) (p12 : Int32) (p13 : Int32) (p14 : Int32) (p15 : Int32) (h0 : Heap) (n0 : Nat) (Z0 : n0 ≤ h0.size) (E_w0 : Exa Z h0 w0 "com/example/siltstone/siltstone/format/ByteSink") (F_w0_bytes : Fld Z h0 w0 "com/example/siltstone/siltstone/format/ByteSink" "bytes" "[B" (.ref w1)) (F_w0_size : Fld Z h0 w0 "com/example/siltstone/siltstone/format/ByteSink" "size" "I" (.int (0 : Int32))) (g_w0 : n0 ≤ w0) (E_w1 : Exa Z h0 w1 "[B") (V_w1 : Arv Z h0 w1 kw1 .byte (128 : Int32) ((.int p3) :: (.int (0 : Int32)) :: (.int (0 : Int32)) :: (.int (0 : Int32)) :: (.int (0 : Int32)) :: (.int (0 : Int32)) :: (.int (0 : Int32)) :: (.int (0 : Int32)) :: (.int (0 : Int32)) :: (.int (0 : Int32)) :: (.int (0 : Int32)) :: (.int (0 : Int32)) :: (.int (0 : Int32)) :: (.int (0 : Int32)) :: (.int (0 : Int32)) :: (.int (0 : Int32)) :: (.int (0 : Int32)) :: (.int (0 : Int32)) :: (.int (0 : Int32)) :: (.int (0 : Int32)) :: (.int (0 : Int32)) :: (.int (0 : Int32)) :: (.int (0 : Int32)) :: (.int (0 : Int32)) :: (.int (0 : Int32)) :: (.int (0 : Int32)) :: (.int (0 : Int32)) :: (.int (0 : Int32)) :: (.int (0 : Int32)) :: (.int (0 : Int32)) :: (.int (0 : Int32)) :: (.int (0 : Int32)) :: (.int (0 : Int32)) :: (.int (0 : Int32)) :: (.int (0 : Int32)) :: (.int (0 : Int32)) :: (.int (0 : Int32)) :: (.int (0 : Int32)) :: (.int (0 : Int32)) :: (.int (0 : Int32)) :: (.int (0 : Int32)) :: (.int (0 : Int32)) :: (.int (0 : Int32)) :: (.int (0 : Int32)) :: (.int (0 : Int32)) :: (.int (0 : Int32)) :: (.int (0 : Int32)) :: (.int (0 : Int32)) :: (.int (0 : Int32)) :: (.int (0 : Int32)) :: (.int (0 : Int32)) :: (.int (0 : Int32)) :: (.int (0 : Int32)) :: (.int (0 : Int32)) :: (.int (0 : Int32)) :: (.int (0 : Int32)) :: (.int (0 : Int32)) :: (.int (0 : Int32)) :: (.int (0 : Int32)) :: (.int p4) :: (.int p5) :: (.int p6) :: (.int p7) :: (.int p8) :: (.int p3) :: (.int p9) :: (.int p10) :: (.int p11) :: (.int p12) :: (.int p13) :: (.int p14) :: (.int p15) :: (.int p4) :: []) (.int (0 : Int32))) (g_w1 : n0 ≤ w1) (ne_w0_w1 : w0 ≠ w1) :
    MetFree l (⟨"com/example/siltstone/siltstone/format/ByteSink", "size", "()I"⟩ : MethodName) (head1 (Jvm.Cond.code (⟨"com/example/siltstone/siltstone/format/ByteSink", "size", "()I"⟩ : MethodName) prog_65_method_2_code 1 (some .int) :: ws) ({ frames := 0, cells := 0, slots := 0, locals := 0 } : Room)) (fun a U => a = #[(.ref w0)] ∧ Z.Warmed39 U.vm ∧ U.heap = h0) (fun _ _ _ _ _ => True) (fun _ U o U' => ∃ v L, o = .returned v ∧ (Fr n0 L ∧ Q_43 Z w0 w1 kw1 p3 p4 p5 p6 p7 p8 p9 p10 p11 p12 p13 p14 p15 h0 n0 v U'.heap) ∧ FrameEnd U o U' L ({ frames := 0, cells := 0, slots := 0, locals := 0 } : Room).cells ({ frames := 0, cells := 0, slots := 0, locals := 0 } : Room).slots) := by
  refine own_enter (Q := Q_43 Z w0 w1 kw1 p3 p4 p5 p6 p7 p8 p9 p10 p11 p12 p13 p14 p15 h0 n0) (F := fun m => mkF m 0 #[.val (.ref w0)] []) (plainFor_of_name pn_0) (fun m => by first | (simp [entryFrame, mkF, argsToLocals, Value.category]; done) | rfl) ?_
  intro p e s m below meth c s₁ B X0
  have K : Keep h0 h0 [] := Keep.refl h0 _
  refine own_aloadN (pc' := 1) B X0 d10_0 rfl rfl rfl ?_
  refine own_getfield (pc' := 4) B X0 (host := "") (Or.inl (own_w hw 21 rfl)) Via.refl F_w0_size d10_1 rfl ?_
  intro T1 X1
  exact own_retI B X1 d10_4 (by decide) (by decide) (⟨rfl, rfl⟩)
def Q_45 (Z : State) (w0 : Addr) (w1 : Addr) (kw1 : ClassId) (p3 : Int32) (p4 : Int32) (p5 : Int32) (p6 : Int32) (p7 : Int32) (p8 : Int32) (p9 : Int32) (p10 : Int32) (p11 : Int32) (p12 : Int32) (p13 : Int32) (p14 : Int32) (p15 : Int32) (h0 : Heap) (n0 : Nat) (v : Option Value) (h : Heap) : Prop :=
  (v = none ∧ h0 = h)
set_option maxRecDepth 65536 in
set_option maxHeartbeats 40000000 in
theorem rm_45 (l : Launch) (Z : State) (a0 : Array Value) (hw : ∀ d ∈ tables_1, d.before a0 Z = true) (ws : List Jvm.Cond) (w0 : Addr) (w1 : Addr) (kw1 : ClassId) (p3 : Int32) (p4 : Int32) (p5 : Int32) (p6 : Int32) (p7 : Int32) (p8 : Int32) (p9 : Int32) (p10 : Int32) (p11 : Int32) (p12 : Int32) (p13 : Int32) (p14 : Int32) (p15 : Int32) (h0 : Heap) (n0 : Nat) (Z0 : n0 ≤ h0.size) (E_w0 : Exa Z h0 w0 "com/example/siltstone/siltstone/format/ByteSink") (F_w0_bytes : Fld Z h0 w0 "com/example/siltstone/siltstone/format/ByteSink" "bytes" "[B" (.ref w1)) (F_w0_size : Fld Z h0 w0 "com/example/siltstone/siltstone/format/ByteSink" "size" "I" (.int (0 : Int32))) (g_w0 : n0 ≤ w0) (E_w1 : Exa Z h0 w1 "[B") (V_w1 : Arv Z h0 w1 kw1 .byte (128 : Int32) ((.int p3) :: (.int (0 : Int32)) :: (.int (0 : Int32)) :: (.int (0 : Int32)) :: (.int (0 : Int32)) :: (.int (0 : Int32)) :: (.int (0 : Int32)) :: (.int (0 : Int32)) :: (.int (0 : Int32)) :: (.int (0 : Int32)) :: (.int (0 : Int32)) :: (.int (0 : Int32)) :: (.int (0 : Int32)) :: (.int (0 : Int32)) :: (.int (0 : Int32)) :: (.int (0 : Int32)) :: (.int (0 : Int32)) :: (.int (0 : Int32)) :: (.int (0 : Int32)) :: (.int (0 : Int32)) :: (.int (0 : Int32)) :: (.int (0 : Int32)) :: (.int (0 : Int32)) :: (.int (0 : Int32)) :: (.int (0 : Int32)) :: (.int (0 : Int32)) :: (.int (0 : Int32)) :: (.int (0 : Int32)) :: (.int (0 : Int32)) :: (.int (0 : Int32)) :: (.int (0 : Int32)) :: (.int (0 : Int32)) :: (.int (0 : Int32)) :: (.int (0 : Int32)) :: (.int (0 : Int32)) :: (.int (0 : Int32)) :: (.int (0 : Int32)) :: (.int (0 : Int32)) :: (.int (0 : Int32)) :: (.int (0 : Int32)) :: (.int (0 : Int32)) :: (.int (0 : Int32)) :: (.int (0 : Int32)) :: (.int (0 : Int32)) :: (.int (0 : Int32)) :: (.int (0 : Int32)) :: (.int (0 : Int32)) :: (.int (0 : Int32)) :: (.int (0 : Int32)) :: (.int (0 : Int32)) :: (.int (0 : Int32)) :: (.int (0 : Int32)) :: (.int (0 : Int32)) :: (.int (0 : Int32)) :: (.int (0 : Int32)) :: (.int (0 : Int32)) :: (.int (0 : Int32)) :: (.int (0 : Int32)) :: (.int (0 : Int32)) :: (.int p4) :: (.int p5) :: (.int p6) :: (.int p7) :: (.int p8) :: (.int p3) :: (.int p9) :: (.int p10) :: (.int p11) :: (.int p12) :: (.int p13) :: (.int p14) :: (.int p15) :: (.int p4) :: []) (.int (0 : Int32))) (g_w1 : n0 ≤ w1) (ne_w0_w1 : w0 ≠ w1) :
    MetFree l (⟨"com/example/siltstone/siltstone/format/ByteSink", "ensure", "(I)V"⟩ : MethodName) (head1 (Jvm.Cond.code (⟨"com/example/siltstone/siltstone/format/ByteSink", "ensure", "(I)V"⟩ : MethodName) prog_65_method_12_code 4 none :: ws) ({ frames := 0, cells := 0, slots := 0, locals := 0 } : Room)) (fun a U => a = #[(.ref w0), (.int (1 : Int32))] ∧ Z.Warmed39 U.vm ∧ U.heap = h0) (fun _ _ _ _ _ => True) (fun _ U o U' => ∃ v L, o = .returned v ∧ (Fr n0 L ∧ Q_45 Z w0 w1 kw1 p3 p4 p5 p6 p7 p8 p9 p10 p11 p12 p13 p14 p15 h0 n0 v U'.heap) ∧ FrameEnd U o U' L ({ frames := 0, cells := 0, slots := 0, locals := 0 } : Room).cells ({ frames := 0, cells := 0, slots := 0, locals := 0 } : Room).slots) := by
  refine own_enter (Q := Q_45 Z w0 w1 kw1 p3 p4 p5 p6 p7 p8 p9 p10 p11 p12 p13 p14 p15 h0 n0) (F := fun m => mkF m 0 #[.val (.ref w0), .val (.int (1 : Int32)), .unset, .unset] []) (plainFor_of_name pn_0) (fun m => by first | (simp [entryFrame, mkF, argsToLocals, Value.category]; done) | rfl) ?_
  intro p e s m below meth c s₁ B X0
  have K : Keep h0 h0 [] := Keep.refl h0 _
  refine own_iloadN (pc' := 1) B X0 d4_0 rfl rfl ?_
  refine own_aloadN (pc' := 2) B X0 d4_1 rfl rfl rfl ?_
  refine own_getfield (pc' := 5) B X0 (host := "") (Or.inl (own_w hw 10 rfl)) Via.refl F_w0_bytes d4_2 rfl ?_
  intro T1 X1
  refine own_arraylength (pc' := 6) B X1 V_w1 d4_5 rfl ?_
  refine own_aloadN (pc' := 7) B X1 d4_6 rfl rfl rfl ?_
  refine own_getfield (pc' := 10) B X1 (host := "") (Or.inl (own_w hw 21 rfl)) Via.refl F_w0_size d4_7 rfl ?_
  intro T2 X2
  refine own_isub (pc' := 11) B X2 (z := (128 : Int32)) d4_10 rfl (by decide) ?_
  refine own_icmpYes (pc' := 67) B X2 d4_11 (flt (by decide : ¬ ((128 : Int32) < (1 : Int32)))).2.2.2 (by decide) rfl ?_
  exact own_ret B X2 d4_67 (by decide) (by decide) (⟨rfl, rfl⟩)
def Q_44 (Z : State) (w0 : Addr) (w1 : Addr) (kw1 : ClassId) (p3 : Int32) (p4 : Int32) (p5 : Int32) (p6 : Int32) (p7 : Int32) (p8 : Int32) (p9 : Int32) (p10 : Int32) (p11 : Int32) (p12 : Int32) (p13 : Int32) (p14 : Int32) (p15 : Int32) (p16 : Int32) (h0 : Heap) (n0 : Nat) (v : Option Value) (h : Heap) : Prop :=
  (∃ (y5 : Int32), p16.toInt8.toInt32 = y5 ∧ v = none ∧ Keep h0 h [w0, w1] ∧ Exa Z h w0 "com/example/siltstone/siltstone/format/ByteSink" ∧ Fld Z h w0 "com/example/siltstone/siltstone/format/ByteSink" "bytes" "[B" (.ref w1) ∧ Fld Z h w0 "com/example/siltstone/siltstone/format/ByteSink" "size" "I" (.int (1 : Int32)) ∧ Exa Z h w1 "[B" ∧ Arv Z h w1 kw1 .byte (128 : Int32) ((.int y5) :: (.int (0 : Int32)) :: (.int (0 : Int32)) :: (.int (0 : Int32)) :: (.int (0 : Int32)) :: (.int (0 : Int32)) :: (.int (0 : Int32)) :: (.int (0 : Int32)) :: (.int (0 : Int32)) :: (.int (0 : Int32)) :: (.int (0 : Int32)) :: (.int (0 : Int32)) :: (.int (0 : Int32)) :: (.int (0 : Int32)) :: (.int (0 : Int32)) :: (.int (0 : Int32)) :: (.int (0 : Int32)) :: (.int (0 : Int32)) :: (.int (0 : Int32)) :: (.int (0 : Int32)) :: (.int (0 : Int32)) :: (.int (0 : Int32)) :: (.int (0 : Int32)) :: (.int (0 : Int32)) :: (.int (0 : Int32)) :: (.int (0 : Int32)) :: (.int (0 : Int32)) :: (.int (0 : Int32)) :: (.int (0 : Int32)) :: (.int (0 : Int32)) :: (.int (0 : Int32)) :: (.int (0 : Int32)) :: (.int (0 : Int32)) :: (.int (0 : Int32)) :: (.int (0 : Int32)) :: (.int (0 : Int32)) :: (.int (0 : Int32)) :: (.int (0 : Int32)) :: (.int (0 : Int32)) :: (.int (0 : Int32)) :: (.int (0 : Int32)) :: (.int (0 : Int32)) :: (.int (0 : Int32)) :: (.int (0 : Int32)) :: (.int (0 : Int32)) :: (.int (0 : Int32)) :: (.int (0 : Int32)) :: (.int (0 : Int32)) :: (.int (0 : Int32)) :: (.int (0 : Int32)) :: (.int (0 : Int32)) :: (.int (0 : Int32)) :: (.int (0 : Int32)) :: (.int (0 : Int32)) :: (.int (0 : Int32)) :: (.int (0 : Int32)) :: (.int (0 : Int32)) :: (.int (0 : Int32)) :: (.int (0 : Int32)) :: (.int p4) :: (.int p5) :: (.int p6) :: (.int p7) :: (.int p8) :: (.int p3) :: (.int p9) :: (.int p10) :: (.int p11) :: (.int p12) :: (.int p13) :: (.int p14) :: (.int p15) :: (.int p4) :: []) (.int (0 : Int32)))
set_option maxRecDepth 65536 in
set_option maxHeartbeats 40000000 in
theorem rm_44 (l : Launch) (Z : State) (a0 : Array Value) (hw : ∀ d ∈ tables_1, d.before a0 Z = true) (ws : List Jvm.Cond) (w0 : Addr) (w1 : Addr) (kw1 : ClassId) (p3 : Int32) (p4 : Int32) (p5 : Int32) (p6 : Int32) (p7 : Int32) (p8 : Int32) (p9 : Int32) (p10 : Int32) (p11 : Int32) (p12 : Int32) (p13 : Int32) (p14 : Int32) (p15 : Int32) (p16 : Int32) (h0 : Heap) (n0 : Nat) (Z0 : n0 ≤ h0.size) (E_w0 : Exa Z h0 w0 "com/example/siltstone/siltstone/format/ByteSink") (F_w0_bytes : Fld Z h0 w0 "com/example/siltstone/siltstone/format/ByteSink" "bytes" "[B" (.ref w1)) (F_w0_size : Fld Z h0 w0 "com/example/siltstone/siltstone/format/ByteSink" "size" "I" (.int (0 : Int32))) (g_w0 : n0 ≤ w0) (E_w1 : Exa Z h0 w1 "[B") (V_w1 : Arv Z h0 w1 kw1 .byte (128 : Int32) ((.int p3) :: (.int (0 : Int32)) :: (.int (0 : Int32)) :: (.int (0 : Int32)) :: (.int (0 : Int32)) :: (.int (0 : Int32)) :: (.int (0 : Int32)) :: (.int (0 : Int32)) :: (.int (0 : Int32)) :: (.int (0 : Int32)) :: (.int (0 : Int32)) :: (.int (0 : Int32)) :: (.int (0 : Int32)) :: (.int (0 : Int32)) :: (.int (0 : Int32)) :: (.int (0 : Int32)) :: (.int (0 : Int32)) :: (.int (0 : Int32)) :: (.int (0 : Int32)) :: (.int (0 : Int32)) :: (.int (0 : Int32)) :: (.int (0 : Int32)) :: (.int (0 : Int32)) :: (.int (0 : Int32)) :: (.int (0 : Int32)) :: (.int (0 : Int32)) :: (.int (0 : Int32)) :: (.int (0 : Int32)) :: (.int (0 : Int32)) :: (.int (0 : Int32)) :: (.int (0 : Int32)) :: (.int (0 : Int32)) :: (.int (0 : Int32)) :: (.int (0 : Int32)) :: (.int (0 : Int32)) :: (.int (0 : Int32)) :: (.int (0 : Int32)) :: (.int (0 : Int32)) :: (.int (0 : Int32)) :: (.int (0 : Int32)) :: (.int (0 : Int32)) :: (.int (0 : Int32)) :: (.int (0 : Int32)) :: (.int (0 : Int32)) :: (.int (0 : Int32)) :: (.int (0 : Int32)) :: (.int (0 : Int32)) :: (.int (0 : Int32)) :: (.int (0 : Int32)) :: (.int (0 : Int32)) :: (.int (0 : Int32)) :: (.int (0 : Int32)) :: (.int (0 : Int32)) :: (.int (0 : Int32)) :: (.int (0 : Int32)) :: (.int (0 : Int32)) :: (.int (0 : Int32)) :: (.int (0 : Int32)) :: (.int (0 : Int32)) :: (.int p4) :: (.int p5) :: (.int p6) :: (.int p7) :: (.int p8) :: (.int p3) :: (.int p9) :: (.int p10) :: (.int p11) :: (.int p12) :: (.int p13) :: (.int p14) :: (.int p15) :: (.int p4) :: []) (.int (0 : Int32))) (g_w1 : n0 ≤ w1) (ne_w0_w1 : w0 ≠ w1) :
    MetFree l (⟨"com/example/siltstone/siltstone/format/ByteSink", "writeByte", "(I)V"⟩ : MethodName) (head1 (Jvm.Cond.code (⟨"com/example/siltstone/siltstone/format/ByteSink", "writeByte", "(I)V"⟩ : MethodName) prog_65_method_6_code 2 none :: ws) ({ frames := 1, cells := 0, slots := 0, locals := 15 } : Room)) (fun a U => a = #[(.ref w0), (.int p16)] ∧ Z.Warmed39 U.vm ∧ U.heap = h0) (fun _ _ _ _ _ => True) (fun _ U o U' => ∃ v L, o = .returned v ∧ (Fr n0 L ∧ Q_44 Z w0 w1 kw1 p3 p4 p5 p6 p7 p8 p9 p10 p11 p12 p13 p14 p15 p16 h0 n0 v U'.heap) ∧ FrameEnd U o U' L ({ frames := 1, cells := 0, slots := 0, locals := 15 } : Room).cells ({ frames := 1, cells := 0, slots := 0, locals := 15 } : Room).slots) := by
  refine own_enter (Q := Q_44 Z w0 w1 kw1 p3 p4 p5 p6 p7 p8 p9 p10 p11 p12 p13 p14 p15 p16 h0 n0) (F := fun m => mkF m 0 #[.val (.ref w0), .val (.int p16)] []) (plainFor_of_name pn_0) (fun m => by first | (simp [entryFrame, mkF, argsToLocals, Value.category]; done) | rfl) ?_
  intro p e s m below meth c s₁ B X0
  have K : Keep h0 h0 [w0, w1] := Keep.refl h0 _
  refine own_aloadN (pc' := 1) B X0 d6_0 rfl rfl rfl ?_
  refine own_iconst (pc' := 2) B X0 (z := (1 : Int32)) d6_1 rfl rfl ?_
  refine own_callP (pc' := 5) B X0 (own_w hw 17 rfl) (own_w hw 18 rfl) (own_w hw 19 rfl) (own_w hw 2 rfl) (own_w hw 3 rfl) (own_w hw 20 rfl) E_w0 (by decide) [(.int (1 : Int32))] [] (rm_45 l Z a0 hw [] w0 w1 kw1 (p3) (p4) (p5) (p6) (p7) (p8) (p9) (p10) (p11) (p12) (p13) (p14) (p15) h0 n0 (Nat.le_trans Z0 K.1) E_w0 F_w0_bytes F_w0_size g_w0 E_w1 V_w1 g_w1 ne_w0_w1) 0 (by decide) (by decide) rfl pd_1 rfl rfl (Nat.le_of_eq rfl) d6_2 rfl (k' := 0) (n' := 0) rfl rfl (by decide) (by decide) ?_
  intro T1 v1 h1 X1 q1
  obtain ⟨rfl, rfl⟩ := q1
  show own_Go p e below (T1.setTop (mkF m 5 #[.val (.ref w0), .val (.int p16)] [])) _
  refine own_aloadN (pc' := 6) B X1 d6_5 rfl rfl rfl ?_
  refine own_getfield (pc' := 9) B X1 (host := "") (Or.inl (own_w hw 10 rfl)) Via.refl F_w0_bytes d6_6 rfl ?_
  intro T2 X2
  refine own_aloadN (pc' := 10) B X2 d6_9 rfl rfl rfl ?_
  refine own_dup (pc' := 11) B X2 d6_10 rfl rfl ?_
  refine own_getfield (pc' := 14) B X2 (host := "") (Or.inl (own_w hw 21 rfl)) Via.refl F_w0_size d6_11 rfl ?_
  intro T3 X3
  refine own_dup_x1 (pc' := 15) B X3 d6_14 rfl rfl rfl ?_
  refine own_iconst (pc' := 16) B X3 (z := (1 : Int32)) d6_15 rfl rfl ?_
  refine own_iadd (pc' := 17) B X3 (z := (1 : Int32)) d6_16 rfl (by decide) ?_
  refine own_putfield (pc' := 20) B X3 (host := "") (Or.inl (own_w hw 21 rfl)) Via.refl F_w0_size E_w0 g_w0 (Or.inl (own_w hw 22 rfl)) (own_w hw 2 rfl) (ty := .int) (by decide) rfl rfl d6_17 rfl ?_
  intro T4 h4 X4 W4 F_w0_size
  replace E_w0 := E_w0.wr W4
  replace F_w0_bytes := F_w0_bytes.other W4 (Or.inr (slot_ne (Or.inl (own_w hw 11 rfl)) (Or.inl (own_w hw 22 rfl)) (by decide) (t := (.array .byte)) (t' := .int) (by decide) (by decide)))
  replace E_w1 := E_w1.wr W4
  replace V_w1 := V_w1.other W4 (Ne.symm ne_w0_w1)
  replace K := K.wr W4 (Or.inl (List.mem_of_getElem? (i := 0) rfl))
  refine own_iloadN (pc' := 21) B X4 d6_20 rfl rfl ?_
  obtain ⟨y5, hy5⟩ : ∃ z : Int32, p16.toInt8.toInt32 = z := ⟨_, rfl⟩
  refine own_i2b (pc' := 22) B X4 d6_21 rfl hy5 ?_
  refine own_bastore (pc' := 23) B X4 (x' := y5) V_w1 g_w1 ⟨by decide, by decide⟩ 0 (by decide) (Nat.le_of_ble_eq_true rfl) (own_idem_i2b hy5) d6_22 rfl ?_
  intro T6 h6 X6 W6 V_w1
  replace V_w1 : Arv Z h6 w1 kw1 .byte (128 : Int32) ((.int y5) :: (.int (0 : Int32)) :: (.int (0 : Int32)) :: (.int (0 : Int32)) :: (.int (0 : Int32)) :: (.int (0 : Int32)) :: (.int (0 : Int32)) :: (.int (0 : Int32)) :: (.int (0 : Int32)) :: (.int (0 : Int32)) :: (.int (0 : Int32)) :: (.int (0 : Int32)) :: (.int (0 : Int32)) :: (.int (0 : Int32)) :: (.int (0 : Int32)) :: (.int (0 : Int32)) :: (.int (0 : Int32)) :: (.int (0 : Int32)) :: (.int (0 : Int32)) :: (.int (0 : Int32)) :: (.int (0 : Int32)) :: (.int (0 : Int32)) :: (.int (0 : Int32)) :: (.int (0 : Int32)) :: (.int (0 : Int32)) :: (.int (0 : Int32)) :: (.int (0 : Int32)) :: (.int (0 : Int32)) :: (.int (0 : Int32)) :: (.int (0 : Int32)) :: (.int (0 : Int32)) :: (.int (0 : Int32)) :: (.int (0 : Int32)) :: (.int (0 : Int32)) :: (.int (0 : Int32)) :: (.int (0 : Int32)) :: (.int (0 : Int32)) :: (.int (0 : Int32)) :: (.int (0 : Int32)) :: (.int (0 : Int32)) :: (.int (0 : Int32)) :: (.int (0 : Int32)) :: (.int (0 : Int32)) :: (.int (0 : Int32)) :: (.int (0 : Int32)) :: (.int (0 : Int32)) :: (.int (0 : Int32)) :: (.int (0 : Int32)) :: (.int (0 : Int32)) :: (.int (0 : Int32)) :: (.int (0 : Int32)) :: (.int (0 : Int32)) :: (.int (0 : Int32)) :: (.int (0 : Int32)) :: (.int (0 : Int32)) :: (.int (0 : Int32)) :: (.int (0 : Int32)) :: (.int (0 : Int32)) :: (.int (0 : Int32)) :: (.int p4) :: (.int p5) :: (.int p6) :: (.int p7) :: (.int p8) :: (.int p3) :: (.int p9) :: (.int p10) :: (.int p11) :: (.int p12) :: (.int p13) :: (.int p14) :: (.int p15) :: (.int p4) :: []) (.int (0 : Int32)) := V_w1
  replace E_w0 := E_w0.wr W6
  replace F_w0_bytes := F_w0_bytes.other W6 (Or.inl ne_w0_w1)
  replace F_w0_size := F_w0_size.other W6 (Or.inl ne_w0_w1)
  replace E_w1 := E_w1.wr W6
  replace K := K.wr W6 (Or.inl (List.mem_of_getElem? (i := 1) rfl))
  exact own_ret B X6 d6_23 (by decide) (by decide) (⟨y5, hy5, rfl, K, E_w0, F_w0_bytes, F_w0_size, E_w1, V_w1⟩)
def Q_48 (Z : State)  (h0 : Heap) (n0 : Nat) (v : Option Value) (h : Heap) : Prop :=
  (v = some (.int (1 : Int32)) ∧ h0 = h)
set_option maxRecDepth 65536 in
set_option maxHeartbeats 40000000 in
theorem rm_48 (l : Launch) (Z : State) (a0 : Array Value) (hw : ∀ d ∈ tables_1, d.before a0 Z = true) (ws : List Jvm.Cond)  (h0 : Heap) (n0 : Nat) (Z0 : n0 ≤ h0.size)  :
    MetFree l (⟨"java/lang/Math", "min", "(II)I"⟩ : MethodName) (head1 (Jvm.Cond.code (⟨"java/lang/Math", "min", "(II)I"⟩ : MethodName) jdk_29_method_69_code 2 (some .int) :: ws) ({ frames := 0, cells := 0, slots := 0, locals := 0 } : Room)) (fun a U => a = #[(.int (128 : Int32)), (.int (1 : Int32))] ∧ Z.Warmed39 U.vm ∧ U.heap = h0) (fun _ _ _ _ _ => True) (fun _ U o U' => ∃ v L, o = .returned v ∧ (Fr n0 L ∧ Q_48 Z  h0 n0 v U'.heap) ∧ FrameEnd U o U' L ({ frames := 0, cells := 0, slots := 0, locals := 0 } : Room).cells ({ frames := 0, cells := 0, slots := 0, locals := 0 } : Room).slots) := by
  refine own_enter (Q := Q_48 Z  h0 n0) (F := fun m => mkF m 0 #[.val (.int (128 : Int32)), .val (.int (1 : Int32))] []) (Jvm.Free.JP.mathPlain rfl (by decide +kernel)) (fun m => by first | (simp [entryFrame, mkF, argsToLocals, Value.category]; done) | rfl) ?_
  intro p e s m below meth c s₁ B X0
  have K : Keep h0 h0 [] := Keep.refl h0 _
  refine own_iloadN (pc' := 1) B X0 d9_0 rfl rfl ?_
  refine own_iloadN (pc' := 2) B X0 d9_1 rfl rfl ?_
  refine own_icmpYes (pc' := 9) B X0 d9_2 (tlt (by decide : (1 : Int32) < (128 : Int32))).2.2.1 (by decide) rfl ?_
  refine own_iloadN (pc' := 10) B X0 d9_9 rfl rfl ?_
  exact own_retI B X0 d9_10 (by decide) (by decide) (⟨rfl, rfl⟩)
def Q_47 (Z : State) (w0 : Addr) (kw0 : ClassId) (p2 : Int32) (p3 : Int32) (p4 : Int32) (p5 : Int32) (p6 : Int32) (p7 : Int32) (p8 : Int32) (p9 : Int32) (p10 : Int32) (p11 : Int32) (p12 : Int32) (p13 : Int32) (p14 : Int32) (h0 : Heap) (n0 : Nat) (v : Option Value) (h : Heap) : Prop :=
  (∃ (b1 : Addr) (kb1 : ClassId), v = some (.ref b1) ∧ Keep h0 h [] ∧ h0.size ≤ b1 ∧ Exa Z h b1 "[B" ∧ Arv Z h b1 kb1 .byte (1 : Int32) [(.int p2)] (.int (0 : Int32)))
set_option maxRecDepth 65536 in
set_option maxHeartbeats 40000000 in
theorem rm_47 (l : Launch) (Z : State) (a0 : Array Value) (hw : ∀ d ∈ tables_1, d.before a0 Z = true) (ws : List Jvm.Cond) (w0 : Addr) (kw0 : ClassId) (p2 : Int32) (p3 : Int32) (p4 : Int32) (p5 : Int32) (p6 : Int32) (p7 : Int32) (p8 : Int32) (p9 : Int32) (p10 : Int32) (p11 : Int32) (p12 : Int32) (p13 : Int32) (p14 : Int32) (h0 : Heap) (n0 : Nat) (Z0 : n0 ≤ h0.size) (E_w0 : Exa Z h0 w0 "[B") (V_w0 : Arv Z h0 w0 kw0 .byte (128 : Int32) ((.int p2) :: (.int (0 : Int32)) :: (.int (0 : Int32)) :: (.int (0 : Int32)) :: (.int (0 : Int32)) :: (.int (0 : Int32)) :: (.int (0 : Int32)) :: (.int (0 : Int32)) :: (.int (0 : Int32)) :: (.int (0 : Int32)) :: (.int (0 : Int32)) :: (.int (0 : Int32)) :: (.int (0 : Int32)) :: (.int (0 : Int32)) :: (.int (0 : Int32)) :: (.int (0 : Int32)) :: (.int (0 : Int32)) :: (.int (0 : Int32)) :: (.int (0 : Int32)) :: (.int (0 : Int32)) :: (.int (0 : Int32)) :: (.int (0 : Int32)) :: (.int (0 : Int32)) :: (.int (0 : Int32)) :: (.int (0 : Int32)) :: (.int (0 : Int32)) :: (.int (0 : Int32)) :: (.int (0 : Int32)) :: (.int (0 : Int32)) :: (.int (0 : Int32)) :: (.int (0 : Int32)) :: (.int (0 : Int32)) :: (.int (0 : Int32)) :: (.int (0 : Int32)) :: (.int (0 : Int32)) :: (.int (0 : Int32)) :: (.int (0 : Int32)) :: (.int (0 : Int32)) :: (.int (0 : Int32)) :: (.int (0 : Int32)) :: (.int (0 : Int32)) :: (.int (0 : Int32)) :: (.int (0 : Int32)) :: (.int (0 : Int32)) :: (.int (0 : Int32)) :: (.int (0 : Int32)) :: (.int (0 : Int32)) :: (.int (0 : Int32)) :: (.int (0 : Int32)) :: (.int (0 : Int32)) :: (.int (0 : Int32)) :: (.int (0 : Int32)) :: (.int (0 : Int32)) :: (.int (0 : Int32)) :: (.int (0 : Int32)) :: (.int (0 : Int32)) :: (.int (0 : Int32)) :: (.int (0 : Int32)) :: (.int (0 : Int32)) :: (.int p3) :: (.int p2) :: (.int p4) :: (.int p5) :: (.int p6) :: (.int p7) :: (.int p8) :: (.int p9) :: (.int p10) :: (.int p11) :: (.int p12) :: (.int p13) :: (.int p14) :: (.int p3) :: []) (.int (0 : Int32))) (g_w0 : n0 ≤ w0) :
    MetFree l (⟨"java/util/Arrays", "copyOf", "([BI)[B"⟩ : MethodName) (head1 (Jvm.Cond.code (⟨"java/util/Arrays", "copyOf", "([BI)[B"⟩ : MethodName) jdk_65_method_121_code 3 (some (.array .byte)) :: ws) ({ frames := 1, cells := 1, slots := 1, locals := 40 } : Room)) (fun a U => a = #[(.ref w0), (.int (1 : Int32))] ∧ Z.Warmed39 U.vm ∧ U.heap = h0) (fun _ _ _ _ _ => True) (fun _ U o U' => ∃ v L, o = .returned v ∧ (Fr n0 L ∧ Q_47 Z w0 kw0 p2 p3 p4 p5 p6 p7 p8 p9 p10 p11 p12 p13 p14 h0 n0 v U'.heap) ∧ FrameEnd U o U' L ({ frames := 1, cells := 1, slots := 1, locals := 40 } : Room).cells ({ frames := 1, cells := 1, slots := 1, locals := 40 } : Room).slots) := by
  refine own_enter (Q := Q_47 Z w0 kw0 p2 p3 p4 p5 p6 p7 p8 p9 p10 p11 p12 p13 p14 h0 n0) (F := fun m => mkF m 0 #[.val (.ref w0), .val (.int (1 : Int32)), .unset] []) (plainFor_of_name pn_1) (fun m => by first | (simp [entryFrame, mkF, argsToLocals, Value.category]; done) | rfl) ?_
  intro p e s m below meth c s₁ B X0
  have K : Keep h0 h0 [] := Keep.refl h0 _
  refine own_iloadN (pc' := 1) B X0 d8_0 rfl rfl ?_
  refine own_aloadN (pc' := 2) B X0 d8_1 rfl rfl rfl ?_
  refine own_arraylength (pc' := 3) B X0 V_w0 d8_2 rfl ?_
  refine own_icmpYes (pc' := 14) B X0 d8_3 (feq (by decide : ¬ ((1 : Int32) = (128 : Int32)))).2 (by decide) rfl ?_
  refine own_iloadN (pc' := 15) B X0 d8_14 rfl rfl ?_
  refine own_newarray (pc' := 17) B X0 (own_w hw 0 rfl) d8_15 rfl rfl (by decide) 1 (by decide) (by decide) (k' := 1) (n' := 1) rfl rfl (by decide) (by decide) "[B" (by decide) (.int (0 : Int32)) rfl ?_
  intro T1 h1 b1 kb1 X1 g1 E1 V_b1 E_b1
  have ne_w0_b1 : w0 ≠ b1 := own_ne E_w0.lt g1
  have sz_b1 : h0.size ≤ b1 := own_sz K g1
  have g_b1 : n0 ≤ b1 := Nat.le_trans Z0 sz_b1
  replace K := K.ext E1
  replace E_w0 := E_w0.ext E1
  replace V_w0 := V_w0.ext E1
  replace V_b1 : Arv Z h1 b1 kb1 .byte (1 : Int32) [(.int (0 : Int32))] (.int (0 : Int32)) := V_b1.pad (pad_rep [] (.int (0 : Int32)) 1)
  refine own_astoreN (pc' := 18) B X1 (Ls' := #[.val (.ref w0), .val (.int (1 : Int32)), .val (.ref b1)]) d8_17 rfl rfl rfl ?_
  refine own_aloadN (pc' := 19) B X1 d8_18 rfl rfl rfl ?_
  refine own_iconst (pc' := 20) B X1 (z := (0 : Int32)) d8_19 rfl rfl ?_
  refine own_aloadN (pc' := 21) B X1 d8_20 rfl rfl rfl ?_
  refine own_iconst (pc' := 22) B X1 (z := (0 : Int32)) d8_21 rfl rfl ?_
  refine own_aloadN (pc' := 23) B X1 d8_22 rfl rfl rfl ?_
  refine own_arraylength (pc' := 24) B X1 V_w0 d8_23 rfl ?_
  refine own_iloadN (pc' := 25) B X1 d8_24 rfl rfl ?_
  refine own_callS (pc' := 28) B X1 (own_w hw 42 rfl) (own_w hw 43 rfl) (own_w hw 44 rfl) (own_w hw 45 rfl) (by decide) [(.int (128 : Int32)), (.int (1 : Int32))] [(.int (0 : Int32)), (.ref b1), (.int (0 : Int32)), (.ref w0)] (rm_48 l Z a0 hw []  h1 n0 (Nat.le_trans Z0 K.1) ) 4 (by decide) (by decide) rfl pd_3 rfl rfl (Nat.le_of_eq rfl) d8_25 rfl (k' := 1) (n' := 1) rfl rfl (by decide) (by decide) ?_
  intro T2 v2 h2 X2 q2
  obtain ⟨rfl, rfl⟩ := q2
  show own_Go p e below (T2.setTop (mkF m 28 #[.val (.ref w0), .val (.int (1 : Int32)), .val (.ref b1)] [(.int (1 : Int32)), (.int (0 : Int32)), (.ref b1), (.int (0 : Int32)), (.ref w0)])) _
  refine own_arraycopy (pc' := 31) B X2 (own_w hw 46 rfl) (own_w hw 49 rfl) (own_w hw 47 rfl) (own_w hw 48 rfl) V_w0 V_b1 rfl g_b1 (by decide) (by decide) (by decide) (by decide) (by decide) (us := [(.int p2)]) rfl (Nat.le_of_ble_eq_true rfl) (rs := [(.int p2)]) rfl d8_28 rfl rfl (by decide) 0 (Nat.le_of_eq rfl) (by decide) ?_
  intro T3 h3 X3 K3 V_b1
  replace K := K.trans K3 (allS (Or.inr sz_b1) all0)
  replace E_w0 := E_w0.keep K3
  replace V_w0 := V_w0.keep K3 (ninS ne_w0_b1 nin0)
  replace E_b1 := E_b1.keep K3
  refine own_aloadN (pc' := 32) B X3 d8_31 rfl rfl rfl ?_
  exact own_retA B X3 (t := (.array .byte)) rfl rfl rfl d8_32 (by decide) (by decide) (⟨b1, kb1, rfl, K, sz_b1, E_b1, V_b1⟩)
def Q_46 (Z : State) (w0 : Addr) (w1 : Addr) (kw1 : ClassId) (p3 : Int32) (p4 : Int32) (p5 : Int32) (p6 : Int32) (p7 : Int32) (p8 : Int32) (p9 : Int32) (p10 : Int32) (p11 : Int32) (p12 : Int32) (p13 : Int32) (p14 : Int32) (p15 : Int32) (h0 : Heap) (n0 : Nat) (v : Option Value) (h : Heap) : Prop :=
  (∃ (b4 : Addr) (k5 : ClassId), v = some (.ref b4) ∧ Keep h0 h [] ∧ h0.size ≤ b4 ∧ Exa Z h b4 "[B" ∧ Arv Z h b4 k5 .byte (1 : Int32) [(.int p3)] (.int (0 : Int32)))
set_option maxRecDepth 65536 in
set_option maxHeartbeats 40000000 in
theorem rm_46 (l : Launch) (Z : State) (a0 : Array Value) (hw : ∀ d ∈ tables_1, d.before a0 Z = true) (ws : List Jvm.Cond) (w0 : Addr) (w1 : Addr) (kw1 : ClassId) (p3 : Int32) (p4 : Int32) (p5 : Int32) (p6 : Int32) (p7 : Int32) (p8 : Int32) (p9 : Int32) (p10 : Int32) (p11 : Int32) (p12 : Int32) (p13 : Int32) (p14 : Int32) (p15 : Int32) (h0 : Heap) (n0 : Nat) (Z0 : n0 ≤ h0.size) (E_w0 : Exa Z h0 w0 "com/example/siltstone/siltstone/format/ByteSink") (F_w0_bytes : Fld Z h0 w0 "com/example/siltstone/siltstone/format/ByteSink" "bytes" "[B" (.ref w1)) (F_w0_size : Fld Z h0 w0 "com/example/siltstone/siltstone/format/ByteSink" "size" "I" (.int (1 : Int32))) (g_w0 : n0 ≤ w0) (E_w1 : Exa Z h0 w1 "[B") (V_w1 : Arv Z h0 w1 kw1 .byte (128 : Int32) ((.int p3) :: (.int (0 : Int32)) :: (.int (0 : Int32)) :: (.int (0 : Int32)) :: (.int (0 : Int32)) :: (.int (0 : Int32)) :: (.int (0 : Int32)) :: (.int (0 : Int32)) :: (.int (0 : Int32)) :: (.int (0 : Int32)) :: (.int (0 : Int32)) :: (.int (0 : Int32)) :: (.int (0 : Int32)) :: (.int (0 : Int32)) :: (.int (0 : Int32)) :: (.int (0 : Int32)) :: (.int (0 : Int32)) :: (.int (0 : Int32)) :: (.int (0 : Int32)) :: (.int (0 : Int32)) :: (.int (0 : Int32)) :: (.int (0 : Int32)) :: (.int (0 : Int32)) :: (.int (0 : Int32)) :: (.int (0 : Int32)) :: (.int (0 : Int32)) :: (.int (0 : Int32)) :: (.int (0 : Int32)) :: (.int (0 : Int32)) :: (.int (0 : Int32)) :: (.int (0 : Int32)) :: (.int (0 : Int32)) :: (.int (0 : Int32)) :: (.int (0 : Int32)) :: (.int (0 : Int32)) :: (.int (0 : Int32)) :: (.int (0 : Int32)) :: (.int (0 : Int32)) :: (.int (0 : Int32)) :: (.int (0 : Int32)) :: (.int (0 : Int32)) :: (.int (0 : Int32)) :: (.int (0 : Int32)) :: (.int (0 : Int32)) :: (.int (0 : Int32)) :: (.int (0 : Int32)) :: (.int (0 : Int32)) :: (.int (0 : Int32)) :: (.int (0 : Int32)) :: (.int (0 : Int32)) :: (.int (0 : Int32)) :: (.int (0 : Int32)) :: (.int (0 : Int32)) :: (.int (0 : Int32)) :: (.int (0 : Int32)) :: (.int (0 : Int32)) :: (.int (0 : Int32)) :: (.int (0 : Int32)) :: (.int (0 : Int32)) :: (.int p4) :: (.int p3) :: (.int p5) :: (.int p6) :: (.int p7) :: (.int p8) :: (.int p9) :: (.int p10) :: (.int p11) :: (.int p12) :: (.int p13) :: (.int p14) :: (.int p15) :: (.int p4) :: []) (.int (0 : Int32))) (g_w1 : n0 ≤ w1) (ne_w0_w1 : w0 ≠ w1) :
    MetFree l (⟨"com/example/siltstone/siltstone/format/ByteSink", "toByteArray", "()[B"⟩ : MethodName) (head1 (Jvm.Cond.code (⟨"com/example/siltstone/siltstone/format/ByteSink", "toByteArray", "()[B"⟩ : MethodName) prog_65_method_4_code 1 (some (.array .byte)) :: ws) ({ frames := 2, cells := 1, slots := 1, locals := 54 } : Room)) (fun a U => a = #[(.ref w0)] ∧ Z.Warmed39 U.vm ∧ U.heap = h0) (fun _ _ _ _ _ => True) (fun _ U o U' => ∃ v L, o = .returned v ∧ (Fr n0 L ∧ Q_46 Z w0 w1 kw1 p3 p4 p5 p6 p7 p8 p9 p10 p11 p12 p13 p14 p15 h0 n0 v U'.heap) ∧ FrameEnd U o U' L ({ frames := 2, cells := 1, slots := 1, locals := 54 } : Room).cells ({ frames := 2, cells := 1, slots := 1, locals := 54 } : Room).slots) := by
  refine own_enter (Q := Q_46 Z w0 w1 kw1 p3 p4 p5 p6 p7 p8 p9 p10 p11 p12 p13 p14 p15 h0 n0) (F := fun m => mkF m 0 #[.val (.ref w0)] []) (plainFor_of_name pn_0) (fun m => by first | (simp [entryFrame, mkF, argsToLocals, Value.category]; done) | rfl) ?_
  intro p e s m below meth c s₁ B X0
  have K : Keep h0 h0 [] := Keep.refl h0 _
  refine own_aloadN (pc' := 1) B X0 d7_0 rfl rfl rfl ?_
  refine own_getfield (pc' := 4) B X0 (host := "") (Or.inl (own_w hw 10 rfl)) Via.refl F_w0_bytes d7_1 rfl ?_
  intro T1 X1
  refine own_aloadN (pc' := 5) B X1 d7_4 rfl rfl rfl ?_
  refine own_getfield (pc' := 8) B X1 (host := "") (Or.inl (own_w hw 21 rfl)) Via.refl F_w0_size d7_5 rfl ?_
  intro T2 X2
  refine own_callS (pc' := 11) B X2 (own_w hw 38 rfl) (own_w hw 39 rfl) (own_w hw 40 rfl) (own_w hw 41 rfl) (by decide) [(.ref w1), (.int (1 : Int32))] [] (rm_47 l Z a0 hw [] w1 kw1 (p3) (p4) (p5) (p6) (p7) (p8) (p9) (p10) (p11) (p12) (p13) (p14) (p15) h0 n0 (Nat.le_trans Z0 K.1) E_w1 V_w1 g_w1) 0 (by decide) (by decide) rfl pd_4 rfl rfl (Nat.le_of_eq rfl) d7_8 rfl (k' := 1) (n' := 1) rfl rfl (by decide) (by decide) ?_
  intro T3 v3 h3 X3 q3
  have lt_w0 := E_w0.lt
  have lt_w1 := E_w1.lt
  obtain ⟨b4, k5, rfl, K3, z_b4, E_b4, V_b4⟩ := q3
  have ne_w0_b4 : w0 ≠ b4 := own_ne' lt_w0 z_b4
  have ne_w1_b4 : w1 ≠ b4 := own_ne' lt_w1 z_b4
  have sz_b4 : h0.size ≤ b4 := Nat.le_trans K.1 z_b4
  have g_b4 : n0 ≤ b4 := Nat.le_trans Z0 sz_b4
  replace K := K.trans K3 all0
  replace E_w0 := E_w0.keep K3
  replace F_w0_bytes := F_w0_bytes.keep K3 nin0
  replace F_w0_size := F_w0_size.keep K3 nin0
  replace E_w1 := E_w1.keep K3
  replace V_w1 := V_w1.keep K3 nin0
  show own_Go p e below (T3.setTop (mkF m 11 #[.val (.ref w0)] [(.ref b4)])) _
  exact own_retA B X3 (t := (.array .byte)) rfl rfl rfl d7_11 (by decide) (by decide) (⟨b4, k5, rfl, K, sz_b4, E_b4, V_b4⟩)
def Q_49 (Z : State) (w0 : Addr) (w1 : Addr) (kw1 : ClassId) (p3 : Int32) (p4 : Int32) (p5 : Int32) (p6 : Int32) (p7 : Int32) (p8 : Int32) (p9 : Int32) (p10 : Int32) (p11 : Int32) (p12 : Int32) (p13 : Int32) (p14 : Int32) (p15 : Int32) (h0 : Heap) (n0 : Nat) (v : Option Value) (h : Heap) : Prop :=
  (v = some (.int (1 : Int32)) ∧ h0 = h)
set_option maxRecDepth 65536 in
set_option maxHeartbeats 40000000 in
theorem rm_49 (l : Launch) (Z : State) (a0 : Array Value) (hw : ∀ d ∈ tables_1, d.before a0 Z = true) (ws : List Jvm.Cond) (w0 : Addr) (w1 : Addr) (kw1 : ClassId) (p3 : Int32) (p4 : Int32) (p5 : Int32) (p6 : Int32) (p7 : Int32) (p8 : Int32) (p9 : Int32) (p10 : Int32) (p11 : Int32) (p12 : Int32) (p13 : Int32) (p14 : Int32) (p15 : Int32) (h0 : Heap) (n0 : Nat) (Z0 : n0 ≤ h0.size) (E_w0 : Exa Z h0 w0 "com/example/siltstone/siltstone/format/ByteSink") (F_w0_bytes : Fld Z h0 w0 "com/example/siltstone/siltstone/format/ByteSink" "bytes" "[B" (.ref w1)) (F_w0_size : Fld Z h0 w0 "com/example/siltstone/siltstone/format/ByteSink" "size" "I" (.int (1 : Int32))) (g_w0 : n0 ≤ w0) (E_w1 : Exa Z h0 w1 "[B") (V_w1 : Arv Z h0 w1 kw1 .byte (128 : Int32) ((.int p3) :: (.int (0 : Int32)) :: (.int (0 : Int32)) :: (.int (0 : Int32)) :: (.int (0 : Int32)) :: (.int (0 : Int32)) :: (.int (0 : Int32)) :: (.int (0 : Int32)) :: (.int (0 : Int32)) :: (.int (0 : Int32)) :: (.int (0 : Int32)) :: (.int (0 : Int32)) :: (.int (0 : Int32)) :: (.int (0 : Int32)) :: (.int (0 : Int32)) :: (.int (0 : Int32)) :: (.int (0 : Int32)) :: (.int (0 : Int32)) :: (.int (0 : Int32)) :: (.int (0 : Int32)) :: (.int (0 : Int32)) :: (.int (0 : Int32)) :: (.int (0 : Int32)) :: (.int (0 : Int32)) :: (.int (0 : Int32)) :: (.int (0 : Int32)) :: (.int (0 : Int32)) :: (.int (0 : Int32)) :: (.int (0 : Int32)) :: (.int (0 : Int32)) :: (.int (0 : Int32)) :: (.int (0 : Int32)) :: (.int (0 : Int32)) :: (.int (0 : Int32)) :: (.int (0 : Int32)) :: (.int (0 : Int32)) :: (.int (0 : Int32)) :: (.int (0 : Int32)) :: (.int (0 : Int32)) :: (.int (0 : Int32)) :: (.int (0 : Int32)) :: (.int (0 : Int32)) :: (.int (0 : Int32)) :: (.int (0 : Int32)) :: (.int (0 : Int32)) :: (.int (0 : Int32)) :: (.int (0 : Int32)) :: (.int (0 : Int32)) :: (.int (0 : Int32)) :: (.int (0 : Int32)) :: (.int (0 : Int32)) :: (.int (0 : Int32)) :: (.int (0 : Int32)) :: (.int (0 : Int32)) :: (.int (0 : Int32)) :: (.int (0 : Int32)) :: (.int (0 : Int32)) :: (.int (0 : Int32)) :: (.int (0 : Int32)) :: (.int p4) :: (.int p3) :: (.int p5) :: (.int p6) :: (.int p7) :: (.int p8) :: (.int p9) :: (.int p10) :: (.int p11) :: (.int p12) :: (.int p13) :: (.int p14) :: (.int p15) :: (.int p4) :: []) (.int (0 : Int32))) (g_w1 : n0 ≤ w1) (ne_w0_w1 : w0 ≠ w1) :
    MetFree l (⟨"com/example/siltstone/siltstone/format/ByteSink", "size", "()I"⟩ : MethodName) (head1 (Jvm.Cond.code (⟨"com/example/siltstone/siltstone/format/ByteSink", "size", "()I"⟩ : MethodName) prog_65_method_2_code 1 (some .int) :: ws) ({ frames := 0, cells := 0, slots := 0, locals := 0 } : Room)) (fun a U => a = #[(.ref w0)] ∧ Z.Warmed39 U.vm ∧ U.heap = h0) (fun _ _ _ _ _ => True) (fun _ U o U' => ∃ v L, o = .returned v ∧ (Fr n0 L ∧ Q_49 Z w0 w1 kw1 p3 p4 p5 p6 p7 p8 p9 p10 p11 p12 p13 p14 p15 h0 n0 v U'.heap) ∧ FrameEnd U o U' L ({ frames := 0, cells := 0, slots := 0, locals := 0 } : Room).cells ({ frames := 0, cells := 0, slots := 0, locals := 0 } : Room).slots) := by
  refine own_enter (Q := Q_49 Z w0 w1 kw1 p3 p4 p5 p6 p7 p8 p9 p10 p11 p12 p13 p14 p15 h0 n0) (F := fun m => mkF m 0 #[.val (.ref w0)] []) (plainFor_of_name pn_0) (fun m => by first | (simp [entryFrame, mkF, argsToLocals, Value.category]; done) | rfl) ?_
  intro p e s m below meth c s₁ B X0
  have K : Keep h0 h0 [] := Keep.refl h0 _
  refine own_aloadN (pc' := 1) B X0 d10_0 rfl rfl rfl ?_
  refine own_getfield (pc' := 4) B X0 (host := "") (Or.inl (own_w hw 21 rfl)) Via.refl F_w0_size d10_1 rfl ?_
  intro T1 X1
  exact own_retI B X1 d10_4 (by decide) (by decide) (⟨rfl, rfl⟩)
def Q_0 (Z : State) (i0 : Int32) (i1 : Int64) (i2 : Int32) (i3 : Int32) (h0 : Heap) (n0 : Nat) (v : Option Value) (h : Heap) : Prop :=
  (v = some (.int (1 : Int32)))
set_option maxRecDepth 65536 in
set_option maxHeartbeats 40000000 in
theorem rm_0 (l : Launch) (Z : State) (a0 : Array Value) (hw : ∀ d ∈ tables_1, d.before a0 Z = true) (ws : List Jvm.Cond) (i0 : Int32) (i1 : Int64) (i2 : Int32) (i3 : Int32) (h0 : Heap) (n0 : Nat) (Z0 : n0 ≤ h0.size)  :
    MetFree l x (head1 (Jvm.Cond.code x code maxLocals ret :: ws) room_1) (fun a U => a = #[(.int i0), (.long i1), (.int i2), (.int i3)] ∧ Z.Warmed39 U.vm ∧ U.heap = h0) (fun _ _ _ _ _ => True) (fun _ U o U' => ∃ v L, o = .returned v ∧ (Fr n0 L ∧ Q_0 Z i0 i1 i2 i3 h0 n0 v U'.heap) ∧ FrameEnd U o U' L room_1.cells room_1.slots) := by
  refine own_enter (Q := Q_0 Z i0 i1 i2 i3 h0 n0) (F := fun m => mkF m 0 #[.val (.int i0), .val (.long i1), .second, .val (.int i2), .val (.int i3), .unset, .unset, .unset, .unset, .unset, .unset, .unset, .unset, .unset] []) (plainFor_of_name pn_2) (fun m => by first | (simp [entryFrame, mkF, argsToLocals, Value.category, maxLocals]; done) | rfl) ?_
  intro p e s m below meth c s₁ B X0
  have K : Keep h0 h0 [] := Keep.refl h0 _
  refine own_iload (pc' := 2) B X0 at_0 rfl rfl ?_
  refine own_iconst (pc' := 3) B X0 (z := (1 : Int32)) at_2 rfl rfl ?_
  obtain ⟨y1, hy1⟩ : ∃ z : Int32, i3 &&& (1 : Int32) = z := ⟨_, rfl⟩
  refine own_iand (pc' := 4) B X0 at_3 rfl hy1 ?_
  by_cases c2 : y1 = (0 : Int32)
  · refine own_ifYes (pc' := 11) B X0 at_4 ((if0 _ _).trans (teq c2).1) (by decide) rfl ?_
    refine own_iconst (pc' := 12) B X0 (z := (0 : Int32)) at_11 rfl rfl ?_
    refine own_istore (pc' := 14) B X0 (Ls' := #[.val (.int i0), .val (.long i1), .second, .val (.int i2), .val (.int i3), .val (.int (0 : Int32)), .unset, .unset, .unset, .unset, .unset, .unset, .unset, .unset]) at_12 rfl rfl ?_
    refine own_iload (pc' := 16) B X0 at_14 rfl rfl ?_
    refine own_iconst (pc' := 17) B X0 (z := (2 : Int32)) at_16 rfl rfl ?_
    obtain ⟨y3, hy3⟩ : ∃ z : Int32, i3 &&& (2 : Int32) = z := ⟨_, rfl⟩
    refine own_iand (pc' := 18) B X0 at_17 rfl hy3 ?_
    by_cases c4 : y3 = (0 : Int32)
    · refine own_ifYes (pc' := 25) B X0 at_18 ((if0 _ _).trans (teq c4).1) (by decide) rfl ?_
      refine own_iconst (pc' := 26) B X0 (z := (0 : Int32)) at_25 rfl rfl ?_
      refine own_istore (pc' := 28) B X0 (Ls' := #[.val (.int i0), .val (.long i1), .second, .val (.int i2), .val (.int i3), .val (.int (0 : Int32)), .val (.int (0 : Int32)), .unset, .unset, .unset, .unset, .unset, .unset, .unset]) at_26 rfl rfl ?_
      refine own_iload (pc' := 30) B X0 at_28 rfl rfl ?_
      refine own_iconst (pc' := 31) B X0 (z := (4 : Int32)) at_30 rfl rfl ?_
      obtain ⟨y5, hy5⟩ : ∃ z : Int32, i3 &&& (4 : Int32) = z := ⟨_, rfl⟩
      refine own_iand (pc' := 32) B X0 at_31 rfl hy5 ?_
      by_cases c6 : y5 = (0 : Int32)
      · refine own_ifYes (pc' := 39) B X0 at_32 ((if0 _ _).trans (teq c6).1) (by decide) rfl ?_
        refine own_iconst (pc' := 40) B X0 (z := (0 : Int32)) at_39 rfl rfl ?_
        refine own_istore (pc' := 42) B X0 (Ls' := #[.val (.int i0), .val (.long i1), .second, .val (.int i2), .val (.int i3), .val (.int (0 : Int32)), .val (.int (0 : Int32)), .val (.int (0 : Int32)), .unset, .unset, .unset, .unset, .unset, .unset]) at_40 rfl rfl ?_
        refine own_bipush (pc' := 44) B X0 (z := (60 : Int32)) at_42 rfl (by decide) ?_
        refine own_newarray (pc' := 46) B X0 (own_w hw 0 rfl) at_44 rfl rfl (by decide) 60 (by decide) (by decide) (k' := 1) (n' := 60) rfl rfl (by decide) (by decide) "[B" (by decide) (.int (0 : Int32)) rfl ?_
        intro T7 h7 b7 kb7 X7 g7 E7 V_b7 E_b7
        have sz_b7 : h0.size ≤ b7 := own_sz K g7
        have g_b7 : n0 ≤ b7 := Nat.le_trans Z0 sz_b7
        replace K := K.ext E7
        refine own_astore (pc' := 48) B X7 (Ls' := #[.val (.int i0), .val (.long i1), .second, .val (.int i2), .val (.int i3), .val (.int (0 : Int32)), .val (.int (0 : Int32)), .val (.int (0 : Int32)), .val (.ref b7), .unset, .unset, .unset, .unset, .unset]) at_46 rfl rfl rfl ?_
        refine own_aload (pc' := 50) B X7 at_48 rfl rfl rfl ?_
        refine own_iconst (pc' := 51) B X7 (z := (0 : Int32)) at_50 rfl rfl ?_
        refine own_lloadN (pc' := 52) B X7 at_51 rfl rfl ?_
        obtain ⟨y8, hy8⟩ : ∃ z : Int32, i1.toInt32 = z := ⟨_, rfl⟩
        refine own_l2i (pc' := 53) B X7 at_52 rfl hy8 ?_
        obtain ⟨y9, hy9⟩ : ∃ z : Int32, y8.toInt8.toInt32 = z := ⟨_, rfl⟩
        refine own_i2b (pc' := 54) B X7 at_53 rfl hy9 ?_
        replace V_b7 : Arv Z h7 b7 kb7 .byte (60 : Int32) [(.int (0 : Int32))] (.int (0 : Int32)) := V_b7.pad (pad_rep [] (.int (0 : Int32)) 1)
        refine own_bastore (pc' := 55) B X7 (x' := y9) V_b7 g_b7 ⟨by decide, by decide⟩ 0 (by decide) (Nat.le_of_ble_eq_true rfl) (own_idem_i2b hy9) at_54 rfl ?_
        intro T10 h10 X10 W10 V_b7
        replace V_b7 : Arv Z h10 b7 kb7 .byte (60 : Int32) [(.int y9)] (.int (0 : Int32)) := V_b7
        replace E_b7 := E_b7.wr W10
        replace K := K.wr W10 (Or.inr sz_b7)
        refine own_aload (pc' := 57) B X10 at_55 rfl rfl rfl ?_
        refine own_bipush (pc' := 59) B X10 (z := (59 : Int32)) at_57 rfl (by decide) ?_
        refine own_iloadN (pc' := 60) B X10 at_59 rfl rfl ?_
        obtain ⟨y11, hy11⟩ : ∃ z : Int32, i2.toInt8.toInt32 = z := ⟨_, rfl⟩
        refine own_i2b (pc' := 61) B X10 at_60 rfl hy11 ?_
        replace V_b7 : Arv Z h10 b7 kb7 .byte (60 : Int32) ((.int y9) :: (.int (0 : Int32)) :: (.int (0 : Int32)) :: (.int (0 : Int32)) :: (.int (0 : Int32)) :: (.int (0 : Int32)) :: (.int (0 : Int32)) :: (.int (0 : Int32)) :: (.int (0 : Int32)) :: (.int (0 : Int32)) :: (.int (0 : Int32)) :: (.int (0 : Int32)) :: (.int (0 : Int32)) :: (.int (0 : Int32)) :: (.int (0 : Int32)) :: (.int (0 : Int32)) :: (.int (0 : Int32)) :: (.int (0 : Int32)) :: (.int (0 : Int32)) :: (.int (0 : Int32)) :: (.int (0 : Int32)) :: (.int (0 : Int32)) :: (.int (0 : Int32)) :: (.int (0 : Int32)) :: (.int (0 : Int32)) :: (.int (0 : Int32)) :: (.int (0 : Int32)) :: (.int (0 : Int32)) :: (.int (0 : Int32)) :: (.int (0 : Int32)) :: (.int (0 : Int32)) :: (.int (0 : Int32)) :: (.int (0 : Int32)) :: (.int (0 : Int32)) :: (.int (0 : Int32)) :: (.int (0 : Int32)) :: (.int (0 : Int32)) :: (.int (0 : Int32)) :: (.int (0 : Int32)) :: (.int (0 : Int32)) :: (.int (0 : Int32)) :: (.int (0 : Int32)) :: (.int (0 : Int32)) :: (.int (0 : Int32)) :: (.int (0 : Int32)) :: (.int (0 : Int32)) :: (.int (0 : Int32)) :: (.int (0 : Int32)) :: (.int (0 : Int32)) :: (.int (0 : Int32)) :: (.int (0 : Int32)) :: (.int (0 : Int32)) :: (.int (0 : Int32)) :: (.int (0 : Int32)) :: (.int (0 : Int32)) :: (.int (0 : Int32)) :: (.int (0 : Int32)) :: (.int (0 : Int32)) :: (.int (0 : Int32)) :: (.int (0 : Int32)) :: []) (.int (0 : Int32)) := V_b7.pad (pad_rep [(.int y9)] (.int (0 : Int32)) 59)
        refine own_bastore (pc' := 62) B X10 (x' := y11) V_b7 g_b7 ⟨by decide, by decide⟩ 59 (by decide) (Nat.le_of_ble_eq_true rfl) (own_idem_i2b hy11) at_61 rfl ?_
        intro T12 h12 X12 W12 V_b7
        replace V_b7 : Arv Z h12 b7 kb7 .byte (60 : Int32) ((.int y9) :: (.int (0 : Int32)) :: (.int (0 : Int32)) :: (.int (0 : Int32)) :: (.int (0 : Int32)) :: (.int (0 : Int32)) :: (.int (0 : Int32)) :: (.int (0 : Int32)) :: (.int (0 : Int32)) :: (.int (0 : Int32)) :: (.int (0 : Int32)) :: (.int (0 : Int32)) :: (.int (0 : Int32)) :: (.int (0 : Int32)) :: (.int (0 : Int32)) :: (.int (0 : Int32)) :: (.int (0 : Int32)) :: (.int (0 : Int32)) :: (.int (0 : Int32)) :: (.int (0 : Int32)) :: (.int (0 : Int32)) :: (.int (0 : Int32)) :: (.int (0 : Int32)) :: (.int (0 : Int32)) :: (.int (0 : Int32)) :: (.int (0 : Int32)) :: (.int (0 : Int32)) :: (.int (0 : Int32)) :: (.int (0 : Int32)) :: (.int (0 : Int32)) :: (.int (0 : Int32)) :: (.int (0 : Int32)) :: (.int (0 : Int32)) :: (.int (0 : Int32)) :: (.int (0 : Int32)) :: (.int (0 : Int32)) :: (.int (0 : Int32)) :: (.int (0 : Int32)) :: (.int (0 : Int32)) :: (.int (0 : Int32)) :: (.int (0 : Int32)) :: (.int (0 : Int32)) :: (.int (0 : Int32)) :: (.int (0 : Int32)) :: (.int (0 : Int32)) :: (.int (0 : Int32)) :: (.int (0 : Int32)) :: (.int (0 : Int32)) :: (.int (0 : Int32)) :: (.int (0 : Int32)) :: (.int (0 : Int32)) :: (.int (0 : Int32)) :: (.int (0 : Int32)) :: (.int (0 : Int32)) :: (.int (0 : Int32)) :: (.int (0 : Int32)) :: (.int (0 : Int32)) :: (.int (0 : Int32)) :: (.int (0 : Int32)) :: (.int y11) :: []) (.int (0 : Int32)) := V_b7
        replace E_b7 := E_b7.wr W12
        replace K := K.wr W12 (Or.inr sz_b7)
        refine own_new (pc' := 65) B X12 (own_w hw 1 rfl) (own_w hw 2 rfl) (own_w hw 3 rfl) at_62 rfl (k' := 2) (n' := 62) rfl rfl (by decide) (by decide) ?_
        intro T13 h13 b13 X13 g13 E13 E_b13 D13
        have ne_b7_b13 : b7 ≠ b13 := own_ne E_b7.lt g13
        have sz_b13 : h0.size ≤ b13 := own_sz K g13
        have g_b13 : n0 ≤ b13 := Nat.le_trans Z0 sz_b13
        replace K := K.ext E13
        replace E_b7 := E_b7.ext E13
        replace V_b7 := V_b7.ext E13
        have F_b13_bytes : Fld Z h13 b13 "com/example/siltstone/siltstone/format/ByteSink" "bytes" "[B" .null := D13 (Or.inl (own_w hw 11 rfl)) (ty := (.array .byte)) (by decide)
        have F_b13_size : Fld Z h13 b13 "com/example/siltstone/siltstone/format/ByteSink" "size" "I" (.int (0 : Int32)) := D13 (Or.inl (own_w hw 22 rfl)) (ty := .int) (by decide)
        clear D13
        refine own_dup (pc' := 66) B X13 at_65 rfl rfl ?_
        refine own_callI (pc' := 69) B X13 rfl rfl (own_w hw 4 rfl) (own_w hw 5 rfl) (own_w hw 3 rfl) (own_w hw 6 rfl) (by decide) [] [(.ref b13)] (rm_1 l Z a0 hw [] b13 h13 n0 (Nat.le_trans Z0 K.1) E_b13 F_b13_bytes F_b13_size g_b13) 1 (by decide) (by decide) rfl pd_0 rfl rfl (Nat.le_of_eq rfl) at_66 rfl (k' := 3) (n' := 126) rfl rfl (by decide) (by decide) ?_
        intro T14 v14 h14 X14 q14
        have lt_b7 := E_b7.lt
        have lt_b13 := E_b13.lt
        obtain ⟨b15, k16, rfl, K14, z_b15, E_b13, F_b13_bytes, F_b13_size, E_b15, V_b15⟩ := q14
        have ne_b7_b15 : b7 ≠ b15 := own_ne' lt_b7 z_b15
        have ne_b13_b15 : b13 ≠ b15 := own_ne' lt_b13 z_b15
        have sz_b15 : h0.size ≤ b15 := Nat.le_trans K.1 z_b15
        have g_b15 : n0 ≤ b15 := Nat.le_trans Z0 sz_b15
        replace K := K.trans K14 (allS (Or.inr sz_b13) all0)
        replace E_b7 := E_b7.keep K14
        replace V_b7 := V_b7.keep K14 (ninS ne_b7_b13 nin0)
        show own_Go p e below (T14.setTop (mkF m 69 #[.val (.int i0), .val (.long i1), .second, .val (.int i2), .val (.int i3), .val (.int (0 : Int32)), .val (.int (0 : Int32)), .val (.int (0 : Int32)), .val (.ref b7), .unset, .unset, .unset, .unset, .unset] [(.ref b13)])) _
        refine own_astore (pc' := 71) B X14 (Ls' := #[.val (.int i0), .val (.long i1), .second, .val (.int i2), .val (.int i3), .val (.int (0 : Int32)), .val (.int (0 : Int32)), .val (.int (0 : Int32)), .val (.ref b7), .val (.ref b13), .unset, .unset, .unset, .unset]) at_69 rfl rfl rfl ?_
        refine own_iload (pc' := 73) B X14 at_71 rfl rfl ?_
        refine own_ifYes (pc' := 83) B X14 at_73 ((if0 _ _).trans (teq (by decide : (0 : Int32) = (0 : Int32))).1) (by decide) rfl ?_
        refine own_aload (pc' := 85) B X14 at_83 rfl rfl rfl ?_
        refine own_iloadN (pc' := 86) B X14 at_85 rfl rfl ?_
        refine own_callV (pc' := 89) B X14 (own_w hw 12 rfl) (own_w hw 13 rfl) (own_w hw 15 rfl) (own_w hw 14 rfl) (own_w hw 3 rfl) (own_w hw 16 rfl) E_b13 (by decide) [(.int i0)] [] (rm_2 l Z a0 hw [] b13 b15 k16 (i0) h14 n0 (Nat.le_trans Z0 K.1) E_b13 F_b13_bytes F_b13_size g_b13 E_b15 V_b15 g_b15 ne_b13_b15) 0 (by decide) (by decide) rfl pd_1 rfl rfl (Nat.le_of_eq rfl) at_86 rfl (k' := 3) (n' := 126) rfl rfl (by decide) (by decide) ?_
        intro T17 v17 h17 X17 q17
        obtain ⟨y18, y19, y20, y21, y22, y23, y24, hy25, hy26, hy27, hy28, hy29, hy30, hy31, rfl, K17, E_b13, F_b13_bytes, F_b13_size, E_b15, V_b15⟩ := q17
        replace K := K.trans K17 (allS (Or.inr sz_b13) (allS (Or.inr sz_b15) all0))
        replace E_b7 := E_b7.keep K17
        replace V_b7 := V_b7.keep K17 (ninS ne_b7_b13 (ninS ne_b7_b15 nin0))
        show own_Go p e below (T17.setTop (mkF m 89 #[.val (.int i0), .val (.long i1), .second, .val (.int i2), .val (.int i3), .val (.int (0 : Int32)), .val (.int (0 : Int32)), .val (.int (0 : Int32)), .val (.ref b7), .val (.ref b13), .unset, .unset, .unset, .unset] [])) _
        refine own_aload (pc' := 91) B X17 at_89 rfl rfl rfl ?_
        refine own_lloadN (pc' := 92) B X17 at_91 rfl rfl ?_
        refine own_callV (pc' := 95) B X17 (own_w hw 23 rfl) (own_w hw 24 rfl) (own_w hw 26 rfl) (own_w hw 25 rfl) (own_w hw 3 rfl) (own_w hw 27 rfl) E_b13 (by decide) [(.long i1)] [] (rm_4 l Z a0 hw [] b13 b15 k16 (y18) (y20) (y22) (y24) (i1) h17 n0 (Nat.le_trans Z0 K.1) E_b13 F_b13_bytes F_b13_size g_b13 E_b15 V_b15 g_b15 ne_b13_b15) 0 (by decide) (by decide) rfl pd_2 rfl rfl (Nat.le_of_eq rfl) at_92 rfl (k' := 3) (n' := 126) rfl rfl (by decide) (by decide) ?_
        intro T32 v32 h32 X32 q32
        obtain ⟨y33, y34, y35, y36, y37, y38, y39, y40, y41, y42, y43, y44, y45, y46, y47, y48, y49, y50, y51, y52, y53, y54, y55, hy56, hy57, hy58, hy59, hy60, hy61, hy62, hy63, hy64, hy65, hy66, hy67, hy68, hy69, hy70, hy71, hy72, hy73, hy74, hy75, hy76, hy77, hy78, rfl, K32, E_b13, F_b13_bytes, F_b13_size, E_b15, V_b15⟩ := q32
        obtain rfl : y8 = y33 := (hy8 : i1.toInt32 = y8).symm.trans hy56
        obtain rfl : y9 = y34 := (hy9 : y8.toInt8.toInt32 = y9).symm.trans hy57
        replace K := K.trans K32 (allS (Or.inr sz_b13) (allS (Or.inr sz_b15) all0))
        replace E_b7 := E_b7.keep K32
        replace V_b7 := V_b7.keep K32 (ninS ne_b7_b13 (ninS ne_b7_b15 nin0))
        show own_Go p e below (T32.setTop (mkF m 95 #[.val (.int i0), .val (.long i1), .second, .val (.int i2), .val (.int i3), .val (.int (0 : Int32)), .val (.int (0 : Int32)), .val (.int (0 : Int32)), .val (.ref b7), .val (.ref b13), .unset, .unset, .unset, .unset] [])) _
        refine own_aload (pc' := 97) B X32 at_95 rfl rfl rfl ?_
        refine own_iloadN (pc' := 98) B X32 at_97 rfl rfl ?_
        refine own_callV (pc' := 101) B X32 (own_w hw 28 rfl) (own_w hw 29 rfl) (own_w hw 31 rfl) (own_w hw 30 rfl) (own_w hw 3 rfl) (own_w hw 32 rfl) E_b13 (by decide) [(.int i2)] [] (rm_6 l Z a0 hw [] b13 b15 k16 (y18) (y20) (y22) (y24) (y9) (y37) (y40) (y43) (y46) (y49) (y52) (y55) (i2) h32 n0 (Nat.le_trans Z0 K.1) E_b13 F_b13_bytes F_b13_size g_b13 E_b15 V_b15 g_b15 ne_b13_b15) 0 (by decide) (by decide) rfl pd_1 rfl rfl (Nat.le_of_eq rfl) at_98 rfl (k' := 3) (n' := 126) rfl rfl (by decide) (by decide) ?_
        intro T79 v79 h79 X79 q79
        obtain ⟨y80, hy81, rfl, K79, E_b13, F_b13_bytes, F_b13_size, E_b15, V_b15⟩ := q79
        obtain rfl : y11 = y80 := (hy11 : i2.toInt8.toInt32 = y11).symm.trans hy81
        replace K := K.trans K79 (allS (Or.inr sz_b13) (allS (Or.inr sz_b15) all0))
        replace E_b7 := E_b7.keep K79
        replace V_b7 := V_b7.keep K79 (ninS ne_b7_b13 (ninS ne_b7_b15 nin0))
        show own_Go p e below (T79.setTop (mkF m 101 #[.val (.int i0), .val (.long i1), .second, .val (.int i2), .val (.int i3), .val (.int (0 : Int32)), .val (.int (0 : Int32)), .val (.int (0 : Int32)), .val (.ref b7), .val (.ref b13), .unset, .unset, .unset, .unset] [])) _
        refine own_iload (pc' := 103) B X79 at_101 rfl rfl ?_
        refine own_ifYes (pc' := 122) B X79 at_103 ((if0 _ _).trans (teq (by decide : (0 : Int32) = (0 : Int32))).1) (by decide) rfl ?_
        refine own_aload (pc' := 124) B X79 at_122 rfl rfl rfl ?_
        refine own_callV (pc' := 127) B X79 (own_w hw 33 rfl) (own_w hw 34 rfl) (own_w hw 36 rfl) (own_w hw 35 rfl) (own_w hw 3 rfl) (own_w hw 37 rfl) E_b13 (by decide) [] [] (rm_8 l Z a0 hw [] b13 b15 k16 (y18) (y20) (y22) (y24) (y9) (y37) (y40) (y43) (y46) (y49) (y52) (y55) (y11) h79 n0 (Nat.le_trans Z0 K.1) E_b13 F_b13_bytes F_b13_size g_b13 E_b15 V_b15 g_b15 ne_b13_b15) 0 (by decide) (by decide) rfl pd_5 rfl rfl (Nat.le_of_eq rfl) at_124 rfl (k' := 4) (n' := 139) rfl rfl (by decide) (by decide) ?_
        intro T82 v82 h82 X82 q82
        have lt_b7 := E_b7.lt
        have lt_b13 := E_b13.lt
        have lt_b15 := E_b15.lt
        obtain ⟨b83, k84, rfl, K82, z_b83, E_b83, V_b83⟩ := q82
        have ne_b7_b83 : b7 ≠ b83 := own_ne' lt_b7 z_b83
        have ne_b13_b83 : b13 ≠ b83 := own_ne' lt_b13 z_b83
        have ne_b15_b83 : b15 ≠ b83 := own_ne' lt_b15 z_b83
        have sz_b83 : h0.size ≤ b83 := Nat.le_trans K.1 z_b83
        have g_b83 : n0 ≤ b83 := Nat.le_trans Z0 sz_b83
        replace K := K.trans K82 all0
        replace E_b7 := E_b7.keep K82
        replace V_b7 := V_b7.keep K82 nin0
        replace E_b13 := E_b13.keep K82
        replace F_b13_bytes := F_b13_bytes.keep K82 nin0
        replace F_b13_size := F_b13_size.keep K82 nin0
        replace E_b15 := E_b15.keep K82
        replace V_b15 := V_b15.keep K82 nin0
        show own_Go p e below (T82.setTop (mkF m 127 #[.val (.int i0), .val (.long i1), .second, .val (.int i2), .val (.int i3), .val (.int (0 : Int32)), .val (.int (0 : Int32)), .val (.int (0 : Int32)), .val (.ref b7), .val (.ref b13), .unset, .unset, .unset, .unset] [(.ref b83)])) _
        refine own_astore (pc' := 129) B X82 (Ls' := #[.val (.int i0), .val (.long i1), .second, .val (.int i2), .val (.int i3), .val (.int (0 : Int32)), .val (.int (0 : Int32)), .val (.int (0 : Int32)), .val (.ref b7), .val (.ref b13), .val (.ref b83), .unset, .unset, .unset]) at_127 rfl rfl rfl ?_
        refine own_iload (pc' := 131) B X82 at_129 rfl rfl ?_
        refine own_ifYes (pc' := 181) B X82 at_131 ((if0 _ _).trans (teq (by decide : (0 : Int32) = (0 : Int32))).1) (by decide) rfl ?_
        refine own_iload (pc' := 183) B X82 at_181 rfl rfl ?_
        refine own_ifYes (pc' := 191) B X82 at_183 ((if0 _ _).trans (teq (by decide : (0 : Int32) = (0 : Int32))).1) (by decide) rfl ?_
        refine own_iconst (pc' := 192) B X82 (z := (0 : Int32)) at_191 rfl rfl ?_
        refine own_istore (pc' := 194) B X82 (Ls' := #[.val (.int i0), .val (.long i1), .second, .val (.int i2), .val (.int i3), .val (.int (0 : Int32)), .val (.int (0 : Int32)), .val (.int (0 : Int32)), .val (.ref b7), .val (.ref b13), .val (.ref b83), .unset, .val (.int (0 : Int32)), .unset]) at_192 rfl rfl ?_
        refine own_aload (pc' := 196) B X82 at_194 rfl rfl rfl ?_
        refine own_arraylength (pc' := 197) B X82 V_b83 at_196 rfl ?_
        refine own_iload (pc' := 199) B X82 at_197 rfl rfl ?_
        refine own_bipush (pc' := 201) B X82 (z := (13 : Int32)) at_199 rfl (by decide) ?_
        refine own_iadd (pc' := 202) B X82 (z := (13 : Int32)) at_201 rfl (by decide) ?_
        refine own_icmpNo (pc' := 205) B X82 at_202 (teq (by decide : (13 : Int32) = (13 : Int32))).2 rfl ?_
        refine own_aload (pc' := 207) B X82 at_205 rfl rfl rfl ?_
        refine own_iload (pc' := 209) B X82 at_207 rfl rfl ?_
        refine own_baload (pc' := 210) B X82 V_b83 (v := (.int y18)) ⟨by decide, by decide⟩ rfl at_209 rfl ?_
        refine own_iloadN (pc' := 211) B X82 at_210 rfl rfl ?_
        refine own_i2b (pc' := 212) B X82 at_211 rfl hy25 ?_
        refine own_icmpNo (pc' := 215) B X82 at_212 (teq rfl).2 rfl ?_
        refine own_aload (pc' := 217) B X82 at_215 rfl rfl rfl ?_
        refine own_iload (pc' := 219) B X82 at_217 rfl rfl ?_
        refine own_iconst (pc' := 220) B X82 (z := (1 : Int32)) at_219 rfl rfl ?_
        refine own_iadd (pc' := 221) B X82 (z := (1 : Int32)) at_220 rfl (by decide) ?_
        refine own_baload (pc' := 222) B X82 V_b83 (v := (.int y20)) ⟨by decide, by decide⟩ rfl at_221 rfl ?_
        refine own_iloadN (pc' := 223) B X82 at_222 rfl rfl ?_
        refine own_bipush (pc' := 225) B X82 (z := (8 : Int32)) at_223 rfl (by decide) ?_
        obtain ⟨y85, hy85⟩ : ∃ z : Int32, i0 >>> ((8 : Int32) &&& 31) = z := ⟨_, rfl⟩
        refine own_ishr (pc' := 226) B X82 at_225 rfl hy85 ?_
        obtain ⟨y86, hy86⟩ : ∃ z : Int32, y85.toInt8.toInt32 = z := ⟨_, rfl⟩
        refine own_i2b (pc' := 227) B X82 at_226 rfl hy86 ?_
        have c87 : y20 = y86 := by
          have o0 := own_o_iushr hy26 8 (by decide) (by decide)
          have o1 := own_o_i2b hy27
          have o2 := own_o_ishr hy85 8 (by decide)
          have o3 := own_o_i2b hy86
          have o4 := rng32 i0
          have o5 := rng32 y19
          have o6 := rng32 y20
          have o7 := rng32 y85
          have o8 := rng32 y86
          have o9 : (8 : Int32).toInt = 8 := by decide
          refine own_eqI ?_
          omega
        refine own_icmpNo (pc' := 230) B X82 at_227 (teq c87).2 rfl ?_
        refine own_aload (pc' := 232) B X82 at_230 rfl rfl rfl ?_
        refine own_iload (pc' := 234) B X82 at_232 rfl rfl ?_
        refine own_iconst (pc' := 235) B X82 (z := (2 : Int32)) at_234 rfl rfl ?_
        refine own_iadd (pc' := 236) B X82 (z := (2 : Int32)) at_235 rfl (by decide) ?_
        refine own_baload (pc' := 237) B X82 V_b83 (v := (.int y22)) ⟨by decide, by decide⟩ rfl at_236 rfl ?_
        refine own_iloadN (pc' := 238) B X82 at_237 rfl rfl ?_
        refine own_bipush (pc' := 240) B X82 (z := (16 : Int32)) at_238 rfl (by decide) ?_
        obtain ⟨y88, hy88⟩ : ∃ z : Int32, i0 >>> ((16 : Int32) &&& 31) = z := ⟨_, rfl⟩
        refine own_ishr (pc' := 241) B X82 at_240 rfl hy88 ?_
        obtain ⟨y89, hy89⟩ : ∃ z : Int32, y88.toInt8.toInt32 = z := ⟨_, rfl⟩
        refine own_i2b (pc' := 242) B X82 at_241 rfl hy89 ?_
        have c90 : y22 = y89 := by
          have o0 := own_o_iushr hy26 8 (by decide) (by decide)
          have o1 := own_o_i2b hy27
          have o2 := own_o_iushr hy28 16 (by decide) (by decide)
          have o3 := own_o_i2b hy29
          have o4 := own_o_ishr hy85 8 (by decide)
          have o5 := own_o_i2b hy86
          have o6 := own_o_ishr hy88 16 (by decide)
          have o7 := own_o_i2b hy89
          have o8 := own_eq c87
          have o9 := rng32 i0
          have o10 := rng32 y19
          have o11 := rng32 y20
          have o12 := rng32 y21
          have o13 := rng32 y22
          have o14 := rng32 y85
          have o15 := rng32 y86
          have o16 := rng32 y88
          have o17 := rng32 y89
          have o18 : (8 : Int32).toInt = 8 := by decide
          have o19 : (16 : Int32).toInt = 16 := by decide
          refine own_eqI ?_
          omega
        refine own_icmpNo (pc' := 245) B X82 at_242 (teq c90).2 rfl ?_
        refine own_aload (pc' := 247) B X82 at_245 rfl rfl rfl ?_
        refine own_iload (pc' := 249) B X82 at_247 rfl rfl ?_
        refine own_iconst (pc' := 250) B X82 (z := (3 : Int32)) at_249 rfl rfl ?_
        refine own_iadd (pc' := 251) B X82 (z := (3 : Int32)) at_250 rfl (by decide) ?_
        refine own_baload (pc' := 252) B X82 V_b83 (v := (.int y24)) ⟨by decide, by decide⟩ rfl at_251 rfl ?_
        refine own_iloadN (pc' := 253) B X82 at_252 rfl rfl ?_
        refine own_bipush (pc' := 255) B X82 (z := (24 : Int32)) at_253 rfl (by decide) ?_
        obtain ⟨y91, hy91⟩ : ∃ z : Int32, i0 >>> ((24 : Int32) &&& 31) = z := ⟨_, rfl⟩
        refine own_ishr (pc' := 256) B X82 at_255 rfl hy91 ?_
        obtain ⟨y92, hy92⟩ : ∃ z : Int32, y91.toInt8.toInt32 = z := ⟨_, rfl⟩
        refine own_i2b (pc' := 257) B X82 at_256 rfl hy92 ?_
        have c93 : y24 = y92 := by
          have o0 := own_o_iushr hy26 8 (by decide) (by decide)
          have o1 := own_o_i2b hy27
          have o2 := own_o_iushr hy28 16 (by decide) (by decide)
          have o3 := own_o_i2b hy29
          have o4 := own_o_iushr hy30 24 (by decide) (by decide)
          have o5 := own_o_i2b hy31
          have o6 := own_o_ishr hy85 8 (by decide)
          have o7 := own_o_i2b hy86
          have o8 := own_o_ishr hy88 16 (by decide)
          have o9 := own_o_i2b hy89
          have o10 := own_o_ishr hy91 24 (by decide)
          have o11 := own_o_i2b hy92
          have o12 := own_eq c87
          have o13 := own_eq c90
          have o14 := rng32 i0
          have o15 := rng32 y19
          have o16 := rng32 y20
          have o17 := rng32 y21
          have o18 := rng32 y22
          have o19 := rng32 y23
          have o20 := rng32 y24
          have o21 := rng32 y85
          have o22 := rng32 y86
          have o23 := rng32 y88
          have o24 := rng32 y89
          have o25 := rng32 y91
          have o26 := rng32 y92
          have o27 : (8 : Int32).toInt = 8 := by decide
          have o28 : (16 : Int32).toInt = 16 := by decide
          have o29 : (24 : Int32).toInt = 24 := by decide
          refine own_eqI ?_
          omega
        refine own_icmpNo (pc' := 260) B X82 at_257 (teq c93).2 rfl ?_
        refine own_aload (pc' := 262) B X82 at_260 rfl rfl rfl ?_
        refine own_iload (pc' := 264) B X82 at_262 rfl rfl ?_
        refine own_iconst (pc' := 265) B X82 (z := (4 : Int32)) at_264 rfl rfl ?_
        refine own_iadd (pc' := 266) B X82 (z := (4 : Int32)) at_265 rfl (by decide) ?_
        refine own_baload (pc' := 267) B X82 V_b83 (v := (.int y9)) ⟨by decide, by decide⟩ rfl at_266 rfl ?_
        refine own_lloadN (pc' := 268) B X82 at_267 rfl rfl ?_
        refine own_l2i (pc' := 269) B X82 at_268 rfl hy8 ?_
        refine own_i2b (pc' := 270) B X82 at_269 rfl hy9 ?_
        refine own_icmpNo (pc' := 273) B X82 at_270 (teq rfl).2 rfl ?_
        refine own_aload (pc' := 275) B X82 at_273 rfl rfl rfl ?_
        refine own_iload (pc' := 277) B X82 at_275 rfl rfl ?_
        refine own_iconst (pc' := 278) B X82 (z := (5 : Int32)) at_277 rfl rfl ?_
        refine own_iadd (pc' := 279) B X82 (z := (5 : Int32)) at_278 rfl (by decide) ?_
        refine own_baload (pc' := 280) B X82 V_b83 (v := (.int y37)) ⟨by decide, by decide⟩ rfl at_279 rfl ?_
        refine own_lloadN (pc' := 281) B X82 at_280 rfl rfl ?_
        refine own_bipush (pc' := 283) B X82 (z := (8 : Int32)) at_281 rfl (by decide) ?_
        obtain ⟨y94, hy94⟩ : ∃ z : Int64, i1 >>> ((8 : Int32) &&& 0x3f).toInt64 = z := ⟨_, rfl⟩
        refine own_lshr (pc' := 284) B X82 at_283 rfl hy94 ?_
        obtain ⟨y95, hy95⟩ : ∃ z : Int32, y94.toInt32 = z := ⟨_, rfl⟩
        refine own_l2i (pc' := 285) B X82 at_284 rfl hy95 ?_
        obtain ⟨y96, hy96⟩ : ∃ z : Int32, y95.toInt8.toInt32 = z := ⟨_, rfl⟩
        refine own_i2b (pc' := 286) B X82 at_285 rfl hy96 ?_
        have c97 : y37 = y96 := by
          have o0 := own_o_lushr hy58 8 (by decide) (by decide)
          have o1 := own_o_l2i hy59
          have o2 := own_o_i2b hy60
          have o3 := own_o_lshr hy94 8 (by decide)
          have o4 := own_o_l2i hy95
          have o5 := own_o_i2b hy96
          have o6 := rng32 y36
          have o7 := rng32 y37
          have o8 := rng32 y95
          have o9 := rng32 y96
          have o10 := rng64 i1
          have o11 := rng64 y35
          have o12 := rng64 y94
          have o13 : (8 : Int32).toInt = 8 := by decide
          refine own_eqI ?_
          omega
        refine own_icmpNo (pc' := 289) B X82 at_286 (teq c97).2 rfl ?_
        refine own_aload (pc' := 291) B X82 at_289 rfl rfl rfl ?_
        refine own_iload (pc' := 293) B X82 at_291 rfl rfl ?_
        refine own_bipush (pc' := 295) B X82 (z := (6 : Int32)) at_293 rfl (by decide) ?_
        refine own_iadd (pc' := 296) B X82 (z := (6 : Int32)) at_295 rfl (by decide) ?_
        refine own_baload (pc' := 297) B X82 V_b83 (v := (.int y40)) ⟨by decide, by decide⟩ rfl at_296 rfl ?_
        refine own_lloadN (pc' := 298) B X82 at_297 rfl rfl ?_
        refine own_bipush (pc' := 300) B X82 (z := (16 : Int32)) at_298 rfl (by decide) ?_
        obtain ⟨y98, hy98⟩ : ∃ z : Int64, i1 >>> ((16 : Int32) &&& 0x3f).toInt64 = z := ⟨_, rfl⟩
        refine own_lshr (pc' := 301) B X82 at_300 rfl hy98 ?_
        obtain ⟨y99, hy99⟩ : ∃ z : Int32, y98.toInt32 = z := ⟨_, rfl⟩
        refine own_l2i (pc' := 302) B X82 at_301 rfl hy99 ?_
        obtain ⟨y100, hy100⟩ : ∃ z : Int32, y99.toInt8.toInt32 = z := ⟨_, rfl⟩
        refine own_i2b (pc' := 303) B X82 at_302 rfl hy100 ?_
        have c101 : y40 = y100 := by
          have o0 := own_o_lushr hy58 8 (by decide) (by decide)
          have o1 := own_o_l2i hy59
          have o2 := own_o_i2b hy60
          have o3 := own_o_lushr hy61 16 (by decide) (by decide)
          have o4 := own_o_l2i hy62
          have o5 := own_o_i2b hy63
          have o6 := own_o_lshr hy94 8 (by decide)
          have o7 := own_o_l2i hy95
          have o8 := own_o_i2b hy96
          have o9 := own_o_lshr hy98 16 (by decide)
          have o10 := own_o_l2i hy99
          have o11 := own_o_i2b hy100
          have o12 := own_eq c97
          have o13 := rng32 y100
          have o14 := rng32 y36
          have o15 := rng32 y37
          have o16 := rng32 y39
          have o17 := rng32 y40
          have o18 := rng32 y95
          have o19 := rng32 y96
          have o20 := rng32 y99
          have o21 := rng64 i1
          have o22 := rng64 y35
          have o23 := rng64 y38
          have o24 := rng64 y94
          have o25 := rng64 y98
          have o26 : (8 : Int32).toInt = 8 := by decide
          have o27 : (16 : Int32).toInt = 16 := by decide
          refine own_eqI ?_
          omega
        refine own_icmpNo (pc' := 306) B X82 at_303 (teq c101).2 rfl ?_
        refine own_aload (pc' := 308) B X82 at_306 rfl rfl rfl ?_
        refine own_iload (pc' := 310) B X82 at_308 rfl rfl ?_
        refine own_bipush (pc' := 312) B X82 (z := (7 : Int32)) at_310 rfl (by decide) ?_
        refine own_iadd (pc' := 313) B X82 (z := (7 : Int32)) at_312 rfl (by decide) ?_
        refine own_baload (pc' := 314) B X82 V_b83 (v := (.int y43)) ⟨by decide, by decide⟩ rfl at_313 rfl ?_
        refine own_lloadN (pc' := 315) B X82 at_314 rfl rfl ?_
        refine own_bipush (pc' := 317) B X82 (z := (24 : Int32)) at_315 rfl (by decide) ?_
        obtain ⟨y102, hy102⟩ : ∃ z : Int64, i1 >>> ((24 : Int32) &&& 0x3f).toInt64 = z := ⟨_, rfl⟩
        refine own_lshr (pc' := 318) B X82 at_317 rfl hy102 ?_
        obtain ⟨y103, hy103⟩ : ∃ z : Int32, y102.toInt32 = z := ⟨_, rfl⟩
        refine own_l2i (pc' := 319) B X82 at_318 rfl hy103 ?_
        obtain ⟨y104, hy104⟩ : ∃ z : Int32, y103.toInt8.toInt32 = z := ⟨_, rfl⟩
        refine own_i2b (pc' := 320) B X82 at_319 rfl hy104 ?_
        have c105 : y43 = y104 := by
          have o0 := own_o_lushr hy58 8 (by decide) (by decide)
          have o1 := own_o_l2i hy59
          have o2 := own_o_i2b hy60
          have o3 := own_o_lushr hy61 16 (by decide) (by decide)
          have o4 := own_o_l2i hy62
          have o5 := own_o_i2b hy63
          have o6 := own_o_lushr hy64 24 (by decide) (by decide)
          have o7 := own_o_l2i hy65
          have o8 := own_o_i2b hy66
          have o9 := own_o_lshr hy94 8 (by decide)
          have o10 := own_o_l2i hy95
          have o11 := own_o_i2b hy96
          have o12 := own_o_lshr hy98 16 (by decide)
          have o13 := own_o_l2i hy99
          have o14 := own_o_i2b hy100
          have o15 := own_o_lshr hy102 24 (by decide)
          have o16 := own_o_l2i hy103
          have o17 := own_o_i2b hy104
          have o18 := own_eq c97
          have o19 := own_eq c101
          have o20 := rng32 y100
          have o21 := rng32 y103
          have o22 := rng32 y104
          have o23 := rng32 y36
          have o24 := rng32 y37
          have o25 := rng32 y39
          have o26 := rng32 y40
          have o27 := rng32 y42
          have o28 := rng32 y43
          have o29 := rng32 y95
          have o30 := rng32 y96
          have o31 := rng32 y99
          have o32 := rng64 i1
          have o33 := rng64 y102
          have o34 := rng64 y35
          have o35 := rng64 y38
          have o36 := rng64 y41
          have o37 := rng64 y94
          have o38 := rng64 y98
          have o39 : (8 : Int32).toInt = 8 := by decide
          have o40 : (16 : Int32).toInt = 16 := by decide
          have o41 : (24 : Int32).toInt = 24 := by decide
          refine own_eqI ?_
          omega
        refine own_icmpNo (pc' := 323) B X82 at_320 (teq c105).2 rfl ?_
        refine own_aload (pc' := 325) B X82 at_323 rfl rfl rfl ?_
        refine own_iload (pc' := 327) B X82 at_325 rfl rfl ?_
        refine own_bipush (pc' := 329) B X82 (z := (8 : Int32)) at_327 rfl (by decide) ?_
        refine own_iadd (pc' := 330) B X82 (z := (8 : Int32)) at_329 rfl (by decide) ?_
        refine own_baload (pc' := 331) B X82 V_b83 (v := (.int y46)) ⟨by decide, by decide⟩ rfl at_330 rfl ?_
        refine own_lloadN (pc' := 332) B X82 at_331 rfl rfl ?_
        refine own_bipush (pc' := 334) B X82 (z := (32 : Int32)) at_332 rfl (by decide) ?_
        obtain ⟨y106, hy106⟩ : ∃ z : Int64, i1 >>> ((32 : Int32) &&& 0x3f).toInt64 = z := ⟨_, rfl⟩
        refine own_lshr (pc' := 335) B X82 at_334 rfl hy106 ?_
        obtain ⟨y107, hy107⟩ : ∃ z : Int32, y106.toInt32 = z := ⟨_, rfl⟩
        refine own_l2i (pc' := 336) B X82 at_335 rfl hy107 ?_
        obtain ⟨y108, hy108⟩ : ∃ z : Int32, y107.toInt8.toInt32 = z := ⟨_, rfl⟩
        refine own_i2b (pc' := 337) B X82 at_336 rfl hy108 ?_
        have c109 : y46 = y108 := by
          have o0 := own_o_lushr hy58 8 (by decide) (by decide)
          have o1 := own_o_l2i hy59
          have o2 := own_o_i2b hy60
          have o3 := own_o_lushr hy61 16 (by decide) (by decide)
          have o4 := own_o_l2i hy62
          have o5 := own_o_i2b hy63
          have o6 := own_o_lushr hy64 24 (by decide) (by decide)
          have o7 := own_o_l2i hy65
          have o8 := own_o_i2b hy66
          have o9 := own_o_lushr hy67 32 (by decide) (by decide)
          have o10 := own_o_l2i hy68
          have o11 := own_o_i2b hy69
          have o12 := own_o_lshr hy94 8 (by decide)
          have o13 := own_o_l2i hy95
          have o14 := own_o_i2b hy96
          have o15 := own_o_lshr hy98 16 (by decide)
          have o16 := own_o_l2i hy99
          have o17 := own_o_i2b hy100
          have o18 := own_o_lshr hy102 24 (by decide)
          have o19 := own_o_l2i hy103
          have o20 := own_o_i2b hy104
          have o21 := own_o_lshr hy106 32 (by decide)
          have o22 := own_o_l2i hy107
          have o23 := own_o_i2b hy108
          have o24 := own_eq c97
          have o25 := own_eq c101
          have o26 := own_eq c105
          have o27 := rng32 y100
          have o28 := rng32 y103
          have o29 := rng32 y104
          have o30 := rng32 y107
          have o31 := rng32 y108
          have o32 := rng32 y36
          have o33 := rng32 y37
          have o34 := rng32 y39
          have o35 := rng32 y40
          have o36 := rng32 y42
          have o37 := rng32 y43
          have o38 := rng32 y45
          have o39 := rng32 y46
          have o40 := rng32 y95
          have o41 := rng32 y96
          have o42 := rng32 y99
          have o43 := rng64 i1
          have o44 := rng64 y102
          have o45 := rng64 y106
          have o46 := rng64 y35
          have o47 := rng64 y38
          have o48 := rng64 y41
          have o49 := rng64 y44
          have o50 := rng64 y94
          have o51 := rng64 y98
          have o52 : (8 : Int32).toInt = 8 := by decide
          have o53 : (16 : Int32).toInt = 16 := by decide
          have o54 : (24 : Int32).toInt = 24 := by decide
          have o55 : (32 : Int32).toInt = 32 := by decide
          refine own_eqI ?_
          omega
        refine own_icmpNo (pc' := 340) B X82 at_337 (teq c109).2 rfl ?_
        refine own_aload (pc' := 342) B X82 at_340 rfl rfl rfl ?_
        refine own_iload (pc' := 344) B X82 at_342 rfl rfl ?_
        refine own_bipush (pc' := 346) B X82 (z := (9 : Int32)) at_344 rfl (by decide) ?_
        refine own_iadd (pc' := 347) B X82 (z := (9 : Int32)) at_346 rfl (by decide) ?_
        refine own_baload (pc' := 348) B X82 V_b83 (v := (.int y49)) ⟨by decide, by decide⟩ rfl at_347 rfl ?_
        refine own_lloadN (pc' := 349) B X82 at_348 rfl rfl ?_
        refine own_bipush (pc' := 351) B X82 (z := (40 : Int32)) at_349 rfl (by decide) ?_
        obtain ⟨y110, hy110⟩ : ∃ z : Int64, i1 >>> ((40 : Int32) &&& 0x3f).toInt64 = z := ⟨_, rfl⟩
        refine own_lshr (pc' := 352) B X82 at_351 rfl hy110 ?_
        obtain ⟨y111, hy111⟩ : ∃ z : Int32, y110.toInt32 = z := ⟨_, rfl⟩
        refine own_l2i (pc' := 353) B X82 at_352 rfl hy111 ?_
        obtain ⟨y112, hy112⟩ : ∃ z : Int32, y111.toInt8.toInt32 = z := ⟨_, rfl⟩
        refine own_i2b (pc' := 354) B X82 at_353 rfl hy112 ?_
        have c113 : y49 = y112 := by
          have o0 := own_o_lushr hy58 8 (by decide) (by decide)
          have o1 := own_o_l2i hy59
          have o2 := own_o_i2b hy60
          have o3 := own_o_lushr hy61 16 (by decide) (by decide)
          have o4 := own_o_l2i hy62
          have o5 := own_o_i2b hy63
          have o6 := own_o_lushr hy64 24 (by decide) (by decide)
          have o7 := own_o_l2i hy65
          have o8 := own_o_i2b hy66
          have o9 := own_o_lushr hy67 32 (by decide) (by decide)
          have o10 := own_o_l2i hy68
          have o11 := own_o_i2b hy69
          have o12 := own_o_lushr hy70 40 (by decide) (by decide)
          have o13 := own_o_l2i hy71
          have o14 := own_o_i2b hy72
          have o15 := own_o_lshr hy94 8 (by decide)
          have o16 := own_o_l2i hy95
          have o17 := own_o_i2b hy96
          have o18 := own_o_lshr hy98 16 (by decide)
          have o19 := own_o_l2i hy99
          have o20 := own_o_i2b hy100
          have o21 := own_o_lshr hy102 24 (by decide)
          have o22 := own_o_l2i hy103
          have o23 := own_o_i2b hy104
          have o24 := own_o_lshr hy106 32 (by decide)
          have o25 := own_o_l2i hy107
          have o26 := own_o_i2b hy108
          have o27 := own_o_lshr hy110 40 (by decide)
          have o28 := own_o_l2i hy111
          have o29 := own_o_i2b hy112
          have o30 := own_eq c97
          have o31 := own_eq c101
          have o32 := own_eq c105
          have o33 := own_eq c109
          have o34 := rng32 y100
          have o35 := rng32 y103
          have o36 := rng32 y104
          have o37 := rng32 y107
          have o38 := rng32 y108
          have o39 := rng32 y111
          have o40 := rng32 y112
          have o41 := rng32 y36
          have o42 := rng32 y37
          have o43 := rng32 y39
          have o44 := rng32 y40
          have o45 := rng32 y42
          have o46 := rng32 y43
          have o47 := rng32 y45
          have o48 := rng32 y46
          have o49 := rng32 y48
          have o50 := rng32 y49
          have o51 := rng32 y95
          have o52 := rng32 y96
          have o53 := rng32 y99
          have o54 := rng64 i1
          have o55 := rng64 y102
          have o56 := rng64 y106
          have o57 := rng64 y110
          have o58 := rng64 y35
          have o59 := rng64 y38
          have o60 := rng64 y41
          have o61 := rng64 y44
          have o62 := rng64 y47
          have o63 := rng64 y94
          have o64 := rng64 y98
          have o65 : (8 : Int32).toInt = 8 := by decide
          have o66 : (16 : Int32).toInt = 16 := by decide
          have o67 : (24 : Int32).toInt = 24 := by decide
          have o68 : (32 : Int32).toInt = 32 := by decide
          have o69 : (40 : Int32).toInt = 40 := by decide
          refine own_eqI ?_
          omega
        refine own_icmpNo (pc' := 357) B X82 at_354 (teq c113).2 rfl ?_
        refine own_aload (pc' := 359) B X82 at_357 rfl rfl rfl ?_
        refine own_iload (pc' := 361) B X82 at_359 rfl rfl ?_
        refine own_bipush (pc' := 363) B X82 (z := (10 : Int32)) at_361 rfl (by decide) ?_
        refine own_iadd (pc' := 364) B X82 (z := (10 : Int32)) at_363 rfl (by decide) ?_
        refine own_baload (pc' := 365) B X82 V_b83 (v := (.int y52)) ⟨by decide, by decide⟩ rfl at_364 rfl ?_
        refine own_lloadN (pc' := 366) B X82 at_365 rfl rfl ?_
        refine own_bipush (pc' := 368) B X82 (z := (48 : Int32)) at_366 rfl (by decide) ?_
        obtain ⟨y114, hy114⟩ : ∃ z : Int64, i1 >>> ((48 : Int32) &&& 0x3f).toInt64 = z := ⟨_, rfl⟩
        refine own_lshr (pc' := 369) B X82 at_368 rfl hy114 ?_
        obtain ⟨y115, hy115⟩ : ∃ z : Int32, y114.toInt32 = z := ⟨_, rfl⟩
        refine own_l2i (pc' := 370) B X82 at_369 rfl hy115 ?_
        obtain ⟨y116, hy116⟩ : ∃ z : Int32, y115.toInt8.toInt32 = z := ⟨_, rfl⟩
        refine own_i2b (pc' := 371) B X82 at_370 rfl hy116 ?_
        have c117 : y52 = y116 := by
          have o0 := own_o_lushr hy58 8 (by decide) (by decide)
          have o1 := own_o_l2i hy59
          have o2 := own_o_i2b hy60
          have o3 := own_o_lushr hy61 16 (by decide) (by decide)
          have o4 := own_o_l2i hy62
          have o5 := own_o_i2b hy63
          have o6 := own_o_lushr hy64 24 (by decide) (by decide)
          have o7 := own_o_l2i hy65
          have o8 := own_o_i2b hy66
          have o9 := own_o_lushr hy67 32 (by decide) (by decide)
          have o10 := own_o_l2i hy68
          have o11 := own_o_i2b hy69
          have o12 := own_o_lushr hy70 40 (by decide) (by decide)
          have o13 := own_o_l2i hy71
          have o14 := own_o_i2b hy72
          have o15 := own_o_lushr hy73 48 (by decide) (by decide)
          have o16 := own_o_l2i hy74
          have o17 := own_o_i2b hy75
          have o18 := own_o_lshr hy94 8 (by decide)
          have o19 := own_o_l2i hy95
          have o20 := own_o_i2b hy96
          have o21 := own_o_lshr hy98 16 (by decide)
          have o22 := own_o_l2i hy99
          have o23 := own_o_i2b hy100
          have o24 := own_o_lshr hy102 24 (by decide)
          have o25 := own_o_l2i hy103
          have o26 := own_o_i2b hy104
          have o27 := own_o_lshr hy106 32 (by decide)
          have o28 := own_o_l2i hy107
          have o29 := own_o_i2b hy108
          have o30 := own_o_lshr hy110 40 (by decide)
          have o31 := own_o_l2i hy111
          have o32 := own_o_i2b hy112
          have o33 := own_o_lshr hy114 48 (by decide)
          have o34 := own_o_l2i hy115
          have o35 := own_o_i2b hy116
          have o36 := own_eq c97
          have o37 := own_eq c101
          have o38 := own_eq c105
          have o39 := own_eq c109
          have o40 := own_eq c113
          have o41 := rng32 y100
          have o42 := rng32 y103
          have o43 := rng32 y104
          have o44 := rng32 y107
          have o45 := rng32 y108
          have o46 := rng32 y111
          have o47 := rng32 y112
          have o48 := rng32 y115
          have o49 := rng32 y116
          have o50 := rng32 y36
          have o51 := rng32 y37
          have o52 := rng32 y39
          have o53 := rng32 y40
          have o54 := rng32 y42
          have o55 := rng32 y43
          have o56 := rng32 y45
          have o57 := rng32 y46
          have o58 := rng32 y48
          have o59 := rng32 y49
          have o60 := rng32 y51
          have o61 := rng32 y52
          have o62 := rng32 y95
          have o63 := rng32 y96
          have o64 := rng32 y99
          have o65 := rng64 i1
          have o66 := rng64 y102
          have o67 := rng64 y106
          have o68 := rng64 y110
          have o69 := rng64 y114
          have o70 := rng64 y35
          have o71 := rng64 y38
          have o72 := rng64 y41
          have o73 := rng64 y44
          have o74 := rng64 y47
          have o75 := rng64 y50
          have o76 := rng64 y94
          have o77 := rng64 y98
          have o78 : (8 : Int32).toInt = 8 := by decide
          have o79 : (16 : Int32).toInt = 16 := by decide
          have o80 : (24 : Int32).toInt = 24 := by decide
          have o81 : (32 : Int32).toInt = 32 := by decide
          have o82 : (40 : Int32).toInt = 40 := by decide
          have o83 : (48 : Int32).toInt = 48 := by decide
          refine own_eqI ?_
          omega
        refine own_icmpNo (pc' := 374) B X82 at_371 (teq c117).2 rfl ?_
        refine own_aload (pc' := 376) B X82 at_374 rfl rfl rfl ?_
        refine own_iload (pc' := 378) B X82 at_376 rfl rfl ?_
        refine own_bipush (pc' := 380) B X82 (z := (11 : Int32)) at_378 rfl (by decide) ?_
        refine own_iadd (pc' := 381) B X82 (z := (11 : Int32)) at_380 rfl (by decide) ?_
        refine own_baload (pc' := 382) B X82 V_b83 (v := (.int y55)) ⟨by decide, by decide⟩ rfl at_381 rfl ?_
        refine own_lloadN (pc' := 383) B X82 at_382 rfl rfl ?_
        refine own_bipush (pc' := 385) B X82 (z := (56 : Int32)) at_383 rfl (by decide) ?_
        obtain ⟨y118, hy118⟩ : ∃ z : Int64, i1 >>> ((56 : Int32) &&& 0x3f).toInt64 = z := ⟨_, rfl⟩
        refine own_lshr (pc' := 386) B X82 at_385 rfl hy118 ?_
        obtain ⟨y119, hy119⟩ : ∃ z : Int32, y118.toInt32 = z := ⟨_, rfl⟩
        refine own_l2i (pc' := 387) B X82 at_386 rfl hy119 ?_
        obtain ⟨y120, hy120⟩ : ∃ z : Int32, y119.toInt8.toInt32 = z := ⟨_, rfl⟩
        refine own_i2b (pc' := 388) B X82 at_387 rfl hy120 ?_
        have c121 : y55 = y120 := by
          have o0 := own_o_lushr hy58 8 (by decide) (by decide)
          have o1 := own_o_l2i hy59
          have o2 := own_o_i2b hy60
          have o3 := own_o_lushr hy61 16 (by decide) (by decide)
          have o4 := own_o_l2i hy62
          have o5 := own_o_i2b hy63
          have o6 := own_o_lushr hy64 24 (by decide) (by decide)
          have o7 := own_o_l2i hy65
          have o8 := own_o_i2b hy66
          have o9 := own_o_lushr hy67 32 (by decide) (by decide)
          have o10 := own_o_l2i hy68
          have o11 := own_o_i2b hy69
          have o12 := own_o_lushr hy70 40 (by decide) (by decide)
          have o13 := own_o_l2i hy71
          have o14 := own_o_i2b hy72
          have o15 := own_o_lushr hy73 48 (by decide) (by decide)
          have o16 := own_o_l2i hy74
          have o17 := own_o_i2b hy75
          have o18 := own_o_lushr hy76 56 (by decide) (by decide)
          have o19 := own_o_l2i hy77
          have o20 := own_o_i2b hy78
          have o21 := own_o_lshr hy94 8 (by decide)
          have o22 := own_o_l2i hy95
          have o23 := own_o_i2b hy96
          have o24 := own_o_lshr hy98 16 (by decide)
          have o25 := own_o_l2i hy99
          have o26 := own_o_i2b hy100
          have o27 := own_o_lshr hy102 24 (by decide)
          have o28 := own_o_l2i hy103
          have o29 := own_o_i2b hy104
          have o30 := own_o_lshr hy106 32 (by decide)
          have o31 := own_o_l2i hy107
          have o32 := own_o_i2b hy108
          have o33 := own_o_lshr hy110 40 (by decide)
          have o34 := own_o_l2i hy111
          have o35 := own_o_i2b hy112
          have o36 := own_o_lshr hy114 48 (by decide)
          have o37 := own_o_l2i hy115
          have o38 := own_o_i2b hy116
          have o39 := own_o_lshr hy118 56 (by decide)
          have o40 := own_o_l2i hy119
          have o41 := own_o_i2b hy120
          have o42 := own_eq c97
          have o43 := own_eq c101
          have o44 := own_eq c105
          have o45 := own_eq c109
          have o46 := own_eq c113
          have o47 := own_eq c117
          have o48 := rng32 y100
          have o49 := rng32 y103
          have o50 := rng32 y104
          have o51 := rng32 y107
          have o52 := rng32 y108
          have o53 := rng32 y111
          have o54 := rng32 y112
          have o55 := rng32 y115
          have o56 := rng32 y116
          have o57 := rng32 y119
          have o58 := rng32 y120
          have o59 := rng32 y36
          have o60 := rng32 y37
          have o61 := rng32 y39
          have o62 := rng32 y40
          have o63 := rng32 y42
          have o64 := rng32 y43
          have o65 := rng32 y45
          have o66 := rng32 y46
          have o67 := rng32 y48
          have o68 := rng32 y49
          have o69 := rng32 y51
          have o70 := rng32 y52
          have o71 := rng32 y54
          have o72 := rng32 y55
          have o73 := rng32 y95
          have o74 := rng32 y96
          have o75 := rng32 y99
          have o76 := rng64 i1
          have o77 := rng64 y102
          have o78 := rng64 y106
          have o79 := rng64 y110
          have o80 := rng64 y114
          have o81 := rng64 y118
          have o82 := rng64 y35
          have o83 := rng64 y38
          have o84 := rng64 y41
          have o85 := rng64 y44
          have o86 := rng64 y47
          have o87 := rng64 y50
          have o88 := rng64 y53
          have o89 := rng64 y94
          have o90 := rng64 y98
          have o91 : (8 : Int32).toInt = 8 := by decide
          have o92 : (16 : Int32).toInt = 16 := by decide
          have o93 : (24 : Int32).toInt = 24 := by decide
          have o94 : (32 : Int32).toInt = 32 := by decide
          have o95 : (40 : Int32).toInt = 40 := by decide
          have o96 : (48 : Int32).toInt = 48 := by decide
          have o97 : (56 : Int32).toInt = 56 := by decide
          refine own_eqI ?_
          omega
        refine own_icmpNo (pc' := 391) B X82 at_388 (teq c121).2 rfl ?_
        refine own_aload (pc' := 393) B X82 at_391 rfl rfl rfl ?_
        refine own_iload (pc' := 395) B X82 at_393 rfl rfl ?_
        refine own_bipush (pc' := 397) B X82 (z := (12 : Int32)) at_395 rfl (by decide) ?_
        refine own_iadd (pc' := 398) B X82 (z := (12 : Int32)) at_397 rfl (by decide) ?_
        refine own_baload (pc' := 399) B X82 V_b83 (v := (.int y11)) ⟨by decide, by decide⟩ rfl at_398 rfl ?_
        refine own_iloadN (pc' := 400) B X82 at_399 rfl rfl ?_
        refine own_i2b (pc' := 401) B X82 at_400 rfl hy11 ?_
        refine own_icmpNo (pc' := 404) B X82 at_401 (teq rfl).2 rfl ?_
        refine own_iconst (pc' := 405) B X82 (z := (1 : Int32)) at_404 rfl rfl ?_
        refine own_goto (pc' := 409) B X82 at_405 (by decide) rfl ?_
        refine own_istore (pc' := 411) B X82 (Ls' := #[.val (.int i0), .val (.long i1), .second, .val (.int i2), .val (.int i3), .val (.int (0 : Int32)), .val (.int (0 : Int32)), .val (.int (0 : Int32)), .val (.ref b7), .val (.ref b13), .val (.ref b83), .val (.int (1 : Int32)), .val (.int (0 : Int32)), .unset]) at_409 rfl rfl ?_
        refine own_iload (pc' := 413) B X82 at_411 rfl rfl ?_
        refine own_ifYes (pc' := 463) B X82 at_413 ((if0 _ _).trans (teq (by decide : (0 : Int32) = (0 : Int32))).1) (by decide) rfl ?_
        refine own_iload (pc' := 465) B X82 at_463 rfl rfl ?_
        refine own_ifYes (pc' := 470) B X82 at_465 ((if0 _ _).trans (feq (by decide : ¬ ((1 : Int32) = (0 : Int32)))).2) (by decide) rfl ?_
        refine own_aload (pc' := 472) B X82 at_470 rfl rfl rfl ?_
        refine own_callV (pc' := 475) B X82 (own_w hw 50 rfl) (own_w hw 51 rfl) (own_w hw 53 rfl) (own_w hw 52 rfl) (own_w hw 3 rfl) (own_w hw 54 rfl) E_b13 (by decide) [] [] (rm_11 l Z a0 hw [] b13 b15 k16 (y18) (y20) (y22) (y24) (y9) (y37) (y40) (y43) (y46) (y49) (y52) (y55) (y11) h82 n0 (Nat.le_trans Z0 K.1) E_b13 F_b13_bytes F_b13_size g_b13 E_b15 V_b15 g_b15 ne_b13_b15) 0 (by decide) (by decide) rfl pd_6 rfl rfl (Nat.le_of_eq rfl) at_472 rfl (k' := 4) (n' := 139) rfl rfl (by decide) (by decide) ?_
        intro T122 v122 h122 X122 q122
        obtain ⟨rfl, rfl⟩ := q122
        show own_Go p e below (T122.setTop (mkF m 475 #[.val (.int i0), .val (.long i1), .second, .val (.int i2), .val (.int i3), .val (.int (0 : Int32)), .val (.int (0 : Int32)), .val (.int (0 : Int32)), .val (.ref b7), .val (.ref b13), .val (.ref b83), .val (.int (1 : Int32)), .val (.int (0 : Int32)), .unset] [(.int (13 : Int32))])) _
        refine own_aload (pc' := 477) B X122 at_475 rfl rfl rfl ?_
        refine own_arraylength (pc' := 478) B X122 V_b83 at_477 rfl ?_
        refine own_icmpYes (pc' := 483) B X122 at_478 (teq (by decide : (13 : Int32) = (13 : Int32))).1 (by decide) rfl ?_
        refine own_aload (pc' := 485) B X122 at_483 rfl rfl rfl ?_
        refine own_arraylength (pc' := 486) B X122 V_b83 at_485 rfl ?_
        refine own_ifYes (pc' := 508) B X122 at_486 ((if0 _ _).trans (feq (by decide : ¬ ((13 : Int32) = (0 : Int32)))).2) (by decide) rfl ?_
        refine own_aload (pc' := 510) B X122 at_508 rfl rfl rfl ?_
        refine own_iconst (pc' := 511) B X122 (z := (0 : Int32)) at_510 rfl rfl ?_
        refine own_baload (pc' := 512) B X122 V_b83 (v := (.int y18)) ⟨by decide, by decide⟩ rfl at_511 rfl ?_
        refine own_istore (pc' := 514) B X122 (Ls' := #[.val (.int i0), .val (.long i1), .second, .val (.int i2), .val (.int i3), .val (.int (0 : Int32)), .val (.int (0 : Int32)), .val (.int (0 : Int32)), .val (.ref b7), .val (.ref b13), .val (.ref b83), .val (.int (1 : Int32)), .val (.int y18), .unset]) at_512 rfl rfl ?_
        refine own_aload (pc' := 516) B X122 at_514 rfl rfl rfl ?_
        refine own_iconst (pc' := 517) B X122 (z := (0 : Int32)) at_516 rfl rfl ?_
        refine own_iload (pc' := 519) B X122 at_517 rfl rfl ?_
        refine own_iconst (pc' := 520) B X122 (z := (1 : Int32)) at_519 rfl rfl ?_
        obtain ⟨y123, hy123⟩ : ∃ z : Int32, y18 ^^^ (1 : Int32) = z := ⟨_, rfl⟩
        refine own_ixor (pc' := 521) B X122 at_520 rfl hy123 ?_
        obtain ⟨y124, hy124⟩ : ∃ z : Int32, y123.toInt8.toInt32 = z := ⟨_, rfl⟩
        refine own_i2b (pc' := 522) B X122 at_521 rfl hy124 ?_
        refine own_bastore (pc' := 523) B X122 (x' := y124) V_b83 g_b83 ⟨by decide, by decide⟩ 0 (by decide) (Nat.le_of_ble_eq_true rfl) (own_idem_i2b hy124) at_522 rfl ?_
        intro T125 h125 X125 W125 V_b83
        replace V_b83 : Arv Z h125 b83 k84 .byte (13 : Int32) [(.int y124), (.int y20), (.int y22), (.int y24), (.int y9), (.int y37), (.int y40), (.int y43), (.int y46), (.int y49), (.int y52), (.int y55), (.int y11)] (.int (0 : Int32)) := V_b83
        replace E_b7 := E_b7.wr W125
        replace V_b7 := V_b7.other W125 ne_b7_b83
        replace E_b13 := E_b13.wr W125
        replace F_b13_bytes := F_b13_bytes.other W125 (Or.inl ne_b13_b83)
        replace F_b13_size := F_b13_size.other W125 (Or.inl ne_b13_b83)
        replace E_b15 := E_b15.wr W125
        replace V_b15 := V_b15.other W125 ne_b15_b83
        replace E_b83 := E_b83.wr W125
        replace K := K.wr W125 (Or.inr sz_b83)
        refine own_aload (pc' := 525) B X125 at_523 rfl rfl rfl ?_
        refine own_callV (pc' := 528) B X125 (own_w hw 33 rfl) (own_w hw 34 rfl) (own_w hw 36 rfl) (own_w hw 35 rfl) (own_w hw 3 rfl) (own_w hw 37 rfl) E_b13 (by decide) [] [] (rm_8 l Z a0 hw [] b13 b15 k16 (y18) (y20) (y22) (y24) (y9) (y37) (y40) (y43) (y46) (y49) (y52) (y55) (y11) h125 n0 (Nat.le_trans Z0 K.1) E_b13 F_b13_bytes F_b13_size g_b13 E_b15 V_b15 g_b15 ne_b13_b15) 0 (by decide) (by decide) rfl pd_5 rfl rfl (Nat.le_of_eq rfl) at_525 rfl (k' := 5) (n' := 152) rfl rfl (by decide) (by decide) ?_
        intro T126 v126 h126 X126 q126
        have lt_b7 := E_b7.lt
        have lt_b13 := E_b13.lt
        have lt_b15 := E_b15.lt
        have lt_b83 := E_b83.lt
        obtain ⟨b127, k128, rfl, K126, z_b127, E_b127, V_b127⟩ := q126
        have ne_b7_b127 : b7 ≠ b127 := own_ne' lt_b7 z_b127
        have ne_b13_b127 : b13 ≠ b127 := own_ne' lt_b13 z_b127
        have ne_b15_b127 : b15 ≠ b127 := own_ne' lt_b15 z_b127
        have ne_b83_b127 : b83 ≠ b127 := own_ne' lt_b83 z_b127
        have sz_b127 : h0.size ≤ b127 := Nat.le_trans K.1 z_b127
        have g_b127 : n0 ≤ b127 := Nat.le_trans Z0 sz_b127
        replace K := K.trans K126 all0
        replace E_b7 := E_b7.keep K126
        replace V_b7 := V_b7.keep K126 nin0
        replace E_b13 := E_b13.keep K126
        replace F_b13_bytes := F_b13_bytes.keep K126 nin0
        replace F_b13_size := F_b13_size.keep K126 nin0
        replace E_b15 := E_b15.keep K126
        replace V_b15 := V_b15.keep K126 nin0
        replace E_b83 := E_b83.keep K126
        replace V_b83 := V_b83.keep K126 nin0
        show own_Go p e below (T126.setTop (mkF m 528 #[.val (.int i0), .val (.long i1), .second, .val (.int i2), .val (.int i3), .val (.int (0 : Int32)), .val (.int (0 : Int32)), .val (.int (0 : Int32)), .val (.ref b7), .val (.ref b13), .val (.ref b83), .val (.int (1 : Int32)), .val (.int y18), .unset] [(.ref b127)])) _
        refine own_astore (pc' := 530) B X126 (Ls' := #[.val (.int i0), .val (.long i1), .second, .val (.int i2), .val (.int i3), .val (.int (0 : Int32)), .val (.int (0 : Int32)), .val (.int (0 : Int32)), .val (.ref b7), .val (.ref b13), .val (.ref b83), .val (.int (1 : Int32)), .val (.int y18), .val (.ref b127)]) at_528 rfl rfl rfl ?_
        refine own_aload (pc' := 532) B X126 at_530 rfl rfl rfl ?_
        refine own_aload (pc' := 534) B X126 at_532 rfl rfl rfl ?_
        refine own_acmp B X126 rfl rfl (same := false) at_534 (decide_eq_false fun q => (Ne.symm ne_b83_b127) (Value.ref.inj q)) (by decide) (pc' := 537) (by decide) ?_
        refine own_aload (pc' := 539) B X126 at_537 rfl rfl rfl ?_
        refine own_arraylength (pc' := 540) B X126 V_b127 at_539 rfl ?_
        refine own_aload (pc' := 542) B X126 at_540 rfl rfl rfl ?_
        refine own_arraylength (pc' := 543) B X126 V_b83 at_542 rfl ?_
        refine own_icmpNo (pc' := 546) B X126 at_543 (teq (by decide : (13 : Int32) = (13 : Int32))).2 rfl ?_
        refine own_aload (pc' := 548) B X126 at_546 rfl rfl rfl ?_
        refine own_iconst (pc' := 549) B X126 (z := (0 : Int32)) at_548 rfl rfl ?_
        refine own_baload (pc' := 550) B X126 V_b127 (v := (.int y18)) ⟨by decide, by decide⟩ rfl at_549 rfl ?_
        refine own_iload (pc' := 552) B X126 at_550 rfl rfl ?_
        refine own_icmpNo (pc' := 555) B X126 at_552 (teq rfl).2 rfl ?_
        refine own_iconst (pc' := 556) B X126 (z := (1 : Int32)) at_555 rfl rfl ?_
        refine own_goto (pc' := 560) B X126 at_556 (by decide) rfl ?_
        exact own_retN B X126 (t := .boolean) (z' := (1 : Int32)) (by simp) (by decide) at_560 (by decide) (by decide) rfl
      · refine own_ifNo (pc' := 35) B X0 at_32 ((if0 _ _).trans (feq c6).1) rfl ?_
        refine own_iconst (pc' := 36) B X0 (z := (1 : Int32)) at_35 rfl rfl ?_
        refine own_goto (pc' := 40) B X0 at_36 (by decide) rfl ?_
        refine own_istore (pc' := 42) B X0 (Ls' := #[.val (.int i0), .val (.long i1), .second, .val (.int i2), .val (.int i3), .val (.int (0 : Int32)), .val (.int (0 : Int32)), .val (.int (1 : Int32)), .unset, .unset, .unset, .unset, .unset, .unset]) at_40 rfl rfl ?_
        refine own_bipush (pc' := 44) B X0 (z := (60 : Int32)) at_42 rfl (by decide) ?_
        refine own_newarray (pc' := 46) B X0 (own_w hw 0 rfl) at_44 rfl rfl (by decide) 60 (by decide) (by decide) (k' := 1) (n' := 60) rfl rfl (by decide) (by decide) "[B" (by decide) (.int (0 : Int32)) rfl ?_
        intro T129 h129 b129 kb129 X129 g129 E129 V_b129 E_b129
        have sz_b129 : h0.size ≤ b129 := own_sz K g129
        have g_b129 : n0 ≤ b129 := Nat.le_trans Z0 sz_b129
        replace K := K.ext E129
        refine own_astore (pc' := 48) B X129 (Ls' := #[.val (.int i0), .val (.long i1), .second, .val (.int i2), .val (.int i3), .val (.int (0 : Int32)), .val (.int (0 : Int32)), .val (.int (1 : Int32)), .val (.ref b129), .unset, .unset, .unset, .unset, .unset]) at_46 rfl rfl rfl ?_
        refine own_aload (pc' := 50) B X129 at_48 rfl rfl rfl ?_
        refine own_iconst (pc' := 51) B X129 (z := (0 : Int32)) at_50 rfl rfl ?_
        refine own_lloadN (pc' := 52) B X129 at_51 rfl rfl ?_
        obtain ⟨y130, hy130⟩ : ∃ z : Int32, i1.toInt32 = z := ⟨_, rfl⟩
        refine own_l2i (pc' := 53) B X129 at_52 rfl hy130 ?_
        obtain ⟨y131, hy131⟩ : ∃ z : Int32, y130.toInt8.toInt32 = z := ⟨_, rfl⟩
        refine own_i2b (pc' := 54) B X129 at_53 rfl hy131 ?_
        replace V_b129 : Arv Z h129 b129 kb129 .byte (60 : Int32) [(.int (0 : Int32))] (.int (0 : Int32)) := V_b129.pad (pad_rep [] (.int (0 : Int32)) 1)
        refine own_bastore (pc' := 55) B X129 (x' := y131) V_b129 g_b129 ⟨by decide, by decide⟩ 0 (by decide) (Nat.le_of_ble_eq_true rfl) (own_idem_i2b hy131) at_54 rfl ?_
        intro T132 h132 X132 W132 V_b129
        replace V_b129 : Arv Z h132 b129 kb129 .byte (60 : Int32) [(.int y131)] (.int (0 : Int32)) := V_b129
        replace E_b129 := E_b129.wr W132
        replace K := K.wr W132 (Or.inr sz_b129)
        refine own_aload (pc' := 57) B X132 at_55 rfl rfl rfl ?_
        refine own_bipush (pc' := 59) B X132 (z := (59 : Int32)) at_57 rfl (by decide) ?_
        refine own_iloadN (pc' := 60) B X132 at_59 rfl rfl ?_
        obtain ⟨y133, hy133⟩ : ∃ z : Int32, i2.toInt8.toInt32 = z := ⟨_, rfl⟩
        refine own_i2b (pc' := 61) B X132 at_60 rfl hy133 ?_
        replace V_b129 : Arv Z h132 b129 kb129 .byte (60 : Int32) ((.int y131) :: (.int (0 : Int32)) :: (.int (0 : Int32)) :: (.int (0 : Int32)) :: (.int (0 : Int32)) :: (.int (0 : Int32)) :: (.int (0 : Int32)) :: (.int (0 : Int32)) :: (.int (0 : Int32)) :: (.int (0 : Int32)) :: (.int (0 : Int32)) :: (.int (0 : Int32)) :: (.int (0 : Int32)) :: (.int (0 : Int32)) :: (.int (0 : Int32)) :: (.int (0 : Int32)) :: (.int (0 : Int32)) :: (.int (0 : Int32)) :: (.int (0 : Int32)) :: (.int (0 : Int32)) :: (.int (0 : Int32)) :: (.int (0 : Int32)) :: (.int (0 : Int32)) :: (.int (0 : Int32)) :: (.int (0 : Int32)) :: (.int (0 : Int32)) :: (.int (0 : Int32)) :: (.int (0 : Int32)) :: (.int (0 : Int32)) :: (.int (0 : Int32)) :: (.int (0 : Int32)) :: (.int (0 : Int32)) :: (.int (0 : Int32)) :: (.int (0 : Int32)) :: (.int (0 : Int32)) :: (.int (0 : Int32)) :: (.int (0 : Int32)) :: (.int (0 : Int32)) :: (.int (0 : Int32)) :: (.int (0 : Int32)) :: (.int (0 : Int32)) :: (.int (0 : Int32)) :: (.int (0 : Int32)) :: (.int (0 : Int32)) :: (.int (0 : Int32)) :: (.int (0 : Int32)) :: (.int (0 : Int32)) :: (.int (0 : Int32)) :: (.int (0 : Int32)) :: (.int (0 : Int32)) :: (.int (0 : Int32)) :: (.int (0 : Int32)) :: (.int (0 : Int32)) :: (.int (0 : Int32)) :: (.int (0 : Int32)) :: (.int (0 : Int32)) :: (.int (0 : Int32)) :: (.int (0 : Int32)) :: (.int (0 : Int32)) :: (.int (0 : Int32)) :: []) (.int (0 : Int32)) := V_b129.pad (pad_rep [(.int y131)] (.int (0 : Int32)) 59)
        refine own_bastore (pc' := 62) B X132 (x' := y133) V_b129 g_b129 ⟨by decide, by decide⟩ 59 (by decide) (Nat.le_of_ble_eq_true rfl) (own_idem_i2b hy133) at_61 rfl ?_
        intro T134 h134 X134 W134 V_b129
        replace V_b129 : Arv Z h134 b129 kb129 .byte (60 : Int32) ((.int y131) :: (.int (0 : Int32)) :: (.int (0 : Int32)) :: (.int (0 : Int32)) :: (.int (0 : Int32)) :: (.int (0 : Int32)) :: (.int (0 : Int32)) :: (.int (0 : Int32)) :: (.int (0 : Int32)) :: (.int (0 : Int32)) :: (.int (0 : Int32)) :: (.int (0 : Int32)) :: (.int (0 : Int32)) :: (.int (0 : Int32)) :: (.int (0 : Int32)) :: (.int (0 : Int32)) :: (.int (0 : Int32)) :: (.int (0 : Int32)) :: (.int (0 : Int32)) :: (.int (0 : Int32)) :: (.int (0 : Int32)) :: (.int (0 : Int32)) :: (.int (0 : Int32)) :: (.int (0 : Int32)) :: (.int (0 : Int32)) :: (.int (0 : Int32)) :: (.int (0 : Int32)) :: (.int (0 : Int32)) :: (.int (0 : Int32)) :: (.int (0 : Int32)) :: (.int (0 : Int32)) :: (.int (0 : Int32)) :: (.int (0 : Int32)) :: (.int (0 : Int32)) :: (.int (0 : Int32)) :: (.int (0 : Int32)) :: (.int (0 : Int32)) :: (.int (0 : Int32)) :: (.int (0 : Int32)) :: (.int (0 : Int32)) :: (.int (0 : Int32)) :: (.int (0 : Int32)) :: (.int (0 : Int32)) :: (.int (0 : Int32)) :: (.int (0 : Int32)) :: (.int (0 : Int32)) :: (.int (0 : Int32)) :: (.int (0 : Int32)) :: (.int (0 : Int32)) :: (.int (0 : Int32)) :: (.int (0 : Int32)) :: (.int (0 : Int32)) :: (.int (0 : Int32)) :: (.int (0 : Int32)) :: (.int (0 : Int32)) :: (.int (0 : Int32)) :: (.int (0 : Int32)) :: (.int (0 : Int32)) :: (.int (0 : Int32)) :: (.int y133) :: []) (.int (0 : Int32)) := V_b129
        replace E_b129 := E_b129.wr W134
        replace K := K.wr W134 (Or.inr sz_b129)
        refine own_new (pc' := 65) B X134 (own_w hw 1 rfl) (own_w hw 2 rfl) (own_w hw 3 rfl) at_62 rfl (k' := 2) (n' := 62) rfl rfl (by decide) (by decide) ?_
        intro T135 h135 b135 X135 g135 E135 E_b135 D135
        have ne_b129_b135 : b129 ≠ b135 := own_ne E_b129.lt g135
        have sz_b135 : h0.size ≤ b135 := own_sz K g135
        have g_b135 : n0 ≤ b135 := Nat.le_trans Z0 sz_b135
        replace K := K.ext E135
        replace E_b129 := E_b129.ext E135
        replace V_b129 := V_b129.ext E135
        have F_b135_bytes : Fld Z h135 b135 "com/example/siltstone/siltstone/format/ByteSink" "bytes" "[B" .null := D135 (Or.inl (own_w hw 11 rfl)) (ty := (.array .byte)) (by decide)
        have F_b135_size : Fld Z h135 b135 "com/example/siltstone/siltstone/format/ByteSink" "size" "I" (.int (0 : Int32)) := D135 (Or.inl (own_w hw 22 rfl)) (ty := .int) (by decide)
        clear D135
        refine own_dup (pc' := 66) B X135 at_65 rfl rfl ?_
        refine own_callI (pc' := 69) B X135 rfl rfl (own_w hw 4 rfl) (own_w hw 5 rfl) (own_w hw 3 rfl) (own_w hw 6 rfl) (by decide) [] [(.ref b135)] (rm_1 l Z a0 hw [] b135 h135 n0 (Nat.le_trans Z0 K.1) E_b135 F_b135_bytes F_b135_size g_b135) 1 (by decide) (by decide) rfl pd_0 rfl rfl (Nat.le_of_eq rfl) at_66 rfl (k' := 3) (n' := 126) rfl rfl (by decide) (by decide) ?_
        intro T136 v136 h136 X136 q136
        have lt_b129 := E_b129.lt
        have lt_b135 := E_b135.lt
        obtain ⟨b137, k138, rfl, K136, z_b137, E_b135, F_b135_bytes, F_b135_size, E_b137, V_b137⟩ := q136
        have ne_b129_b137 : b129 ≠ b137 := own_ne' lt_b129 z_b137
        have ne_b135_b137 : b135 ≠ b137 := own_ne' lt_b135 z_b137
        have sz_b137 : h0.size ≤ b137 := Nat.le_trans K.1 z_b137
        have g_b137 : n0 ≤ b137 := Nat.le_trans Z0 sz_b137
        replace K := K.trans K136 (allS (Or.inr sz_b135) all0)
        replace E_b129 := E_b129.keep K136
        replace V_b129 := V_b129.keep K136 (ninS ne_b129_b135 nin0)
        show own_Go p e below (T136.setTop (mkF m 69 #[.val (.int i0), .val (.long i1), .second, .val (.int i2), .val (.int i3), .val (.int (0 : Int32)), .val (.int (0 : Int32)), .val (.int (1 : Int32)), .val (.ref b129), .unset, .unset, .unset, .unset, .unset] [(.ref b135)])) _
        refine own_astore (pc' := 71) B X136 (Ls' := #[.val (.int i0), .val (.long i1), .second, .val (.int i2), .val (.int i3), .val (.int (0 : Int32)), .val (.int (0 : Int32)), .val (.int (1 : Int32)), .val (.ref b129), .val (.ref b135), .unset, .unset, .unset, .unset]) at_69 rfl rfl rfl ?_
        refine own_iload (pc' := 73) B X136 at_71 rfl rfl ?_
        refine own_ifYes (pc' := 83) B X136 at_73 ((if0 _ _).trans (teq (by decide : (0 : Int32) = (0 : Int32))).1) (by decide) rfl ?_
        refine own_aload (pc' := 85) B X136 at_83 rfl rfl rfl ?_
        refine own_iloadN (pc' := 86) B X136 at_85 rfl rfl ?_
        refine own_callV (pc' := 89) B X136 (own_w hw 12 rfl) (own_w hw 13 rfl) (own_w hw 15 rfl) (own_w hw 14 rfl) (own_w hw 3 rfl) (own_w hw 16 rfl) E_b135 (by decide) [(.int i0)] [] (rm_2 l Z a0 hw [] b135 b137 k138 (i0) h136 n0 (Nat.le_trans Z0 K.1) E_b135 F_b135_bytes F_b135_size g_b135 E_b137 V_b137 g_b137 ne_b135_b137) 0 (by decide) (by decide) rfl pd_1 rfl rfl (Nat.le_of_eq rfl) at_86 rfl (k' := 3) (n' := 126) rfl rfl (by decide) (by decide) ?_
        intro T139 v139 h139 X139 q139
        obtain ⟨y140, y141, y142, y143, y144, y145, y146, hy147, hy148, hy149, hy150, hy151, hy152, hy153, rfl, K139, E_b135, F_b135_bytes, F_b135_size, E_b137, V_b137⟩ := q139
        replace K := K.trans K139 (allS (Or.inr sz_b135) (allS (Or.inr sz_b137) all0))
        replace E_b129 := E_b129.keep K139
        replace V_b129 := V_b129.keep K139 (ninS ne_b129_b135 (ninS ne_b129_b137 nin0))
        show own_Go p e below (T139.setTop (mkF m 89 #[.val (.int i0), .val (.long i1), .second, .val (.int i2), .val (.int i3), .val (.int (0 : Int32)), .val (.int (0 : Int32)), .val (.int (1 : Int32)), .val (.ref b129), .val (.ref b135), .unset, .unset, .unset, .unset] [])) _
        refine own_aload (pc' := 91) B X139 at_89 rfl rfl rfl ?_
        refine own_lloadN (pc' := 92) B X139 at_91 rfl rfl ?_
        refine own_callV (pc' := 95) B X139 (own_w hw 23 rfl) (own_w hw 24 rfl) (own_w hw 26 rfl) (own_w hw 25 rfl) (own_w hw 3 rfl) (own_w hw 27 rfl) E_b135 (by decide) [(.long i1)] [] (rm_4 l Z a0 hw [] b135 b137 k138 (y140) (y142) (y144) (y146) (i1) h139 n0 (Nat.le_trans Z0 K.1) E_b135 F_b135_bytes F_b135_size g_b135 E_b137 V_b137 g_b137 ne_b135_b137) 0 (by decide) (by decide) rfl pd_2 rfl rfl (Nat.le_of_eq rfl) at_92 rfl (k' := 3) (n' := 126) rfl rfl (by decide) (by decide) ?_
        intro T154 v154 h154 X154 q154
        obtain ⟨y155, y156, y157, y158, y159, y160, y161, y162, y163, y164, y165, y166, y167, y168, y169, y170, y171, y172, y173, y174, y175, y176, y177, hy178, hy179, hy180, hy181, hy182, hy183, hy184, hy185, hy186, hy187, hy188, hy189, hy190, hy191, hy192, hy193, hy194, hy195, hy196, hy197, hy198, hy199, hy200, rfl, K154, E_b135, F_b135_bytes, F_b135_size, E_b137, V_b137⟩ := q154
        obtain rfl : y130 = y155 := (hy130 : i1.toInt32 = y130).symm.trans hy178
        obtain rfl : y131 = y156 := (hy131 : y130.toInt8.toInt32 = y131).symm.trans hy179
        replace K := K.trans K154 (allS (Or.inr sz_b135) (allS (Or.inr sz_b137) all0))
        replace E_b129 := E_b129.keep K154
        replace V_b129 := V_b129.keep K154 (ninS ne_b129_b135 (ninS ne_b129_b137 nin0))
        show own_Go p e below (T154.setTop (mkF m 95 #[.val (.int i0), .val (.long i1), .second, .val (.int i2), .val (.int i3), .val (.int (0 : Int32)), .val (.int (0 : Int32)), .val (.int (1 : Int32)), .val (.ref b129), .val (.ref b135), .unset, .unset, .unset, .unset] [])) _
        refine own_aload (pc' := 97) B X154 at_95 rfl rfl rfl ?_
        refine own_iloadN (pc' := 98) B X154 at_97 rfl rfl ?_
        refine own_callV (pc' := 101) B X154 (own_w hw 28 rfl) (own_w hw 29 rfl) (own_w hw 31 rfl) (own_w hw 30 rfl) (own_w hw 3 rfl) (own_w hw 32 rfl) E_b135 (by decide) [(.int i2)] [] (rm_6 l Z a0 hw [] b135 b137 k138 (y140) (y142) (y144) (y146) (y131) (y159) (y162) (y165) (y168) (y171) (y174) (y177) (i2) h154 n0 (Nat.le_trans Z0 K.1) E_b135 F_b135_bytes F_b135_size g_b135 E_b137 V_b137 g_b137 ne_b135_b137) 0 (by decide) (by decide) rfl pd_1 rfl rfl (Nat.le_of_eq rfl) at_98 rfl (k' := 3) (n' := 126) rfl rfl (by decide) (by decide) ?_
        intro T201 v201 h201 X201 q201
        obtain ⟨y202, hy203, rfl, K201, E_b135, F_b135_bytes, F_b135_size, E_b137, V_b137⟩ := q201
        obtain rfl : y133 = y202 := (hy133 : i2.toInt8.toInt32 = y133).symm.trans hy203
        replace K := K.trans K201 (allS (Or.inr sz_b135) (allS (Or.inr sz_b137) all0))
        replace E_b129 := E_b129.keep K201
        replace V_b129 := V_b129.keep K201 (ninS ne_b129_b135 (ninS ne_b129_b137 nin0))
        show own_Go p e below (T201.setTop (mkF m 101 #[.val (.int i0), .val (.long i1), .second, .val (.int i2), .val (.int i3), .val (.int (0 : Int32)), .val (.int (0 : Int32)), .val (.int (1 : Int32)), .val (.ref b129), .val (.ref b135), .unset, .unset, .unset, .unset] [])) _
        refine own_iload (pc' := 103) B X201 at_101 rfl rfl ?_
        refine own_ifYes (pc' := 122) B X201 at_103 ((if0 _ _).trans (teq (by decide : (0 : Int32) = (0 : Int32))).1) (by decide) rfl ?_
        refine own_aload (pc' := 124) B X201 at_122 rfl rfl rfl ?_
        refine own_callV (pc' := 127) B X201 (own_w hw 33 rfl) (own_w hw 34 rfl) (own_w hw 36 rfl) (own_w hw 35 rfl) (own_w hw 3 rfl) (own_w hw 37 rfl) E_b135 (by decide) [] [] (rm_8 l Z a0 hw [] b135 b137 k138 (y140) (y142) (y144) (y146) (y131) (y159) (y162) (y165) (y168) (y171) (y174) (y177) (y133) h201 n0 (Nat.le_trans Z0 K.1) E_b135 F_b135_bytes F_b135_size g_b135 E_b137 V_b137 g_b137 ne_b135_b137) 0 (by decide) (by decide) rfl pd_5 rfl rfl (Nat.le_of_eq rfl) at_124 rfl (k' := 4) (n' := 139) rfl rfl (by decide) (by decide) ?_
        intro T204 v204 h204 X204 q204
        have lt_b129 := E_b129.lt
        have lt_b135 := E_b135.lt
        have lt_b137 := E_b137.lt
        obtain ⟨b205, k206, rfl, K204, z_b205, E_b205, V_b205⟩ := q204
        have ne_b129_b205 : b129 ≠ b205 := own_ne' lt_b129 z_b205
        have ne_b135_b205 : b135 ≠ b205 := own_ne' lt_b135 z_b205
        have ne_b137_b205 : b137 ≠ b205 := own_ne' lt_b137 z_b205
        have sz_b205 : h0.size ≤ b205 := Nat.le_trans K.1 z_b205
        have g_b205 : n0 ≤ b205 := Nat.le_trans Z0 sz_b205
        replace K := K.trans K204 all0
        replace E_b129 := E_b129.keep K204
        replace V_b129 := V_b129.keep K204 nin0
        replace E_b135 := E_b135.keep K204
        replace F_b135_bytes := F_b135_bytes.keep K204 nin0
        replace F_b135_size := F_b135_size.keep K204 nin0
        replace E_b137 := E_b137.keep K204
        replace V_b137 := V_b137.keep K204 nin0
        show own_Go p e below (T204.setTop (mkF m 127 #[.val (.int i0), .val (.long i1), .second, .val (.int i2), .val (.int i3), .val (.int (0 : Int32)), .val (.int (0 : Int32)), .val (.int (1 : Int32)), .val (.ref b129), .val (.ref b135), .unset, .unset, .unset, .unset] [(.ref b205)])) _
        refine own_astore (pc' := 129) B X204 (Ls' := #[.val (.int i0), .val (.long i1), .second, .val (.int i2), .val (.int i3), .val (.int (0 : Int32)), .val (.int (0 : Int32)), .val (.int (1 : Int32)), .val (.ref b129), .val (.ref b135), .val (.ref b205), .unset, .unset, .unset]) at_127 rfl rfl rfl ?_
        refine own_iload (pc' := 131) B X204 at_129 rfl rfl ?_
        refine own_ifYes (pc' := 181) B X204 at_131 ((if0 _ _).trans (teq (by decide : (0 : Int32) = (0 : Int32))).1) (by decide) rfl ?_
        refine own_iload (pc' := 183) B X204 at_181 rfl rfl ?_
        refine own_ifYes (pc' := 191) B X204 at_183 ((if0 _ _).trans (teq (by decide : (0 : Int32) = (0 : Int32))).1) (by decide) rfl ?_
        refine own_iconst (pc' := 192) B X204 (z := (0 : Int32)) at_191 rfl rfl ?_
        refine own_istore (pc' := 194) B X204 (Ls' := #[.val (.int i0), .val (.long i1), .second, .val (.int i2), .val (.int i3), .val (.int (0 : Int32)), .val (.int (0 : Int32)), .val (.int (1 : Int32)), .val (.ref b129), .val (.ref b135), .val (.ref b205), .unset, .val (.int (0 : Int32)), .unset]) at_192 rfl rfl ?_
        refine own_aload (pc' := 196) B X204 at_194 rfl rfl rfl ?_
        refine own_arraylength (pc' := 197) B X204 V_b205 at_196 rfl ?_
        refine own_iload (pc' := 199) B X204 at_197 rfl rfl ?_
        refine own_bipush (pc' := 201) B X204 (z := (13 : Int32)) at_199 rfl (by decide) ?_
        refine own_iadd (pc' := 202) B X204 (z := (13 : Int32)) at_201 rfl (by decide) ?_
        refine own_icmpNo (pc' := 205) B X204 at_202 (teq (by decide : (13 : Int32) = (13 : Int32))).2 rfl ?_
        refine own_aload (pc' := 207) B X204 at_205 rfl rfl rfl ?_
        refine own_iload (pc' := 209) B X204 at_207 rfl rfl ?_
        refine own_baload (pc' := 210) B X204 V_b205 (v := (.int y140)) ⟨by decide, by decide⟩ rfl at_209 rfl ?_
        refine own_iloadN (pc' := 211) B X204 at_210 rfl rfl ?_
        refine own_i2b (pc' := 212) B X204 at_211 rfl hy147 ?_
        refine own_icmpNo (pc' := 215) B X204 at_212 (teq rfl).2 rfl ?_
        refine own_aload (pc' := 217) B X204 at_215 rfl rfl rfl ?_
        refine own_iload (pc' := 219) B X204 at_217 rfl rfl ?_
        refine own_iconst (pc' := 220) B X204 (z := (1 : Int32)) at_219 rfl rfl ?_
        refine own_iadd (pc' := 221) B X204 (z := (1 : Int32)) at_220 rfl (by decide) ?_
        refine own_baload (pc' := 222) B X204 V_b205 (v := (.int y142)) ⟨by decide, by decide⟩ rfl at_221 rfl ?_
        refine own_iloadN (pc' := 223) B X204 at_222 rfl rfl ?_
        refine own_bipush (pc' := 225) B X204 (z := (8 : Int32)) at_223 rfl (by decide) ?_
        obtain ⟨y207, hy207⟩ : ∃ z : Int32, i0 >>> ((8 : Int32) &&& 31) = z := ⟨_, rfl⟩
        refine own_ishr (pc' := 226) B X204 at_225 rfl hy207 ?_
        obtain ⟨y208, hy208⟩ : ∃ z : Int32, y207.toInt8.toInt32 = z := ⟨_, rfl⟩
        refine own_i2b (pc' := 227) B X204 at_226 rfl hy208 ?_
        have c209 : y142 = y208 := by
          have o0 := own_o_iushr hy148 8 (by decide) (by decide)
          have o1 := own_o_i2b hy149
          have o2 := own_o_ishr hy207 8 (by decide)
          have o3 := own_o_i2b hy208
          have o4 := rng32 i0
          have o5 := rng32 y141
          have o6 := rng32 y142
          have o7 := rng32 y207
          have o8 := rng32 y208
          have o9 : (8 : Int32).toInt = 8 := by decide
          refine own_eqI ?_
          omega
        refine own_icmpNo (pc' := 230) B X204 at_227 (teq c209).2 rfl ?_
        refine own_aload (pc' := 232) B X204 at_230 rfl rfl rfl ?_
        refine own_iload (pc' := 234) B X204 at_232 rfl rfl ?_
        refine own_iconst (pc' := 235) B X204 (z := (2 : Int32)) at_234 rfl rfl ?_
        refine own_iadd (pc' := 236) B X204 (z := (2 : Int32)) at_235 rfl (by decide) ?_
        refine own_baload (pc' := 237) B X204 V_b205 (v := (.int y144)) ⟨by decide, by decide⟩ rfl at_236 rfl ?_
        refine own_iloadN (pc' := 238) B X204 at_237 rfl rfl ?_
        refine own_bipush (pc' := 240) B X204 (z := (16 : Int32)) at_238 rfl (by decide) ?_
        obtain ⟨y210, hy210⟩ : ∃ z : Int32, i0 >>> ((16 : Int32) &&& 31) = z := ⟨_, rfl⟩
        refine own_ishr (pc' := 241) B X204 at_240 rfl hy210 ?_
        obtain ⟨y211, hy211⟩ : ∃ z : Int32, y210.toInt8.toInt32 = z := ⟨_, rfl⟩
        refine own_i2b (pc' := 242) B X204 at_241 rfl hy211 ?_
        have c212 : y144 = y211 := by
          have o0 := own_o_iushr hy148 8 (by decide) (by decide)
          have o1 := own_o_i2b hy149
          have o2 := own_o_iushr hy150 16 (by decide) (by decide)
          have o3 := own_o_i2b hy151
          have o4 := own_o_ishr hy207 8 (by decide)
          have o5 := own_o_i2b hy208
          have o6 := own_o_ishr hy210 16 (by decide)
          have o7 := own_o_i2b hy211
          have o8 := own_eq c209
          have o9 := rng32 i0
          have o10 := rng32 y141
          have o11 := rng32 y142
          have o12 := rng32 y143
          have o13 := rng32 y144
          have o14 := rng32 y207
          have o15 := rng32 y208
          have o16 := rng32 y210
          have o17 := rng32 y211
          have o18 : (8 : Int32).toInt = 8 := by decide
          have o19 : (16 : Int32).toInt = 16 := by decide
          refine own_eqI ?_
          omega
        refine own_icmpNo (pc' := 245) B X204 at_242 (teq c212).2 rfl ?_
        refine own_aload (pc' := 247) B X204 at_245 rfl rfl rfl ?_
        refine own_iload (pc' := 249) B X204 at_247 rfl rfl ?_
        refine own_iconst (pc' := 250) B X204 (z := (3 : Int32)) at_249 rfl rfl ?_
        refine own_iadd (pc' := 251) B X204 (z := (3 : Int32)) at_250 rfl (by decide) ?_
        refine own_baload (pc' := 252) B X204 V_b205 (v := (.int y146)) ⟨by decide, by decide⟩ rfl at_251 rfl ?_
        refine own_iloadN (pc' := 253) B X204 at_252 rfl rfl ?_
        refine own_bipush (pc' := 255) B X204 (z := (24 : Int32)) at_253 rfl (by decide) ?_
        obtain ⟨y213, hy213⟩ : ∃ z : Int32, i0 >>> ((24 : Int32) &&& 31) = z := ⟨_, rfl⟩
        refine own_ishr (pc' := 256) B X204 at_255 rfl hy213 ?_
        obtain ⟨y214, hy214⟩ : ∃ z : Int32, y213.toInt8.toInt32 = z := ⟨_, rfl⟩
        refine own_i2b (pc' := 257) B X204 at_256 rfl hy214 ?_
        have c215 : y146 = y214 := by
          have o0 := own_o_iushr hy148 8 (by decide) (by decide)
          have o1 := own_o_i2b hy149
          have o2 := own_o_iushr hy150 16 (by decide) (by decide)
          have o3 := own_o_i2b hy151
          have o4 := own_o_iushr hy152 24 (by decide) (by decide)
          have o5 := own_o_i2b hy153
          have o6 := own_o_ishr hy207 8 (by decide)
          have o7 := own_o_i2b hy208
          have o8 := own_o_ishr hy210 16 (by decide)
          have o9 := own_o_i2b hy211
          have o10 := own_o_ishr hy213 24 (by decide)
          have o11 := own_o_i2b hy214
          have o12 := own_eq c209
          have o13 := own_eq c212
          have o14 := rng32 i0
          have o15 := rng32 y141
          have o16 := rng32 y142
          have o17 := rng32 y143
          have o18 := rng32 y144
          have o19 := rng32 y145
          have o20 := rng32 y146
          have o21 := rng32 y207
          have o22 := rng32 y208
          have o23 := rng32 y210
          have o24 := rng32 y211
          have o25 := rng32 y213
          have o26 := rng32 y214
          have o27 : (8 : Int32).toInt = 8 := by decide
          have o28 : (16 : Int32).toInt = 16 := by decide
          have o29 : (24 : Int32).toInt = 24 := by decide
          refine own_eqI ?_
          omega
        refine own_icmpNo (pc' := 260) B X204 at_257 (teq c215).2 rfl ?_
        refine own_aload (pc' := 262) B X204 at_260 rfl rfl rfl ?_
        refine own_iload (pc' := 264) B X204 at_262 rfl rfl ?_
        refine own_iconst (pc' := 265) B X204 (z := (4 : Int32)) at_264 rfl rfl ?_
        refine own_iadd (pc' := 266) B X204 (z := (4 : Int32)) at_265 rfl (by decide) ?_
        refine own_baload (pc' := 267) B X204 V_b205 (v := (.int y131)) ⟨by decide, by decide⟩ rfl at_266 rfl ?_
        refine own_lloadN (pc' := 268) B X204 at_267 rfl rfl ?_
        refine own_l2i (pc' := 269) B X204 at_268 rfl hy130 ?_
        refine own_i2b (pc' := 270) B X204 at_269 rfl hy131 ?_
        refine own_icmpNo (pc' := 273) B X204 at_270 (teq rfl).2 rfl ?_
        refine own_aload (pc' := 275) B X204 at_273 rfl rfl rfl ?_
        refine own_iload (pc' := 277) B X204 at_275 rfl rfl ?_
        refine own_iconst (pc' := 278) B X204 (z := (5 : Int32)) at_277 rfl rfl ?_
        refine own_iadd (pc' := 279) B X204 (z := (5 : Int32)) at_278 rfl (by decide) ?_
        refine own_baload (pc' := 280) B X204 V_b205 (v := (.int y159)) ⟨by decide, by decide⟩ rfl at_279 rfl ?_
        refine own_lloadN (pc' := 281) B X204 at_280 rfl rfl ?_
        refine own_bipush (pc' := 283) B X204 (z := (8 : Int32)) at_281 rfl (by decide) ?_
        obtain ⟨y216, hy216⟩ : ∃ z : Int64, i1 >>> ((8 : Int32) &&& 0x3f).toInt64 = z := ⟨_, rfl⟩
        refine own_lshr (pc' := 284) B X204 at_283 rfl hy216 ?_
        obtain ⟨y217, hy217⟩ : ∃ z : Int32, y216.toInt32 = z := ⟨_, rfl⟩
        refine own_l2i (pc' := 285) B X204 at_284 rfl hy217 ?_
        obtain ⟨y218, hy218⟩ : ∃ z : Int32, y217.toInt8.toInt32 = z := ⟨_, rfl⟩
        refine own_i2b (pc' := 286) B X204 at_285 rfl hy218 ?_
        have c219 : y159 = y218 := by
          have o0 := own_o_lushr hy180 8 (by decide) (by decide)
          have o1 := own_o_l2i hy181
          have o2 := own_o_i2b hy182
          have o3 := own_o_lshr hy216 8 (by decide)
          have o4 := own_o_l2i hy217
          have o5 := own_o_i2b hy218
          have o6 := rng32 y158
          have o7 := rng32 y159
          have o8 := rng32 y217
          have o9 := rng32 y218
          have o10 := rng64 i1
          have o11 := rng64 y157
          have o12 := rng64 y216
          have o13 : (8 : Int32).toInt = 8 := by decide
          refine own_eqI ?_
          omega
        refine own_icmpNo (pc' := 289) B X204 at_286 (teq c219).2 rfl ?_
        refine own_aload (pc' := 291) B X204 at_289 rfl rfl rfl ?_
        refine own_iload (pc' := 293) B X204 at_291 rfl rfl ?_
        refine own_bipush (pc' := 295) B X204 (z := (6 : Int32)) at_293 rfl (by decide) ?_
        refine own_iadd (pc' := 296) B X204 (z := (6 : Int32)) at_295 rfl (by decide) ?_
        refine own_baload (pc' := 297) B X204 V_b205 (v := (.int y162)) ⟨by decide, by decide⟩ rfl at_296 rfl ?_
        refine own_lloadN (pc' := 298) B X204 at_297 rfl rfl ?_
        refine own_bipush (pc' := 300) B X204 (z := (16 : Int32)) at_298 rfl (by decide) ?_
        obtain ⟨y220, hy220⟩ : ∃ z : Int64, i1 >>> ((16 : Int32) &&& 0x3f).toInt64 = z := ⟨_, rfl⟩
        refine own_lshr (pc' := 301) B X204 at_300 rfl hy220 ?_
        obtain ⟨y221, hy221⟩ : ∃ z : Int32, y220.toInt32 = z := ⟨_, rfl⟩
        refine own_l2i (pc' := 302) B X204 at_301 rfl hy221 ?_
        obtain ⟨y222, hy222⟩ : ∃ z : Int32, y221.toInt8.toInt32 = z := ⟨_, rfl⟩
        refine own_i2b (pc' := 303) B X204 at_302 rfl hy222 ?_
        have c223 : y162 = y222 := by
          have o0 := own_o_lushr hy180 8 (by decide) (by decide)
          have o1 := own_o_l2i hy181
          have o2 := own_o_i2b hy182
          have o3 := own_o_lushr hy183 16 (by decide) (by decide)
          have o4 := own_o_l2i hy184
          have o5 := own_o_i2b hy185
          have o6 := own_o_lshr hy216 8 (by decide)
          have o7 := own_o_l2i hy217
          have o8 := own_o_i2b hy218
          have o9 := own_o_lshr hy220 16 (by decide)
          have o10 := own_o_l2i hy221
          have o11 := own_o_i2b hy222
          have o12 := own_eq c219
          have o13 := rng32 y158
          have o14 := rng32 y159
          have o15 := rng32 y161
          have o16 := rng32 y162
          have o17 := rng32 y217
          have o18 := rng32 y218
          have o19 := rng32 y221
          have o20 := rng32 y222
          have o21 := rng64 i1
          have o22 := rng64 y157
          have o23 := rng64 y160
          have o24 := rng64 y216
          have o25 := rng64 y220
          have o26 : (8 : Int32).toInt = 8 := by decide
          have o27 : (16 : Int32).toInt = 16 := by decide
          refine own_eqI ?_
          omega
        refine own_icmpNo (pc' := 306) B X204 at_303 (teq c223).2 rfl ?_
        refine own_aload (pc' := 308) B X204 at_306 rfl rfl rfl ?_
        refine own_iload (pc' := 310) B X204 at_308 rfl rfl ?_
        refine own_bipush (pc' := 312) B X204 (z := (7 : Int32)) at_310 rfl (by decide) ?_
        refine own_iadd (pc' := 313) B X204 (z := (7 : Int32)) at_312 rfl (by decide) ?_
        refine own_baload (pc' := 314) B X204 V_b205 (v := (.int y165)) ⟨by decide, by decide⟩ rfl at_313 rfl ?_
        refine own_lloadN (pc' := 315) B X204 at_314 rfl rfl ?_
        refine own_bipush (pc' := 317) B X204 (z := (24 : Int32)) at_315 rfl (by decide) ?_
        obtain ⟨y224, hy224⟩ : ∃ z : Int64, i1 >>> ((24 : Int32) &&& 0x3f).toInt64 = z := ⟨_, rfl⟩
        refine own_lshr (pc' := 318) B X204 at_317 rfl hy224 ?_
        obtain ⟨y225, hy225⟩ : ∃ z : Int32, y224.toInt32 = z := ⟨_, rfl⟩
        refine own_l2i (pc' := 319) B X204 at_318 rfl hy225 ?_
        obtain ⟨y226, hy226⟩ : ∃ z : Int32, y225.toInt8.toInt32 = z := ⟨_, rfl⟩
        refine own_i2b (pc' := 320) B X204 at_319 rfl hy226 ?_
        have c227 : y165 = y226 := by
          have o0 := own_o_lushr hy180 8 (by decide) (by decide)
          have o1 := own_o_l2i hy181
          have o2 := own_o_i2b hy182
          have o3 := own_o_lushr hy183 16 (by decide) (by decide)
          have o4 := own_o_l2i hy184
          have o5 := own_o_i2b hy185
          have o6 := own_o_lushr hy186 24 (by decide) (by decide)
          have o7 := own_o_l2i hy187
          have o8 := own_o_i2b hy188
          have o9 := own_o_lshr hy216 8 (by decide)
          have o10 := own_o_l2i hy217
          have o11 := own_o_i2b hy218
          have o12 := own_o_lshr hy220 16 (by decide)
          have o13 := own_o_l2i hy221
          have o14 := own_o_i2b hy222
          have o15 := own_o_lshr hy224 24 (by decide)
          have o16 := own_o_l2i hy225
          have o17 := own_o_i2b hy226
          have o18 := own_eq c219
          have o19 := own_eq c223
          have o20 := rng32 y158
          have o21 := rng32 y159
          have o22 := rng32 y161
          have o23 := rng32 y162
          have o24 := rng32 y164
          have o25 := rng32 y165
          have o26 := rng32 y217
          have o27 := rng32 y218
          have o28 := rng32 y221
          have o29 := rng32 y222
          have o30 := rng32 y225
          have o31 := rng32 y226
          have o32 := rng64 i1
          have o33 := rng64 y157
          have o34 := rng64 y160
          have o35 := rng64 y163
          have o36 := rng64 y216
          have o37 := rng64 y220
          have o38 := rng64 y224
          have o39 : (8 : Int32).toInt = 8 := by decide
          have o40 : (16 : Int32).toInt = 16 := by decide
          have o41 : (24 : Int32).toInt = 24 := by decide
          refine own_eqI ?_
          omega
        refine own_icmpNo (pc' := 323) B X204 at_320 (teq c227).2 rfl ?_
        refine own_aload (pc' := 325) B X204 at_323 rfl rfl rfl ?_
        refine own_iload (pc' := 327) B X204 at_325 rfl rfl ?_
        refine own_bipush (pc' := 329) B X204 (z := (8 : Int32)) at_327 rfl (by decide) ?_
        refine own_iadd (pc' := 330) B X204 (z := (8 : Int32)) at_329 rfl (by decide) ?_
        refine own_baload (pc' := 331) B X204 V_b205 (v := (.int y168)) ⟨by decide, by decide⟩ rfl at_330 rfl ?_
        refine own_lloadN (pc' := 332) B X204 at_331 rfl rfl ?_
        refine own_bipush (pc' := 334) B X204 (z := (32 : Int32)) at_332 rfl (by decide) ?_
        obtain ⟨y228, hy228⟩ : ∃ z : Int64, i1 >>> ((32 : Int32) &&& 0x3f).toInt64 = z := ⟨_, rfl⟩
        refine own_lshr (pc' := 335) B X204 at_334 rfl hy228 ?_
        obtain ⟨y229, hy229⟩ : ∃ z : Int32, y228.toInt32 = z := ⟨_, rfl⟩
        refine own_l2i (pc' := 336) B X204 at_335 rfl hy229 ?_
        obtain ⟨y230, hy230⟩ : ∃ z : Int32, y229.toInt8.toInt32 = z := ⟨_, rfl⟩
        refine own_i2b (pc' := 337) B X204 at_336 rfl hy230 ?_
        have c231 : y168 = y230 := by
          have o0 := own_o_lushr hy180 8 (by decide) (by decide)
          have o1 := own_o_l2i hy181
          have o2 := own_o_i2b hy182
          have o3 := own_o_lushr hy183 16 (by decide) (by decide)
          have o4 := own_o_l2i hy184
          have o5 := own_o_i2b hy185
          have o6 := own_o_lushr hy186 24 (by decide) (by decide)
          have o7 := own_o_l2i hy187
          have o8 := own_o_i2b hy188
          have o9 := own_o_lushr hy189 32 (by decide) (by decide)
          have o10 := own_o_l2i hy190
          have o11 := own_o_i2b hy191
          have o12 := own_o_lshr hy216 8 (by decide)
          have o13 := own_o_l2i hy217
          have o14 := own_o_i2b hy218
          have o15 := own_o_lshr hy220 16 (by decide)
          have o16 := own_o_l2i hy221
          have o17 := own_o_i2b hy222
          have o18 := own_o_lshr hy224 24 (by decide)
          have o19 := own_o_l2i hy225
          have o20 := own_o_i2b hy226
          have o21 := own_o_lshr hy228 32 (by decide)
          have o22 := own_o_l2i hy229
          have o23 := own_o_i2b hy230
          have o24 := own_eq c219
          have o25 := own_eq c223
          have o26 := own_eq c227
          have o27 := rng32 y158
          have o28 := rng32 y159
          have o29 := rng32 y161
          have o30 := rng32 y162
          have o31 := rng32 y164
          have o32 := rng32 y165
          have o33 := rng32 y167
          have o34 := rng32 y168
          have o35 := rng32 y217
          have o36 := rng32 y218
          have o37 := rng32 y221
          have o38 := rng32 y222
          have o39 := rng32 y225
          have o40 := rng32 y226
          have o41 := rng32 y229
          have o42 := rng32 y230
          have o43 := rng64 i1
          have o44 := rng64 y157
          have o45 := rng64 y160
          have o46 := rng64 y163
          have o47 := rng64 y166
          have o48 := rng64 y216
          have o49 := rng64 y220
          have o50 := rng64 y224
          have o51 := rng64 y228
          have o52 : (8 : Int32).toInt = 8 := by decide
          have o53 : (16 : Int32).toInt = 16 := by decide
          have o54 : (24 : Int32).toInt = 24 := by decide
          have o55 : (32 : Int32).toInt = 32 := by decide
          refine own_eqI ?_
          omega
        refine own_icmpNo (pc' := 340) B X204 at_337 (teq c231).2 rfl ?_
        refine own_aload (pc' := 342) B X204 at_340 rfl rfl rfl ?_
        refine own_iload (pc' := 344) B X204 at_342 rfl rfl ?_
        refine own_bipush (pc' := 346) B X204 (z := (9 : Int32)) at_344 rfl (by decide) ?_
        refine own_iadd (pc' := 347) B X204 (z := (9 : Int32)) at_346 rfl (by decide) ?_
        refine own_baload (pc' := 348) B X204 V_b205 (v := (.int y171)) ⟨by decide, by decide⟩ rfl at_347 rfl ?_
        refine own_lloadN (pc' := 349) B X204 at_348 rfl rfl ?_
        refine own_bipush (pc' := 351) B X204 (z := (40 : Int32)) at_349 rfl (by decide) ?_
        obtain ⟨y232, hy232⟩ : ∃ z : Int64, i1 >>> ((40 : Int32) &&& 0x3f).toInt64 = z := ⟨_, rfl⟩
        refine own_lshr (pc' := 352) B X204 at_351 rfl hy232 ?_
        obtain ⟨y233, hy233⟩ : ∃ z : Int32, y232.toInt32 = z := ⟨_, rfl⟩
        refine own_l2i (pc' := 353) B X204 at_352 rfl hy233 ?_
        obtain ⟨y234, hy234⟩ : ∃ z : Int32, y233.toInt8.toInt32 = z := ⟨_, rfl⟩
        refine own_i2b (pc' := 354) B X204 at_353 rfl hy234 ?_
        have c235 : y171 = y234 := by
          have o0 := own_o_lushr hy180 8 (by decide) (by decide)
          have o1 := own_o_l2i hy181
          have o2 := own_o_i2b hy182
          have o3 := own_o_lushr hy183 16 (by decide) (by decide)
          have o4 := own_o_l2i hy184
          have o5 := own_o_i2b hy185
          have o6 := own_o_lushr hy186 24 (by decide) (by decide)
          have o7 := own_o_l2i hy187
          have o8 := own_o_i2b hy188
          have o9 := own_o_lushr hy189 32 (by decide) (by decide)
          have o10 := own_o_l2i hy190
          have o11 := own_o_i2b hy191
          have o12 := own_o_lushr hy192 40 (by decide) (by decide)
          have o13 := own_o_l2i hy193
          have o14 := own_o_i2b hy194
          have o15 := own_o_lshr hy216 8 (by decide)
          have o16 := own_o_l2i hy217
          have o17 := own_o_i2b hy218
          have o18 := own_o_lshr hy220 16 (by decide)
          have o19 := own_o_l2i hy221
          have o20 := own_o_i2b hy222
          have o21 := own_o_lshr hy224 24 (by decide)
          have o22 := own_o_l2i hy225
          have o23 := own_o_i2b hy226
          have o24 := own_o_lshr hy228 32 (by decide)
          have o25 := own_o_l2i hy229
          have o26 := own_o_i2b hy230
          have o27 := own_o_lshr hy232 40 (by decide)
          have o28 := own_o_l2i hy233
          have o29 := own_o_i2b hy234
          have o30 := own_eq c219
          have o31 := own_eq c223
          have o32 := own_eq c227
          have o33 := own_eq c231
          have o34 := rng32 y158
          have o35 := rng32 y159
          have o36 := rng32 y161
          have o37 := rng32 y162
          have o38 := rng32 y164
          have o39 := rng32 y165
          have o40 := rng32 y167
          have o41 := rng32 y168
          have o42 := rng32 y170
          have o43 := rng32 y171
          have o44 := rng32 y217
          have o45 := rng32 y218
          have o46 := rng32 y221
          have o47 := rng32 y222
          have o48 := rng32 y225
          have o49 := rng32 y226
          have o50 := rng32 y229
          have o51 := rng32 y230
          have o52 := rng32 y233
          have o53 := rng32 y234
          have o54 := rng64 i1
          have o55 := rng64 y157
          have o56 := rng64 y160
          have o57 := rng64 y163
          have o58 := rng64 y166
          have o59 := rng64 y169
          have o60 := rng64 y216
          have o61 := rng64 y220
          have o62 := rng64 y224
          have o63 := rng64 y228
          have o64 := rng64 y232
          have o65 : (8 : Int32).toInt = 8 := by decide
          have o66 : (16 : Int32).toInt = 16 := by decide
          have o67 : (24 : Int32).toInt = 24 := by decide
          have o68 : (32 : Int32).toInt = 32 := by decide
          have o69 : (40 : Int32).toInt = 40 := by decide
          refine own_eqI ?_
          omega
        refine own_icmpNo (pc' := 357) B X204 at_354 (teq c235).2 rfl ?_
        refine own_aload (pc' := 359) B X204 at_357 rfl rfl rfl ?_
        refine own_iload (pc' := 361) B X204 at_359 rfl rfl ?_
        refine own_bipush (pc' := 363) B X204 (z := (10 : Int32)) at_361 rfl (by decide) ?_
        refine own_iadd (pc' := 364) B X204 (z := (10 : Int32)) at_363 rfl (by decide) ?_
        refine own_baload (pc' := 365) B X204 V_b205 (v := (.int y174)) ⟨by decide, by decide⟩ rfl at_364 rfl ?_
        refine own_lloadN (pc' := 366) B X204 at_365 rfl rfl ?_
        refine own_bipush (pc' := 368) B X204 (z := (48 : Int32)) at_366 rfl (by decide) ?_
        obtain ⟨y236, hy236⟩ : ∃ z : Int64, i1 >>> ((48 : Int32) &&& 0x3f).toInt64 = z := ⟨_, rfl⟩
        refine own_lshr (pc' := 369) B X204 at_368 rfl hy236 ?_
        obtain ⟨y237, hy237⟩ : ∃ z : Int32, y236.toInt32 = z := ⟨_, rfl⟩
        refine own_l2i (pc' := 370) B X204 at_369 rfl hy237 ?_
        obtain ⟨y238, hy238⟩ : ∃ z : Int32, y237.toInt8.toInt32 = z := ⟨_, rfl⟩
        refine own_i2b (pc' := 371) B X204 at_370 rfl hy238 ?_
        have c239 : y174 = y238 := by
          have o0 := own_o_lushr hy180 8 (by decide) (by decide)
          have o1 := own_o_l2i hy181
          have o2 := own_o_i2b hy182
          have o3 := own_o_lushr hy183 16 (by decide) (by decide)
          have o4 := own_o_l2i hy184
          have o5 := own_o_i2b hy185
          have o6 := own_o_lushr hy186 24 (by decide) (by decide)
          have o7 := own_o_l2i hy187
          have o8 := own_o_i2b hy188
          have o9 := own_o_lushr hy189 32 (by decide) (by decide)
          have o10 := own_o_l2i hy190
          have o11 := own_o_i2b hy191
          have o12 := own_o_lushr hy192 40 (by decide) (by decide)
          have o13 := own_o_l2i hy193
          have o14 := own_o_i2b hy194
          have o15 := own_o_lushr hy195 48 (by decide) (by decide)
          have o16 := own_o_l2i hy196
          have o17 := own_o_i2b hy197
          have o18 := own_o_lshr hy216 8 (by decide)
          have o19 := own_o_l2i hy217
          have o20 := own_o_i2b hy218
          have o21 := own_o_lshr hy220 16 (by decide)
          have o22 := own_o_l2i hy221
          have o23 := own_o_i2b hy222
          have o24 := own_o_lshr hy224 24 (by decide)
          have o25 := own_o_l2i hy225
          have o26 := own_o_i2b hy226
          have o27 := own_o_lshr hy228 32 (by decide)
          have o28 := own_o_l2i hy229
          have o29 := own_o_i2b hy230
          have o30 := own_o_lshr hy232 40 (by decide)
          have o31 := own_o_l2i hy233
          have o32 := own_o_i2b hy234
          have o33 := own_o_lshr hy236 48 (by decide)
          have o34 := own_o_l2i hy237
          have o35 := own_o_i2b hy238
          have o36 := own_eq c219
          have o37 := own_eq c223
          have o38 := own_eq c227
          have o39 := own_eq c231
          have o40 := own_eq c235
          have o41 := rng32 y158
          have o42 := rng32 y159
          have o43 := rng32 y161
          have o44 := rng32 y162
          have o45 := rng32 y164
          have o46 := rng32 y165
          have o47 := rng32 y167
          have o48 := rng32 y168
          have o49 := rng32 y170
          have o50 := rng32 y171
          have o51 := rng32 y173
          have o52 := rng32 y174
          have o53 := rng32 y217
          have o54 := rng32 y218
          have o55 := rng32 y221
          have o56 := rng32 y222
          have o57 := rng32 y225
          have o58 := rng32 y226
          have o59 := rng32 y229
          have o60 := rng32 y230
          have o61 := rng32 y233
          have o62 := rng32 y234
          have o63 := rng32 y237
          have o64 := rng32 y238
          have o65 := rng64 i1
          have o66 := rng64 y157
          have o67 := rng64 y160
          have o68 := rng64 y163
          have o69 := rng64 y166
          have o70 := rng64 y169
          have o71 := rng64 y172
          have o72 := rng64 y216
          have o73 := rng64 y220
          have o74 := rng64 y224
          have o75 := rng64 y228
          have o76 := rng64 y232
          have o77 := rng64 y236
          have o78 : (8 : Int32).toInt = 8 := by decide
          have o79 : (16 : Int32).toInt = 16 := by decide
          have o80 : (24 : Int32).toInt = 24 := by decide
          have o81 : (32 : Int32).toInt = 32 := by decide
          have o82 : (40 : Int32).toInt = 40 := by decide
          have o83 : (48 : Int32).toInt = 48 := by decide
          refine own_eqI ?_
          omega
        refine own_icmpNo (pc' := 374) B X204 at_371 (teq c239).2 rfl ?_
        refine own_aload (pc' := 376) B X204 at_374 rfl rfl rfl ?_
        refine own_iload (pc' := 378) B X204 at_376 rfl rfl ?_
        refine own_bipush (pc' := 380) B X204 (z := (11 : Int32)) at_378 rfl (by decide) ?_
        refine own_iadd (pc' := 381) B X204 (z := (11 : Int32)) at_380 rfl (by decide) ?_
        refine own_baload (pc' := 382) B X204 V_b205 (v := (.int y177)) ⟨by decide, by decide⟩ rfl at_381 rfl ?_
        refine own_lloadN (pc' := 383) B X204 at_382 rfl rfl ?_
        refine own_bipush (pc' := 385) B X204 (z := (56 : Int32)) at_383 rfl (by decide) ?_
        obtain ⟨y240, hy240⟩ : ∃ z : Int64, i1 >>> ((56 : Int32) &&& 0x3f).toInt64 = z := ⟨_, rfl⟩
        refine own_lshr (pc' := 386) B X204 at_385 rfl hy240 ?_
        obtain ⟨y241, hy241⟩ : ∃ z : Int32, y240.toInt32 = z := ⟨_, rfl⟩
        refine own_l2i (pc' := 387) B X204 at_386 rfl hy241 ?_
        obtain ⟨y242, hy242⟩ : ∃ z : Int32, y241.toInt8.toInt32 = z := ⟨_, rfl⟩
        refine own_i2b (pc' := 388) B X204 at_387 rfl hy242 ?_
        have c243 : y177 = y242 := by
          have o0 := own_o_lushr hy180 8 (by decide) (by decide)
          have o1 := own_o_l2i hy181
          have o2 := own_o_i2b hy182
          have o3 := own_o_lushr hy183 16 (by decide) (by decide)
          have o4 := own_o_l2i hy184
          have o5 := own_o_i2b hy185
          have o6 := own_o_lushr hy186 24 (by decide) (by decide)
          have o7 := own_o_l2i hy187
          have o8 := own_o_i2b hy188
          have o9 := own_o_lushr hy189 32 (by decide) (by decide)
          have o10 := own_o_l2i hy190
          have o11 := own_o_i2b hy191
          have o12 := own_o_lushr hy192 40 (by decide) (by decide)
          have o13 := own_o_l2i hy193
          have o14 := own_o_i2b hy194
          have o15 := own_o_lushr hy195 48 (by decide) (by decide)
          have o16 := own_o_l2i hy196
          have o17 := own_o_i2b hy197
          have o18 := own_o_lushr hy198 56 (by decide) (by decide)
          have o19 := own_o_l2i hy199
          have o20 := own_o_i2b hy200
          have o21 := own_o_lshr hy216 8 (by decide)
          have o22 := own_o_l2i hy217
          have o23 := own_o_i2b hy218
          have o24 := own_o_lshr hy220 16 (by decide)
          have o25 := own_o_l2i hy221
          have o26 := own_o_i2b hy222
          have o27 := own_o_lshr hy224 24 (by decide)
          have o28 := own_o_l2i hy225
          have o29 := own_o_i2b hy226
          have o30 := own_o_lshr hy228 32 (by decide)
          have o31 := own_o_l2i hy229
          have o32 := own_o_i2b hy230
          have o33 := own_o_lshr hy232 40 (by decide)
          have o34 := own_o_l2i hy233
          have o35 := own_o_i2b hy234
          have o36 := own_o_lshr hy236 48 (by decide)
          have o37 := own_o_l2i hy237
          have o38 := own_o_i2b hy238
          have o39 := own_o_lshr hy240 56 (by decide)
          have o40 := own_o_l2i hy241
          have o41 := own_o_i2b hy242
          have o42 := own_eq c219
          have o43 := own_eq c223
          have o44 := own_eq c227
          have o45 := own_eq c231
          have o46 := own_eq c235
          have o47 := own_eq c239
          have o48 := rng32 y158
          have o49 := rng32 y159
          have o50 := rng32 y161
          have o51 := rng32 y162
          have o52 := rng32 y164
          have o53 := rng32 y165
          have o54 := rng32 y167
          have o55 := rng32 y168
          have o56 := rng32 y170
          have o57 := rng32 y171
          have o58 := rng32 y173
          have o59 := rng32 y174
          have o60 := rng32 y176
          have o61 := rng32 y177
          have o62 := rng32 y217
          have o63 := rng32 y218
          have o64 := rng32 y221
          have o65 := rng32 y222
          have o66 := rng32 y225
          have o67 := rng32 y226
          have o68 := rng32 y229
          have o69 := rng32 y230
          have o70 := rng32 y233
          have o71 := rng32 y234
          have o72 := rng32 y237
          have o73 := rng32 y238
          have o74 := rng32 y241
          have o75 := rng32 y242
          have o76 := rng64 i1
          have o77 := rng64 y157
          have o78 := rng64 y160
          have o79 := rng64 y163
          have o80 := rng64 y166
          have o81 := rng64 y169
          have o82 := rng64 y172
          have o83 := rng64 y175
          have o84 := rng64 y216
          have o85 := rng64 y220
          have o86 := rng64 y224
          have o87 := rng64 y228
          have o88 := rng64 y232
          have o89 := rng64 y236
          have o90 := rng64 y240
          have o91 : (8 : Int32).toInt = 8 := by decide
          have o92 : (16 : Int32).toInt = 16 := by decide
          have o93 : (24 : Int32).toInt = 24 := by decide
          have o94 : (32 : Int32).toInt = 32 := by decide
          have o95 : (40 : Int32).toInt = 40 := by decide
          have o96 : (48 : Int32).toInt = 48 := by decide
          have o97 : (56 : Int32).toInt = 56 := by decide
          refine own_eqI ?_
          omega
        refine own_icmpNo (pc' := 391) B X204 at_388 (teq c243).2 rfl ?_
        refine own_aload (pc' := 393) B X204 at_391 rfl rfl rfl ?_
        refine own_iload (pc' := 395) B X204 at_393 rfl rfl ?_
        refine own_bipush (pc' := 397) B X204 (z := (12 : Int32)) at_395 rfl (by decide) ?_
        refine own_iadd (pc' := 398) B X204 (z := (12 : Int32)) at_397 rfl (by decide) ?_
        refine own_baload (pc' := 399) B X204 V_b205 (v := (.int y133)) ⟨by decide, by decide⟩ rfl at_398 rfl ?_
        refine own_iloadN (pc' := 400) B X204 at_399 rfl rfl ?_
        refine own_i2b (pc' := 401) B X204 at_400 rfl hy133 ?_
        refine own_icmpNo (pc' := 404) B X204 at_401 (teq rfl).2 rfl ?_
        refine own_iconst (pc' := 405) B X204 (z := (1 : Int32)) at_404 rfl rfl ?_
        refine own_goto (pc' := 409) B X204 at_405 (by decide) rfl ?_
        refine own_istore (pc' := 411) B X204 (Ls' := #[.val (.int i0), .val (.long i1), .second, .val (.int i2), .val (.int i3), .val (.int (0 : Int32)), .val (.int (0 : Int32)), .val (.int (1 : Int32)), .val (.ref b129), .val (.ref b135), .val (.ref b205), .val (.int (1 : Int32)), .val (.int (0 : Int32)), .unset]) at_409 rfl rfl ?_
        refine own_iload (pc' := 413) B X204 at_411 rfl rfl ?_
        refine own_ifYes (pc' := 463) B X204 at_413 ((if0 _ _).trans (teq (by decide : (0 : Int32) = (0 : Int32))).1) (by decide) rfl ?_
        refine own_iload (pc' := 465) B X204 at_463 rfl rfl ?_
        refine own_ifYes (pc' := 470) B X204 at_465 ((if0 _ _).trans (feq (by decide : ¬ ((1 : Int32) = (0 : Int32)))).2) (by decide) rfl ?_
        refine own_aload (pc' := 472) B X204 at_470 rfl rfl rfl ?_
        refine own_callV (pc' := 475) B X204 (own_w hw 50 rfl) (own_w hw 51 rfl) (own_w hw 53 rfl) (own_w hw 52 rfl) (own_w hw 3 rfl) (own_w hw 54 rfl) E_b135 (by decide) [] [] (rm_11 l Z a0 hw [] b135 b137 k138 (y140) (y142) (y144) (y146) (y131) (y159) (y162) (y165) (y168) (y171) (y174) (y177) (y133) h204 n0 (Nat.le_trans Z0 K.1) E_b135 F_b135_bytes F_b135_size g_b135 E_b137 V_b137 g_b137 ne_b135_b137) 0 (by decide) (by decide) rfl pd_6 rfl rfl (Nat.le_of_eq rfl) at_472 rfl (k' := 4) (n' := 139) rfl rfl (by decide) (by decide) ?_
        intro T244 v244 h244 X244 q244
        obtain ⟨rfl, rfl⟩ := q244
        show own_Go p e below (T244.setTop (mkF m 475 #[.val (.int i0), .val (.long i1), .second, .val (.int i2), .val (.int i3), .val (.int (0 : Int32)), .val (.int (0 : Int32)), .val (.int (1 : Int32)), .val (.ref b129), .val (.ref b135), .val (.ref b205), .val (.int (1 : Int32)), .val (.int (0 : Int32)), .unset] [(.int (13 : Int32))])) _
        refine own_aload (pc' := 477) B X244 at_475 rfl rfl rfl ?_
        refine own_arraylength (pc' := 478) B X244 V_b205 at_477 rfl ?_
        refine own_icmpYes (pc' := 483) B X244 at_478 (teq (by decide : (13 : Int32) = (13 : Int32))).1 (by decide) rfl ?_
        refine own_aload (pc' := 485) B X244 at_483 rfl rfl rfl ?_
        refine own_arraylength (pc' := 486) B X244 V_b205 at_485 rfl ?_
        refine own_ifYes (pc' := 508) B X244 at_486 ((if0 _ _).trans (feq (by decide : ¬ ((13 : Int32) = (0 : Int32)))).2) (by decide) rfl ?_
        refine own_aload (pc' := 510) B X244 at_508 rfl rfl rfl ?_
        refine own_iconst (pc' := 511) B X244 (z := (0 : Int32)) at_510 rfl rfl ?_
        refine own_baload (pc' := 512) B X244 V_b205 (v := (.int y140)) ⟨by decide, by decide⟩ rfl at_511 rfl ?_
        refine own_istore (pc' := 514) B X244 (Ls' := #[.val (.int i0), .val (.long i1), .second, .val (.int i2), .val (.int i3), .val (.int (0 : Int32)), .val (.int (0 : Int32)), .val (.int (1 : Int32)), .val (.ref b129), .val (.ref b135), .val (.ref b205), .val (.int (1 : Int32)), .val (.int y140), .unset]) at_512 rfl rfl ?_
        refine own_aload (pc' := 516) B X244 at_514 rfl rfl rfl ?_
        refine own_iconst (pc' := 517) B X244 (z := (0 : Int32)) at_516 rfl rfl ?_
        refine own_iload (pc' := 519) B X244 at_517 rfl rfl ?_
        refine own_iconst (pc' := 520) B X244 (z := (1 : Int32)) at_519 rfl rfl ?_
        obtain ⟨y245, hy245⟩ : ∃ z : Int32, y140 ^^^ (1 : Int32) = z := ⟨_, rfl⟩
        refine own_ixor (pc' := 521) B X244 at_520 rfl hy245 ?_
        obtain ⟨y246, hy246⟩ : ∃ z : Int32, y245.toInt8.toInt32 = z := ⟨_, rfl⟩
        refine own_i2b (pc' := 522) B X244 at_521 rfl hy246 ?_
        refine own_bastore (pc' := 523) B X244 (x' := y246) V_b205 g_b205 ⟨by decide, by decide⟩ 0 (by decide) (Nat.le_of_ble_eq_true rfl) (own_idem_i2b hy246) at_522 rfl ?_
        intro T247 h247 X247 W247 V_b205
        replace V_b205 : Arv Z h247 b205 k206 .byte (13 : Int32) [(.int y246), (.int y142), (.int y144), (.int y146), (.int y131), (.int y159), (.int y162), (.int y165), (.int y168), (.int y171), (.int y174), (.int y177), (.int y133)] (.int (0 : Int32)) := V_b205
        replace E_b129 := E_b129.wr W247
        replace V_b129 := V_b129.other W247 ne_b129_b205
        replace E_b135 := E_b135.wr W247
        replace F_b135_bytes := F_b135_bytes.other W247 (Or.inl ne_b135_b205)
        replace F_b135_size := F_b135_size.other W247 (Or.inl ne_b135_b205)
        replace E_b137 := E_b137.wr W247
        replace V_b137 := V_b137.other W247 ne_b137_b205
        replace E_b205 := E_b205.wr W247
        replace K := K.wr W247 (Or.inr sz_b205)
        refine own_aload (pc' := 525) B X247 at_523 rfl rfl rfl ?_
        refine own_callV (pc' := 528) B X247 (own_w hw 33 rfl) (own_w hw 34 rfl) (own_w hw 36 rfl) (own_w hw 35 rfl) (own_w hw 3 rfl) (own_w hw 37 rfl) E_b135 (by decide) [] [] (rm_8 l Z a0 hw [] b135 b137 k138 (y140) (y142) (y144) (y146) (y131) (y159) (y162) (y165) (y168) (y171) (y174) (y177) (y133) h247 n0 (Nat.le_trans Z0 K.1) E_b135 F_b135_bytes F_b135_size g_b135 E_b137 V_b137 g_b137 ne_b135_b137) 0 (by decide) (by decide) rfl pd_5 rfl rfl (Nat.le_of_eq rfl) at_525 rfl (k' := 5) (n' := 152) rfl rfl (by decide) (by decide) ?_
        intro T248 v248 h248 X248 q248
        have lt_b129 := E_b129.lt
        have lt_b135 := E_b135.lt
        have lt_b137 := E_b137.lt
        have lt_b205 := E_b205.lt
        obtain ⟨b249, k250, rfl, K248, z_b249, E_b249, V_b249⟩ := q248
        have ne_b129_b249 : b129 ≠ b249 := own_ne' lt_b129 z_b249
        have ne_b135_b249 : b135 ≠ b249 := own_ne' lt_b135 z_b249
        have ne_b137_b249 : b137 ≠ b249 := own_ne' lt_b137 z_b249
        have ne_b205_b249 : b205 ≠ b249 := own_ne' lt_b205 z_b249
        have sz_b249 : h0.size ≤ b249 := Nat.le_trans K.1 z_b249
        have g_b249 : n0 ≤ b249 := Nat.le_trans Z0 sz_b249
        replace K := K.trans K248 all0
        replace E_b129 := E_b129.keep K248
        replace V_b129 := V_b129.keep K248 nin0
        replace E_b135 := E_b135.keep K248
        replace F_b135_bytes := F_b135_bytes.keep K248 nin0
        replace F_b135_size := F_b135_size.keep K248 nin0
        replace E_b137 := E_b137.keep K248
        replace V_b137 := V_b137.keep K248 nin0
        replace E_b205 := E_b205.keep K248
        replace V_b205 := V_b205.keep K248 nin0
        show own_Go p e below (T248.setTop (mkF m 528 #[.val (.int i0), .val (.long i1), .second, .val (.int i2), .val (.int i3), .val (.int (0 : Int32)), .val (.int (0 : Int32)), .val (.int (1 : Int32)), .val (.ref b129), .val (.ref b135), .val (.ref b205), .val (.int (1 : Int32)), .val (.int y140), .unset] [(.ref b249)])) _
        refine own_astore (pc' := 530) B X248 (Ls' := #[.val (.int i0), .val (.long i1), .second, .val (.int i2), .val (.int i3), .val (.int (0 : Int32)), .val (.int (0 : Int32)), .val (.int (1 : Int32)), .val (.ref b129), .val (.ref b135), .val (.ref b205), .val (.int (1 : Int32)), .val (.int y140), .val (.ref b249)]) at_528 rfl rfl rfl ?_
        refine own_aload (pc' := 532) B X248 at_530 rfl rfl rfl ?_
        refine own_aload (pc' := 534) B X248 at_532 rfl rfl rfl ?_
        refine own_acmp B X248 rfl rfl (same := false) at_534 (decide_eq_false fun q => (Ne.symm ne_b205_b249) (Value.ref.inj q)) (by decide) (pc' := 537) (by decide) ?_
        refine own_aload (pc' := 539) B X248 at_537 rfl rfl rfl ?_
        refine own_arraylength (pc' := 540) B X248 V_b249 at_539 rfl ?_
        refine own_aload (pc' := 542) B X248 at_540 rfl rfl rfl ?_
        refine own_arraylength (pc' := 543) B X248 V_b205 at_542 rfl ?_
        refine own_icmpNo (pc' := 546) B X248 at_543 (teq (by decide : (13 : Int32) = (13 : Int32))).2 rfl ?_
        refine own_aload (pc' := 548) B X248 at_546 rfl rfl rfl ?_
        refine own_iconst (pc' := 549) B X248 (z := (0 : Int32)) at_548 rfl rfl ?_
        refine own_baload (pc' := 550) B X248 V_b249 (v := (.int y140)) ⟨by decide, by decide⟩ rfl at_549 rfl ?_
        refine own_iload (pc' := 552) B X248 at_550 rfl rfl ?_
        refine own_icmpNo (pc' := 555) B X248 at_552 (teq rfl).2 rfl ?_
        refine own_iconst (pc' := 556) B X248 (z := (1 : Int32)) at_555 rfl rfl ?_
        refine own_goto (pc' := 560) B X248 at_556 (by decide) rfl ?_
        exact own_retN B X248 (t := .boolean) (z' := (1 : Int32)) (by simp) (by decide) at_560 (by decide) (by decide) rfl
    · refine own_ifNo (pc' := 21) B X0 at_18 ((if0 _ _).trans (feq c4).1) rfl ?_
      refine own_iconst (pc' := 22) B X0 (z := (1 : Int32)) at_21 rfl rfl ?_
      refine own_goto (pc' := 26) B X0 at_22 (by decide) rfl ?_
      refine own_istore (pc' := 28) B X0 (Ls' := #[.val (.int i0), .val (.long i1), .second, .val (.int i2), .val (.int i3), .val (.int (0 : Int32)), .val (.int (1 : Int32)), .unset, .unset, .unset, .unset, .unset, .unset, .unset]) at_26 rfl rfl ?_
      refine own_iload (pc' := 30) B X0 at_28 rfl rfl ?_
      refine own_iconst (pc' := 31) B X0 (z := (4 : Int32)) at_30 rfl rfl ?_
      obtain ⟨y251, hy251⟩ : ∃ z : Int32, i3 &&& (4 : Int32) = z := ⟨_, rfl⟩
      refine own_iand (pc' := 32) B X0 at_31 rfl hy251 ?_
      by_cases c252 : y251 = (0 : Int32)
      · refine own_ifYes (pc' := 39) B X0 at_32 ((if0 _ _).trans (teq c252).1) (by decide) rfl ?_
        refine own_iconst (pc' := 40) B X0 (z := (0 : Int32)) at_39 rfl rfl ?_
        refine own_istore (pc' := 42) B X0 (Ls' := #[.val (.int i0), .val (.long i1), .second, .val (.int i2), .val (.int i3), .val (.int (0 : Int32)), .val (.int (1 : Int32)), .val (.int (0 : Int32)), .unset, .unset, .unset, .unset, .unset, .unset]) at_40 rfl rfl ?_
        refine own_bipush (pc' := 44) B X0 (z := (60 : Int32)) at_42 rfl (by decide) ?_
        refine own_newarray (pc' := 46) B X0 (own_w hw 0 rfl) at_44 rfl rfl (by decide) 60 (by decide) (by decide) (k' := 1) (n' := 60) rfl rfl (by decide) (by decide) "[B" (by decide) (.int (0 : Int32)) rfl ?_
        intro T253 h253 b253 kb253 X253 g253 E253 V_b253 E_b253
        have sz_b253 : h0.size ≤ b253 := own_sz K g253
        have g_b253 : n0 ≤ b253 := Nat.le_trans Z0 sz_b253
        replace K := K.ext E253
        refine own_astore (pc' := 48) B X253 (Ls' := #[.val (.int i0), .val (.long i1), .second, .val (.int i2), .val (.int i3), .val (.int (0 : Int32)), .val (.int (1 : Int32)), .val (.int (0 : Int32)), .val (.ref b253), .unset, .unset, .unset, .unset, .unset]) at_46 rfl rfl rfl ?_
        refine own_aload (pc' := 50) B X253 at_48 rfl rfl rfl ?_
        refine own_iconst (pc' := 51) B X253 (z := (0 : Int32)) at_50 rfl rfl ?_
        refine own_lloadN (pc' := 52) B X253 at_51 rfl rfl ?_
        obtain ⟨y254, hy254⟩ : ∃ z : Int32, i1.toInt32 = z := ⟨_, rfl⟩
        refine own_l2i (pc' := 53) B X253 at_52 rfl hy254 ?_
        obtain ⟨y255, hy255⟩ : ∃ z : Int32, y254.toInt8.toInt32 = z := ⟨_, rfl⟩
        refine own_i2b (pc' := 54) B X253 at_53 rfl hy255 ?_
        replace V_b253 : Arv Z h253 b253 kb253 .byte (60 : Int32) [(.int (0 : Int32))] (.int (0 : Int32)) := V_b253.pad (pad_rep [] (.int (0 : Int32)) 1)
        refine own_bastore (pc' := 55) B X253 (x' := y255) V_b253 g_b253 ⟨by decide, by decide⟩ 0 (by decide) (Nat.le_of_ble_eq_true rfl) (own_idem_i2b hy255) at_54 rfl ?_
        intro T256 h256 X256 W256 V_b253
        replace V_b253 : Arv Z h256 b253 kb253 .byte (60 : Int32) [(.int y255)] (.int (0 : Int32)) := V_b253
        replace E_b253 := E_b253.wr W256
        replace K := K.wr W256 (Or.inr sz_b253)
        refine own_aload (pc' := 57) B X256 at_55 rfl rfl rfl ?_
        refine own_bipush (pc' := 59) B X256 (z := (59 : Int32)) at_57 rfl (by decide) ?_
        refine own_iloadN (pc' := 60) B X256 at_59 rfl rfl ?_
        obtain ⟨y257, hy257⟩ : ∃ z : Int32, i2.toInt8.toInt32 = z := ⟨_, rfl⟩
        refine own_i2b (pc' := 61) B X256 at_60 rfl hy257 ?_
        replace V_b253 : Arv Z h256 b253 kb253 .byte (60 : Int32) ((.int y255) :: (.int (0 : Int32)) :: (.int (0 : Int32)) :: (.int (0 : Int32)) :: (.int (0 : Int32)) :: (.int (0 : Int32)) :: (.int (0 : Int32)) :: (.int (0 : Int32)) :: (.int (0 : Int32)) :: (.int (0 : Int32)) :: (.int (0 : Int32)) :: (.int (0 : Int32)) :: (.int (0 : Int32)) :: (.int (0 : Int32)) :: (.int (0 : Int32)) :: (.int (0 : Int32)) :: (.int (0 : Int32)) :: (.int (0 : Int32)) :: (.int (0 : Int32)) :: (.int (0 : Int32)) :: (.int (0 : Int32)) :: (.int (0 : Int32)) :: (.int (0 : Int32)) :: (.int (0 : Int32)) :: (.int (0 : Int32)) :: (.int (0 : Int32)) :: (.int (0 : Int32)) :: (.int (0 : Int32)) :: (.int (0 : Int32)) :: (.int (0 : Int32)) :: (.int (0 : Int32)) :: (.int (0 : Int32)) :: (.int (0 : Int32)) :: (.int (0 : Int32)) :: (.int (0 : Int32)) :: (.int (0 : Int32)) :: (.int (0 : Int32)) :: (.int (0 : Int32)) :: (.int (0 : Int32)) :: (.int (0 : Int32)) :: (.int (0 : Int32)) :: (.int (0 : Int32)) :: (.int (0 : Int32)) :: (.int (0 : Int32)) :: (.int (0 : Int32)) :: (.int (0 : Int32)) :: (.int (0 : Int32)) :: (.int (0 : Int32)) :: (.int (0 : Int32)) :: (.int (0 : Int32)) :: (.int (0 : Int32)) :: (.int (0 : Int32)) :: (.int (0 : Int32)) :: (.int (0 : Int32)) :: (.int (0 : Int32)) :: (.int (0 : Int32)) :: (.int (0 : Int32)) :: (.int (0 : Int32)) :: (.int (0 : Int32)) :: (.int (0 : Int32)) :: []) (.int (0 : Int32)) := V_b253.pad (pad_rep [(.int y255)] (.int (0 : Int32)) 59)
        refine own_bastore (pc' := 62) B X256 (x' := y257) V_b253 g_b253 ⟨by decide, by decide⟩ 59 (by decide) (Nat.le_of_ble_eq_true rfl) (own_idem_i2b hy257) at_61 rfl ?_
        intro T258 h258 X258 W258 V_b253
        replace V_b253 : Arv Z h258 b253 kb253 .byte (60 : Int32) ((.int y255) :: (.int (0 : Int32)) :: (.int (0 : Int32)) :: (.int (0 : Int32)) :: (.int (0 : Int32)) :: (.int (0 : Int32)) :: (.int (0 : Int32)) :: (.int (0 : Int32)) :: (.int (0 : Int32)) :: (.int (0 : Int32)) :: (.int (0 : Int32)) :: (.int (0 : Int32)) :: (.int (0 : Int32)) :: (.int (0 : Int32)) :: (.int (0 : Int32)) :: (.int (0 : Int32)) :: (.int (0 : Int32)) :: (.int (0 : Int32)) :: (.int (0 : Int32)) :: (.int (0 : Int32)) :: (.int (0 : Int32)) :: (.int (0 : Int32)) :: (.int (0 : Int32)) :: (.int (0 : Int32)) :: (.int (0 : Int32)) :: (.int (0 : Int32)) :: (.int (0 : Int32)) :: (.int (0 : Int32)) :: (.int (0 : Int32)) :: (.int (0 : Int32)) :: (.int (0 : Int32)) :: (.int (0 : Int32)) :: (.int (0 : Int32)) :: (.int (0 : Int32)) :: (.int (0 : Int32)) :: (.int (0 : Int32)) :: (.int (0 : Int32)) :: (.int (0 : Int32)) :: (.int (0 : Int32)) :: (.int (0 : Int32)) :: (.int (0 : Int32)) :: (.int (0 : Int32)) :: (.int (0 : Int32)) :: (.int (0 : Int32)) :: (.int (0 : Int32)) :: (.int (0 : Int32)) :: (.int (0 : Int32)) :: (.int (0 : Int32)) :: (.int (0 : Int32)) :: (.int (0 : Int32)) :: (.int (0 : Int32)) :: (.int (0 : Int32)) :: (.int (0 : Int32)) :: (.int (0 : Int32)) :: (.int (0 : Int32)) :: (.int (0 : Int32)) :: (.int (0 : Int32)) :: (.int (0 : Int32)) :: (.int (0 : Int32)) :: (.int y257) :: []) (.int (0 : Int32)) := V_b253
        replace E_b253 := E_b253.wr W258
        replace K := K.wr W258 (Or.inr sz_b253)
        refine own_new (pc' := 65) B X258 (own_w hw 1 rfl) (own_w hw 2 rfl) (own_w hw 3 rfl) at_62 rfl (k' := 2) (n' := 62) rfl rfl (by decide) (by decide) ?_
        intro T259 h259 b259 X259 g259 E259 E_b259 D259
        have ne_b253_b259 : b253 ≠ b259 := own_ne E_b253.lt g259
        have sz_b259 : h0.size ≤ b259 := own_sz K g259
        have g_b259 : n0 ≤ b259 := Nat.le_trans Z0 sz_b259
        replace K := K.ext E259
        replace E_b253 := E_b253.ext E259
        replace V_b253 := V_b253.ext E259
        have F_b259_bytes : Fld Z h259 b259 "com/example/siltstone/siltstone/format/ByteSink" "bytes" "[B" .null := D259 (Or.inl (own_w hw 11 rfl)) (ty := (.array .byte)) (by decide)
        have F_b259_size : Fld Z h259 b259 "com/example/siltstone/siltstone/format/ByteSink" "size" "I" (.int (0 : Int32)) := D259 (Or.inl (own_w hw 22 rfl)) (ty := .int) (by decide)
        clear D259
        refine own_dup (pc' := 66) B X259 at_65 rfl rfl ?_
        refine own_callI (pc' := 69) B X259 rfl rfl (own_w hw 4 rfl) (own_w hw 5 rfl) (own_w hw 3 rfl) (own_w hw 6 rfl) (by decide) [] [(.ref b259)] (rm_1 l Z a0 hw [] b259 h259 n0 (Nat.le_trans Z0 K.1) E_b259 F_b259_bytes F_b259_size g_b259) 1 (by decide) (by decide) rfl pd_0 rfl rfl (Nat.le_of_eq rfl) at_66 rfl (k' := 3) (n' := 126) rfl rfl (by decide) (by decide) ?_
        intro T260 v260 h260 X260 q260
        have lt_b253 := E_b253.lt
        have lt_b259 := E_b259.lt
        obtain ⟨b261, k262, rfl, K260, z_b261, E_b259, F_b259_bytes, F_b259_size, E_b261, V_b261⟩ := q260
        have ne_b253_b261 : b253 ≠ b261 := own_ne' lt_b253 z_b261
        have ne_b259_b261 : b259 ≠ b261 := own_ne' lt_b259 z_b261
        have sz_b261 : h0.size ≤ b261 := Nat.le_trans K.1 z_b261
        have g_b261 : n0 ≤ b261 := Nat.le_trans Z0 sz_b261
        replace K := K.trans K260 (allS (Or.inr sz_b259) all0)
        replace E_b253 := E_b253.keep K260
        replace V_b253 := V_b253.keep K260 (ninS ne_b253_b259 nin0)
        show own_Go p e below (T260.setTop (mkF m 69 #[.val (.int i0), .val (.long i1), .second, .val (.int i2), .val (.int i3), .val (.int (0 : Int32)), .val (.int (1 : Int32)), .val (.int (0 : Int32)), .val (.ref b253), .unset, .unset, .unset, .unset, .unset] [(.ref b259)])) _
        refine own_astore (pc' := 71) B X260 (Ls' := #[.val (.int i0), .val (.long i1), .second, .val (.int i2), .val (.int i3), .val (.int (0 : Int32)), .val (.int (1 : Int32)), .val (.int (0 : Int32)), .val (.ref b253), .val (.ref b259), .unset, .unset, .unset, .unset]) at_69 rfl rfl rfl ?_
        refine own_iload (pc' := 73) B X260 at_71 rfl rfl ?_
        refine own_ifYes (pc' := 83) B X260 at_73 ((if0 _ _).trans (teq (by decide : (0 : Int32) = (0 : Int32))).1) (by decide) rfl ?_
        refine own_aload (pc' := 85) B X260 at_83 rfl rfl rfl ?_
        refine own_iloadN (pc' := 86) B X260 at_85 rfl rfl ?_
        refine own_callV (pc' := 89) B X260 (own_w hw 12 rfl) (own_w hw 13 rfl) (own_w hw 15 rfl) (own_w hw 14 rfl) (own_w hw 3 rfl) (own_w hw 16 rfl) E_b259 (by decide) [(.int i0)] [] (rm_2 l Z a0 hw [] b259 b261 k262 (i0) h260 n0 (Nat.le_trans Z0 K.1) E_b259 F_b259_bytes F_b259_size g_b259 E_b261 V_b261 g_b261 ne_b259_b261) 0 (by decide) (by decide) rfl pd_1 rfl rfl (Nat.le_of_eq rfl) at_86 rfl (k' := 3) (n' := 126) rfl rfl (by decide) (by decide) ?_
        intro T263 v263 h263 X263 q263
        obtain ⟨y264, y265, y266, y267, y268, y269, y270, hy271, hy272, hy273, hy274, hy275, hy276, hy277, rfl, K263, E_b259, F_b259_bytes, F_b259_size, E_b261, V_b261⟩ := q263
        replace K := K.trans K263 (allS (Or.inr sz_b259) (allS (Or.inr sz_b261) all0))
        replace E_b253 := E_b253.keep K263
        replace V_b253 := V_b253.keep K263 (ninS ne_b253_b259 (ninS ne_b253_b261 nin0))
        show own_Go p e below (T263.setTop (mkF m 89 #[.val (.int i0), .val (.long i1), .second, .val (.int i2), .val (.int i3), .val (.int (0 : Int32)), .val (.int (1 : Int32)), .val (.int (0 : Int32)), .val (.ref b253), .val (.ref b259), .unset, .unset, .unset, .unset] [])) _
        refine own_aload (pc' := 91) B X263 at_89 rfl rfl rfl ?_
        refine own_lloadN (pc' := 92) B X263 at_91 rfl rfl ?_
        refine own_callV (pc' := 95) B X263 (own_w hw 23 rfl) (own_w hw 24 rfl) (own_w hw 26 rfl) (own_w hw 25 rfl) (own_w hw 3 rfl) (own_w hw 27 rfl) E_b259 (by decide) [(.long i1)] [] (rm_4 l Z a0 hw [] b259 b261 k262 (y264) (y266) (y268) (y270) (i1) h263 n0 (Nat.le_trans Z0 K.1) E_b259 F_b259_bytes F_b259_size g_b259 E_b261 V_b261 g_b261 ne_b259_b261) 0 (by decide) (by decide) rfl pd_2 rfl rfl (Nat.le_of_eq rfl) at_92 rfl (k' := 3) (n' := 126) rfl rfl (by decide) (by decide) ?_
        intro T278 v278 h278 X278 q278
        obtain ⟨y279, y280, y281, y282, y283, y284, y285, y286, y287, y288, y289, y290, y291, y292, y293, y294, y295, y296, y297, y298, y299, y300, y301, hy302, hy303, hy304, hy305, hy306, hy307, hy308, hy309, hy310, hy311, hy312, hy313, hy314, hy315, hy316, hy317, hy318, hy319, hy320, hy321, hy322, hy323, hy324, rfl, K278, E_b259, F_b259_bytes, F_b259_size, E_b261, V_b261⟩ := q278
        obtain rfl : y254 = y279 := (hy254 : i1.toInt32 = y254).symm.trans hy302
        obtain rfl : y255 = y280 := (hy255 : y254.toInt8.toInt32 = y255).symm.trans hy303
        replace K := K.trans K278 (allS (Or.inr sz_b259) (allS (Or.inr sz_b261) all0))
        replace E_b253 := E_b253.keep K278
        replace V_b253 := V_b253.keep K278 (ninS ne_b253_b259 (ninS ne_b253_b261 nin0))
        show own_Go p e below (T278.setTop (mkF m 95 #[.val (.int i0), .val (.long i1), .second, .val (.int i2), .val (.int i3), .val (.int (0 : Int32)), .val (.int (1 : Int32)), .val (.int (0 : Int32)), .val (.ref b253), .val (.ref b259), .unset, .unset, .unset, .unset] [])) _
        refine own_aload (pc' := 97) B X278 at_95 rfl rfl rfl ?_
        refine own_iloadN (pc' := 98) B X278 at_97 rfl rfl ?_
        refine own_callV (pc' := 101) B X278 (own_w hw 28 rfl) (own_w hw 29 rfl) (own_w hw 31 rfl) (own_w hw 30 rfl) (own_w hw 3 rfl) (own_w hw 32 rfl) E_b259 (by decide) [(.int i2)] [] (rm_6 l Z a0 hw [] b259 b261 k262 (y264) (y266) (y268) (y270) (y255) (y283) (y286) (y289) (y292) (y295) (y298) (y301) (i2) h278 n0 (Nat.le_trans Z0 K.1) E_b259 F_b259_bytes F_b259_size g_b259 E_b261 V_b261 g_b261 ne_b259_b261) 0 (by decide) (by decide) rfl pd_1 rfl rfl (Nat.le_of_eq rfl) at_98 rfl (k' := 3) (n' := 126) rfl rfl (by decide) (by decide) ?_
        intro T325 v325 h325 X325 q325
        obtain ⟨y326, hy327, rfl, K325, E_b259, F_b259_bytes, F_b259_size, E_b261, V_b261⟩ := q325
        obtain rfl : y257 = y326 := (hy257 : i2.toInt8.toInt32 = y257).symm.trans hy327
        replace K := K.trans K325 (allS (Or.inr sz_b259) (allS (Or.inr sz_b261) all0))
        replace E_b253 := E_b253.keep K325
        replace V_b253 := V_b253.keep K325 (ninS ne_b253_b259 (ninS ne_b253_b261 nin0))
        show own_Go p e below (T325.setTop (mkF m 101 #[.val (.int i0), .val (.long i1), .second, .val (.int i2), .val (.int i3), .val (.int (0 : Int32)), .val (.int (1 : Int32)), .val (.int (0 : Int32)), .val (.ref b253), .val (.ref b259), .unset, .unset, .unset, .unset] [])) _
        refine own_iload (pc' := 103) B X325 at_101 rfl rfl ?_
        refine own_ifNo (pc' := 106) B X325 at_103 ((if0 _ _).trans (feq (by decide : ¬ ((1 : Int32) = (0 : Int32)))).1) rfl ?_
        refine own_aload (pc' := 108) B X325 at_106 rfl rfl rfl ?_
        refine own_callV (pc' := 111) B X325 (own_w hw 71 rfl) (own_w hw 72 rfl) (own_w hw 74 rfl) (own_w hw 73 rfl) (own_w hw 3 rfl) (own_w hw 75 rfl) E_b259 (by decide) [] [] (rm_12 l Z a0 hw [] b259 b261 k262 (y264) (y266) (y268) (y270) (y255) (y283) (y286) (y289) (y292) (y295) (y298) (y301) (y257) h325 n0 (Nat.le_trans Z0 K.1) E_b259 F_b259_bytes F_b259_size g_b259 E_b261 V_b261 g_b261 ne_b259_b261) 0 (by decide) (by decide) rfl pd_0 rfl rfl (Nat.le_of_eq rfl) at_108 rfl (k' := 3) (n' := 126) rfl rfl (by decide) (by decide) ?_
        intro T328 v328 h328 X328 q328
        obtain ⟨rfl, K328, E_b259, F_b259_bytes, F_b259_size⟩ := q328
        replace K := K.trans K328 (allS (Or.inr sz_b259) all0)
        replace E_b253 := E_b253.keep K328
        replace V_b253 := V_b253.keep K328 (ninS ne_b253_b259 nin0)
        replace E_b261 := E_b261.keep K328
        replace V_b261 := V_b261.keep K328 (ninS (Ne.symm ne_b259_b261) nin0)
        show own_Go p e below (T328.setTop (mkF m 111 #[.val (.int i0), .val (.long i1), .second, .val (.int i2), .val (.int i3), .val (.int (0 : Int32)), .val (.int (1 : Int32)), .val (.int (0 : Int32)), .val (.ref b253), .val (.ref b259), .unset, .unset, .unset, .unset] [])) _
        refine own_iload (pc' := 113) B X328 at_111 rfl rfl ?_
        refine own_ifYes (pc' := 122) B X328 at_113 ((if0 _ _).trans (teq (by decide : (0 : Int32) = (0 : Int32))).1) (by decide) rfl ?_
        refine own_aload (pc' := 124) B X328 at_122 rfl rfl rfl ?_
        refine own_callV (pc' := 127) B X328 (own_w hw 33 rfl) (own_w hw 34 rfl) (own_w hw 36 rfl) (own_w hw 35 rfl) (own_w hw 3 rfl) (own_w hw 37 rfl) E_b259 (by decide) [] [] (rm_13 l Z a0 hw [] b259 b261 k262 (y264) (y266) (y268) (y270) (y255) (y283) (y286) (y289) (y292) (y295) (y298) (y301) (y257) h328 n0 (Nat.le_trans Z0 K.1) E_b259 F_b259_bytes F_b259_size g_b259 E_b261 V_b261 g_b261 ne_b259_b261) 0 (by decide) (by decide) rfl pd_5 rfl rfl (Nat.le_of_eq rfl) at_124 rfl (k' := 4) (n' := 126) rfl rfl (by decide) (by decide) ?_
        intro T329 v329 h329 X329 q329
        have lt_b253 := E_b253.lt
        have lt_b259 := E_b259.lt
        have lt_b261 := E_b261.lt
        obtain ⟨b330, k331, rfl, K329, z_b330, E_b330, V_b330⟩ := q329
        have ne_b253_b330 : b253 ≠ b330 := own_ne' lt_b253 z_b330
        have ne_b259_b330 : b259 ≠ b330 := own_ne' lt_b259 z_b330
        have ne_b261_b330 : b261 ≠ b330 := own_ne' lt_b261 z_b330
        have sz_b330 : h0.size ≤ b330 := Nat.le_trans K.1 z_b330
        have g_b330 : n0 ≤ b330 := Nat.le_trans Z0 sz_b330
        replace K := K.trans K329 all0
        replace E_b253 := E_b253.keep K329
        replace V_b253 := V_b253.keep K329 nin0
        replace E_b259 := E_b259.keep K329
        replace F_b259_bytes := F_b259_bytes.keep K329 nin0
        replace F_b259_size := F_b259_size.keep K329 nin0
        replace E_b261 := E_b261.keep K329
        replace V_b261 := V_b261.keep K329 nin0
        show own_Go p e below (T329.setTop (mkF m 127 #[.val (.int i0), .val (.long i1), .second, .val (.int i2), .val (.int i3), .val (.int (0 : Int32)), .val (.int (1 : Int32)), .val (.int (0 : Int32)), .val (.ref b253), .val (.ref b259), .unset, .unset, .unset, .unset] [(.ref b330)])) _
        refine own_astore (pc' := 129) B X329 (Ls' := #[.val (.int i0), .val (.long i1), .second, .val (.int i2), .val (.int i3), .val (.int (0 : Int32)), .val (.int (1 : Int32)), .val (.int (0 : Int32)), .val (.ref b253), .val (.ref b259), .val (.ref b330), .unset, .unset, .unset]) at_127 rfl rfl rfl ?_
        refine own_iload (pc' := 131) B X329 at_129 rfl rfl ?_
        refine own_ifNo (pc' := 134) B X329 at_131 ((if0 _ _).trans (feq (by decide : ¬ ((1 : Int32) = (0 : Int32)))).1) rfl ?_
        refine own_iload (pc' := 136) B X329 at_134 rfl rfl ?_
        refine own_ifYes (pc' := 165) B X329 at_136 ((if0 _ _).trans (teq (by decide : (0 : Int32) = (0 : Int32))).1) (by decide) rfl ?_
        refine own_aload (pc' := 167) B X329 at_165 rfl rfl rfl ?_
        refine own_arraylength (pc' := 168) B X329 V_b330 at_167 rfl ?_
        refine own_ifNo (pc' := 171) B X329 at_168 ((if0 _ _).trans (teq (by decide : (0 : Int32) = (0 : Int32))).2) rfl ?_
        refine own_iconst (pc' := 172) B X329 (z := (1 : Int32)) at_171 rfl rfl ?_
        refine own_goto (pc' := 176) B X329 at_172 (by decide) rfl ?_
        refine own_istore (pc' := 178) B X329 (Ls' := #[.val (.int i0), .val (.long i1), .second, .val (.int i2), .val (.int i3), .val (.int (0 : Int32)), .val (.int (1 : Int32)), .val (.int (0 : Int32)), .val (.ref b253), .val (.ref b259), .val (.ref b330), .val (.int (1 : Int32)), .unset, .unset]) at_176 rfl rfl ?_
        refine own_goto (pc' := 463) B X329 at_178 (by decide) rfl ?_
        refine own_iload (pc' := 465) B X329 at_463 rfl rfl ?_
        refine own_ifYes (pc' := 470) B X329 at_465 ((if0 _ _).trans (feq (by decide : ¬ ((1 : Int32) = (0 : Int32)))).2) (by decide) rfl ?_
        refine own_aload (pc' := 472) B X329 at_470 rfl rfl rfl ?_
        refine own_callV (pc' := 475) B X329 (own_w hw 50 rfl) (own_w hw 51 rfl) (own_w hw 53 rfl) (own_w hw 52 rfl) (own_w hw 3 rfl) (own_w hw 54 rfl) E_b259 (by decide) [] [] (rm_16 l Z a0 hw [] b259 b261 k262 (y264) (y266) (y268) (y270) (y255) (y283) (y286) (y289) (y292) (y295) (y298) (y301) (y257) h329 n0 (Nat.le_trans Z0 K.1) E_b259 F_b259_bytes F_b259_size g_b259 E_b261 V_b261 g_b261 ne_b259_b261) 0 (by decide) (by decide) rfl pd_6 rfl rfl (Nat.le_of_eq rfl) at_472 rfl (k' := 4) (n' := 126) rfl rfl (by decide) (by decide) ?_
        intro T332 v332 h332 X332 q332
        obtain ⟨rfl, rfl⟩ := q332
        show own_Go p e below (T332.setTop (mkF m 475 #[.val (.int i0), .val (.long i1), .second, .val (.int i2), .val (.int i3), .val (.int (0 : Int32)), .val (.int (1 : Int32)), .val (.int (0 : Int32)), .val (.ref b253), .val (.ref b259), .val (.ref b330), .val (.int (1 : Int32)), .unset, .unset] [(.int (0 : Int32))])) _
        refine own_aload (pc' := 477) B X332 at_475 rfl rfl rfl ?_
        refine own_arraylength (pc' := 478) B X332 V_b330 at_477 rfl ?_
        refine own_icmpYes (pc' := 483) B X332 at_478 (teq (by decide : (0 : Int32) = (0 : Int32))).1 (by decide) rfl ?_
        refine own_aload (pc' := 485) B X332 at_483 rfl rfl rfl ?_
        refine own_arraylength (pc' := 486) B X332 V_b330 at_485 rfl ?_
        refine own_ifNo (pc' := 489) B X332 at_486 ((if0 _ _).trans (teq (by decide : (0 : Int32) = (0 : Int32))).2) rfl ?_
        refine own_aload (pc' := 491) B X332 at_489 rfl rfl rfl ?_
        refine own_callV (pc' := 494) B X332 (own_w hw 33 rfl) (own_w hw 34 rfl) (own_w hw 36 rfl) (own_w hw 35 rfl) (own_w hw 3 rfl) (own_w hw 37 rfl) E_b259 (by decide) [] [] (rm_13 l Z a0 hw [] b259 b261 k262 (y264) (y266) (y268) (y270) (y255) (y283) (y286) (y289) (y292) (y295) (y298) (y301) (y257) h329 n0 (Nat.le_trans Z0 K.1) E_b259 F_b259_bytes F_b259_size g_b259 E_b261 V_b261 g_b261 ne_b259_b261) 0 (by decide) (by decide) rfl pd_5 rfl rfl (Nat.le_of_eq rfl) at_491 rfl (k' := 5) (n' := 126) rfl rfl (by decide) (by decide) ?_
        intro T333 v333 h333 X333 q333
        have lt_b253 := E_b253.lt
        have lt_b259 := E_b259.lt
        have lt_b261 := E_b261.lt
        have lt_b330 := E_b330.lt
        obtain ⟨b334, k335, rfl, K333, z_b334, E_b334, V_b334⟩ := q333
        have ne_b253_b334 : b253 ≠ b334 := own_ne' lt_b253 z_b334
        have ne_b259_b334 : b259 ≠ b334 := own_ne' lt_b259 z_b334
        have ne_b261_b334 : b261 ≠ b334 := own_ne' lt_b261 z_b334
        have ne_b330_b334 : b330 ≠ b334 := own_ne' lt_b330 z_b334
        have sz_b334 : h0.size ≤ b334 := Nat.le_trans K.1 z_b334
        have g_b334 : n0 ≤ b334 := Nat.le_trans Z0 sz_b334
        replace K := K.trans K333 all0
        replace E_b253 := E_b253.keep K333
        replace V_b253 := V_b253.keep K333 nin0
        replace E_b259 := E_b259.keep K333
        replace F_b259_bytes := F_b259_bytes.keep K333 nin0
        replace F_b259_size := F_b259_size.keep K333 nin0
        replace E_b261 := E_b261.keep K333
        replace V_b261 := V_b261.keep K333 nin0
        replace E_b330 := E_b330.keep K333
        replace V_b330 := V_b330.keep K333 nin0
        show own_Go p e below (T333.setTop (mkF m 494 #[.val (.int i0), .val (.long i1), .second, .val (.int i2), .val (.int i3), .val (.int (0 : Int32)), .val (.int (1 : Int32)), .val (.int (0 : Int32)), .val (.ref b253), .val (.ref b259), .val (.ref b330), .val (.int (1 : Int32)), .unset, .unset] [(.ref b334)])) _
        refine own_astore (pc' := 496) B X333 (Ls' := #[.val (.int i0), .val (.long i1), .second, .val (.int i2), .val (.int i3), .val (.int (0 : Int32)), .val (.int (1 : Int32)), .val (.int (0 : Int32)), .val (.ref b253), .val (.ref b259), .val (.ref b330), .val (.int (1 : Int32)), .val (.ref b334), .unset]) at_494 rfl rfl rfl ?_
        refine own_aload (pc' := 498) B X333 at_496 rfl rfl rfl ?_
        refine own_arraylength (pc' := 499) B X333 V_b334 at_498 rfl ?_
        refine own_ifNo (pc' := 502) B X333 at_499 ((if0 _ _).trans (teq (by decide : (0 : Int32) = (0 : Int32))).2) rfl ?_
        refine own_iconst (pc' := 503) B X333 (z := (1 : Int32)) at_502 rfl rfl ?_
        refine own_goto (pc' := 507) B X333 at_503 (by decide) rfl ?_
        exact own_retN B X333 (t := .boolean) (z' := (1 : Int32)) (by simp) (by decide) at_507 (by decide) (by decide) rfl
      · refine own_ifNo (pc' := 35) B X0 at_32 ((if0 _ _).trans (feq c252).1) rfl ?_
        refine own_iconst (pc' := 36) B X0 (z := (1 : Int32)) at_35 rfl rfl ?_
        refine own_goto (pc' := 40) B X0 at_36 (by decide) rfl ?_
        refine own_istore (pc' := 42) B X0 (Ls' := #[.val (.int i0), .val (.long i1), .second, .val (.int i2), .val (.int i3), .val (.int (0 : Int32)), .val (.int (1 : Int32)), .val (.int (1 : Int32)), .unset, .unset, .unset, .unset, .unset, .unset]) at_40 rfl rfl ?_
        refine own_bipush (pc' := 44) B X0 (z := (60 : Int32)) at_42 rfl (by decide) ?_
        refine own_newarray (pc' := 46) B X0 (own_w hw 0 rfl) at_44 rfl rfl (by decide) 60 (by decide) (by decide) (k' := 1) (n' := 60) rfl rfl (by decide) (by decide) "[B" (by decide) (.int (0 : Int32)) rfl ?_
        intro T336 h336 b336 kb336 X336 g336 E336 V_b336 E_b336
        have sz_b336 : h0.size ≤ b336 := own_sz K g336
        have g_b336 : n0 ≤ b336 := Nat.le_trans Z0 sz_b336
        replace K := K.ext E336
        refine own_astore (pc' := 48) B X336 (Ls' := #[.val (.int i0), .val (.long i1), .second, .val (.int i2), .val (.int i3), .val (.int (0 : Int32)), .val (.int (1 : Int32)), .val (.int (1 : Int32)), .val (.ref b336), .unset, .unset, .unset, .unset, .unset]) at_46 rfl rfl rfl ?_
        refine own_aload (pc' := 50) B X336 at_48 rfl rfl rfl ?_
        refine own_iconst (pc' := 51) B X336 (z := (0 : Int32)) at_50 rfl rfl ?_
        refine own_lloadN (pc' := 52) B X336 at_51 rfl rfl ?_
        obtain ⟨y337, hy337⟩ : ∃ z : Int32, i1.toInt32 = z := ⟨_, rfl⟩
        refine own_l2i (pc' := 53) B X336 at_52 rfl hy337 ?_
        obtain ⟨y338, hy338⟩ : ∃ z : Int32, y337.toInt8.toInt32 = z := ⟨_, rfl⟩
        refine own_i2b (pc' := 54) B X336 at_53 rfl hy338 ?_
        replace V_b336 : Arv Z h336 b336 kb336 .byte (60 : Int32) [(.int (0 : Int32))] (.int (0 : Int32)) := V_b336.pad (pad_rep [] (.int (0 : Int32)) 1)
        refine own_bastore (pc' := 55) B X336 (x' := y338) V_b336 g_b336 ⟨by decide, by decide⟩ 0 (by decide) (Nat.le_of_ble_eq_true rfl) (own_idem_i2b hy338) at_54 rfl ?_
        intro T339 h339 X339 W339 V_b336
        replace V_b336 : Arv Z h339 b336 kb336 .byte (60 : Int32) [(.int y338)] (.int (0 : Int32)) := V_b336
        replace E_b336 := E_b336.wr W339
        replace K := K.wr W339 (Or.inr sz_b336)
        refine own_aload (pc' := 57) B X339 at_55 rfl rfl rfl ?_
        refine own_bipush (pc' := 59) B X339 (z := (59 : Int32)) at_57 rfl (by decide) ?_
        refine own_iloadN (pc' := 60) B X339 at_59 rfl rfl ?_
        obtain ⟨y340, hy340⟩ : ∃ z : Int32, i2.toInt8.toInt32 = z := ⟨_, rfl⟩
        refine own_i2b (pc' := 61) B X339 at_60 rfl hy340 ?_
        replace V_b336 : Arv Z h339 b336 kb336 .byte (60 : Int32) ((.int y338) :: (.int (0 : Int32)) :: (.int (0 : Int32)) :: (.int (0 : Int32)) :: (.int (0 : Int32)) :: (.int (0 : Int32)) :: (.int (0 : Int32)) :: (.int (0 : Int32)) :: (.int (0 : Int32)) :: (.int (0 : Int32)) :: (.int (0 : Int32)) :: (.int (0 : Int32)) :: (.int (0 : Int32)) :: (.int (0 : Int32)) :: (.int (0 : Int32)) :: (.int (0 : Int32)) :: (.int (0 : Int32)) :: (.int (0 : Int32)) :: (.int (0 : Int32)) :: (.int (0 : Int32)) :: (.int (0 : Int32)) :: (.int (0 : Int32)) :: (.int (0 : Int32)) :: (.int (0 : Int32)) :: (.int (0 : Int32)) :: (.int (0 : Int32)) :: (.int (0 : Int32)) :: (.int (0 : Int32)) :: (.int (0 : Int32)) :: (.int (0 : Int32)) :: (.int (0 : Int32)) :: (.int (0 : Int32)) :: (.int (0 : Int32)) :: (.int (0 : Int32)) :: (.int (0 : Int32)) :: (.int (0 : Int32)) :: (.int (0 : Int32)) :: (.int (0 : Int32)) :: (.int (0 : Int32)) :: (.int (0 : Int32)) :: (.int (0 : Int32)) :: (.int (0 : Int32)) :: (.int (0 : Int32)) :: (.int (0 : Int32)) :: (.int (0 : Int32)) :: (.int (0 : Int32)) :: (.int (0 : Int32)) :: (.int (0 : Int32)) :: (.int (0 : Int32)) :: (.int (0 : Int32)) :: (.int (0 : Int32)) :: (.int (0 : Int32)) :: (.int (0 : Int32)) :: (.int (0 : Int32)) :: (.int (0 : Int32)) :: (.int (0 : Int32)) :: (.int (0 : Int32)) :: (.int (0 : Int32)) :: (.int (0 : Int32)) :: (.int (0 : Int32)) :: []) (.int (0 : Int32)) := V_b336.pad (pad_rep [(.int y338)] (.int (0 : Int32)) 59)
        refine own_bastore (pc' := 62) B X339 (x' := y340) V_b336 g_b336 ⟨by decide, by decide⟩ 59 (by decide) (Nat.le_of_ble_eq_true rfl) (own_idem_i2b hy340) at_61 rfl ?_
        intro T341 h341 X341 W341 V_b336
        replace V_b336 : Arv Z h341 b336 kb336 .byte (60 : Int32) ((.int y338) :: (.int (0 : Int32)) :: (.int (0 : Int32)) :: (.int (0 : Int32)) :: (.int (0 : Int32)) :: (.int (0 : Int32)) :: (.int (0 : Int32)) :: (.int (0 : Int32)) :: (.int (0 : Int32)) :: (.int (0 : Int32)) :: (.int (0 : Int32)) :: (.int (0 : Int32)) :: (.int (0 : Int32)) :: (.int (0 : Int32)) :: (.int (0 : Int32)) :: (.int (0 : Int32)) :: (.int (0 : Int32)) :: (.int (0 : Int32)) :: (.int (0 : Int32)) :: (.int (0 : Int32)) :: (.int (0 : Int32)) :: (.int (0 : Int32)) :: (.int (0 : Int32)) :: (.int (0 : Int32)) :: (.int (0 : Int32)) :: (.int (0 : Int32)) :: (.int (0 : Int32)) :: (.int (0 : Int32)) :: (.int (0 : Int32)) :: (.int (0 : Int32)) :: (.int (0 : Int32)) :: (.int (0 : Int32)) :: (.int (0 : Int32)) :: (.int (0 : Int32)) :: (.int (0 : Int32)) :: (.int (0 : Int32)) :: (.int (0 : Int32)) :: (.int (0 : Int32)) :: (.int (0 : Int32)) :: (.int (0 : Int32)) :: (.int (0 : Int32)) :: (.int (0 : Int32)) :: (.int (0 : Int32)) :: (.int (0 : Int32)) :: (.int (0 : Int32)) :: (.int (0 : Int32)) :: (.int (0 : Int32)) :: (.int (0 : Int32)) :: (.int (0 : Int32)) :: (.int (0 : Int32)) :: (.int (0 : Int32)) :: (.int (0 : Int32)) :: (.int (0 : Int32)) :: (.int (0 : Int32)) :: (.int (0 : Int32)) :: (.int (0 : Int32)) :: (.int (0 : Int32)) :: (.int (0 : Int32)) :: (.int (0 : Int32)) :: (.int y340) :: []) (.int (0 : Int32)) := V_b336
        replace E_b336 := E_b336.wr W341
        replace K := K.wr W341 (Or.inr sz_b336)
        refine own_new (pc' := 65) B X341 (own_w hw 1 rfl) (own_w hw 2 rfl) (own_w hw 3 rfl) at_62 rfl (k' := 2) (n' := 62) rfl rfl (by decide) (by decide) ?_
        intro T342 h342 b342 X342 g342 E342 E_b342 D342
        have ne_b336_b342 : b336 ≠ b342 := own_ne E_b336.lt g342
        have sz_b342 : h0.size ≤ b342 := own_sz K g342
        have g_b342 : n0 ≤ b342 := Nat.le_trans Z0 sz_b342
        replace K := K.ext E342
        replace E_b336 := E_b336.ext E342
        replace V_b336 := V_b336.ext E342
        have F_b342_bytes : Fld Z h342 b342 "com/example/siltstone/siltstone/format/ByteSink" "bytes" "[B" .null := D342 (Or.inl (own_w hw 11 rfl)) (ty := (.array .byte)) (by decide)
        have F_b342_size : Fld Z h342 b342 "com/example/siltstone/siltstone/format/ByteSink" "size" "I" (.int (0 : Int32)) := D342 (Or.inl (own_w hw 22 rfl)) (ty := .int) (by decide)
        clear D342
        refine own_dup (pc' := 66) B X342 at_65 rfl rfl ?_
        refine own_callI (pc' := 69) B X342 rfl rfl (own_w hw 4 rfl) (own_w hw 5 rfl) (own_w hw 3 rfl) (own_w hw 6 rfl) (by decide) [] [(.ref b342)] (rm_1 l Z a0 hw [] b342 h342 n0 (Nat.le_trans Z0 K.1) E_b342 F_b342_bytes F_b342_size g_b342) 1 (by decide) (by decide) rfl pd_0 rfl rfl (Nat.le_of_eq rfl) at_66 rfl (k' := 3) (n' := 126) rfl rfl (by decide) (by decide) ?_
        intro T343 v343 h343 X343 q343
        have lt_b336 := E_b336.lt
        have lt_b342 := E_b342.lt
        obtain ⟨b344, k345, rfl, K343, z_b344, E_b342, F_b342_bytes, F_b342_size, E_b344, V_b344⟩ := q343
        have ne_b336_b344 : b336 ≠ b344 := own_ne' lt_b336 z_b344
        have ne_b342_b344 : b342 ≠ b344 := own_ne' lt_b342 z_b344
        have sz_b344 : h0.size ≤ b344 := Nat.le_trans K.1 z_b344
        have g_b344 : n0 ≤ b344 := Nat.le_trans Z0 sz_b344
        replace K := K.trans K343 (allS (Or.inr sz_b342) all0)
        replace E_b336 := E_b336.keep K343
        replace V_b336 := V_b336.keep K343 (ninS ne_b336_b342 nin0)
        show own_Go p e below (T343.setTop (mkF m 69 #[.val (.int i0), .val (.long i1), .second, .val (.int i2), .val (.int i3), .val (.int (0 : Int32)), .val (.int (1 : Int32)), .val (.int (1 : Int32)), .val (.ref b336), .unset, .unset, .unset, .unset, .unset] [(.ref b342)])) _
        refine own_astore (pc' := 71) B X343 (Ls' := #[.val (.int i0), .val (.long i1), .second, .val (.int i2), .val (.int i3), .val (.int (0 : Int32)), .val (.int (1 : Int32)), .val (.int (1 : Int32)), .val (.ref b336), .val (.ref b342), .unset, .unset, .unset, .unset]) at_69 rfl rfl rfl ?_
        refine own_iload (pc' := 73) B X343 at_71 rfl rfl ?_
        refine own_ifYes (pc' := 83) B X343 at_73 ((if0 _ _).trans (teq (by decide : (0 : Int32) = (0 : Int32))).1) (by decide) rfl ?_
        refine own_aload (pc' := 85) B X343 at_83 rfl rfl rfl ?_
        refine own_iloadN (pc' := 86) B X343 at_85 rfl rfl ?_
        refine own_callV (pc' := 89) B X343 (own_w hw 12 rfl) (own_w hw 13 rfl) (own_w hw 15 rfl) (own_w hw 14 rfl) (own_w hw 3 rfl) (own_w hw 16 rfl) E_b342 (by decide) [(.int i0)] [] (rm_2 l Z a0 hw [] b342 b344 k345 (i0) h343 n0 (Nat.le_trans Z0 K.1) E_b342 F_b342_bytes F_b342_size g_b342 E_b344 V_b344 g_b344 ne_b342_b344) 0 (by decide) (by decide) rfl pd_1 rfl rfl (Nat.le_of_eq rfl) at_86 rfl (k' := 3) (n' := 126) rfl rfl (by decide) (by decide) ?_
        intro T346 v346 h346 X346 q346
        obtain ⟨y347, y348, y349, y350, y351, y352, y353, hy354, hy355, hy356, hy357, hy358, hy359, hy360, rfl, K346, E_b342, F_b342_bytes, F_b342_size, E_b344, V_b344⟩ := q346
        replace K := K.trans K346 (allS (Or.inr sz_b342) (allS (Or.inr sz_b344) all0))
        replace E_b336 := E_b336.keep K346
        replace V_b336 := V_b336.keep K346 (ninS ne_b336_b342 (ninS ne_b336_b344 nin0))
        show own_Go p e below (T346.setTop (mkF m 89 #[.val (.int i0), .val (.long i1), .second, .val (.int i2), .val (.int i3), .val (.int (0 : Int32)), .val (.int (1 : Int32)), .val (.int (1 : Int32)), .val (.ref b336), .val (.ref b342), .unset, .unset, .unset, .unset] [])) _
        refine own_aload (pc' := 91) B X346 at_89 rfl rfl rfl ?_
        refine own_lloadN (pc' := 92) B X346 at_91 rfl rfl ?_
        refine own_callV (pc' := 95) B X346 (own_w hw 23 rfl) (own_w hw 24 rfl) (own_w hw 26 rfl) (own_w hw 25 rfl) (own_w hw 3 rfl) (own_w hw 27 rfl) E_b342 (by decide) [(.long i1)] [] (rm_4 l Z a0 hw [] b342 b344 k345 (y347) (y349) (y351) (y353) (i1) h346 n0 (Nat.le_trans Z0 K.1) E_b342 F_b342_bytes F_b342_size g_b342 E_b344 V_b344 g_b344 ne_b342_b344) 0 (by decide) (by decide) rfl pd_2 rfl rfl (Nat.le_of_eq rfl) at_92 rfl (k' := 3) (n' := 126) rfl rfl (by decide) (by decide) ?_
        intro T361 v361 h361 X361 q361
        obtain ⟨y362, y363, y364, y365, y366, y367, y368, y369, y370, y371, y372, y373, y374, y375, y376, y377, y378, y379, y380, y381, y382, y383, y384, hy385, hy386, hy387, hy388, hy389, hy390, hy391, hy392, hy393, hy394, hy395, hy396, hy397, hy398, hy399, hy400, hy401, hy402, hy403, hy404, hy405, hy406, hy407, rfl, K361, E_b342, F_b342_bytes, F_b342_size, E_b344, V_b344⟩ := q361
        obtain rfl : y337 = y362 := (hy337 : i1.toInt32 = y337).symm.trans hy385
        obtain rfl : y338 = y363 := (hy338 : y337.toInt8.toInt32 = y338).symm.trans hy386
        replace K := K.trans K361 (allS (Or.inr sz_b342) (allS (Or.inr sz_b344) all0))
        replace E_b336 := E_b336.keep K361
        replace V_b336 := V_b336.keep K361 (ninS ne_b336_b342 (ninS ne_b336_b344 nin0))
        show own_Go p e below (T361.setTop (mkF m 95 #[.val (.int i0), .val (.long i1), .second, .val (.int i2), .val (.int i3), .val (.int (0 : Int32)), .val (.int (1 : Int32)), .val (.int (1 : Int32)), .val (.ref b336), .val (.ref b342), .unset, .unset, .unset, .unset] [])) _
        refine own_aload (pc' := 97) B X361 at_95 rfl rfl rfl ?_
        refine own_iloadN (pc' := 98) B X361 at_97 rfl rfl ?_
        refine own_callV (pc' := 101) B X361 (own_w hw 28 rfl) (own_w hw 29 rfl) (own_w hw 31 rfl) (own_w hw 30 rfl) (own_w hw 3 rfl) (own_w hw 32 rfl) E_b342 (by decide) [(.int i2)] [] (rm_6 l Z a0 hw [] b342 b344 k345 (y347) (y349) (y351) (y353) (y338) (y366) (y369) (y372) (y375) (y378) (y381) (y384) (i2) h361 n0 (Nat.le_trans Z0 K.1) E_b342 F_b342_bytes F_b342_size g_b342 E_b344 V_b344 g_b344 ne_b342_b344) 0 (by decide) (by decide) rfl pd_1 rfl rfl (Nat.le_of_eq rfl) at_98 rfl (k' := 3) (n' := 126) rfl rfl (by decide) (by decide) ?_
        intro T408 v408 h408 X408 q408
        obtain ⟨y409, hy410, rfl, K408, E_b342, F_b342_bytes, F_b342_size, E_b344, V_b344⟩ := q408
        obtain rfl : y340 = y409 := (hy340 : i2.toInt8.toInt32 = y340).symm.trans hy410
        replace K := K.trans K408 (allS (Or.inr sz_b342) (allS (Or.inr sz_b344) all0))
        replace E_b336 := E_b336.keep K408
        replace V_b336 := V_b336.keep K408 (ninS ne_b336_b342 (ninS ne_b336_b344 nin0))
        show own_Go p e below (T408.setTop (mkF m 101 #[.val (.int i0), .val (.long i1), .second, .val (.int i2), .val (.int i3), .val (.int (0 : Int32)), .val (.int (1 : Int32)), .val (.int (1 : Int32)), .val (.ref b336), .val (.ref b342), .unset, .unset, .unset, .unset] [])) _
        refine own_iload (pc' := 103) B X408 at_101 rfl rfl ?_
        refine own_ifNo (pc' := 106) B X408 at_103 ((if0 _ _).trans (feq (by decide : ¬ ((1 : Int32) = (0 : Int32)))).1) rfl ?_
        refine own_aload (pc' := 108) B X408 at_106 rfl rfl rfl ?_
        refine own_callV (pc' := 111) B X408 (own_w hw 71 rfl) (own_w hw 72 rfl) (own_w hw 74 rfl) (own_w hw 73 rfl) (own_w hw 3 rfl) (own_w hw 75 rfl) E_b342 (by decide) [] [] (rm_12 l Z a0 hw [] b342 b344 k345 (y347) (y349) (y351) (y353) (y338) (y366) (y369) (y372) (y375) (y378) (y381) (y384) (y340) h408 n0 (Nat.le_trans Z0 K.1) E_b342 F_b342_bytes F_b342_size g_b342 E_b344 V_b344 g_b344 ne_b342_b344) 0 (by decide) (by decide) rfl pd_0 rfl rfl (Nat.le_of_eq rfl) at_108 rfl (k' := 3) (n' := 126) rfl rfl (by decide) (by decide) ?_
        intro T411 v411 h411 X411 q411
        obtain ⟨rfl, K411, E_b342, F_b342_bytes, F_b342_size⟩ := q411
        replace K := K.trans K411 (allS (Or.inr sz_b342) all0)
        replace E_b336 := E_b336.keep K411
        replace V_b336 := V_b336.keep K411 (ninS ne_b336_b342 nin0)
        replace E_b344 := E_b344.keep K411
        replace V_b344 := V_b344.keep K411 (ninS (Ne.symm ne_b342_b344) nin0)
        show own_Go p e below (T411.setTop (mkF m 111 #[.val (.int i0), .val (.long i1), .second, .val (.int i2), .val (.int i3), .val (.int (0 : Int32)), .val (.int (1 : Int32)), .val (.int (1 : Int32)), .val (.ref b336), .val (.ref b342), .unset, .unset, .unset, .unset] [])) _
        refine own_iload (pc' := 113) B X411 at_111 rfl rfl ?_
        refine own_ifNo (pc' := 116) B X411 at_113 ((if0 _ _).trans (feq (by decide : ¬ ((1 : Int32) = (0 : Int32)))).1) rfl ?_
        refine own_aload (pc' := 118) B X411 at_116 rfl rfl rfl ?_
        refine own_iloadN (pc' := 119) B X411 at_118 rfl rfl ?_
        refine own_callV (pc' := 122) B X411 (own_w hw 28 rfl) (own_w hw 29 rfl) (own_w hw 31 rfl) (own_w hw 30 rfl) (own_w hw 3 rfl) (own_w hw 32 rfl) E_b342 (by decide) [(.int i0)] [] (rm_17 l Z a0 hw [] b342 b344 k345 (y347) (y349) (y351) (y353) (y338) (y366) (y369) (y372) (y375) (y378) (y381) (y384) (y340) (i0) h411 n0 (Nat.le_trans Z0 K.1) E_b342 F_b342_bytes F_b342_size g_b342 E_b344 V_b344 g_b344 ne_b342_b344) 0 (by decide) (by decide) rfl pd_1 rfl rfl (Nat.le_of_eq rfl) at_119 rfl (k' := 3) (n' := 126) rfl rfl (by decide) (by decide) ?_
        intro T412 v412 h412 X412 q412
        obtain ⟨y413, hy414, rfl, K412, E_b342, F_b342_bytes, F_b342_size, E_b344, V_b344⟩ := q412
        obtain rfl : y347 = y413 := (hy354 : i0.toInt8.toInt32 = y347).symm.trans hy414
        replace K := K.trans K412 (allS (Or.inr sz_b342) (allS (Or.inr sz_b344) all0))
        replace E_b336 := E_b336.keep K412
        replace V_b336 := V_b336.keep K412 (ninS ne_b336_b342 (ninS ne_b336_b344 nin0))
        show own_Go p e below (T412.setTop (mkF m 122 #[.val (.int i0), .val (.long i1), .second, .val (.int i2), .val (.int i3), .val (.int (0 : Int32)), .val (.int (1 : Int32)), .val (.int (1 : Int32)), .val (.ref b336), .val (.ref b342), .unset, .unset, .unset, .unset] [])) _
        refine own_aload (pc' := 124) B X412 at_122 rfl rfl rfl ?_
        refine own_callV (pc' := 127) B X412 (own_w hw 33 rfl) (own_w hw 34 rfl) (own_w hw 36 rfl) (own_w hw 35 rfl) (own_w hw 3 rfl) (own_w hw 37 rfl) E_b342 (by decide) [] [] (rm_19 l Z a0 hw [] b342 b344 k345 (y347) (y349) (y351) (y353) (y338) (y366) (y369) (y372) (y375) (y378) (y381) (y384) (y340) h412 n0 (Nat.le_trans Z0 K.1) E_b342 F_b342_bytes F_b342_size g_b342 E_b344 V_b344 g_b344 ne_b342_b344) 0 (by decide) (by decide) rfl pd_5 rfl rfl (Nat.le_of_eq rfl) at_124 rfl (k' := 4) (n' := 127) rfl rfl (by decide) (by decide) ?_
        intro T415 v415 h415 X415 q415
        have lt_b336 := E_b336.lt
        have lt_b342 := E_b342.lt
        have lt_b344 := E_b344.lt
        obtain ⟨b416, k417, rfl, K415, z_b416, E_b416, V_b416⟩ := q415
        have ne_b336_b416 : b336 ≠ b416 := own_ne' lt_b336 z_b416
        have ne_b342_b416 : b342 ≠ b416 := own_ne' lt_b342 z_b416
        have ne_b344_b416 : b344 ≠ b416 := own_ne' lt_b344 z_b416
        have sz_b416 : h0.size ≤ b416 := Nat.le_trans K.1 z_b416
        have g_b416 : n0 ≤ b416 := Nat.le_trans Z0 sz_b416
        replace K := K.trans K415 all0
        replace E_b336 := E_b336.keep K415
        replace V_b336 := V_b336.keep K415 nin0
        replace E_b342 := E_b342.keep K415
        replace F_b342_bytes := F_b342_bytes.keep K415 nin0
        replace F_b342_size := F_b342_size.keep K415 nin0
        replace E_b344 := E_b344.keep K415
        replace V_b344 := V_b344.keep K415 nin0
        show own_Go p e below (T415.setTop (mkF m 127 #[.val (.int i0), .val (.long i1), .second, .val (.int i2), .val (.int i3), .val (.int (0 : Int32)), .val (.int (1 : Int32)), .val (.int (1 : Int32)), .val (.ref b336), .val (.ref b342), .unset, .unset, .unset, .unset] [(.ref b416)])) _
        refine own_astore (pc' := 129) B X415 (Ls' := #[.val (.int i0), .val (.long i1), .second, .val (.int i2), .val (.int i3), .val (.int (0 : Int32)), .val (.int (1 : Int32)), .val (.int (1 : Int32)), .val (.ref b336), .val (.ref b342), .val (.ref b416), .unset, .unset, .unset]) at_127 rfl rfl rfl ?_
        refine own_iload (pc' := 131) B X415 at_129 rfl rfl ?_
        refine own_ifNo (pc' := 134) B X415 at_131 ((if0 _ _).trans (feq (by decide : ¬ ((1 : Int32) = (0 : Int32)))).1) rfl ?_
        refine own_iload (pc' := 136) B X415 at_134 rfl rfl ?_
        refine own_ifNo (pc' := 139) B X415 at_136 ((if0 _ _).trans (feq (by decide : ¬ ((1 : Int32) = (0 : Int32)))).1) rfl ?_
        refine own_aload (pc' := 141) B X415 at_139 rfl rfl rfl ?_
        refine own_arraylength (pc' := 142) B X415 V_b416 at_141 rfl ?_
        refine own_iconst (pc' := 143) B X415 (z := (1 : Int32)) at_142 rfl rfl ?_
        refine own_icmpNo (pc' := 146) B X415 at_143 (teq (by decide : (1 : Int32) = (1 : Int32))).2 rfl ?_
        refine own_aload (pc' := 148) B X415 at_146 rfl rfl rfl ?_
        refine own_iconst (pc' := 149) B X415 (z := (0 : Int32)) at_148 rfl rfl ?_
        refine own_baload (pc' := 150) B X415 V_b416 (v := (.int y347)) ⟨by decide, by decide⟩ rfl at_149 rfl ?_
        refine own_iloadN (pc' := 151) B X415 at_150 rfl rfl ?_
        refine own_i2b (pc' := 152) B X415 at_151 rfl hy354 ?_
        refine own_icmpNo (pc' := 155) B X415 at_152 (teq rfl).2 rfl ?_
        refine own_iconst (pc' := 156) B X415 (z := (1 : Int32)) at_155 rfl rfl ?_
        refine own_goto (pc' := 160) B X415 at_156 (by decide) rfl ?_
        refine own_istore (pc' := 162) B X415 (Ls' := #[.val (.int i0), .val (.long i1), .second, .val (.int i2), .val (.int i3), .val (.int (0 : Int32)), .val (.int (1 : Int32)), .val (.int (1 : Int32)), .val (.ref b336), .val (.ref b342), .val (.ref b416), .val (.int (1 : Int32)), .unset, .unset]) at_160 rfl rfl ?_
        refine own_goto (pc' := 463) B X415 at_162 (by decide) rfl ?_
        refine own_iload (pc' := 465) B X415 at_463 rfl rfl ?_
        refine own_ifYes (pc' := 470) B X415 at_465 ((if0 _ _).trans (feq (by decide : ¬ ((1 : Int32) = (0 : Int32)))).2) (by decide) rfl ?_
        refine own_aload (pc' := 472) B X415 at_470 rfl rfl rfl ?_
        refine own_callV (pc' := 475) B X415 (own_w hw 50 rfl) (own_w hw 51 rfl) (own_w hw 53 rfl) (own_w hw 52 rfl) (own_w hw 3 rfl) (own_w hw 54 rfl) E_b342 (by decide) [] [] (rm_22 l Z a0 hw [] b342 b344 k345 (y347) (y349) (y351) (y353) (y338) (y366) (y369) (y372) (y375) (y378) (y381) (y384) (y340) h415 n0 (Nat.le_trans Z0 K.1) E_b342 F_b342_bytes F_b342_size g_b342 E_b344 V_b344 g_b344 ne_b342_b344) 0 (by decide) (by decide) rfl pd_6 rfl rfl (Nat.le_of_eq rfl) at_472 rfl (k' := 4) (n' := 127) rfl rfl (by decide) (by decide) ?_
        intro T418 v418 h418 X418 q418
        obtain ⟨rfl, rfl⟩ := q418
        show own_Go p e below (T418.setTop (mkF m 475 #[.val (.int i0), .val (.long i1), .second, .val (.int i2), .val (.int i3), .val (.int (0 : Int32)), .val (.int (1 : Int32)), .val (.int (1 : Int32)), .val (.ref b336), .val (.ref b342), .val (.ref b416), .val (.int (1 : Int32)), .unset, .unset] [(.int (1 : Int32))])) _
        refine own_aload (pc' := 477) B X418 at_475 rfl rfl rfl ?_
        refine own_arraylength (pc' := 478) B X418 V_b416 at_477 rfl ?_
        refine own_icmpYes (pc' := 483) B X418 at_478 (teq (by decide : (1 : Int32) = (1 : Int32))).1 (by decide) rfl ?_
        refine own_aload (pc' := 485) B X418 at_483 rfl rfl rfl ?_
        refine own_arraylength (pc' := 486) B X418 V_b416 at_485 rfl ?_
        refine own_ifYes (pc' := 508) B X418 at_486 ((if0 _ _).trans (feq (by decide : ¬ ((1 : Int32) = (0 : Int32)))).2) (by decide) rfl ?_
        refine own_aload (pc' := 510) B X418 at_508 rfl rfl rfl ?_
        refine own_iconst (pc' := 511) B X418 (z := (0 : Int32)) at_510 rfl rfl ?_
        refine own_baload (pc' := 512) B X418 V_b416 (v := (.int y347)) ⟨by decide, by decide⟩ rfl at_511 rfl ?_
        refine own_istore (pc' := 514) B X418 (Ls' := #[.val (.int i0), .val (.long i1), .second, .val (.int i2), .val (.int i3), .val (.int (0 : Int32)), .val (.int (1 : Int32)), .val (.int (1 : Int32)), .val (.ref b336), .val (.ref b342), .val (.ref b416), .val (.int (1 : Int32)), .val (.int y347), .unset]) at_512 rfl rfl ?_
        refine own_aload (pc' := 516) B X418 at_514 rfl rfl rfl ?_
        refine own_iconst (pc' := 517) B X418 (z := (0 : Int32)) at_516 rfl rfl ?_
        refine own_iload (pc' := 519) B X418 at_517 rfl rfl ?_
        refine own_iconst (pc' := 520) B X418 (z := (1 : Int32)) at_519 rfl rfl ?_
        obtain ⟨y419, hy419⟩ : ∃ z : Int32, y347 ^^^ (1 : Int32) = z := ⟨_, rfl⟩
        refine own_ixor (pc' := 521) B X418 at_520 rfl hy419 ?_
        obtain ⟨y420, hy420⟩ : ∃ z : Int32, y419.toInt8.toInt32 = z := ⟨_, rfl⟩
        refine own_i2b (pc' := 522) B X418 at_521 rfl hy420 ?_
        refine own_bastore (pc' := 523) B X418 (x' := y420) V_b416 g_b416 ⟨by decide, by decide⟩ 0 (by decide) (Nat.le_of_ble_eq_true rfl) (own_idem_i2b hy420) at_522 rfl ?_
        intro T421 h421 X421 W421 V_b416
        replace V_b416 : Arv Z h421 b416 k417 .byte (1 : Int32) [(.int y420)] (.int (0 : Int32)) := V_b416
        replace E_b336 := E_b336.wr W421
        replace V_b336 := V_b336.other W421 ne_b336_b416
        replace E_b342 := E_b342.wr W421
        replace F_b342_bytes := F_b342_bytes.other W421 (Or.inl ne_b342_b416)
        replace F_b342_size := F_b342_size.other W421 (Or.inl ne_b342_b416)
        replace E_b344 := E_b344.wr W421
        replace V_b344 := V_b344.other W421 ne_b344_b416
        replace E_b416 := E_b416.wr W421
        replace K := K.wr W421 (Or.inr sz_b416)
        refine own_aload (pc' := 525) B X421 at_523 rfl rfl rfl ?_
        refine own_callV (pc' := 528) B X421 (own_w hw 33 rfl) (own_w hw 34 rfl) (own_w hw 36 rfl) (own_w hw 35 rfl) (own_w hw 3 rfl) (own_w hw 37 rfl) E_b342 (by decide) [] [] (rm_19 l Z a0 hw [] b342 b344 k345 (y347) (y349) (y351) (y353) (y338) (y366) (y369) (y372) (y375) (y378) (y381) (y384) (y340) h421 n0 (Nat.le_trans Z0 K.1) E_b342 F_b342_bytes F_b342_size g_b342 E_b344 V_b344 g_b344 ne_b342_b344) 0 (by decide) (by decide) rfl pd_5 rfl rfl (Nat.le_of_eq rfl) at_525 rfl (k' := 5) (n' := 128) rfl rfl (by decide) (by decide) ?_
        intro T422 v422 h422 X422 q422
        have lt_b336 := E_b336.lt
        have lt_b342 := E_b342.lt
        have lt_b344 := E_b344.lt
        have lt_b416 := E_b416.lt
        obtain ⟨b423, k424, rfl, K422, z_b423, E_b423, V_b423⟩ := q422
        have ne_b336_b423 : b336 ≠ b423 := own_ne' lt_b336 z_b423
        have ne_b342_b423 : b342 ≠ b423 := own_ne' lt_b342 z_b423
        have ne_b344_b423 : b344 ≠ b423 := own_ne' lt_b344 z_b423
        have ne_b416_b423 : b416 ≠ b423 := own_ne' lt_b416 z_b423
        have sz_b423 : h0.size ≤ b423 := Nat.le_trans K.1 z_b423
        have g_b423 : n0 ≤ b423 := Nat.le_trans Z0 sz_b423
        replace K := K.trans K422 all0
        replace E_b336 := E_b336.keep K422
        replace V_b336 := V_b336.keep K422 nin0
        replace E_b342 := E_b342.keep K422
        replace F_b342_bytes := F_b342_bytes.keep K422 nin0
        replace F_b342_size := F_b342_size.keep K422 nin0
        replace E_b344 := E_b344.keep K422
        replace V_b344 := V_b344.keep K422 nin0
        replace E_b416 := E_b416.keep K422
        replace V_b416 := V_b416.keep K422 nin0
        show own_Go p e below (T422.setTop (mkF m 528 #[.val (.int i0), .val (.long i1), .second, .val (.int i2), .val (.int i3), .val (.int (0 : Int32)), .val (.int (1 : Int32)), .val (.int (1 : Int32)), .val (.ref b336), .val (.ref b342), .val (.ref b416), .val (.int (1 : Int32)), .val (.int y347), .unset] [(.ref b423)])) _
        refine own_astore (pc' := 530) B X422 (Ls' := #[.val (.int i0), .val (.long i1), .second, .val (.int i2), .val (.int i3), .val (.int (0 : Int32)), .val (.int (1 : Int32)), .val (.int (1 : Int32)), .val (.ref b336), .val (.ref b342), .val (.ref b416), .val (.int (1 : Int32)), .val (.int y347), .val (.ref b423)]) at_528 rfl rfl rfl ?_
        refine own_aload (pc' := 532) B X422 at_530 rfl rfl rfl ?_
        refine own_aload (pc' := 534) B X422 at_532 rfl rfl rfl ?_
        refine own_acmp B X422 rfl rfl (same := false) at_534 (decide_eq_false fun q => (Ne.symm ne_b416_b423) (Value.ref.inj q)) (by decide) (pc' := 537) (by decide) ?_
        refine own_aload (pc' := 539) B X422 at_537 rfl rfl rfl ?_
        refine own_arraylength (pc' := 540) B X422 V_b423 at_539 rfl ?_
        refine own_aload (pc' := 542) B X422 at_540 rfl rfl rfl ?_
        refine own_arraylength (pc' := 543) B X422 V_b416 at_542 rfl ?_
        refine own_icmpNo (pc' := 546) B X422 at_543 (teq (by decide : (1 : Int32) = (1 : Int32))).2 rfl ?_
        refine own_aload (pc' := 548) B X422 at_546 rfl rfl rfl ?_
        refine own_iconst (pc' := 549) B X422 (z := (0 : Int32)) at_548 rfl rfl ?_
        refine own_baload (pc' := 550) B X422 V_b423 (v := (.int y347)) ⟨by decide, by decide⟩ rfl at_549 rfl ?_
        refine own_iload (pc' := 552) B X422 at_550 rfl rfl ?_
        refine own_icmpNo (pc' := 555) B X422 at_552 (teq rfl).2 rfl ?_
        refine own_iconst (pc' := 556) B X422 (z := (1 : Int32)) at_555 rfl rfl ?_
        refine own_goto (pc' := 560) B X422 at_556 (by decide) rfl ?_
        exact own_retN B X422 (t := .boolean) (z' := (1 : Int32)) (by simp) (by decide) at_560 (by decide) (by decide) rfl
  · refine own_ifNo (pc' := 7) B X0 at_4 ((if0 _ _).trans (feq c2).1) rfl ?_
    refine own_iconst (pc' := 8) B X0 (z := (1 : Int32)) at_7 rfl rfl ?_
    refine own_goto (pc' := 12) B X0 at_8 (by decide) rfl ?_
    refine own_istore (pc' := 14) B X0 (Ls' := #[.val (.int i0), .val (.long i1), .second, .val (.int i2), .val (.int i3), .val (.int (1 : Int32)), .unset, .unset, .unset, .unset, .unset, .unset, .unset, .unset]) at_12 rfl rfl ?_
    refine own_iload (pc' := 16) B X0 at_14 rfl rfl ?_
    refine own_iconst (pc' := 17) B X0 (z := (2 : Int32)) at_16 rfl rfl ?_
    obtain ⟨y425, hy425⟩ : ∃ z : Int32, i3 &&& (2 : Int32) = z := ⟨_, rfl⟩
    refine own_iand (pc' := 18) B X0 at_17 rfl hy425 ?_
    by_cases c426 : y425 = (0 : Int32)
    · refine own_ifYes (pc' := 25) B X0 at_18 ((if0 _ _).trans (teq c426).1) (by decide) rfl ?_
      refine own_iconst (pc' := 26) B X0 (z := (0 : Int32)) at_25 rfl rfl ?_
      refine own_istore (pc' := 28) B X0 (Ls' := #[.val (.int i0), .val (.long i1), .second, .val (.int i2), .val (.int i3), .val (.int (1 : Int32)), .val (.int (0 : Int32)), .unset, .unset, .unset, .unset, .unset, .unset, .unset]) at_26 rfl rfl ?_
      refine own_iload (pc' := 30) B X0 at_28 rfl rfl ?_
      refine own_iconst (pc' := 31) B X0 (z := (4 : Int32)) at_30 rfl rfl ?_
      obtain ⟨y427, hy427⟩ : ∃ z : Int32, i3 &&& (4 : Int32) = z := ⟨_, rfl⟩
      refine own_iand (pc' := 32) B X0 at_31 rfl hy427 ?_
      by_cases c428 : y427 = (0 : Int32)
      · refine own_ifYes (pc' := 39) B X0 at_32 ((if0 _ _).trans (teq c428).1) (by decide) rfl ?_
        refine own_iconst (pc' := 40) B X0 (z := (0 : Int32)) at_39 rfl rfl ?_
        refine own_istore (pc' := 42) B X0 (Ls' := #[.val (.int i0), .val (.long i1), .second, .val (.int i2), .val (.int i3), .val (.int (1 : Int32)), .val (.int (0 : Int32)), .val (.int (0 : Int32)), .unset, .unset, .unset, .unset, .unset, .unset]) at_40 rfl rfl ?_
        refine own_bipush (pc' := 44) B X0 (z := (60 : Int32)) at_42 rfl (by decide) ?_
        refine own_newarray (pc' := 46) B X0 (own_w hw 0 rfl) at_44 rfl rfl (by decide) 60 (by decide) (by decide) (k' := 1) (n' := 60) rfl rfl (by decide) (by decide) "[B" (by decide) (.int (0 : Int32)) rfl ?_
        intro T429 h429 b429 kb429 X429 g429 E429 V_b429 E_b429
        have sz_b429 : h0.size ≤ b429 := own_sz K g429
        have g_b429 : n0 ≤ b429 := Nat.le_trans Z0 sz_b429
        replace K := K.ext E429
        refine own_astore (pc' := 48) B X429 (Ls' := #[.val (.int i0), .val (.long i1), .second, .val (.int i2), .val (.int i3), .val (.int (1 : Int32)), .val (.int (0 : Int32)), .val (.int (0 : Int32)), .val (.ref b429), .unset, .unset, .unset, .unset, .unset]) at_46 rfl rfl rfl ?_
        refine own_aload (pc' := 50) B X429 at_48 rfl rfl rfl ?_
        refine own_iconst (pc' := 51) B X429 (z := (0 : Int32)) at_50 rfl rfl ?_
        refine own_lloadN (pc' := 52) B X429 at_51 rfl rfl ?_
        obtain ⟨y430, hy430⟩ : ∃ z : Int32, i1.toInt32 = z := ⟨_, rfl⟩
        refine own_l2i (pc' := 53) B X429 at_52 rfl hy430 ?_
        obtain ⟨y431, hy431⟩ : ∃ z : Int32, y430.toInt8.toInt32 = z := ⟨_, rfl⟩
        refine own_i2b (pc' := 54) B X429 at_53 rfl hy431 ?_
        replace V_b429 : Arv Z h429 b429 kb429 .byte (60 : Int32) [(.int (0 : Int32))] (.int (0 : Int32)) := V_b429.pad (pad_rep [] (.int (0 : Int32)) 1)
        refine own_bastore (pc' := 55) B X429 (x' := y431) V_b429 g_b429 ⟨by decide, by decide⟩ 0 (by decide) (Nat.le_of_ble_eq_true rfl) (own_idem_i2b hy431) at_54 rfl ?_
        intro T432 h432 X432 W432 V_b429
        replace V_b429 : Arv Z h432 b429 kb429 .byte (60 : Int32) [(.int y431)] (.int (0 : Int32)) := V_b429
        replace E_b429 := E_b429.wr W432
        replace K := K.wr W432 (Or.inr sz_b429)
        refine own_aload (pc' := 57) B X432 at_55 rfl rfl rfl ?_
        refine own_bipush (pc' := 59) B X432 (z := (59 : Int32)) at_57 rfl (by decide) ?_
        refine own_iloadN (pc' := 60) B X432 at_59 rfl rfl ?_
        obtain ⟨y433, hy433⟩ : ∃ z : Int32, i2.toInt8.toInt32 = z := ⟨_, rfl⟩
        refine own_i2b (pc' := 61) B X432 at_60 rfl hy433 ?_
        replace V_b429 : Arv Z h432 b429 kb429 .byte (60 : Int32) ((.int y431) :: (.int (0 : Int32)) :: (.int (0 : Int32)) :: (.int (0 : Int32)) :: (.int (0 : Int32)) :: (.int (0 : Int32)) :: (.int (0 : Int32)) :: (.int (0 : Int32)) :: (.int (0 : Int32)) :: (.int (0 : Int32)) :: (.int (0 : Int32)) :: (.int (0 : Int32)) :: (.int (0 : Int32)) :: (.int (0 : Int32)) :: (.int (0 : Int32)) :: (.int (0 : Int32)) :: (.int (0 : Int32)) :: (.int (0 : Int32)) :: (.int (0 : Int32)) :: (.int (0 : Int32)) :: (.int (0 : Int32)) :: (.int (0 : Int32)) :: (.int (0 : Int32)) :: (.int (0 : Int32)) :: (.int (0 : Int32)) :: (.int (0 : Int32)) :: (.int (0 : Int32)) :: (.int (0 : Int32)) :: (.int (0 : Int32)) :: (.int (0 : Int32)) :: (.int (0 : Int32)) :: (.int (0 : Int32)) :: (.int (0 : Int32)) :: (.int (0 : Int32)) :: (.int (0 : Int32)) :: (.int (0 : Int32)) :: (.int (0 : Int32)) :: (.int (0 : Int32)) :: (.int (0 : Int32)) :: (.int (0 : Int32)) :: (.int (0 : Int32)) :: (.int (0 : Int32)) :: (.int (0 : Int32)) :: (.int (0 : Int32)) :: (.int (0 : Int32)) :: (.int (0 : Int32)) :: (.int (0 : Int32)) :: (.int (0 : Int32)) :: (.int (0 : Int32)) :: (.int (0 : Int32)) :: (.int (0 : Int32)) :: (.int (0 : Int32)) :: (.int (0 : Int32)) :: (.int (0 : Int32)) :: (.int (0 : Int32)) :: (.int (0 : Int32)) :: (.int (0 : Int32)) :: (.int (0 : Int32)) :: (.int (0 : Int32)) :: (.int (0 : Int32)) :: []) (.int (0 : Int32)) := V_b429.pad (pad_rep [(.int y431)] (.int (0 : Int32)) 59)
        refine own_bastore (pc' := 62) B X432 (x' := y433) V_b429 g_b429 ⟨by decide, by decide⟩ 59 (by decide) (Nat.le_of_ble_eq_true rfl) (own_idem_i2b hy433) at_61 rfl ?_
        intro T434 h434 X434 W434 V_b429
        replace V_b429 : Arv Z h434 b429 kb429 .byte (60 : Int32) ((.int y431) :: (.int (0 : Int32)) :: (.int (0 : Int32)) :: (.int (0 : Int32)) :: (.int (0 : Int32)) :: (.int (0 : Int32)) :: (.int (0 : Int32)) :: (.int (0 : Int32)) :: (.int (0 : Int32)) :: (.int (0 : Int32)) :: (.int (0 : Int32)) :: (.int (0 : Int32)) :: (.int (0 : Int32)) :: (.int (0 : Int32)) :: (.int (0 : Int32)) :: (.int (0 : Int32)) :: (.int (0 : Int32)) :: (.int (0 : Int32)) :: (.int (0 : Int32)) :: (.int (0 : Int32)) :: (.int (0 : Int32)) :: (.int (0 : Int32)) :: (.int (0 : Int32)) :: (.int (0 : Int32)) :: (.int (0 : Int32)) :: (.int (0 : Int32)) :: (.int (0 : Int32)) :: (.int (0 : Int32)) :: (.int (0 : Int32)) :: (.int (0 : Int32)) :: (.int (0 : Int32)) :: (.int (0 : Int32)) :: (.int (0 : Int32)) :: (.int (0 : Int32)) :: (.int (0 : Int32)) :: (.int (0 : Int32)) :: (.int (0 : Int32)) :: (.int (0 : Int32)) :: (.int (0 : Int32)) :: (.int (0 : Int32)) :: (.int (0 : Int32)) :: (.int (0 : Int32)) :: (.int (0 : Int32)) :: (.int (0 : Int32)) :: (.int (0 : Int32)) :: (.int (0 : Int32)) :: (.int (0 : Int32)) :: (.int (0 : Int32)) :: (.int (0 : Int32)) :: (.int (0 : Int32)) :: (.int (0 : Int32)) :: (.int (0 : Int32)) :: (.int (0 : Int32)) :: (.int (0 : Int32)) :: (.int (0 : Int32)) :: (.int (0 : Int32)) :: (.int (0 : Int32)) :: (.int (0 : Int32)) :: (.int (0 : Int32)) :: (.int y433) :: []) (.int (0 : Int32)) := V_b429
        replace E_b429 := E_b429.wr W434
        replace K := K.wr W434 (Or.inr sz_b429)
        refine own_new (pc' := 65) B X434 (own_w hw 1 rfl) (own_w hw 2 rfl) (own_w hw 3 rfl) at_62 rfl (k' := 2) (n' := 62) rfl rfl (by decide) (by decide) ?_
        intro T435 h435 b435 X435 g435 E435 E_b435 D435
        have ne_b429_b435 : b429 ≠ b435 := own_ne E_b429.lt g435
        have sz_b435 : h0.size ≤ b435 := own_sz K g435
        have g_b435 : n0 ≤ b435 := Nat.le_trans Z0 sz_b435
        replace K := K.ext E435
        replace E_b429 := E_b429.ext E435
        replace V_b429 := V_b429.ext E435
        have F_b435_bytes : Fld Z h435 b435 "com/example/siltstone/siltstone/format/ByteSink" "bytes" "[B" .null := D435 (Or.inl (own_w hw 11 rfl)) (ty := (.array .byte)) (by decide)
        have F_b435_size : Fld Z h435 b435 "com/example/siltstone/siltstone/format/ByteSink" "size" "I" (.int (0 : Int32)) := D435 (Or.inl (own_w hw 22 rfl)) (ty := .int) (by decide)
        clear D435
        refine own_dup (pc' := 66) B X435 at_65 rfl rfl ?_
        refine own_callI (pc' := 69) B X435 rfl rfl (own_w hw 4 rfl) (own_w hw 5 rfl) (own_w hw 3 rfl) (own_w hw 6 rfl) (by decide) [] [(.ref b435)] (rm_1 l Z a0 hw [] b435 h435 n0 (Nat.le_trans Z0 K.1) E_b435 F_b435_bytes F_b435_size g_b435) 1 (by decide) (by decide) rfl pd_0 rfl rfl (Nat.le_of_eq rfl) at_66 rfl (k' := 3) (n' := 126) rfl rfl (by decide) (by decide) ?_
        intro T436 v436 h436 X436 q436
        have lt_b429 := E_b429.lt
        have lt_b435 := E_b435.lt
        obtain ⟨b437, k438, rfl, K436, z_b437, E_b435, F_b435_bytes, F_b435_size, E_b437, V_b437⟩ := q436
        have ne_b429_b437 : b429 ≠ b437 := own_ne' lt_b429 z_b437
        have ne_b435_b437 : b435 ≠ b437 := own_ne' lt_b435 z_b437
        have sz_b437 : h0.size ≤ b437 := Nat.le_trans K.1 z_b437
        have g_b437 : n0 ≤ b437 := Nat.le_trans Z0 sz_b437
        replace K := K.trans K436 (allS (Or.inr sz_b435) all0)
        replace E_b429 := E_b429.keep K436
        replace V_b429 := V_b429.keep K436 (ninS ne_b429_b435 nin0)
        show own_Go p e below (T436.setTop (mkF m 69 #[.val (.int i0), .val (.long i1), .second, .val (.int i2), .val (.int i3), .val (.int (1 : Int32)), .val (.int (0 : Int32)), .val (.int (0 : Int32)), .val (.ref b429), .unset, .unset, .unset, .unset, .unset] [(.ref b435)])) _
        refine own_astore (pc' := 71) B X436 (Ls' := #[.val (.int i0), .val (.long i1), .second, .val (.int i2), .val (.int i3), .val (.int (1 : Int32)), .val (.int (0 : Int32)), .val (.int (0 : Int32)), .val (.ref b429), .val (.ref b435), .unset, .unset, .unset, .unset]) at_69 rfl rfl rfl ?_
        refine own_iload (pc' := 73) B X436 at_71 rfl rfl ?_
        refine own_ifNo (pc' := 76) B X436 at_73 ((if0 _ _).trans (feq (by decide : ¬ ((1 : Int32) = (0 : Int32)))).1) rfl ?_
        refine own_aload (pc' := 78) B X436 at_76 rfl rfl rfl ?_
        refine own_aload (pc' := 80) B X436 at_78 rfl rfl rfl ?_
        refine own_callV (pc' := 83) B X436 (own_w hw 55 rfl) (own_w hw 56 rfl) (own_w hw 58 rfl) (own_w hw 57 rfl) (own_w hw 3 rfl) (own_w hw 59 rfl) E_b435 (by decide) [(.ref b429)] [] (rm_23 l Z a0 hw [] b435 b437 k438 b429 kb429 (y431) (y433) h436 n0 (Nat.le_trans Z0 K.1) E_b435 F_b435_bytes F_b435_size g_b435 E_b437 V_b437 g_b437 E_b429 V_b429 g_b429 ne_b435_b437 (Ne.symm ne_b429_b435) (Ne.symm ne_b429_b437)) 0 (by decide) (by decide) rfl pd_8 rfl rfl (Nat.le_of_eq rfl) at_80 rfl (k' := 3) (n' := 126) rfl rfl (by decide) (by decide) ?_
        intro T439 v439 h439 X439 q439
        obtain ⟨rfl, K439, E_b435, F_b435_bytes, F_b435_size, E_b437, V_b437⟩ := q439
        replace K := K.trans K439 (allS (Or.inr sz_b437) (allS (Or.inr sz_b435) all0))
        replace E_b429 := E_b429.keep K439
        replace V_b429 := V_b429.keep K439 (ninS ne_b429_b437 (ninS ne_b429_b435 nin0))
        show own_Go p e below (T439.setTop (mkF m 83 #[.val (.int i0), .val (.long i1), .second, .val (.int i2), .val (.int i3), .val (.int (1 : Int32)), .val (.int (0 : Int32)), .val (.int (0 : Int32)), .val (.ref b429), .val (.ref b435), .unset, .unset, .unset, .unset] [])) _
        refine own_aload (pc' := 85) B X439 at_83 rfl rfl rfl ?_
        refine own_iloadN (pc' := 86) B X439 at_85 rfl rfl ?_
        refine own_callV (pc' := 89) B X439 (own_w hw 12 rfl) (own_w hw 13 rfl) (own_w hw 15 rfl) (own_w hw 14 rfl) (own_w hw 3 rfl) (own_w hw 16 rfl) E_b435 (by decide) [(.int i0)] [] (rm_26 l Z a0 hw [] b435 b437 k438 (y431) (y433) (i0) h439 n0 (Nat.le_trans Z0 K.1) E_b435 F_b435_bytes F_b435_size g_b435 E_b437 V_b437 g_b437 ne_b435_b437) 0 (by decide) (by decide) rfl pd_1 rfl rfl (Nat.le_of_eq rfl) at_86 rfl (k' := 3) (n' := 126) rfl rfl (by decide) (by decide) ?_
        intro T440 v440 h440 X440 q440
        obtain ⟨y441, y442, y443, y444, y445, y446, y447, hy448, hy449, hy450, hy451, hy452, hy453, hy454, rfl, K440, E_b435, F_b435_bytes, F_b435_size, E_b437, V_b437⟩ := q440
        replace K := K.trans K440 (allS (Or.inr sz_b435) (allS (Or.inr sz_b437) all0))
        replace E_b429 := E_b429.keep K440
        replace V_b429 := V_b429.keep K440 (ninS ne_b429_b435 (ninS ne_b429_b437 nin0))
        show own_Go p e below (T440.setTop (mkF m 89 #[.val (.int i0), .val (.long i1), .second, .val (.int i2), .val (.int i3), .val (.int (1 : Int32)), .val (.int (0 : Int32)), .val (.int (0 : Int32)), .val (.ref b429), .val (.ref b435), .unset, .unset, .unset, .unset] [])) _
        refine own_aload (pc' := 91) B X440 at_89 rfl rfl rfl ?_
        refine own_lloadN (pc' := 92) B X440 at_91 rfl rfl ?_
        refine own_callV (pc' := 95) B X440 (own_w hw 23 rfl) (own_w hw 24 rfl) (own_w hw 26 rfl) (own_w hw 25 rfl) (own_w hw 3 rfl) (own_w hw 27 rfl) E_b435 (by decide) [(.long i1)] [] (rm_28 l Z a0 hw [] b435 b437 k438 (y431) (y433) (y441) (y443) (y445) (y447) (i1) h440 n0 (Nat.le_trans Z0 K.1) E_b435 F_b435_bytes F_b435_size g_b435 E_b437 V_b437 g_b437 ne_b435_b437) 0 (by decide) (by decide) rfl pd_2 rfl rfl (Nat.le_of_eq rfl) at_92 rfl (k' := 4) (n' := 254) rfl rfl (by decide) (by decide) ?_
        intro T455 v455 h455 X455 q455
        have lt_b429 := E_b429.lt
        have lt_b435 := E_b435.lt
        have lt_b437 := E_b437.lt
        obtain ⟨y456, y457, y458, y459, y460, y461, y462, y463, y464, y465, y466, y467, y468, y469, y470, y471, y472, y473, y474, y475, y476, y477, y478, b479, k480, hy481, hy482, hy483, hy484, hy485, hy486, hy487, hy488, hy489, hy490, hy491, hy492, hy493, hy494, hy495, hy496, hy497, hy498, hy499, hy500, hy501, hy502, hy503, rfl, K455, z_b479, E_b435, F_b435_bytes, F_b435_size, E_b479, V_b479⟩ := q455
        obtain rfl : y430 = y456 := (hy430 : i1.toInt32 = y430).symm.trans hy481
        obtain rfl : y431 = y457 := (hy431 : y430.toInt8.toInt32 = y431).symm.trans hy482
        have ne_b429_b479 : b429 ≠ b479 := own_ne' lt_b429 z_b479
        have ne_b435_b479 : b435 ≠ b479 := own_ne' lt_b435 z_b479
        have ne_b437_b479 : b437 ≠ b479 := own_ne' lt_b437 z_b479
        have sz_b479 : h0.size ≤ b479 := Nat.le_trans K.1 z_b479
        have g_b479 : n0 ≤ b479 := Nat.le_trans Z0 sz_b479
        replace K := K.trans K455 (allS (Or.inr sz_b435) all0)
        replace E_b429 := E_b429.keep K455
        replace V_b429 := V_b429.keep K455 (ninS ne_b429_b435 nin0)
        replace E_b437 := E_b437.keep K455
        replace V_b437 := V_b437.keep K455 (ninS (Ne.symm ne_b435_b437) nin0)
        show own_Go p e below (T455.setTop (mkF m 95 #[.val (.int i0), .val (.long i1), .second, .val (.int i2), .val (.int i3), .val (.int (1 : Int32)), .val (.int (0 : Int32)), .val (.int (0 : Int32)), .val (.ref b429), .val (.ref b435), .unset, .unset, .unset, .unset] [])) _
        refine own_aload (pc' := 97) B X455 at_95 rfl rfl rfl ?_
        refine own_iloadN (pc' := 98) B X455 at_97 rfl rfl ?_
        refine own_callV (pc' := 101) B X455 (own_w hw 28 rfl) (own_w hw 29 rfl) (own_w hw 31 rfl) (own_w hw 30 rfl) (own_w hw 3 rfl) (own_w hw 32 rfl) E_b435 (by decide) [(.int i2)] [] (rm_33 l Z a0 hw [] b435 b479 k480 (y431) (y433) (y441) (y443) (y445) (y447) (y460) (y463) (y466) (y469) (y472) (y475) (y478) (i2) h455 n0 (Nat.le_trans Z0 K.1) E_b435 F_b435_bytes F_b435_size g_b435 E_b479 V_b479 g_b479 ne_b435_b479) 0 (by decide) (by decide) rfl pd_1 rfl rfl (Nat.le_of_eq rfl) at_98 rfl (k' := 4) (n' := 254) rfl rfl (by decide) (by decide) ?_
        intro T504 v504 h504 X504 q504
        obtain ⟨y505, hy506, rfl, K504, E_b435, F_b435_bytes, F_b435_size, E_b479, V_b479⟩ := q504
        obtain rfl : y433 = y505 := (hy433 : i2.toInt8.toInt32 = y433).symm.trans hy506
        replace K := K.trans K504 (allS (Or.inr sz_b435) (allS (Or.inr sz_b479) all0))
        replace E_b429 := E_b429.keep K504
        replace V_b429 := V_b429.keep K504 (ninS ne_b429_b435 (ninS ne_b429_b479 nin0))
        replace E_b437 := E_b437.keep K504
        replace V_b437 := V_b437.keep K504 (ninS (Ne.symm ne_b435_b437) (ninS ne_b437_b479 nin0))
        show own_Go p e below (T504.setTop (mkF m 101 #[.val (.int i0), .val (.long i1), .second, .val (.int i2), .val (.int i3), .val (.int (1 : Int32)), .val (.int (0 : Int32)), .val (.int (0 : Int32)), .val (.ref b429), .val (.ref b435), .unset, .unset, .unset, .unset] [])) _
        refine own_iload (pc' := 103) B X504 at_101 rfl rfl ?_
        refine own_ifYes (pc' := 122) B X504 at_103 ((if0 _ _).trans (teq (by decide : (0 : Int32) = (0 : Int32))).1) (by decide) rfl ?_
        refine own_aload (pc' := 124) B X504 at_122 rfl rfl rfl ?_
        refine own_callV (pc' := 127) B X504 (own_w hw 33 rfl) (own_w hw 34 rfl) (own_w hw 36 rfl) (own_w hw 35 rfl) (own_w hw 3 rfl) (own_w hw 37 rfl) E_b435 (by decide) [] [] (rm_35 l Z a0 hw [] b435 b479 k480 (y431) (y433) (y441) (y443) (y445) (y447) (y460) (y463) (y466) (y469) (y472) (y475) (y478) h504 n0 (Nat.le_trans Z0 K.1) E_b435 F_b435_bytes F_b435_size g_b435 E_b479 V_b479 g_b479 ne_b435_b479) 0 (by decide) (by decide) rfl pd_5 rfl rfl (Nat.le_of_eq rfl) at_124 rfl (k' := 5) (n' := 327) rfl rfl (by decide) (by decide) ?_
        intro T507 v507 h507 X507 q507
        have lt_b429 := E_b429.lt
        have lt_b435 := E_b435.lt
        have lt_b437 := E_b437.lt
        have lt_b479 := E_b479.lt
        obtain ⟨b508, k509, rfl, K507, z_b508, E_b508, V_b508⟩ := q507
        have ne_b429_b508 : b429 ≠ b508 := own_ne' lt_b429 z_b508
        have ne_b435_b508 : b435 ≠ b508 := own_ne' lt_b435 z_b508
        have ne_b437_b508 : b437 ≠ b508 := own_ne' lt_b437 z_b508
        have ne_b479_b508 : b479 ≠ b508 := own_ne' lt_b479 z_b508
        have sz_b508 : h0.size ≤ b508 := Nat.le_trans K.1 z_b508
        have g_b508 : n0 ≤ b508 := Nat.le_trans Z0 sz_b508
        replace K := K.trans K507 all0
        replace E_b429 := E_b429.keep K507
        replace V_b429 := V_b429.keep K507 nin0
        replace E_b435 := E_b435.keep K507
        replace F_b435_bytes := F_b435_bytes.keep K507 nin0
        replace F_b435_size := F_b435_size.keep K507 nin0
        replace E_b437 := E_b437.keep K507
        replace V_b437 := V_b437.keep K507 nin0
        replace E_b479 := E_b479.keep K507
        replace V_b479 := V_b479.keep K507 nin0
        show own_Go p e below (T507.setTop (mkF m 127 #[.val (.int i0), .val (.long i1), .second, .val (.int i2), .val (.int i3), .val (.int (1 : Int32)), .val (.int (0 : Int32)), .val (.int (0 : Int32)), .val (.ref b429), .val (.ref b435), .unset, .unset, .unset, .unset] [(.ref b508)])) _
        refine own_astore (pc' := 129) B X507 (Ls' := #[.val (.int i0), .val (.long i1), .second, .val (.int i2), .val (.int i3), .val (.int (1 : Int32)), .val (.int (0 : Int32)), .val (.int (0 : Int32)), .val (.ref b429), .val (.ref b435), .val (.ref b508), .unset, .unset, .unset]) at_127 rfl rfl rfl ?_
        refine own_iload (pc' := 131) B X507 at_129 rfl rfl ?_
        refine own_ifYes (pc' := 181) B X507 at_131 ((if0 _ _).trans (teq (by decide : (0 : Int32) = (0 : Int32))).1) (by decide) rfl ?_
        refine own_iload (pc' := 183) B X507 at_181 rfl rfl ?_
        refine own_ifNo (pc' := 186) B X507 at_183 ((if0 _ _).trans (feq (by decide : ¬ ((1 : Int32) = (0 : Int32)))).1) rfl ?_
        refine own_bipush (pc' := 188) B X507 (z := (60 : Int32)) at_186 rfl (by decide) ?_
        refine own_goto (pc' := 192) B X507 at_188 (by decide) rfl ?_
        refine own_istore (pc' := 194) B X507 (Ls' := #[.val (.int i0), .val (.long i1), .second, .val (.int i2), .val (.int i3), .val (.int (1 : Int32)), .val (.int (0 : Int32)), .val (.int (0 : Int32)), .val (.ref b429), .val (.ref b435), .val (.ref b508), .unset, .val (.int (60 : Int32)), .unset]) at_192 rfl rfl ?_
        refine own_aload (pc' := 196) B X507 at_194 rfl rfl rfl ?_
        refine own_arraylength (pc' := 197) B X507 V_b508 at_196 rfl ?_
        refine own_iload (pc' := 199) B X507 at_197 rfl rfl ?_
        refine own_bipush (pc' := 201) B X507 (z := (13 : Int32)) at_199 rfl (by decide) ?_
        refine own_iadd (pc' := 202) B X507 (z := (73 : Int32)) at_201 rfl (by decide) ?_
        refine own_icmpNo (pc' := 205) B X507 at_202 (teq (by decide : (73 : Int32) = (73 : Int32))).2 rfl ?_
        refine own_aload (pc' := 207) B X507 at_205 rfl rfl rfl ?_
        refine own_iload (pc' := 209) B X507 at_207 rfl rfl ?_
        refine own_baload (pc' := 210) B X507 V_b508 (v := (.int y441)) ⟨by decide, by decide⟩ rfl at_209 rfl ?_
        refine own_iloadN (pc' := 211) B X507 at_210 rfl rfl ?_
        refine own_i2b (pc' := 212) B X507 at_211 rfl hy448 ?_
        refine own_icmpNo (pc' := 215) B X507 at_212 (teq rfl).2 rfl ?_
        refine own_aload (pc' := 217) B X507 at_215 rfl rfl rfl ?_
        refine own_iload (pc' := 219) B X507 at_217 rfl rfl ?_
        refine own_iconst (pc' := 220) B X507 (z := (1 : Int32)) at_219 rfl rfl ?_
        refine own_iadd (pc' := 221) B X507 (z := (61 : Int32)) at_220 rfl (by decide) ?_
        refine own_baload (pc' := 222) B X507 V_b508 (v := (.int y443)) ⟨by decide, by decide⟩ rfl at_221 rfl ?_
        refine own_iloadN (pc' := 223) B X507 at_222 rfl rfl ?_
        refine own_bipush (pc' := 225) B X507 (z := (8 : Int32)) at_223 rfl (by decide) ?_
        obtain ⟨y510, hy510⟩ : ∃ z : Int32, i0 >>> ((8 : Int32) &&& 31) = z := ⟨_, rfl⟩
        refine own_ishr (pc' := 226) B X507 at_225 rfl hy510 ?_
        obtain ⟨y511, hy511⟩ : ∃ z : Int32, y510.toInt8.toInt32 = z := ⟨_, rfl⟩
        refine own_i2b (pc' := 227) B X507 at_226 rfl hy511 ?_
        have c512 : y443 = y511 := by
          have o0 := own_o_iushr hy449 8 (by decide) (by decide)
          have o1 := own_o_i2b hy450
          have o2 := own_o_ishr hy510 8 (by decide)
          have o3 := own_o_i2b hy511
          have o4 := rng32 i0
          have o5 := rng32 y442
          have o6 := rng32 y443
          have o7 := rng32 y510
          have o8 := rng32 y511
          have o9 : (8 : Int32).toInt = 8 := by decide
          refine own_eqI ?_
          omega
        refine own_icmpNo (pc' := 230) B X507 at_227 (teq c512).2 rfl ?_
        refine own_aload (pc' := 232) B X507 at_230 rfl rfl rfl ?_
        refine own_iload (pc' := 234) B X507 at_232 rfl rfl ?_
        refine own_iconst (pc' := 235) B X507 (z := (2 : Int32)) at_234 rfl rfl ?_
        refine own_iadd (pc' := 236) B X507 (z := (62 : Int32)) at_235 rfl (by decide) ?_
        refine own_baload (pc' := 237) B X507 V_b508 (v := (.int y445)) ⟨by decide, by decide⟩ rfl at_236 rfl ?_
        refine own_iloadN (pc' := 238) B X507 at_237 rfl rfl ?_
        refine own_bipush (pc' := 240) B X507 (z := (16 : Int32)) at_238 rfl (by decide) ?_
        obtain ⟨y513, hy513⟩ : ∃ z : Int32, i0 >>> ((16 : Int32) &&& 31) = z := ⟨_, rfl⟩
        refine own_ishr (pc' := 241) B X507 at_240 rfl hy513 ?_
        obtain ⟨y514, hy514⟩ : ∃ z : Int32, y513.toInt8.toInt32 = z := ⟨_, rfl⟩
        refine own_i2b (pc' := 242) B X507 at_241 rfl hy514 ?_
        have c515 : y445 = y514 := by
          have o0 := own_o_iushr hy449 8 (by decide) (by decide)
          have o1 := own_o_i2b hy450
          have o2 := own_o_iushr hy451 16 (by decide) (by decide)
          have o3 := own_o_i2b hy452
          have o4 := own_o_ishr hy510 8 (by decide)
          have o5 := own_o_i2b hy511
          have o6 := own_o_ishr hy513 16 (by decide)
          have o7 := own_o_i2b hy514
          have o8 := own_eq c512
          have o9 := rng32 i0
          have o10 := rng32 y442
          have o11 := rng32 y443
          have o12 := rng32 y444
          have o13 := rng32 y445
          have o14 := rng32 y510
          have o15 := rng32 y511
          have o16 := rng32 y513
          have o17 := rng32 y514
          have o18 : (8 : Int32).toInt = 8 := by decide
          have o19 : (16 : Int32).toInt = 16 := by decide
          refine own_eqI ?_
          omega
        refine own_icmpNo (pc' := 245) B X507 at_242 (teq c515).2 rfl ?_
        refine own_aload (pc' := 247) B X507 at_245 rfl rfl rfl ?_
        refine own_iload (pc' := 249) B X507 at_247 rfl rfl ?_
        refine own_iconst (pc' := 250) B X507 (z := (3 : Int32)) at_249 rfl rfl ?_
        refine own_iadd (pc' := 251) B X507 (z := (63 : Int32)) at_250 rfl (by decide) ?_
        refine own_baload (pc' := 252) B X507 V_b508 (v := (.int y447)) ⟨by decide, by decide⟩ rfl at_251 rfl ?_
        refine own_iloadN (pc' := 253) B X507 at_252 rfl rfl ?_
        refine own_bipush (pc' := 255) B X507 (z := (24 : Int32)) at_253 rfl (by decide) ?_
        obtain ⟨y516, hy516⟩ : ∃ z : Int32, i0 >>> ((24 : Int32) &&& 31) = z := ⟨_, rfl⟩
        refine own_ishr (pc' := 256) B X507 at_255 rfl hy516 ?_
        obtain ⟨y517, hy517⟩ : ∃ z : Int32, y516.toInt8.toInt32 = z := ⟨_, rfl⟩
        refine own_i2b (pc' := 257) B X507 at_256 rfl hy517 ?_
        have c518 : y447 = y517 := by
          have o0 := own_o_iushr hy449 8 (by decide) (by decide)
          have o1 := own_o_i2b hy450
          have o2 := own_o_iushr hy451 16 (by decide) (by decide)
          have o3 := own_o_i2b hy452
          have o4 := own_o_iushr hy453 24 (by decide) (by decide)
          have o5 := own_o_i2b hy454
          have o6 := own_o_ishr hy510 8 (by decide)
          have o7 := own_o_i2b hy511
          have o8 := own_o_ishr hy513 16 (by decide)
          have o9 := own_o_i2b hy514
          have o10 := own_o_ishr hy516 24 (by decide)
          have o11 := own_o_i2b hy517
          have o12 := own_eq c512
          have o13 := own_eq c515
          have o14 := rng32 i0
          have o15 := rng32 y442
          have o16 := rng32 y443
          have o17 := rng32 y444
          have o18 := rng32 y445
          have o19 := rng32 y446
          have o20 := rng32 y447
          have o21 := rng32 y510
          have o22 := rng32 y511
          have o23 := rng32 y513
          have o24 := rng32 y514
          have o25 := rng32 y516
          have o26 := rng32 y517
          have o27 : (8 : Int32).toInt = 8 := by decide
          have o28 : (16 : Int32).toInt = 16 := by decide
          have o29 : (24 : Int32).toInt = 24 := by decide
          refine own_eqI ?_
          omega
        refine own_icmpNo (pc' := 260) B X507 at_257 (teq c518).2 rfl ?_
        refine own_aload (pc' := 262) B X507 at_260 rfl rfl rfl ?_
        refine own_iload (pc' := 264) B X507 at_262 rfl rfl ?_
        refine own_iconst (pc' := 265) B X507 (z := (4 : Int32)) at_264 rfl rfl ?_
        refine own_iadd (pc' := 266) B X507 (z := (64 : Int32)) at_265 rfl (by decide) ?_
        refine own_baload (pc' := 267) B X507 V_b508 (v := (.int y431)) ⟨by decide, by decide⟩ rfl at_266 rfl ?_
        refine own_lloadN (pc' := 268) B X507 at_267 rfl rfl ?_
        refine own_l2i (pc' := 269) B X507 at_268 rfl hy430 ?_
        refine own_i2b (pc' := 270) B X507 at_269 rfl hy431 ?_
        refine own_icmpNo (pc' := 273) B X507 at_270 (teq rfl).2 rfl ?_
        refine own_aload (pc' := 275) B X507 at_273 rfl rfl rfl ?_
        refine own_iload (pc' := 277) B X507 at_275 rfl rfl ?_
        refine own_iconst (pc' := 278) B X507 (z := (5 : Int32)) at_277 rfl rfl ?_
        refine own_iadd (pc' := 279) B X507 (z := (65 : Int32)) at_278 rfl (by decide) ?_
        refine own_baload (pc' := 280) B X507 V_b508 (v := (.int y460)) ⟨by decide, by decide⟩ rfl at_279 rfl ?_
        refine own_lloadN (pc' := 281) B X507 at_280 rfl rfl ?_
        refine own_bipush (pc' := 283) B X507 (z := (8 : Int32)) at_281 rfl (by decide) ?_
        obtain ⟨y519, hy519⟩ : ∃ z : Int64, i1 >>> ((8 : Int32) &&& 0x3f).toInt64 = z := ⟨_, rfl⟩
        refine own_lshr (pc' := 284) B X507 at_283 rfl hy519 ?_
        obtain ⟨y520, hy520⟩ : ∃ z : Int32, y519.toInt32 = z := ⟨_, rfl⟩
        refine own_l2i (pc' := 285) B X507 at_284 rfl hy520 ?_
        obtain ⟨y521, hy521⟩ : ∃ z : Int32, y520.toInt8.toInt32 = z := ⟨_, rfl⟩
        refine own_i2b (pc' := 286) B X507 at_285 rfl hy521 ?_
        have c522 : y460 = y521 := by
          have o0 := own_o_lushr hy483 8 (by decide) (by decide)
          have o1 := own_o_l2i hy484
          have o2 := own_o_i2b hy485
          have o3 := own_o_lshr hy519 8 (by decide)
          have o4 := own_o_l2i hy520
          have o5 := own_o_i2b hy521
          have o6 := rng32 y459
          have o7 := rng32 y460
          have o8 := rng32 y520
          have o9 := rng32 y521
          have o10 := rng64 i1
          have o11 := rng64 y458
          have o12 := rng64 y519
          have o13 : (8 : Int32).toInt = 8 := by decide
          refine own_eqI ?_
          omega
        refine own_icmpNo (pc' := 289) B X507 at_286 (teq c522).2 rfl ?_
        refine own_aload (pc' := 291) B X507 at_289 rfl rfl rfl ?_
        refine own_iload (pc' := 293) B X507 at_291 rfl rfl ?_
        refine own_bipush (pc' := 295) B X507 (z := (6 : Int32)) at_293 rfl (by decide) ?_
        refine own_iadd (pc' := 296) B X507 (z := (66 : Int32)) at_295 rfl (by decide) ?_
        refine own_baload (pc' := 297) B X507 V_b508 (v := (.int y463)) ⟨by decide, by decide⟩ rfl at_296 rfl ?_
        refine own_lloadN (pc' := 298) B X507 at_297 rfl rfl ?_
        refine own_bipush (pc' := 300) B X507 (z := (16 : Int32)) at_298 rfl (by decide) ?_
        obtain ⟨y523, hy523⟩ : ∃ z : Int64, i1 >>> ((16 : Int32) &&& 0x3f).toInt64 = z := ⟨_, rfl⟩
        refine own_lshr (pc' := 301) B X507 at_300 rfl hy523 ?_
        obtain ⟨y524, hy524⟩ : ∃ z : Int32, y523.toInt32 = z := ⟨_, rfl⟩
        refine own_l2i (pc' := 302) B X507 at_301 rfl hy524 ?_
        obtain ⟨y525, hy525⟩ : ∃ z : Int32, y524.toInt8.toInt32 = z := ⟨_, rfl⟩
        refine own_i2b (pc' := 303) B X507 at_302 rfl hy525 ?_
        have c526 : y463 = y525 := by
          have o0 := own_o_lushr hy483 8 (by decide) (by decide)
          have o1 := own_o_l2i hy484
          have o2 := own_o_i2b hy485
          have o3 := own_o_lushr hy486 16 (by decide) (by decide)
          have o4 := own_o_l2i hy487
          have o5 := own_o_i2b hy488
          have o6 := own_o_lshr hy519 8 (by decide)
          have o7 := own_o_l2i hy520
          have o8 := own_o_i2b hy521
          have o9 := own_o_lshr hy523 16 (by decide)
          have o10 := own_o_l2i hy524
          have o11 := own_o_i2b hy525
          have o12 := own_eq c522
          have o13 := rng32 y459
          have o14 := rng32 y460
          have o15 := rng32 y462
          have o16 := rng32 y463
          have o17 := rng32 y520
          have o18 := rng32 y521
          have o19 := rng32 y524
          have o20 := rng32 y525
          have o21 := rng64 i1
          have o22 := rng64 y458
          have o23 := rng64 y461
          have o24 := rng64 y519
          have o25 := rng64 y523
          have o26 : (8 : Int32).toInt = 8 := by decide
          have o27 : (16 : Int32).toInt = 16 := by decide
          refine own_eqI ?_
          omega
        refine own_icmpNo (pc' := 306) B X507 at_303 (teq c526).2 rfl ?_
        refine own_aload (pc' := 308) B X507 at_306 rfl rfl rfl ?_
        refine own_iload (pc' := 310) B X507 at_308 rfl rfl ?_
        refine own_bipush (pc' := 312) B X507 (z := (7 : Int32)) at_310 rfl (by decide) ?_
        refine own_iadd (pc' := 313) B X507 (z := (67 : Int32)) at_312 rfl (by decide) ?_
        refine own_baload (pc' := 314) B X507 V_b508 (v := (.int y466)) ⟨by decide, by decide⟩ rfl at_313 rfl ?_
        refine own_lloadN (pc' := 315) B X507 at_314 rfl rfl ?_
        refine own_bipush (pc' := 317) B X507 (z := (24 : Int32)) at_315 rfl (by decide) ?_
        obtain ⟨y527, hy527⟩ : ∃ z : Int64, i1 >>> ((24 : Int32) &&& 0x3f).toInt64 = z := ⟨_, rfl⟩
        refine own_lshr (pc' := 318) B X507 at_317 rfl hy527 ?_
        obtain ⟨y528, hy528⟩ : ∃ z : Int32, y527.toInt32 = z := ⟨_, rfl⟩
        refine own_l2i (pc' := 319) B X507 at_318 rfl hy528 ?_
        obtain ⟨y529, hy529⟩ : ∃ z : Int32, y528.toInt8.toInt32 = z := ⟨_, rfl⟩
        refine own_i2b (pc' := 320) B X507 at_319 rfl hy529 ?_
        have c530 : y466 = y529 := by
          have o0 := own_o_lushr hy483 8 (by decide) (by decide)
          have o1 := own_o_l2i hy484
          have o2 := own_o_i2b hy485
          have o3 := own_o_lushr hy486 16 (by decide) (by decide)
          have o4 := own_o_l2i hy487
          have o5 := own_o_i2b hy488
          have o6 := own_o_lushr hy489 24 (by decide) (by decide)
          have o7 := own_o_l2i hy490
          have o8 := own_o_i2b hy491
          have o9 := own_o_lshr hy519 8 (by decide)
          have o10 := own_o_l2i hy520
          have o11 := own_o_i2b hy521
          have o12 := own_o_lshr hy523 16 (by decide)
          have o13 := own_o_l2i hy524
          have o14 := own_o_i2b hy525
          have o15 := own_o_lshr hy527 24 (by decide)
          have o16 := own_o_l2i hy528
          have o17 := own_o_i2b hy529
          have o18 := own_eq c522
          have o19 := own_eq c526
          have o20 := rng32 y459
          have o21 := rng32 y460
          have o22 := rng32 y462
          have o23 := rng32 y463
          have o24 := rng32 y465
          have o25 := rng32 y466
          have o26 := rng32 y520
          have o27 := rng32 y521
          have o28 := rng32 y524
          have o29 := rng32 y525
          have o30 := rng32 y528
          have o31 := rng32 y529
          have o32 := rng64 i1
          have o33 := rng64 y458
          have o34 := rng64 y461
          have o35 := rng64 y464
          have o36 := rng64 y519
          have o37 := rng64 y523
          have o38 := rng64 y527
          have o39 : (8 : Int32).toInt = 8 := by decide
          have o40 : (16 : Int32).toInt = 16 := by decide
          have o41 : (24 : Int32).toInt = 24 := by decide
          refine own_eqI ?_
          omega
        refine own_icmpNo (pc' := 323) B X507 at_320 (teq c530).2 rfl ?_
        refine own_aload (pc' := 325) B X507 at_323 rfl rfl rfl ?_
        refine own_iload (pc' := 327) B X507 at_325 rfl rfl ?_
        refine own_bipush (pc' := 329) B X507 (z := (8 : Int32)) at_327 rfl (by decide) ?_
        refine own_iadd (pc' := 330) B X507 (z := (68 : Int32)) at_329 rfl (by decide) ?_
        refine own_baload (pc' := 331) B X507 V_b508 (v := (.int y469)) ⟨by decide, by decide⟩ rfl at_330 rfl ?_
        refine own_lloadN (pc' := 332) B X507 at_331 rfl rfl ?_
        refine own_bipush (pc' := 334) B X507 (z := (32 : Int32)) at_332 rfl (by decide) ?_
        obtain ⟨y531, hy531⟩ : ∃ z : Int64, i1 >>> ((32 : Int32) &&& 0x3f).toInt64 = z := ⟨_, rfl⟩
        refine own_lshr (pc' := 335) B X507 at_334 rfl hy531 ?_
        obtain ⟨y532, hy532⟩ : ∃ z : Int32, y531.toInt32 = z := ⟨_, rfl⟩
        refine own_l2i (pc' := 336) B X507 at_335 rfl hy532 ?_
        obtain ⟨y533, hy533⟩ : ∃ z : Int32, y532.toInt8.toInt32 = z := ⟨_, rfl⟩
        refine own_i2b (pc' := 337) B X507 at_336 rfl hy533 ?_
        have c534 : y469 = y533 := by
          have o0 := own_o_lushr hy483 8 (by decide) (by decide)
          have o1 := own_o_l2i hy484
          have o2 := own_o_i2b hy485
          have o3 := own_o_lushr hy486 16 (by decide) (by decide)
          have o4 := own_o_l2i hy487
          have o5 := own_o_i2b hy488
          have o6 := own_o_lushr hy489 24 (by decide) (by decide)
          have o7 := own_o_l2i hy490
          have o8 := own_o_i2b hy491
          have o9 := own_o_lushr hy492 32 (by decide) (by decide)
          have o10 := own_o_l2i hy493
          have o11 := own_o_i2b hy494
          have o12 := own_o_lshr hy519 8 (by decide)
          have o13 := own_o_l2i hy520
          have o14 := own_o_i2b hy521
          have o15 := own_o_lshr hy523 16 (by decide)
          have o16 := own_o_l2i hy524
          have o17 := own_o_i2b hy525
          have o18 := own_o_lshr hy527 24 (by decide)
          have o19 := own_o_l2i hy528
          have o20 := own_o_i2b hy529
          have o21 := own_o_lshr hy531 32 (by decide)
          have o22 := own_o_l2i hy532
          have o23 := own_o_i2b hy533
          have o24 := own_eq c522
          have o25 := own_eq c526
          have o26 := own_eq c530
          have o27 := rng32 y459
          have o28 := rng32 y460
          have o29 := rng32 y462
          have o30 := rng32 y463
          have o31 := rng32 y465
          have o32 := rng32 y466
          have o33 := rng32 y468
          have o34 := rng32 y469
          have o35 := rng32 y520
          have o36 := rng32 y521
          have o37 := rng32 y524
          have o38 := rng32 y525
          have o39 := rng32 y528
          have o40 := rng32 y529
          have o41 := rng32 y532
          have o42 := rng32 y533
          have o43 := rng64 i1
          have o44 := rng64 y458
          have o45 := rng64 y461
          have o46 := rng64 y464
          have o47 := rng64 y467
          have o48 := rng64 y519
          have o49 := rng64 y523
          have o50 := rng64 y527
          have o51 := rng64 y531
          have o52 : (8 : Int32).toInt = 8 := by decide
          have o53 : (16 : Int32).toInt = 16 := by decide
          have o54 : (24 : Int32).toInt = 24 := by decide
          have o55 : (32 : Int32).toInt = 32 := by decide
          refine own_eqI ?_
          omega
        refine own_icmpNo (pc' := 340) B X507 at_337 (teq c534).2 rfl ?_
        refine own_aload (pc' := 342) B X507 at_340 rfl rfl rfl ?_
        refine own_iload (pc' := 344) B X507 at_342 rfl rfl ?_
        refine own_bipush (pc' := 346) B X507 (z := (9 : Int32)) at_344 rfl (by decide) ?_
        refine own_iadd (pc' := 347) B X507 (z := (69 : Int32)) at_346 rfl (by decide) ?_
        refine own_baload (pc' := 348) B X507 V_b508 (v := (.int y472)) ⟨by decide, by decide⟩ rfl at_347 rfl ?_
        refine own_lloadN (pc' := 349) B X507 at_348 rfl rfl ?_
        refine own_bipush (pc' := 351) B X507 (z := (40 : Int32)) at_349 rfl (by decide) ?_
        obtain ⟨y535, hy535⟩ : ∃ z : Int64, i1 >>> ((40 : Int32) &&& 0x3f).toInt64 = z := ⟨_, rfl⟩
        refine own_lshr (pc' := 352) B X507 at_351 rfl hy535 ?_
        obtain ⟨y536, hy536⟩ : ∃ z : Int32, y535.toInt32 = z := ⟨_, rfl⟩
        refine own_l2i (pc' := 353) B X507 at_352 rfl hy536 ?_
        obtain ⟨y537, hy537⟩ : ∃ z : Int32, y536.toInt8.toInt32 = z := ⟨_, rfl⟩
        refine own_i2b (pc' := 354) B X507 at_353 rfl hy537 ?_
        have c538 : y472 = y537 := by
          have o0 := own_o_lushr hy483 8 (by decide) (by decide)
          have o1 := own_o_l2i hy484
          have o2 := own_o_i2b hy485
          have o3 := own_o_lushr hy486 16 (by decide) (by decide)
          have o4 := own_o_l2i hy487
          have o5 := own_o_i2b hy488
          have o6 := own_o_lushr hy489 24 (by decide) (by decide)
          have o7 := own_o_l2i hy490
          have o8 := own_o_i2b hy491
          have o9 := own_o_lushr hy492 32 (by decide) (by decide)
          have o10 := own_o_l2i hy493
          have o11 := own_o_i2b hy494
          have o12 := own_o_lushr hy495 40 (by decide) (by decide)
          have o13 := own_o_l2i hy496
          have o14 := own_o_i2b hy497
          have o15 := own_o_lshr hy519 8 (by decide)
          have o16 := own_o_l2i hy520
          have o17 := own_o_i2b hy521
          have o18 := own_o_lshr hy523 16 (by decide)
          have o19 := own_o_l2i hy524
          have o20 := own_o_i2b hy525
          have o21 := own_o_lshr hy527 24 (by decide)
          have o22 := own_o_l2i hy528
          have o23 := own_o_i2b hy529
          have o24 := own_o_lshr hy531 32 (by decide)
          have o25 := own_o_l2i hy532
          have o26 := own_o_i2b hy533
          have o27 := own_o_lshr hy535 40 (by decide)
          have o28 := own_o_l2i hy536
          have o29 := own_o_i2b hy537
          have o30 := own_eq c522
          have o31 := own_eq c526
          have o32 := own_eq c530
          have o33 := own_eq c534
          have o34 := rng32 y459
          have o35 := rng32 y460
          have o36 := rng32 y462
          have o37 := rng32 y463
          have o38 := rng32 y465
          have o39 := rng32 y466
          have o40 := rng32 y468
          have o41 := rng32 y469
          have o42 := rng32 y471
          have o43 := rng32 y472
          have o44 := rng32 y520
          have o45 := rng32 y521
          have o46 := rng32 y524
          have o47 := rng32 y525
          have o48 := rng32 y528
          have o49 := rng32 y529
          have o50 := rng32 y532
          have o51 := rng32 y533
          have o52 := rng32 y536
          have o53 := rng32 y537
          have o54 := rng64 i1
          have o55 := rng64 y458
          have o56 := rng64 y461
          have o57 := rng64 y464
          have o58 := rng64 y467
          have o59 := rng64 y470
          have o60 := rng64 y519
          have o61 := rng64 y523
          have o62 := rng64 y527
          have o63 := rng64 y531
          have o64 := rng64 y535
          have o65 : (8 : Int32).toInt = 8 := by decide
          have o66 : (16 : Int32).toInt = 16 := by decide
          have o67 : (24 : Int32).toInt = 24 := by decide
          have o68 : (32 : Int32).toInt = 32 := by decide
          have o69 : (40 : Int32).toInt = 40 := by decide
          refine own_eqI ?_
          omega
        refine own_icmpNo (pc' := 357) B X507 at_354 (teq c538).2 rfl ?_
        refine own_aload (pc' := 359) B X507 at_357 rfl rfl rfl ?_
        refine own_iload (pc' := 361) B X507 at_359 rfl rfl ?_
        refine own_bipush (pc' := 363) B X507 (z := (10 : Int32)) at_361 rfl (by decide) ?_
        refine own_iadd (pc' := 364) B X507 (z := (70 : Int32)) at_363 rfl (by decide) ?_
        refine own_baload (pc' := 365) B X507 V_b508 (v := (.int y475)) ⟨by decide, by decide⟩ rfl at_364 rfl ?_
        refine own_lloadN (pc' := 366) B X507 at_365 rfl rfl ?_
        refine own_bipush (pc' := 368) B X507 (z := (48 : Int32)) at_366 rfl (by decide) ?_
        obtain ⟨y539, hy539⟩ : ∃ z : Int64, i1 >>> ((48 : Int32) &&& 0x3f).toInt64 = z := ⟨_, rfl⟩
        refine own_lshr (pc' := 369) B X507 at_368 rfl hy539 ?_
        obtain ⟨y540, hy540⟩ : ∃ z : Int32, y539.toInt32 = z := ⟨_, rfl⟩
        refine own_l2i (pc' := 370) B X507 at_369 rfl hy540 ?_
        obtain ⟨y541, hy541⟩ : ∃ z : Int32, y540.toInt8.toInt32 = z := ⟨_, rfl⟩
        refine own_i2b (pc' := 371) B X507 at_370 rfl hy541 ?_
        have c542 : y475 = y541 := by
          have o0 := own_o_lushr hy483 8 (by decide) (by decide)
          have o1 := own_o_l2i hy484
          have o2 := own_o_i2b hy485
          have o3 := own_o_lushr hy486 16 (by decide) (by decide)
          have o4 := own_o_l2i hy487
          have o5 := own_o_i2b hy488
          have o6 := own_o_lushr hy489 24 (by decide) (by decide)
          have o7 := own_o_l2i hy490
          have o8 := own_o_i2b hy491
          have o9 := own_o_lushr hy492 32 (by decide) (by decide)
          have o10 := own_o_l2i hy493
          have o11 := own_o_i2b hy494
          have o12 := own_o_lushr hy495 40 (by decide) (by decide)
          have o13 := own_o_l2i hy496
          have o14 := own_o_i2b hy497
          have o15 := own_o_lushr hy498 48 (by decide) (by decide)
          have o16 := own_o_l2i hy499
          have o17 := own_o_i2b hy500
          have o18 := own_o_lshr hy519 8 (by decide)
          have o19 := own_o_l2i hy520
          have o20 := own_o_i2b hy521
          have o21 := own_o_lshr hy523 16 (by decide)
          have o22 := own_o_l2i hy524
          have o23 := own_o_i2b hy525
          have o24 := own_o_lshr hy527 24 (by decide)
          have o25 := own_o_l2i hy528
          have o26 := own_o_i2b hy529
          have o27 := own_o_lshr hy531 32 (by decide)
          have o28 := own_o_l2i hy532
          have o29 := own_o_i2b hy533
          have o30 := own_o_lshr hy535 40 (by decide)
          have o31 := own_o_l2i hy536
          have o32 := own_o_i2b hy537
          have o33 := own_o_lshr hy539 48 (by decide)
          have o34 := own_o_l2i hy540
          have o35 := own_o_i2b hy541
          have o36 := own_eq c522
          have o37 := own_eq c526
          have o38 := own_eq c530
          have o39 := own_eq c534
          have o40 := own_eq c538
          have o41 := rng32 y459
          have o42 := rng32 y460
          have o43 := rng32 y462
          have o44 := rng32 y463
          have o45 := rng32 y465
          have o46 := rng32 y466
          have o47 := rng32 y468
          have o48 := rng32 y469
          have o49 := rng32 y471
          have o50 := rng32 y472
          have o51 := rng32 y474
          have o52 := rng32 y475
          have o53 := rng32 y520
          have o54 := rng32 y521
          have o55 := rng32 y524
          have o56 := rng32 y525
          have o57 := rng32 y528
          have o58 := rng32 y529
          have o59 := rng32 y532
          have o60 := rng32 y533
          have o61 := rng32 y536
          have o62 := rng32 y537
          have o63 := rng32 y540
          have o64 := rng32 y541
          have o65 := rng64 i1
          have o66 := rng64 y458
          have o67 := rng64 y461
          have o68 := rng64 y464
          have o69 := rng64 y467
          have o70 := rng64 y470
          have o71 := rng64 y473
          have o72 := rng64 y519
          have o73 := rng64 y523
          have o74 := rng64 y527
          have o75 := rng64 y531
          have o76 := rng64 y535
          have o77 := rng64 y539
          have o78 : (8 : Int32).toInt = 8 := by decide
          have o79 : (16 : Int32).toInt = 16 := by decide
          have o80 : (24 : Int32).toInt = 24 := by decide
          have o81 : (32 : Int32).toInt = 32 := by decide
          have o82 : (40 : Int32).toInt = 40 := by decide
          have o83 : (48 : Int32).toInt = 48 := by decide
          refine own_eqI ?_
          omega
        refine own_icmpNo (pc' := 374) B X507 at_371 (teq c542).2 rfl ?_
        refine own_aload (pc' := 376) B X507 at_374 rfl rfl rfl ?_
        refine own_iload (pc' := 378) B X507 at_376 rfl rfl ?_
        refine own_bipush (pc' := 380) B X507 (z := (11 : Int32)) at_378 rfl (by decide) ?_
        refine own_iadd (pc' := 381) B X507 (z := (71 : Int32)) at_380 rfl (by decide) ?_
        refine own_baload (pc' := 382) B X507 V_b508 (v := (.int y478)) ⟨by decide, by decide⟩ rfl at_381 rfl ?_
        refine own_lloadN (pc' := 383) B X507 at_382 rfl rfl ?_
        refine own_bipush (pc' := 385) B X507 (z := (56 : Int32)) at_383 rfl (by decide) ?_
        obtain ⟨y543, hy543⟩ : ∃ z : Int64, i1 >>> ((56 : Int32) &&& 0x3f).toInt64 = z := ⟨_, rfl⟩
        refine own_lshr (pc' := 386) B X507 at_385 rfl hy543 ?_
        obtain ⟨y544, hy544⟩ : ∃ z : Int32, y543.toInt32 = z := ⟨_, rfl⟩
        refine own_l2i (pc' := 387) B X507 at_386 rfl hy544 ?_
        obtain ⟨y545, hy545⟩ : ∃ z : Int32, y544.toInt8.toInt32 = z := ⟨_, rfl⟩
        refine own_i2b (pc' := 388) B X507 at_387 rfl hy545 ?_
        have c546 : y478 = y545 := by
          have o0 := own_o_lushr hy483 8 (by decide) (by decide)
          have o1 := own_o_l2i hy484
          have o2 := own_o_i2b hy485
          have o3 := own_o_lushr hy486 16 (by decide) (by decide)
          have o4 := own_o_l2i hy487
          have o5 := own_o_i2b hy488
          have o6 := own_o_lushr hy489 24 (by decide) (by decide)
          have o7 := own_o_l2i hy490
          have o8 := own_o_i2b hy491
          have o9 := own_o_lushr hy492 32 (by decide) (by decide)
          have o10 := own_o_l2i hy493
          have o11 := own_o_i2b hy494
          have o12 := own_o_lushr hy495 40 (by decide) (by decide)
          have o13 := own_o_l2i hy496
          have o14 := own_o_i2b hy497
          have o15 := own_o_lushr hy498 48 (by decide) (by decide)
          have o16 := own_o_l2i hy499
          have o17 := own_o_i2b hy500
          have o18 := own_o_lushr hy501 56 (by decide) (by decide)
          have o19 := own_o_l2i hy502
          have o20 := own_o_i2b hy503
          have o21 := own_o_lshr hy519 8 (by decide)
          have o22 := own_o_l2i hy520
          have o23 := own_o_i2b hy521
          have o24 := own_o_lshr hy523 16 (by decide)
          have o25 := own_o_l2i hy524
          have o26 := own_o_i2b hy525
          have o27 := own_o_lshr hy527 24 (by decide)
          have o28 := own_o_l2i hy528
          have o29 := own_o_i2b hy529
          have o30 := own_o_lshr hy531 32 (by decide)
          have o31 := own_o_l2i hy532
          have o32 := own_o_i2b hy533
          have o33 := own_o_lshr hy535 40 (by decide)
          have o34 := own_o_l2i hy536
          have o35 := own_o_i2b hy537
          have o36 := own_o_lshr hy539 48 (by decide)
          have o37 := own_o_l2i hy540
          have o38 := own_o_i2b hy541
          have o39 := own_o_lshr hy543 56 (by decide)
          have o40 := own_o_l2i hy544
          have o41 := own_o_i2b hy545
          have o42 := own_eq c522
          have o43 := own_eq c526
          have o44 := own_eq c530
          have o45 := own_eq c534
          have o46 := own_eq c538
          have o47 := own_eq c542
          have o48 := rng32 y459
          have o49 := rng32 y460
          have o50 := rng32 y462
          have o51 := rng32 y463
          have o52 := rng32 y465
          have o53 := rng32 y466
          have o54 := rng32 y468
          have o55 := rng32 y469
          have o56 := rng32 y471
          have o57 := rng32 y472
          have o58 := rng32 y474
          have o59 := rng32 y475
          have o60 := rng32 y477
          have o61 := rng32 y478
          have o62 := rng32 y520
          have o63 := rng32 y521
          have o64 := rng32 y524
          have o65 := rng32 y525
          have o66 := rng32 y528
          have o67 := rng32 y529
          have o68 := rng32 y532
          have o69 := rng32 y533
          have o70 := rng32 y536
          have o71 := rng32 y537
          have o72 := rng32 y540
          have o73 := rng32 y541
          have o74 := rng32 y544
          have o75 := rng32 y545
          have o76 := rng64 i1
          have o77 := rng64 y458
          have o78 := rng64 y461
          have o79 := rng64 y464
          have o80 := rng64 y467
          have o81 := rng64 y470
          have o82 := rng64 y473
          have o83 := rng64 y476
          have o84 := rng64 y519
          have o85 := rng64 y523
          have o86 := rng64 y527
          have o87 := rng64 y531
          have o88 := rng64 y535
          have o89 := rng64 y539
          have o90 := rng64 y543
          have o91 : (8 : Int32).toInt = 8 := by decide
          have o92 : (16 : Int32).toInt = 16 := by decide
          have o93 : (24 : Int32).toInt = 24 := by decide
          have o94 : (32 : Int32).toInt = 32 := by decide
          have o95 : (40 : Int32).toInt = 40 := by decide
          have o96 : (48 : Int32).toInt = 48 := by decide
          have o97 : (56 : Int32).toInt = 56 := by decide
          refine own_eqI ?_
          omega
        refine own_icmpNo (pc' := 391) B X507 at_388 (teq c546).2 rfl ?_
        refine own_aload (pc' := 393) B X507 at_391 rfl rfl rfl ?_
        refine own_iload (pc' := 395) B X507 at_393 rfl rfl ?_
        refine own_bipush (pc' := 397) B X507 (z := (12 : Int32)) at_395 rfl (by decide) ?_
        refine own_iadd (pc' := 398) B X507 (z := (72 : Int32)) at_397 rfl (by decide) ?_
        refine own_baload (pc' := 399) B X507 V_b508 (v := (.int y433)) ⟨by decide, by decide⟩ rfl at_398 rfl ?_
        refine own_iloadN (pc' := 400) B X507 at_399 rfl rfl ?_
        refine own_i2b (pc' := 401) B X507 at_400 rfl hy433 ?_
        refine own_icmpNo (pc' := 404) B X507 at_401 (teq rfl).2 rfl ?_
        refine own_iconst (pc' := 405) B X507 (z := (1 : Int32)) at_404 rfl rfl ?_
        refine own_goto (pc' := 409) B X507 at_405 (by decide) rfl ?_
        refine own_istore (pc' := 411) B X507 (Ls' := #[.val (.int i0), .val (.long i1), .second, .val (.int i2), .val (.int i3), .val (.int (1 : Int32)), .val (.int (0 : Int32)), .val (.int (0 : Int32)), .val (.ref b429), .val (.ref b435), .val (.ref b508), .val (.int (1 : Int32)), .val (.int (60 : Int32)), .unset]) at_409 rfl rfl ?_
        refine own_iload (pc' := 413) B X507 at_411 rfl rfl ?_
        refine own_ifNo (pc' := 416) B X507 at_413 ((if0 _ _).trans (feq (by decide : ¬ ((1 : Int32) = (0 : Int32)))).1) rfl ?_
        refine own_iload (pc' := 418) B X507 at_416 rfl rfl ?_
        refine own_ifNo (pc' := 421) B X507 at_418 ((if0 _ _).trans (feq (by decide : ¬ ((1 : Int32) = (0 : Int32)))).1) rfl ?_
        refine own_aload (pc' := 423) B X507 at_421 rfl rfl rfl ?_
        refine own_iconst (pc' := 424) B X507 (z := (0 : Int32)) at_423 rfl rfl ?_
        refine own_baload (pc' := 425) B X507 V_b508 (v := (.int y431)) ⟨by decide, by decide⟩ rfl at_424 rfl ?_
        refine own_lloadN (pc' := 426) B X507 at_425 rfl rfl ?_
        refine own_l2i (pc' := 427) B X507 at_426 rfl hy430 ?_
        refine own_i2b (pc' := 428) B X507 at_427 rfl hy431 ?_
        refine own_icmpNo (pc' := 431) B X507 at_428 (teq rfl).2 rfl ?_
        refine own_aload (pc' := 433) B X507 at_431 rfl rfl rfl ?_
        refine own_iconst (pc' := 434) B X507 (z := (1 : Int32)) at_433 rfl rfl ?_
        refine own_baload (pc' := 435) B X507 V_b508 (v := (.int (0 : Int32))) ⟨by decide, by decide⟩ rfl at_434 rfl ?_
        refine own_ifNo (pc' := 438) B X507 at_435 ((if0 _ _).trans (teq (by decide : (0 : Int32) = (0 : Int32))).2) rfl ?_
        refine own_aload (pc' := 440) B X507 at_438 rfl rfl rfl ?_
        refine own_bipush (pc' := 442) B X507 (z := (58 : Int32)) at_440 rfl (by decide) ?_
        refine own_baload (pc' := 443) B X507 V_b508 (v := (.int (0 : Int32))) ⟨by decide, by decide⟩ rfl at_442 rfl ?_
        refine own_ifNo (pc' := 446) B X507 at_443 ((if0 _ _).trans (teq (by decide : (0 : Int32) = (0 : Int32))).2) rfl ?_
        refine own_aload (pc' := 448) B X507 at_446 rfl rfl rfl ?_
        refine own_bipush (pc' := 450) B X507 (z := (59 : Int32)) at_448 rfl (by decide) ?_
        refine own_baload (pc' := 451) B X507 V_b508 (v := (.int y433)) ⟨by decide, by decide⟩ rfl at_450 rfl ?_
        refine own_iloadN (pc' := 452) B X507 at_451 rfl rfl ?_
        refine own_i2b (pc' := 453) B X507 at_452 rfl hy433 ?_
        refine own_icmpNo (pc' := 456) B X507 at_453 (teq rfl).2 rfl ?_
        refine own_iconst (pc' := 457) B X507 (z := (1 : Int32)) at_456 rfl rfl ?_
        refine own_goto (pc' := 461) B X507 at_457 (by decide) rfl ?_
        refine own_istore (pc' := 463) B X507 (Ls' := #[.val (.int i0), .val (.long i1), .second, .val (.int i2), .val (.int i3), .val (.int (1 : Int32)), .val (.int (0 : Int32)), .val (.int (0 : Int32)), .val (.ref b429), .val (.ref b435), .val (.ref b508), .val (.int (1 : Int32)), .val (.int (60 : Int32)), .unset]) at_461 rfl rfl ?_
        refine own_iload (pc' := 465) B X507 at_463 rfl rfl ?_
        refine own_ifYes (pc' := 470) B X507 at_465 ((if0 _ _).trans (feq (by decide : ¬ ((1 : Int32) = (0 : Int32)))).2) (by decide) rfl ?_
        refine own_aload (pc' := 472) B X507 at_470 rfl rfl rfl ?_
        refine own_callV (pc' := 475) B X507 (own_w hw 50 rfl) (own_w hw 51 rfl) (own_w hw 53 rfl) (own_w hw 52 rfl) (own_w hw 3 rfl) (own_w hw 54 rfl) E_b435 (by decide) [] [] (rm_38 l Z a0 hw [] b435 b479 k480 (y431) (y433) (y441) (y443) (y445) (y447) (y460) (y463) (y466) (y469) (y472) (y475) (y478) h507 n0 (Nat.le_trans Z0 K.1) E_b435 F_b435_bytes F_b435_size g_b435 E_b479 V_b479 g_b479 ne_b435_b479) 0 (by decide) (by decide) rfl pd_6 rfl rfl (Nat.le_of_eq rfl) at_472 rfl (k' := 5) (n' := 327) rfl rfl (by decide) (by decide) ?_
        intro T547 v547 h547 X547 q547
        obtain ⟨rfl, rfl⟩ := q547
        show own_Go p e below (T547.setTop (mkF m 475 #[.val (.int i0), .val (.long i1), .second, .val (.int i2), .val (.int i3), .val (.int (1 : Int32)), .val (.int (0 : Int32)), .val (.int (0 : Int32)), .val (.ref b429), .val (.ref b435), .val (.ref b508), .val (.int (1 : Int32)), .val (.int (60 : Int32)), .unset] [(.int (73 : Int32))])) _
        refine own_aload (pc' := 477) B X547 at_475 rfl rfl rfl ?_
        refine own_arraylength (pc' := 478) B X547 V_b508 at_477 rfl ?_
        refine own_icmpYes (pc' := 483) B X547 at_478 (teq (by decide : (73 : Int32) = (73 : Int32))).1 (by decide) rfl ?_
        refine own_aload (pc' := 485) B X547 at_483 rfl rfl rfl ?_
        refine own_arraylength (pc' := 486) B X547 V_b508 at_485 rfl ?_
        refine own_ifYes (pc' := 508) B X547 at_486 ((if0 _ _).trans (feq (by decide : ¬ ((73 : Int32) = (0 : Int32)))).2) (by decide) rfl ?_
        refine own_aload (pc' := 510) B X547 at_508 rfl rfl rfl ?_
        refine own_iconst (pc' := 511) B X547 (z := (0 : Int32)) at_510 rfl rfl ?_
        refine own_baload (pc' := 512) B X547 V_b508 (v := (.int y431)) ⟨by decide, by decide⟩ rfl at_511 rfl ?_
        refine own_istore (pc' := 514) B X547 (Ls' := #[.val (.int i0), .val (.long i1), .second, .val (.int i2), .val (.int i3), .val (.int (1 : Int32)), .val (.int (0 : Int32)), .val (.int (0 : Int32)), .val (.ref b429), .val (.ref b435), .val (.ref b508), .val (.int (1 : Int32)), .val (.int y431), .unset]) at_512 rfl rfl ?_
        refine own_aload (pc' := 516) B X547 at_514 rfl rfl rfl ?_
        refine own_iconst (pc' := 517) B X547 (z := (0 : Int32)) at_516 rfl rfl ?_
        refine own_iload (pc' := 519) B X547 at_517 rfl rfl ?_
        refine own_iconst (pc' := 520) B X547 (z := (1 : Int32)) at_519 rfl rfl ?_
        obtain ⟨y548, hy548⟩ : ∃ z : Int32, y431 ^^^ (1 : Int32) = z := ⟨_, rfl⟩
        refine own_ixor (pc' := 521) B X547 at_520 rfl hy548 ?_
        obtain ⟨y549, hy549⟩ : ∃ z : Int32, y548.toInt8.toInt32 = z := ⟨_, rfl⟩
        refine own_i2b (pc' := 522) B X547 at_521 rfl hy549 ?_
        refine own_bastore (pc' := 523) B X547 (x' := y549) V_b508 g_b508 ⟨by decide, by decide⟩ 0 (by decide) (Nat.le_of_ble_eq_true rfl) (own_idem_i2b hy549) at_522 rfl ?_
        intro T550 h550 X550 W550 V_b508
        replace V_b508 : Arv Z h550 b508 k509 .byte (73 : Int32) ((.int y549) :: (.int (0 : Int32)) :: (.int (0 : Int32)) :: (.int (0 : Int32)) :: (.int (0 : Int32)) :: (.int (0 : Int32)) :: (.int (0 : Int32)) :: (.int (0 : Int32)) :: (.int (0 : Int32)) :: (.int (0 : Int32)) :: (.int (0 : Int32)) :: (.int (0 : Int32)) :: (.int (0 : Int32)) :: (.int (0 : Int32)) :: (.int (0 : Int32)) :: (.int (0 : Int32)) :: (.int (0 : Int32)) :: (.int (0 : Int32)) :: (.int (0 : Int32)) :: (.int (0 : Int32)) :: (.int (0 : Int32)) :: (.int (0 : Int32)) :: (.int (0 : Int32)) :: (.int (0 : Int32)) :: (.int (0 : Int32)) :: (.int (0 : Int32)) :: (.int (0 : Int32)) :: (.int (0 : Int32)) :: (.int (0 : Int32)) :: (.int (0 : Int32)) :: (.int (0 : Int32)) :: (.int (0 : Int32)) :: (.int (0 : Int32)) :: (.int (0 : Int32)) :: (.int (0 : Int32)) :: (.int (0 : Int32)) :: (.int (0 : Int32)) :: (.int (0 : Int32)) :: (.int (0 : Int32)) :: (.int (0 : Int32)) :: (.int (0 : Int32)) :: (.int (0 : Int32)) :: (.int (0 : Int32)) :: (.int (0 : Int32)) :: (.int (0 : Int32)) :: (.int (0 : Int32)) :: (.int (0 : Int32)) :: (.int (0 : Int32)) :: (.int (0 : Int32)) :: (.int (0 : Int32)) :: (.int (0 : Int32)) :: (.int (0 : Int32)) :: (.int (0 : Int32)) :: (.int (0 : Int32)) :: (.int (0 : Int32)) :: (.int (0 : Int32)) :: (.int (0 : Int32)) :: (.int (0 : Int32)) :: (.int (0 : Int32)) :: (.int y433) :: (.int y441) :: (.int y443) :: (.int y445) :: (.int y447) :: (.int y431) :: (.int y460) :: (.int y463) :: (.int y466) :: (.int y469) :: (.int y472) :: (.int y475) :: (.int y478) :: (.int y433) :: []) (.int (0 : Int32)) := V_b508
        replace E_b429 := E_b429.wr W550
        replace V_b429 := V_b429.other W550 ne_b429_b508
        replace E_b435 := E_b435.wr W550
        replace F_b435_bytes := F_b435_bytes.other W550 (Or.inl ne_b435_b508)
        replace F_b435_size := F_b435_size.other W550 (Or.inl ne_b435_b508)
        replace E_b437 := E_b437.wr W550
        replace V_b437 := V_b437.other W550 ne_b437_b508
        replace E_b479 := E_b479.wr W550
        replace V_b479 := V_b479.other W550 ne_b479_b508
        replace E_b508 := E_b508.wr W550
        replace K := K.wr W550 (Or.inr sz_b508)
        refine own_aload (pc' := 525) B X550 at_523 rfl rfl rfl ?_
        refine own_callV (pc' := 528) B X550 (own_w hw 33 rfl) (own_w hw 34 rfl) (own_w hw 36 rfl) (own_w hw 35 rfl) (own_w hw 3 rfl) (own_w hw 37 rfl) E_b435 (by decide) [] [] (rm_35 l Z a0 hw [] b435 b479 k480 (y431) (y433) (y441) (y443) (y445) (y447) (y460) (y463) (y466) (y469) (y472) (y475) (y478) h550 n0 (Nat.le_trans Z0 K.1) E_b435 F_b435_bytes F_b435_size g_b435 E_b479 V_b479 g_b479 ne_b435_b479) 0 (by decide) (by decide) rfl pd_5 rfl rfl (Nat.le_of_eq rfl) at_525 rfl (k' := 6) (n' := 400) rfl rfl (by decide) (by decide) ?_
        intro T551 v551 h551 X551 q551
        have lt_b429 := E_b429.lt
        have lt_b435 := E_b435.lt
        have lt_b437 := E_b437.lt
        have lt_b479 := E_b479.lt
        have lt_b508 := E_b508.lt
        obtain ⟨b552, k553, rfl, K551, z_b552, E_b552, V_b552⟩ := q551
        have ne_b429_b552 : b429 ≠ b552 := own_ne' lt_b429 z_b552
        have ne_b435_b552 : b435 ≠ b552 := own_ne' lt_b435 z_b552
        have ne_b437_b552 : b437 ≠ b552 := own_ne' lt_b437 z_b552
        have ne_b479_b552 : b479 ≠ b552 := own_ne' lt_b479 z_b552
        have ne_b508_b552 : b508 ≠ b552 := own_ne' lt_b508 z_b552
        have sz_b552 : h0.size ≤ b552 := Nat.le_trans K.1 z_b552
        have g_b552 : n0 ≤ b552 := Nat.le_trans Z0 sz_b552
        replace K := K.trans K551 all0
        replace E_b429 := E_b429.keep K551
        replace V_b429 := V_b429.keep K551 nin0
        replace E_b435 := E_b435.keep K551
        replace F_b435_bytes := F_b435_bytes.keep K551 nin0
        replace F_b435_size := F_b435_size.keep K551 nin0
        replace E_b437 := E_b437.keep K551
        replace V_b437 := V_b437.keep K551 nin0
        replace E_b479 := E_b479.keep K551
        replace V_b479 := V_b479.keep K551 nin0
        replace E_b508 := E_b508.keep K551
        replace V_b508 := V_b508.keep K551 nin0
        show own_Go p e below (T551.setTop (mkF m 528 #[.val (.int i0), .val (.long i1), .second, .val (.int i2), .val (.int i3), .val (.int (1 : Int32)), .val (.int (0 : Int32)), .val (.int (0 : Int32)), .val (.ref b429), .val (.ref b435), .val (.ref b508), .val (.int (1 : Int32)), .val (.int y431), .unset] [(.ref b552)])) _
        refine own_astore (pc' := 530) B X551 (Ls' := #[.val (.int i0), .val (.long i1), .second, .val (.int i2), .val (.int i3), .val (.int (1 : Int32)), .val (.int (0 : Int32)), .val (.int (0 : Int32)), .val (.ref b429), .val (.ref b435), .val (.ref b508), .val (.int (1 : Int32)), .val (.int y431), .val (.ref b552)]) at_528 rfl rfl rfl ?_
        refine own_aload (pc' := 532) B X551 at_530 rfl rfl rfl ?_
        refine own_aload (pc' := 534) B X551 at_532 rfl rfl rfl ?_
        refine own_acmp B X551 rfl rfl (same := false) at_534 (decide_eq_false fun q => (Ne.symm ne_b508_b552) (Value.ref.inj q)) (by decide) (pc' := 537) (by decide) ?_
        refine own_aload (pc' := 539) B X551 at_537 rfl rfl rfl ?_
        refine own_arraylength (pc' := 540) B X551 V_b552 at_539 rfl ?_
        refine own_aload (pc' := 542) B X551 at_540 rfl rfl rfl ?_
        refine own_arraylength (pc' := 543) B X551 V_b508 at_542 rfl ?_
        refine own_icmpNo (pc' := 546) B X551 at_543 (teq (by decide : (73 : Int32) = (73 : Int32))).2 rfl ?_
        refine own_aload (pc' := 548) B X551 at_546 rfl rfl rfl ?_
        refine own_iconst (pc' := 549) B X551 (z := (0 : Int32)) at_548 rfl rfl ?_
        refine own_baload (pc' := 550) B X551 V_b552 (v := (.int y431)) ⟨by decide, by decide⟩ rfl at_549 rfl ?_
        refine own_iload (pc' := 552) B X551 at_550 rfl rfl ?_
        refine own_icmpNo (pc' := 555) B X551 at_552 (teq rfl).2 rfl ?_
        refine own_iconst (pc' := 556) B X551 (z := (1 : Int32)) at_555 rfl rfl ?_
        refine own_goto (pc' := 560) B X551 at_556 (by decide) rfl ?_
        exact own_retN B X551 (t := .boolean) (z' := (1 : Int32)) (by simp) (by decide) at_560 (by decide) (by decide) rfl
      · refine own_ifNo (pc' := 35) B X0 at_32 ((if0 _ _).trans (feq c428).1) rfl ?_
        refine own_iconst (pc' := 36) B X0 (z := (1 : Int32)) at_35 rfl rfl ?_
        refine own_goto (pc' := 40) B X0 at_36 (by decide) rfl ?_
        refine own_istore (pc' := 42) B X0 (Ls' := #[.val (.int i0), .val (.long i1), .second, .val (.int i2), .val (.int i3), .val (.int (1 : Int32)), .val (.int (0 : Int32)), .val (.int (1 : Int32)), .unset, .unset, .unset, .unset, .unset, .unset]) at_40 rfl rfl ?_
        refine own_bipush (pc' := 44) B X0 (z := (60 : Int32)) at_42 rfl (by decide) ?_
        refine own_newarray (pc' := 46) B X0 (own_w hw 0 rfl) at_44 rfl rfl (by decide) 60 (by decide) (by decide) (k' := 1) (n' := 60) rfl rfl (by decide) (by decide) "[B" (by decide) (.int (0 : Int32)) rfl ?_
        intro T554 h554 b554 kb554 X554 g554 E554 V_b554 E_b554
        have sz_b554 : h0.size ≤ b554 := own_sz K g554
        have g_b554 : n0 ≤ b554 := Nat.le_trans Z0 sz_b554
        replace K := K.ext E554
        refine own_astore (pc' := 48) B X554 (Ls' := #[.val (.int i0), .val (.long i1), .second, .val (.int i2), .val (.int i3), .val (.int (1 : Int32)), .val (.int (0 : Int32)), .val (.int (1 : Int32)), .val (.ref b554), .unset, .unset, .unset, .unset, .unset]) at_46 rfl rfl rfl ?_
        refine own_aload (pc' := 50) B X554 at_48 rfl rfl rfl ?_
        refine own_iconst (pc' := 51) B X554 (z := (0 : Int32)) at_50 rfl rfl ?_
        refine own_lloadN (pc' := 52) B X554 at_51 rfl rfl ?_
        obtain ⟨y555, hy555⟩ : ∃ z : Int32, i1.toInt32 = z := ⟨_, rfl⟩
        refine own_l2i (pc' := 53) B X554 at_52 rfl hy555 ?_
        obtain ⟨y556, hy556⟩ : ∃ z : Int32, y555.toInt8.toInt32 = z := ⟨_, rfl⟩
        refine own_i2b (pc' := 54) B X554 at_53 rfl hy556 ?_
        replace V_b554 : Arv Z h554 b554 kb554 .byte (60 : Int32) [(.int (0 : Int32))] (.int (0 : Int32)) := V_b554.pad (pad_rep [] (.int (0 : Int32)) 1)
        refine own_bastore (pc' := 55) B X554 (x' := y556) V_b554 g_b554 ⟨by decide, by decide⟩ 0 (by decide) (Nat.le_of_ble_eq_true rfl) (own_idem_i2b hy556) at_54 rfl ?_
        intro T557 h557 X557 W557 V_b554
        replace V_b554 : Arv Z h557 b554 kb554 .byte (60 : Int32) [(.int y556)] (.int (0 : Int32)) := V_b554
        replace E_b554 := E_b554.wr W557
        replace K := K.wr W557 (Or.inr sz_b554)
        refine own_aload (pc' := 57) B X557 at_55 rfl rfl rfl ?_
        refine own_bipush (pc' := 59) B X557 (z := (59 : Int32)) at_57 rfl (by decide) ?_
        refine own_iloadN (pc' := 60) B X557 at_59 rfl rfl ?_
        obtain ⟨y558, hy558⟩ : ∃ z : Int32, i2.toInt8.toInt32 = z := ⟨_, rfl⟩
        refine own_i2b (pc' := 61) B X557 at_60 rfl hy558 ?_
        replace V_b554 : Arv Z h557 b554 kb554 .byte (60 : Int32) ((.int y556) :: (.int (0 : Int32)) :: (.int (0 : Int32)) :: (.int (0 : Int32)) :: (.int (0 : Int32)) :: (.int (0 : Int32)) :: (.int (0 : Int32)) :: (.int (0 : Int32)) :: (.int (0 : Int32)) :: (.int (0 : Int32)) :: (.int (0 : Int32)) :: (.int (0 : Int32)) :: (.int (0 : Int32)) :: (.int (0 : Int32)) :: (.int (0 : Int32)) :: (.int (0 : Int32)) :: (.int (0 : Int32)) :: (.int (0 : Int32)) :: (.int (0 : Int32)) :: (.int (0 : Int32)) :: (.int (0 : Int32)) :: (.int (0 : Int32)) :: (.int (0 : Int32)) :: (.int (0 : Int32)) :: (.int (0 : Int32)) :: (.int (0 : Int32)) :: (.int (0 : Int32)) :: (.int (0 : Int32)) :: (.int (0 : Int32)) :: (.int (0 : Int32)) :: (.int (0 : Int32)) :: (.int (0 : Int32)) :: (.int (0 : Int32)) :: (.int (0 : Int32)) :: (.int (0 : Int32)) :: (.int (0 : Int32)) :: (.int (0 : Int32)) :: (.int (0 : Int32)) :: (.int (0 : Int32)) :: (.int (0 : Int32)) :: (.int (0 : Int32)) :: (.int (0 : Int32)) :: (.int (0 : Int32)) :: (.int (0 : Int32)) :: (.int (0 : Int32)) :: (.int (0 : Int32)) :: (.int (0 : Int32)) :: (.int (0 : Int32)) :: (.int (0 : Int32)) :: (.int (0 : Int32)) :: (.int (0 : Int32)) :: (.int (0 : Int32)) :: (.int (0 : Int32)) :: (.int (0 : Int32)) :: (.int (0 : Int32)) :: (.int (0 : Int32)) :: (.int (0 : Int32)) :: (.int (0 : Int32)) :: (.int (0 : Int32)) :: (.int (0 : Int32)) :: []) (.int (0 : Int32)) := V_b554.pad (pad_rep [(.int y556)] (.int (0 : Int32)) 59)
        refine own_bastore (pc' := 62) B X557 (x' := y558) V_b554 g_b554 ⟨by decide, by decide⟩ 59 (by decide) (Nat.le_of_ble_eq_true rfl) (own_idem_i2b hy558) at_61 rfl ?_
        intro T559 h559 X559 W559 V_b554
        replace V_b554 : Arv Z h559 b554 kb554 .byte (60 : Int32) ((.int y556) :: (.int (0 : Int32)) :: (.int (0 : Int32)) :: (.int (0 : Int32)) :: (.int (0 : Int32)) :: (.int (0 : Int32)) :: (.int (0 : Int32)) :: (.int (0 : Int32)) :: (.int (0 : Int32)) :: (.int (0 : Int32)) :: (.int (0 : Int32)) :: (.int (0 : Int32)) :: (.int (0 : Int32)) :: (.int (0 : Int32)) :: (.int (0 : Int32)) :: (.int (0 : Int32)) :: (.int (0 : Int32)) :: (.int (0 : Int32)) :: (.int (0 : Int32)) :: (.int (0 : Int32)) :: (.int (0 : Int32)) :: (.int (0 : Int32)) :: (.int (0 : Int32)) :: (.int (0 : Int32)) :: (.int (0 : Int32)) :: (.int (0 : Int32)) :: (.int (0 : Int32)) :: (.int (0 : Int32)) :: (.int (0 : Int32)) :: (.int (0 : Int32)) :: (.int (0 : Int32)) :: (.int (0 : Int32)) :: (.int (0 : Int32)) :: (.int (0 : Int32)) :: (.int (0 : Int32)) :: (.int (0 : Int32)) :: (.int (0 : Int32)) :: (.int (0 : Int32)) :: (.int (0 : Int32)) :: (.int (0 : Int32)) :: (.int (0 : Int32)) :: (.int (0 : Int32)) :: (.int (0 : Int32)) :: (.int (0 : Int32)) :: (.int (0 : Int32)) :: (.int (0 : Int32)) :: (.int (0 : Int32)) :: (.int (0 : Int32)) :: (.int (0 : Int32)) :: (.int (0 : Int32)) :: (.int (0 : Int32)) :: (.int (0 : Int32)) :: (.int (0 : Int32)) :: (.int (0 : Int32)) :: (.int (0 : Int32)) :: (.int (0 : Int32)) :: (.int (0 : Int32)) :: (.int (0 : Int32)) :: (.int (0 : Int32)) :: (.int y558) :: []) (.int (0 : Int32)) := V_b554
        replace E_b554 := E_b554.wr W559
        replace K := K.wr W559 (Or.inr sz_b554)
        refine own_new (pc' := 65) B X559 (own_w hw 1 rfl) (own_w hw 2 rfl) (own_w hw 3 rfl) at_62 rfl (k' := 2) (n' := 62) rfl rfl (by decide) (by decide) ?_
        intro T560 h560 b560 X560 g560 E560 E_b560 D560
        have ne_b554_b560 : b554 ≠ b560 := own_ne E_b554.lt g560
        have sz_b560 : h0.size ≤ b560 := own_sz K g560
        have g_b560 : n0 ≤ b560 := Nat.le_trans Z0 sz_b560
        replace K := K.ext E560
        replace E_b554 := E_b554.ext E560
        replace V_b554 := V_b554.ext E560
        have F_b560_bytes : Fld Z h560 b560 "com/example/siltstone/siltstone/format/ByteSink" "bytes" "[B" .null := D560 (Or.inl (own_w hw 11 rfl)) (ty := (.array .byte)) (by decide)
        have F_b560_size : Fld Z h560 b560 "com/example/siltstone/siltstone/format/ByteSink" "size" "I" (.int (0 : Int32)) := D560 (Or.inl (own_w hw 22 rfl)) (ty := .int) (by decide)
        clear D560
        refine own_dup (pc' := 66) B X560 at_65 rfl rfl ?_
        refine own_callI (pc' := 69) B X560 rfl rfl (own_w hw 4 rfl) (own_w hw 5 rfl) (own_w hw 3 rfl) (own_w hw 6 rfl) (by decide) [] [(.ref b560)] (rm_1 l Z a0 hw [] b560 h560 n0 (Nat.le_trans Z0 K.1) E_b560 F_b560_bytes F_b560_size g_b560) 1 (by decide) (by decide) rfl pd_0 rfl rfl (Nat.le_of_eq rfl) at_66 rfl (k' := 3) (n' := 126) rfl rfl (by decide) (by decide) ?_
        intro T561 v561 h561 X561 q561
        have lt_b554 := E_b554.lt
        have lt_b560 := E_b560.lt
        obtain ⟨b562, k563, rfl, K561, z_b562, E_b560, F_b560_bytes, F_b560_size, E_b562, V_b562⟩ := q561
        have ne_b554_b562 : b554 ≠ b562 := own_ne' lt_b554 z_b562
        have ne_b560_b562 : b560 ≠ b562 := own_ne' lt_b560 z_b562
        have sz_b562 : h0.size ≤ b562 := Nat.le_trans K.1 z_b562
        have g_b562 : n0 ≤ b562 := Nat.le_trans Z0 sz_b562
        replace K := K.trans K561 (allS (Or.inr sz_b560) all0)
        replace E_b554 := E_b554.keep K561
        replace V_b554 := V_b554.keep K561 (ninS ne_b554_b560 nin0)
        show own_Go p e below (T561.setTop (mkF m 69 #[.val (.int i0), .val (.long i1), .second, .val (.int i2), .val (.int i3), .val (.int (1 : Int32)), .val (.int (0 : Int32)), .val (.int (1 : Int32)), .val (.ref b554), .unset, .unset, .unset, .unset, .unset] [(.ref b560)])) _
        refine own_astore (pc' := 71) B X561 (Ls' := #[.val (.int i0), .val (.long i1), .second, .val (.int i2), .val (.int i3), .val (.int (1 : Int32)), .val (.int (0 : Int32)), .val (.int (1 : Int32)), .val (.ref b554), .val (.ref b560), .unset, .unset, .unset, .unset]) at_69 rfl rfl rfl ?_
        refine own_iload (pc' := 73) B X561 at_71 rfl rfl ?_
        refine own_ifNo (pc' := 76) B X561 at_73 ((if0 _ _).trans (feq (by decide : ¬ ((1 : Int32) = (0 : Int32)))).1) rfl ?_
        refine own_aload (pc' := 78) B X561 at_76 rfl rfl rfl ?_
        refine own_aload (pc' := 80) B X561 at_78 rfl rfl rfl ?_
        refine own_callV (pc' := 83) B X561 (own_w hw 55 rfl) (own_w hw 56 rfl) (own_w hw 58 rfl) (own_w hw 57 rfl) (own_w hw 3 rfl) (own_w hw 59 rfl) E_b560 (by decide) [(.ref b554)] [] (rm_23 l Z a0 hw [] b560 b562 k563 b554 kb554 (y556) (y558) h561 n0 (Nat.le_trans Z0 K.1) E_b560 F_b560_bytes F_b560_size g_b560 E_b562 V_b562 g_b562 E_b554 V_b554 g_b554 ne_b560_b562 (Ne.symm ne_b554_b560) (Ne.symm ne_b554_b562)) 0 (by decide) (by decide) rfl pd_8 rfl rfl (Nat.le_of_eq rfl) at_80 rfl (k' := 3) (n' := 126) rfl rfl (by decide) (by decide) ?_
        intro T564 v564 h564 X564 q564
        obtain ⟨rfl, K564, E_b560, F_b560_bytes, F_b560_size, E_b562, V_b562⟩ := q564
        replace K := K.trans K564 (allS (Or.inr sz_b562) (allS (Or.inr sz_b560) all0))
        replace E_b554 := E_b554.keep K564
        replace V_b554 := V_b554.keep K564 (ninS ne_b554_b562 (ninS ne_b554_b560 nin0))
        show own_Go p e below (T564.setTop (mkF m 83 #[.val (.int i0), .val (.long i1), .second, .val (.int i2), .val (.int i3), .val (.int (1 : Int32)), .val (.int (0 : Int32)), .val (.int (1 : Int32)), .val (.ref b554), .val (.ref b560), .unset, .unset, .unset, .unset] [])) _
        refine own_aload (pc' := 85) B X564 at_83 rfl rfl rfl ?_
        refine own_iloadN (pc' := 86) B X564 at_85 rfl rfl ?_
        refine own_callV (pc' := 89) B X564 (own_w hw 12 rfl) (own_w hw 13 rfl) (own_w hw 15 rfl) (own_w hw 14 rfl) (own_w hw 3 rfl) (own_w hw 16 rfl) E_b560 (by decide) [(.int i0)] [] (rm_26 l Z a0 hw [] b560 b562 k563 (y556) (y558) (i0) h564 n0 (Nat.le_trans Z0 K.1) E_b560 F_b560_bytes F_b560_size g_b560 E_b562 V_b562 g_b562 ne_b560_b562) 0 (by decide) (by decide) rfl pd_1 rfl rfl (Nat.le_of_eq rfl) at_86 rfl (k' := 3) (n' := 126) rfl rfl (by decide) (by decide) ?_
        intro T565 v565 h565 X565 q565
        obtain ⟨y566, y567, y568, y569, y570, y571, y572, hy573, hy574, hy575, hy576, hy577, hy578, hy579, rfl, K565, E_b560, F_b560_bytes, F_b560_size, E_b562, V_b562⟩ := q565
        replace K := K.trans K565 (allS (Or.inr sz_b560) (allS (Or.inr sz_b562) all0))
        replace E_b554 := E_b554.keep K565
        replace V_b554 := V_b554.keep K565 (ninS ne_b554_b560 (ninS ne_b554_b562 nin0))
        show own_Go p e below (T565.setTop (mkF m 89 #[.val (.int i0), .val (.long i1), .second, .val (.int i2), .val (.int i3), .val (.int (1 : Int32)), .val (.int (0 : Int32)), .val (.int (1 : Int32)), .val (.ref b554), .val (.ref b560), .unset, .unset, .unset, .unset] [])) _
        refine own_aload (pc' := 91) B X565 at_89 rfl rfl rfl ?_
        refine own_lloadN (pc' := 92) B X565 at_91 rfl rfl ?_
        refine own_callV (pc' := 95) B X565 (own_w hw 23 rfl) (own_w hw 24 rfl) (own_w hw 26 rfl) (own_w hw 25 rfl) (own_w hw 3 rfl) (own_w hw 27 rfl) E_b560 (by decide) [(.long i1)] [] (rm_28 l Z a0 hw [] b560 b562 k563 (y556) (y558) (y566) (y568) (y570) (y572) (i1) h565 n0 (Nat.le_trans Z0 K.1) E_b560 F_b560_bytes F_b560_size g_b560 E_b562 V_b562 g_b562 ne_b560_b562) 0 (by decide) (by decide) rfl pd_2 rfl rfl (Nat.le_of_eq rfl) at_92 rfl (k' := 4) (n' := 254) rfl rfl (by decide) (by decide) ?_
        intro T580 v580 h580 X580 q580
        have lt_b554 := E_b554.lt
        have lt_b560 := E_b560.lt
        have lt_b562 := E_b562.lt
        obtain ⟨y581, y582, y583, y584, y585, y586, y587, y588, y589, y590, y591, y592, y593, y594, y595, y596, y597, y598, y599, y600, y601, y602, y603, b604, k605, hy606, hy607, hy608, hy609, hy610, hy611, hy612, hy613, hy614, hy615, hy616, hy617, hy618, hy619, hy620, hy621, hy622, hy623, hy624, hy625, hy626, hy627, hy628, rfl, K580, z_b604, E_b560, F_b560_bytes, F_b560_size, E_b604, V_b604⟩ := q580
        obtain rfl : y555 = y581 := (hy555 : i1.toInt32 = y555).symm.trans hy606
        obtain rfl : y556 = y582 := (hy556 : y555.toInt8.toInt32 = y556).symm.trans hy607
        have ne_b554_b604 : b554 ≠ b604 := own_ne' lt_b554 z_b604
        have ne_b560_b604 : b560 ≠ b604 := own_ne' lt_b560 z_b604
        have ne_b562_b604 : b562 ≠ b604 := own_ne' lt_b562 z_b604
        have sz_b604 : h0.size ≤ b604 := Nat.le_trans K.1 z_b604
        have g_b604 : n0 ≤ b604 := Nat.le_trans Z0 sz_b604
        replace K := K.trans K580 (allS (Or.inr sz_b560) all0)
        replace E_b554 := E_b554.keep K580
        replace V_b554 := V_b554.keep K580 (ninS ne_b554_b560 nin0)
        replace E_b562 := E_b562.keep K580
        replace V_b562 := V_b562.keep K580 (ninS (Ne.symm ne_b560_b562) nin0)
        show own_Go p e below (T580.setTop (mkF m 95 #[.val (.int i0), .val (.long i1), .second, .val (.int i2), .val (.int i3), .val (.int (1 : Int32)), .val (.int (0 : Int32)), .val (.int (1 : Int32)), .val (.ref b554), .val (.ref b560), .unset, .unset, .unset, .unset] [])) _
        refine own_aload (pc' := 97) B X580 at_95 rfl rfl rfl ?_
        refine own_iloadN (pc' := 98) B X580 at_97 rfl rfl ?_
        refine own_callV (pc' := 101) B X580 (own_w hw 28 rfl) (own_w hw 29 rfl) (own_w hw 31 rfl) (own_w hw 30 rfl) (own_w hw 3 rfl) (own_w hw 32 rfl) E_b560 (by decide) [(.int i2)] [] (rm_33 l Z a0 hw [] b560 b604 k605 (y556) (y558) (y566) (y568) (y570) (y572) (y585) (y588) (y591) (y594) (y597) (y600) (y603) (i2) h580 n0 (Nat.le_trans Z0 K.1) E_b560 F_b560_bytes F_b560_size g_b560 E_b604 V_b604 g_b604 ne_b560_b604) 0 (by decide) (by decide) rfl pd_1 rfl rfl (Nat.le_of_eq rfl) at_98 rfl (k' := 4) (n' := 254) rfl rfl (by decide) (by decide) ?_
        intro T629 v629 h629 X629 q629
        obtain ⟨y630, hy631, rfl, K629, E_b560, F_b560_bytes, F_b560_size, E_b604, V_b604⟩ := q629
        obtain rfl : y558 = y630 := (hy558 : i2.toInt8.toInt32 = y558).symm.trans hy631
        replace K := K.trans K629 (allS (Or.inr sz_b560) (allS (Or.inr sz_b604) all0))
        replace E_b554 := E_b554.keep K629
        replace V_b554 := V_b554.keep K629 (ninS ne_b554_b560 (ninS ne_b554_b604 nin0))
        replace E_b562 := E_b562.keep K629
        replace V_b562 := V_b562.keep K629 (ninS (Ne.symm ne_b560_b562) (ninS ne_b562_b604 nin0))
        show own_Go p e below (T629.setTop (mkF m 101 #[.val (.int i0), .val (.long i1), .second, .val (.int i2), .val (.int i3), .val (.int (1 : Int32)), .val (.int (0 : Int32)), .val (.int (1 : Int32)), .val (.ref b554), .val (.ref b560), .unset, .unset, .unset, .unset] [])) _
        refine own_iload (pc' := 103) B X629 at_101 rfl rfl ?_
        refine own_ifYes (pc' := 122) B X629 at_103 ((if0 _ _).trans (teq (by decide : (0 : Int32) = (0 : Int32))).1) (by decide) rfl ?_
        refine own_aload (pc' := 124) B X629 at_122 rfl rfl rfl ?_
        refine own_callV (pc' := 127) B X629 (own_w hw 33 rfl) (own_w hw 34 rfl) (own_w hw 36 rfl) (own_w hw 35 rfl) (own_w hw 3 rfl) (own_w hw 37 rfl) E_b560 (by decide) [] [] (rm_35 l Z a0 hw [] b560 b604 k605 (y556) (y558) (y566) (y568) (y570) (y572) (y585) (y588) (y591) (y594) (y597) (y600) (y603) h629 n0 (Nat.le_trans Z0 K.1) E_b560 F_b560_bytes F_b560_size g_b560 E_b604 V_b604 g_b604 ne_b560_b604) 0 (by decide) (by decide) rfl pd_5 rfl rfl (Nat.le_of_eq rfl) at_124 rfl (k' := 5) (n' := 327) rfl rfl (by decide) (by decide) ?_
        intro T632 v632 h632 X632 q632
        have lt_b554 := E_b554.lt
        have lt_b560 := E_b560.lt
        have lt_b562 := E_b562.lt
        have lt_b604 := E_b604.lt
        obtain ⟨b633, k634, rfl, K632, z_b633, E_b633, V_b633⟩ := q632
        have ne_b554_b633 : b554 ≠ b633 := own_ne' lt_b554 z_b633
        have ne_b560_b633 : b560 ≠ b633 := own_ne' lt_b560 z_b633
        have ne_b562_b633 : b562 ≠ b633 := own_ne' lt_b562 z_b633
        have ne_b604_b633 : b604 ≠ b633 := own_ne' lt_b604 z_b633
        have sz_b633 : h0.size ≤ b633 := Nat.le_trans K.1 z_b633
        have g_b633 : n0 ≤ b633 := Nat.le_trans Z0 sz_b633
        replace K := K.trans K632 all0
        replace E_b554 := E_b554.keep K632
        replace V_b554 := V_b554.keep K632 nin0
        replace E_b560 := E_b560.keep K632
        replace F_b560_bytes := F_b560_bytes.keep K632 nin0
        replace F_b560_size := F_b560_size.keep K632 nin0
        replace E_b562 := E_b562.keep K632
        replace V_b562 := V_b562.keep K632 nin0
        replace E_b604 := E_b604.keep K632
        replace V_b604 := V_b604.keep K632 nin0
        show own_Go p e below (T632.setTop (mkF m 127 #[.val (.int i0), .val (.long i1), .second, .val (.int i2), .val (.int i3), .val (.int (1 : Int32)), .val (.int (0 : Int32)), .val (.int (1 : Int32)), .val (.ref b554), .val (.ref b560), .unset, .unset, .unset, .unset] [(.ref b633)])) _
        refine own_astore (pc' := 129) B X632 (Ls' := #[.val (.int i0), .val (.long i1), .second, .val (.int i2), .val (.int i3), .val (.int (1 : Int32)), .val (.int (0 : Int32)), .val (.int (1 : Int32)), .val (.ref b554), .val (.ref b560), .val (.ref b633), .unset, .unset, .unset]) at_127 rfl rfl rfl ?_
        refine own_iload (pc' := 131) B X632 at_129 rfl rfl ?_
        refine own_ifYes (pc' := 181) B X632 at_131 ((if0 _ _).trans (teq (by decide : (0 : Int32) = (0 : Int32))).1) (by decide) rfl ?_
        refine own_iload (pc' := 183) B X632 at_181 rfl rfl ?_
        refine own_ifNo (pc' := 186) B X632 at_183 ((if0 _ _).trans (feq (by decide : ¬ ((1 : Int32) = (0 : Int32)))).1) rfl ?_
        refine own_bipush (pc' := 188) B X632 (z := (60 : Int32)) at_186 rfl (by decide) ?_
        refine own_goto (pc' := 192) B X632 at_188 (by decide) rfl ?_
        refine own_istore (pc' := 194) B X632 (Ls' := #[.val (.int i0), .val (.long i1), .second, .val (.int i2), .val (.int i3), .val (.int (1 : Int32)), .val (.int (0 : Int32)), .val (.int (1 : Int32)), .val (.ref b554), .val (.ref b560), .val (.ref b633), .unset, .val (.int (60 : Int32)), .unset]) at_192 rfl rfl ?_
        refine own_aload (pc' := 196) B X632 at_194 rfl rfl rfl ?_
        refine own_arraylength (pc' := 197) B X632 V_b633 at_196 rfl ?_
        refine own_iload (pc' := 199) B X632 at_197 rfl rfl ?_
        refine own_bipush (pc' := 201) B X632 (z := (13 : Int32)) at_199 rfl (by decide) ?_
        refine own_iadd (pc' := 202) B X632 (z := (73 : Int32)) at_201 rfl (by decide) ?_
        refine own_icmpNo (pc' := 205) B X632 at_202 (teq (by decide : (73 : Int32) = (73 : Int32))).2 rfl ?_
        refine own_aload (pc' := 207) B X632 at_205 rfl rfl rfl ?_
        refine own_iload (pc' := 209) B X632 at_207 rfl rfl ?_
        refine own_baload (pc' := 210) B X632 V_b633 (v := (.int y566)) ⟨by decide, by decide⟩ rfl at_209 rfl ?_
        refine own_iloadN (pc' := 211) B X632 at_210 rfl rfl ?_
        refine own_i2b (pc' := 212) B X632 at_211 rfl hy573 ?_
        refine own_icmpNo (pc' := 215) B X632 at_212 (teq rfl).2 rfl ?_
        refine own_aload (pc' := 217) B X632 at_215 rfl rfl rfl ?_
        refine own_iload (pc' := 219) B X632 at_217 rfl rfl ?_
        refine own_iconst (pc' := 220) B X632 (z := (1 : Int32)) at_219 rfl rfl ?_
        refine own_iadd (pc' := 221) B X632 (z := (61 : Int32)) at_220 rfl (by decide) ?_
        refine own_baload (pc' := 222) B X632 V_b633 (v := (.int y568)) ⟨by decide, by decide⟩ rfl at_221 rfl ?_
        refine own_iloadN (pc' := 223) B X632 at_222 rfl rfl ?_
        refine own_bipush (pc' := 225) B X632 (z := (8 : Int32)) at_223 rfl (by decide) ?_
        obtain ⟨y635, hy635⟩ : ∃ z : Int32, i0 >>> ((8 : Int32) &&& 31) = z := ⟨_, rfl⟩
        refine own_ishr (pc' := 226) B X632 at_225 rfl hy635 ?_
        obtain ⟨y636, hy636⟩ : ∃ z : Int32, y635.toInt8.toInt32 = z := ⟨_, rfl⟩
        refine own_i2b (pc' := 227) B X632 at_226 rfl hy636 ?_
        have c637 : y568 = y636 := by
          have o0 := own_o_iushr hy574 8 (by decide) (by decide)
          have o1 := own_o_i2b hy575
          have o2 := own_o_ishr hy635 8 (by decide)
          have o3 := own_o_i2b hy636
          have o4 := rng32 i0
          have o5 := rng32 y567
          have o6 := rng32 y568
          have o7 := rng32 y635
          have o8 := rng32 y636
          have o9 : (8 : Int32).toInt = 8 := by decide
          refine own_eqI ?_
          omega
        refine own_icmpNo (pc' := 230) B X632 at_227 (teq c637).2 rfl ?_
        refine own_aload (pc' := 232) B X632 at_230 rfl rfl rfl ?_
        refine own_iload (pc' := 234) B X632 at_232 rfl rfl ?_
        refine own_iconst (pc' := 235) B X632 (z := (2 : Int32)) at_234 rfl rfl ?_
        refine own_iadd (pc' := 236) B X632 (z := (62 : Int32)) at_235 rfl (by decide) ?_
        refine own_baload (pc' := 237) B X632 V_b633 (v := (.int y570)) ⟨by decide, by decide⟩ rfl at_236 rfl ?_
        refine own_iloadN (pc' := 238) B X632 at_237 rfl rfl ?_
        refine own_bipush (pc' := 240) B X632 (z := (16 : Int32)) at_238 rfl (by decide) ?_
        obtain ⟨y638, hy638⟩ : ∃ z : Int32, i0 >>> ((16 : Int32) &&& 31) = z := ⟨_, rfl⟩
        refine own_ishr (pc' := 241) B X632 at_240 rfl hy638 ?_
        obtain ⟨y639, hy639⟩ : ∃ z : Int32, y638.toInt8.toInt32 = z := ⟨_, rfl⟩
        refine own_i2b (pc' := 242) B X632 at_241 rfl hy639 ?_
        have c640 : y570 = y639 := by
          have o0 := own_o_iushr hy574 8 (by decide) (by decide)
          have o1 := own_o_i2b hy575
          have o2 := own_o_iushr hy576 16 (by decide) (by decide)
          have o3 := own_o_i2b hy577
          have o4 := own_o_ishr hy635 8 (by decide)
          have o5 := own_o_i2b hy636
          have o6 := own_o_ishr hy638 16 (by decide)
          have o7 := own_o_i2b hy639
          have o8 := own_eq c637
          have o9 := rng32 i0
          have o10 := rng32 y567
          have o11 := rng32 y568
          have o12 := rng32 y569
          have o13 := rng32 y570
          have o14 := rng32 y635
          have o15 := rng32 y636
          have o16 := rng32 y638
          have o17 := rng32 y639
          have o18 : (8 : Int32).toInt = 8 := by decide
          have o19 : (16 : Int32).toInt = 16 := by decide
          refine own_eqI ?_
          omega
        refine own_icmpNo (pc' := 245) B X632 at_242 (teq c640).2 rfl ?_
        refine own_aload (pc' := 247) B X632 at_245 rfl rfl rfl ?_
        refine own_iload (pc' := 249) B X632 at_247 rfl rfl ?_
        refine own_iconst (pc' := 250) B X632 (z := (3 : Int32)) at_249 rfl rfl ?_
        refine own_iadd (pc' := 251) B X632 (z := (63 : Int32)) at_250 rfl (by decide) ?_
        refine own_baload (pc' := 252) B X632 V_b633 (v := (.int y572)) ⟨by decide, by decide⟩ rfl at_251 rfl ?_
        refine own_iloadN (pc' := 253) B X632 at_252 rfl rfl ?_
        refine own_bipush (pc' := 255) B X632 (z := (24 : Int32)) at_253 rfl (by decide) ?_
        obtain ⟨y641, hy641⟩ : ∃ z : Int32, i0 >>> ((24 : Int32) &&& 31) = z := ⟨_, rfl⟩
        refine own_ishr (pc' := 256) B X632 at_255 rfl hy641 ?_
        obtain ⟨y642, hy642⟩ : ∃ z : Int32, y641.toInt8.toInt32 = z := ⟨_, rfl⟩
        refine own_i2b (pc' := 257) B X632 at_256 rfl hy642 ?_
        have c643 : y572 = y642 := by
          have o0 := own_o_iushr hy574 8 (by decide) (by decide)
          have o1 := own_o_i2b hy575
          have o2 := own_o_iushr hy576 16 (by decide) (by decide)
          have o3 := own_o_i2b hy577
          have o4 := own_o_iushr hy578 24 (by decide) (by decide)
          have o5 := own_o_i2b hy579
          have o6 := own_o_ishr hy635 8 (by decide)
          have o7 := own_o_i2b hy636
          have o8 := own_o_ishr hy638 16 (by decide)
          have o9 := own_o_i2b hy639
          have o10 := own_o_ishr hy641 24 (by decide)
          have o11 := own_o_i2b hy642
          have o12 := own_eq c637
          have o13 := own_eq c640
          have o14 := rng32 i0
          have o15 := rng32 y567
          have o16 := rng32 y568
          have o17 := rng32 y569
          have o18 := rng32 y570
          have o19 := rng32 y571
          have o20 := rng32 y572
          have o21 := rng32 y635
          have o22 := rng32 y636
          have o23 := rng32 y638
          have o24 := rng32 y639
          have o25 := rng32 y641
          have o26 := rng32 y642
          have o27 : (8 : Int32).toInt = 8 := by decide
          have o28 : (16 : Int32).toInt = 16 := by decide
          have o29 : (24 : Int32).toInt = 24 := by decide
          refine own_eqI ?_
          omega
        refine own_icmpNo (pc' := 260) B X632 at_257 (teq c643).2 rfl ?_
        refine own_aload (pc' := 262) B X632 at_260 rfl rfl rfl ?_
        refine own_iload (pc' := 264) B X632 at_262 rfl rfl ?_
        refine own_iconst (pc' := 265) B X632 (z := (4 : Int32)) at_264 rfl rfl ?_
        refine own_iadd (pc' := 266) B X632 (z := (64 : Int32)) at_265 rfl (by decide) ?_
        refine own_baload (pc' := 267) B X632 V_b633 (v := (.int y556)) ⟨by decide, by decide⟩ rfl at_266 rfl ?_
        refine own_lloadN (pc' := 268) B X632 at_267 rfl rfl ?_
        refine own_l2i (pc' := 269) B X632 at_268 rfl hy555 ?_
        refine own_i2b (pc' := 270) B X632 at_269 rfl hy556 ?_
        refine own_icmpNo (pc' := 273) B X632 at_270 (teq rfl).2 rfl ?_
        refine own_aload (pc' := 275) B X632 at_273 rfl rfl rfl ?_
        refine own_iload (pc' := 277) B X632 at_275 rfl rfl ?_
        refine own_iconst (pc' := 278) B X632 (z := (5 : Int32)) at_277 rfl rfl ?_
        refine own_iadd (pc' := 279) B X632 (z := (65 : Int32)) at_278 rfl (by decide) ?_
        refine own_baload (pc' := 280) B X632 V_b633 (v := (.int y585)) ⟨by decide, by decide⟩ rfl at_279 rfl ?_
        refine own_lloadN (pc' := 281) B X632 at_280 rfl rfl ?_
        refine own_bipush (pc' := 283) B X632 (z := (8 : Int32)) at_281 rfl (by decide) ?_
        obtain ⟨y644, hy644⟩ : ∃ z : Int64, i1 >>> ((8 : Int32) &&& 0x3f).toInt64 = z := ⟨_, rfl⟩
        refine own_lshr (pc' := 284) B X632 at_283 rfl hy644 ?_
        obtain ⟨y645, hy645⟩ : ∃ z : Int32, y644.toInt32 = z := ⟨_, rfl⟩
        refine own_l2i (pc' := 285) B X632 at_284 rfl hy645 ?_
        obtain ⟨y646, hy646⟩ : ∃ z : Int32, y645.toInt8.toInt32 = z := ⟨_, rfl⟩
        refine own_i2b (pc' := 286) B X632 at_285 rfl hy646 ?_
        have c647 : y585 = y646 := by
          have o0 := own_o_lushr hy608 8 (by decide) (by decide)
          have o1 := own_o_l2i hy609
          have o2 := own_o_i2b hy610
          have o3 := own_o_lshr hy644 8 (by decide)
          have o4 := own_o_l2i hy645
          have o5 := own_o_i2b hy646
          have o6 := rng32 y584
          have o7 := rng32 y585
          have o8 := rng32 y645
          have o9 := rng32 y646
          have o10 := rng64 i1
          have o11 := rng64 y583
          have o12 := rng64 y644
          have o13 : (8 : Int32).toInt = 8 := by decide
          refine own_eqI ?_
          omega
        refine own_icmpNo (pc' := 289) B X632 at_286 (teq c647).2 rfl ?_
        refine own_aload (pc' := 291) B X632 at_289 rfl rfl rfl ?_
        refine own_iload (pc' := 293) B X632 at_291 rfl rfl ?_
        refine own_bipush (pc' := 295) B X632 (z := (6 : Int32)) at_293 rfl (by decide) ?_
        refine own_iadd (pc' := 296) B X632 (z := (66 : Int32)) at_295 rfl (by decide) ?_
        refine own_baload (pc' := 297) B X632 V_b633 (v := (.int y588)) ⟨by decide, by decide⟩ rfl at_296 rfl ?_
        refine own_lloadN (pc' := 298) B X632 at_297 rfl rfl ?_
        refine own_bipush (pc' := 300) B X632 (z := (16 : Int32)) at_298 rfl (by decide) ?_
        obtain ⟨y648, hy648⟩ : ∃ z : Int64, i1 >>> ((16 : Int32) &&& 0x3f).toInt64 = z := ⟨_, rfl⟩
        refine own_lshr (pc' := 301) B X632 at_300 rfl hy648 ?_
        obtain ⟨y649, hy649⟩ : ∃ z : Int32, y648.toInt32 = z := ⟨_, rfl⟩
        refine own_l2i (pc' := 302) B X632 at_301 rfl hy649 ?_
        obtain ⟨y650, hy650⟩ : ∃ z : Int32, y649.toInt8.toInt32 = z := ⟨_, rfl⟩
        refine own_i2b (pc' := 303) B X632 at_302 rfl hy650 ?_
        have c651 : y588 = y650 := by
          have o0 := own_o_lushr hy608 8 (by decide) (by decide)
          have o1 := own_o_l2i hy609
          have o2 := own_o_i2b hy610
          have o3 := own_o_lushr hy611 16 (by decide) (by decide)
          have o4 := own_o_l2i hy612
          have o5 := own_o_i2b hy613
          have o6 := own_o_lshr hy644 8 (by decide)
          have o7 := own_o_l2i hy645
          have o8 := own_o_i2b hy646
          have o9 := own_o_lshr hy648 16 (by decide)
          have o10 := own_o_l2i hy649
          have o11 := own_o_i2b hy650
          have o12 := own_eq c647
          have o13 := rng32 y584
          have o14 := rng32 y585
          have o15 := rng32 y587
          have o16 := rng32 y588
          have o17 := rng32 y645
          have o18 := rng32 y646
          have o19 := rng32 y649
          have o20 := rng32 y650
          have o21 := rng64 i1
          have o22 := rng64 y583
          have o23 := rng64 y586
          have o24 := rng64 y644
          have o25 := rng64 y648
          have o26 : (8 : Int32).toInt = 8 := by decide
          have o27 : (16 : Int32).toInt = 16 := by decide
          refine own_eqI ?_
          omega
        refine own_icmpNo (pc' := 306) B X632 at_303 (teq c651).2 rfl ?_
        refine own_aload (pc' := 308) B X632 at_306 rfl rfl rfl ?_
        refine own_iload (pc' := 310) B X632 at_308 rfl rfl ?_
        refine own_bipush (pc' := 312) B X632 (z := (7 : Int32)) at_310 rfl (by decide) ?_
        refine own_iadd (pc' := 313) B X632 (z := (67 : Int32)) at_312 rfl (by decide) ?_
        refine own_baload (pc' := 314) B X632 V_b633 (v := (.int y591)) ⟨by decide, by decide⟩ rfl at_313 rfl ?_
        refine own_lloadN (pc' := 315) B X632 at_314 rfl rfl ?_
        refine own_bipush (pc' := 317) B X632 (z := (24 : Int32)) at_315 rfl (by decide) ?_
        obtain ⟨y652, hy652⟩ : ∃ z : Int64, i1 >>> ((24 : Int32) &&& 0x3f).toInt64 = z := ⟨_, rfl⟩
        refine own_lshr (pc' := 318) B X632 at_317 rfl hy652 ?_
        obtain ⟨y653, hy653⟩ : ∃ z : Int32, y652.toInt32 = z := ⟨_, rfl⟩
        refine own_l2i (pc' := 319) B X632 at_318 rfl hy653 ?_
        obtain ⟨y654, hy654⟩ : ∃ z : Int32, y653.toInt8.toInt32 = z := ⟨_, rfl⟩
        refine own_i2b (pc' := 320) B X632 at_319 rfl hy654 ?_
        have c655 : y591 = y654 := by
          have o0 := own_o_lushr hy608 8 (by decide) (by decide)
          have o1 := own_o_l2i hy609
          have o2 := own_o_i2b hy610
          have o3 := own_o_lushr hy611 16 (by decide) (by decide)
          have o4 := own_o_l2i hy612
          have o5 := own_o_i2b hy613
          have o6 := own_o_lushr hy614 24 (by decide) (by decide)
          have o7 := own_o_l2i hy615
          have o8 := own_o_i2b hy616
          have o9 := own_o_lshr hy644 8 (by decide)
          have o10 := own_o_l2i hy645
          have o11 := own_o_i2b hy646
          have o12 := own_o_lshr hy648 16 (by decide)
          have o13 := own_o_l2i hy649
          have o14 := own_o_i2b hy650
          have o15 := own_o_lshr hy652 24 (by decide)
          have o16 := own_o_l2i hy653
          have o17 := own_o_i2b hy654
          have o18 := own_eq c647
          have o19 := own_eq c651
          have o20 := rng32 y584
          have o21 := rng32 y585
          have o22 := rng32 y587
          have o23 := rng32 y588
          have o24 := rng32 y590
          have o25 := rng32 y591
          have o26 := rng32 y645
          have o27 := rng32 y646
          have o28 := rng32 y649
          have o29 := rng32 y650
          have o30 := rng32 y653
          have o31 := rng32 y654
          have o32 := rng64 i1
          have o33 := rng64 y583
          have o34 := rng64 y586
          have o35 := rng64 y589
          have o36 := rng64 y644
          have o37 := rng64 y648
          have o38 := rng64 y652
          have o39 : (8 : Int32).toInt = 8 := by decide
          have o40 : (16 : Int32).toInt = 16 := by decide
          have o41 : (24 : Int32).toInt = 24 := by decide
          refine own_eqI ?_
          omega
        refine own_icmpNo (pc' := 323) B X632 at_320 (teq c655).2 rfl ?_
        refine own_aload (pc' := 325) B X632 at_323 rfl rfl rfl ?_
        refine own_iload (pc' := 327) B X632 at_325 rfl rfl ?_
        refine own_bipush (pc' := 329) B X632 (z := (8 : Int32)) at_327 rfl (by decide) ?_
        refine own_iadd (pc' := 330) B X632 (z := (68 : Int32)) at_329 rfl (by decide) ?_
        refine own_baload (pc' := 331) B X632 V_b633 (v := (.int y594)) ⟨by decide, by decide⟩ rfl at_330 rfl ?_
        refine own_lloadN (pc' := 332) B X632 at_331 rfl rfl ?_
        refine own_bipush (pc' := 334) B X632 (z := (32 : Int32)) at_332 rfl (by decide) ?_
        obtain ⟨y656, hy656⟩ : ∃ z : Int64, i1 >>> ((32 : Int32) &&& 0x3f).toInt64 = z := ⟨_, rfl⟩
        refine own_lshr (pc' := 335) B X632 at_334 rfl hy656 ?_
        obtain ⟨y657, hy657⟩ : ∃ z : Int32, y656.toInt32 = z := ⟨_, rfl⟩
        refine own_l2i (pc' := 336) B X632 at_335 rfl hy657 ?_
        obtain ⟨y658, hy658⟩ : ∃ z : Int32, y657.toInt8.toInt32 = z := ⟨_, rfl⟩
        refine own_i2b (pc' := 337) B X632 at_336 rfl hy658 ?_
        have c659 : y594 = y658 := by
          have o0 := own_o_lushr hy608 8 (by decide) (by decide)
          have o1 := own_o_l2i hy609
          have o2 := own_o_i2b hy610
          have o3 := own_o_lushr hy611 16 (by decide) (by decide)
          have o4 := own_o_l2i hy612
          have o5 := own_o_i2b hy613
          have o6 := own_o_lushr hy614 24 (by decide) (by decide)
          have o7 := own_o_l2i hy615
          have o8 := own_o_i2b hy616
          have o9 := own_o_lushr hy617 32 (by decide) (by decide)
          have o10 := own_o_l2i hy618
          have o11 := own_o_i2b hy619
          have o12 := own_o_lshr hy644 8 (by decide)
          have o13 := own_o_l2i hy645
          have o14 := own_o_i2b hy646
          have o15 := own_o_lshr hy648 16 (by decide)
          have o16 := own_o_l2i hy649
          have o17 := own_o_i2b hy650
          have o18 := own_o_lshr hy652 24 (by decide)
          have o19 := own_o_l2i hy653
          have o20 := own_o_i2b hy654
          have o21 := own_o_lshr hy656 32 (by decide)
          have o22 := own_o_l2i hy657
          have o23 := own_o_i2b hy658
          have o24 := own_eq c647
          have o25 := own_eq c651
          have o26 := own_eq c655
          have o27 := rng32 y584
          have o28 := rng32 y585
          have o29 := rng32 y587
          have o30 := rng32 y588
          have o31 := rng32 y590
          have o32 := rng32 y591
          have o33 := rng32 y593
          have o34 := rng32 y594
          have o35 := rng32 y645
          have o36 := rng32 y646
          have o37 := rng32 y649
          have o38 := rng32 y650
          have o39 := rng32 y653
          have o40 := rng32 y654
          have o41 := rng32 y657
          have o42 := rng32 y658
          have o43 := rng64 i1
          have o44 := rng64 y583
          have o45 := rng64 y586
          have o46 := rng64 y589
          have o47 := rng64 y592
          have o48 := rng64 y644
          have o49 := rng64 y648
          have o50 := rng64 y652
          have o51 := rng64 y656
          have o52 : (8 : Int32).toInt = 8 := by decide
          have o53 : (16 : Int32).toInt = 16 := by decide
          have o54 : (24 : Int32).toInt = 24 := by decide
          have o55 : (32 : Int32).toInt = 32 := by decide
          refine own_eqI ?_
          omega
        refine own_icmpNo (pc' := 340) B X632 at_337 (teq c659).2 rfl ?_
        refine own_aload (pc' := 342) B X632 at_340 rfl rfl rfl ?_
        refine own_iload (pc' := 344) B X632 at_342 rfl rfl ?_
        refine own_bipush (pc' := 346) B X632 (z := (9 : Int32)) at_344 rfl (by decide) ?_
        refine own_iadd (pc' := 347) B X632 (z := (69 : Int32)) at_346 rfl (by decide) ?_
        refine own_baload (pc' := 348) B X632 V_b633 (v := (.int y597)) ⟨by decide, by decide⟩ rfl at_347 rfl ?_
        refine own_lloadN (pc' := 349) B X632 at_348 rfl rfl ?_
        refine own_bipush (pc' := 351) B X632 (z := (40 : Int32)) at_349 rfl (by decide) ?_
        obtain ⟨y660, hy660⟩ : ∃ z : Int64, i1 >>> ((40 : Int32) &&& 0x3f).toInt64 = z := ⟨_, rfl⟩
        refine own_lshr (pc' := 352) B X632 at_351 rfl hy660 ?_
        obtain ⟨y661, hy661⟩ : ∃ z : Int32, y660.toInt32 = z := ⟨_, rfl⟩
        refine own_l2i (pc' := 353) B X632 at_352 rfl hy661 ?_
        obtain ⟨y662, hy662⟩ : ∃ z : Int32, y661.toInt8.toInt32 = z := ⟨_, rfl⟩
        refine own_i2b (pc' := 354) B X632 at_353 rfl hy662 ?_
        have c663 : y597 = y662 := by
          have o0 := own_o_lushr hy608 8 (by decide) (by decide)
          have o1 := own_o_l2i hy609
          have o2 := own_o_i2b hy610
          have o3 := own_o_lushr hy611 16 (by decide) (by decide)
          have o4 := own_o_l2i hy612
          have o5 := own_o_i2b hy613
          have o6 := own_o_lushr hy614 24 (by decide) (by decide)
          have o7 := own_o_l2i hy615
          have o8 := own_o_i2b hy616
          have o9 := own_o_lushr hy617 32 (by decide) (by decide)
          have o10 := own_o_l2i hy618
          have o11 := own_o_i2b hy619
          have o12 := own_o_lushr hy620 40 (by decide) (by decide)
          have o13 := own_o_l2i hy621
          have o14 := own_o_i2b hy622
          have o15 := own_o_lshr hy644 8 (by decide)
          have o16 := own_o_l2i hy645
          have o17 := own_o_i2b hy646
          have o18 := own_o_lshr hy648 16 (by decide)
          have o19 := own_o_l2i hy649
          have o20 := own_o_i2b hy650
          have o21 := own_o_lshr hy652 24 (by decide)
          have o22 := own_o_l2i hy653
          have o23 := own_o_i2b hy654
          have o24 := own_o_lshr hy656 32 (by decide)
          have o25 := own_o_l2i hy657
          have o26 := own_o_i2b hy658
          have o27 := own_o_lshr hy660 40 (by decide)
          have o28 := own_o_l2i hy661
          have o29 := own_o_i2b hy662
          have o30 := own_eq c647
          have o31 := own_eq c651
          have o32 := own_eq c655
          have o33 := own_eq c659
          have o34 := rng32 y584
          have o35 := rng32 y585
          have o36 := rng32 y587
          have o37 := rng32 y588
          have o38 := rng32 y590
          have o39 := rng32 y591
          have o40 := rng32 y593
          have o41 := rng32 y594
          have o42 := rng32 y596
          have o43 := rng32 y597
          have o44 := rng32 y645
          have o45 := rng32 y646
          have o46 := rng32 y649
          have o47 := rng32 y650
          have o48 := rng32 y653
          have o49 := rng32 y654
          have o50 := rng32 y657
          have o51 := rng32 y658
          have o52 := rng32 y661
          have o53 := rng32 y662
          have o54 := rng64 i1
          have o55 := rng64 y583
          have o56 := rng64 y586
          have o57 := rng64 y589
          have o58 := rng64 y592
          have o59 := rng64 y595
          have o60 := rng64 y644
          have o61 := rng64 y648
          have o62 := rng64 y652
          have o63 := rng64 y656
          have o64 := rng64 y660
          have o65 : (8 : Int32).toInt = 8 := by decide
          have o66 : (16 : Int32).toInt = 16 := by decide
          have o67 : (24 : Int32).toInt = 24 := by decide
          have o68 : (32 : Int32).toInt = 32 := by decide
          have o69 : (40 : Int32).toInt = 40 := by decide
          refine own_eqI ?_
          omega
        refine own_icmpNo (pc' := 357) B X632 at_354 (teq c663).2 rfl ?_
        refine own_aload (pc' := 359) B X632 at_357 rfl rfl rfl ?_
        refine own_iload (pc' := 361) B X632 at_359 rfl rfl ?_
        refine own_bipush (pc' := 363) B X632 (z := (10 : Int32)) at_361 rfl (by decide) ?_
        refine own_iadd (pc' := 364) B X632 (z := (70 : Int32)) at_363 rfl (by decide) ?_
        refine own_baload (pc' := 365) B X632 V_b633 (v := (.int y600)) ⟨by decide, by decide⟩ rfl at_364 rfl ?_
        refine own_lloadN (pc' := 366) B X632 at_365 rfl rfl ?_
        refine own_bipush (pc' := 368) B X632 (z := (48 : Int32)) at_366 rfl (by decide) ?_
        obtain ⟨y664, hy664⟩ : ∃ z : Int64, i1 >>> ((48 : Int32) &&& 0x3f).toInt64 = z := ⟨_, rfl⟩
        refine own_lshr (pc' := 369) B X632 at_368 rfl hy664 ?_
        obtain ⟨y665, hy665⟩ : ∃ z : Int32, y664.toInt32 = z := ⟨_, rfl⟩
        refine own_l2i (pc' := 370) B X632 at_369 rfl hy665 ?_
        obtain ⟨y666, hy666⟩ : ∃ z : Int32, y665.toInt8.toInt32 = z := ⟨_, rfl⟩
        refine own_i2b (pc' := 371) B X632 at_370 rfl hy666 ?_
        have c667 : y600 = y666 := by
          have o0 := own_o_lushr hy608 8 (by decide) (by decide)
          have o1 := own_o_l2i hy609
          have o2 := own_o_i2b hy610
          have o3 := own_o_lushr hy611 16 (by decide) (by decide)
          have o4 := own_o_l2i hy612
          have o5 := own_o_i2b hy613
          have o6 := own_o_lushr hy614 24 (by decide) (by decide)
          have o7 := own_o_l2i hy615
          have o8 := own_o_i2b hy616
          have o9 := own_o_lushr hy617 32 (by decide) (by decide)
          have o10 := own_o_l2i hy618
          have o11 := own_o_i2b hy619
          have o12 := own_o_lushr hy620 40 (by decide) (by decide)
          have o13 := own_o_l2i hy621
          have o14 := own_o_i2b hy622
          have o15 := own_o_lushr hy623 48 (by decide) (by decide)
          have o16 := own_o_l2i hy624
          have o17 := own_o_i2b hy625
          have o18 := own_o_lshr hy644 8 (by decide)
          have o19 := own_o_l2i hy645
          have o20 := own_o_i2b hy646
          have o21 := own_o_lshr hy648 16 (by decide)
          have o22 := own_o_l2i hy649
          have o23 := own_o_i2b hy650
          have o24 := own_o_lshr hy652 24 (by decide)
          have o25 := own_o_l2i hy653
          have o26 := own_o_i2b hy654
          have o27 := own_o_lshr hy656 32 (by decide)
          have o28 := own_o_l2i hy657
          have o29 := own_o_i2b hy658
          have o30 := own_o_lshr hy660 40 (by decide)
          have o31 := own_o_l2i hy661
          have o32 := own_o_i2b hy662
          have o33 := own_o_lshr hy664 48 (by decide)
          have o34 := own_o_l2i hy665
          have o35 := own_o_i2b hy666
          have o36 := own_eq c647
          have o37 := own_eq c651
          have o38 := own_eq c655
          have o39 := own_eq c659
          have o40 := own_eq c663
          have o41 := rng32 y584
          have o42 := rng32 y585
          have o43 := rng32 y587
          have o44 := rng32 y588
          have o45 := rng32 y590
          have o46 := rng32 y591
          have o47 := rng32 y593
          have o48 := rng32 y594
          have o49 := rng32 y596
          have o50 := rng32 y597
          have o51 := rng32 y599
          have o52 := rng32 y600
          have o53 := rng32 y645
          have o54 := rng32 y646
          have o55 := rng32 y649
          have o56 := rng32 y650
          have o57 := rng32 y653
          have o58 := rng32 y654
          have o59 := rng32 y657
          have o60 := rng32 y658
          have o61 := rng32 y661
          have o62 := rng32 y662
          have o63 := rng32 y665
          have o64 := rng32 y666
          have o65 := rng64 i1
          have o66 := rng64 y583
          have o67 := rng64 y586
          have o68 := rng64 y589
          have o69 := rng64 y592
          have o70 := rng64 y595
          have o71 := rng64 y598
          have o72 := rng64 y644
          have o73 := rng64 y648
          have o74 := rng64 y652
          have o75 := rng64 y656
          have o76 := rng64 y660
          have o77 := rng64 y664
          have o78 : (8 : Int32).toInt = 8 := by decide
          have o79 : (16 : Int32).toInt = 16 := by decide
          have o80 : (24 : Int32).toInt = 24 := by decide
          have o81 : (32 : Int32).toInt = 32 := by decide
          have o82 : (40 : Int32).toInt = 40 := by decide
          have o83 : (48 : Int32).toInt = 48 := by decide
          refine own_eqI ?_
          omega
        refine own_icmpNo (pc' := 374) B X632 at_371 (teq c667).2 rfl ?_
        refine own_aload (pc' := 376) B X632 at_374 rfl rfl rfl ?_
        refine own_iload (pc' := 378) B X632 at_376 rfl rfl ?_
        refine own_bipush (pc' := 380) B X632 (z := (11 : Int32)) at_378 rfl (by decide) ?_
        refine own_iadd (pc' := 381) B X632 (z := (71 : Int32)) at_380 rfl (by decide) ?_
        refine own_baload (pc' := 382) B X632 V_b633 (v := (.int y603)) ⟨by decide, by decide⟩ rfl at_381 rfl ?_
        refine own_lloadN (pc' := 383) B X632 at_382 rfl rfl ?_
        refine own_bipush (pc' := 385) B X632 (z := (56 : Int32)) at_383 rfl (by decide) ?_
        obtain ⟨y668, hy668⟩ : ∃ z : Int64, i1 >>> ((56 : Int32) &&& 0x3f).toInt64 = z := ⟨_, rfl⟩
        refine own_lshr (pc' := 386) B X632 at_385 rfl hy668 ?_
        obtain ⟨y669, hy669⟩ : ∃ z : Int32, y668.toInt32 = z := ⟨_, rfl⟩
        refine own_l2i (pc' := 387) B X632 at_386 rfl hy669 ?_
        obtain ⟨y670, hy670⟩ : ∃ z : Int32, y669.toInt8.toInt32 = z := ⟨_, rfl⟩
        refine own_i2b (pc' := 388) B X632 at_387 rfl hy670 ?_
        have c671 : y603 = y670 := by
          have o0 := own_o_lushr hy608 8 (by decide) (by decide)
          have o1 := own_o_l2i hy609
          have o2 := own_o_i2b hy610
          have o3 := own_o_lushr hy611 16 (by decide) (by decide)
          have o4 := own_o_l2i hy612
          have o5 := own_o_i2b hy613
          have o6 := own_o_lushr hy614 24 (by decide) (by decide)
          have o7 := own_o_l2i hy615
          have o8 := own_o_i2b hy616
          have o9 := own_o_lushr hy617 32 (by decide) (by decide)
          have o10 := own_o_l2i hy618
          have o11 := own_o_i2b hy619
          have o12 := own_o_lushr hy620 40 (by decide) (by decide)
          have o13 := own_o_l2i hy621
          have o14 := own_o_i2b hy622
          have o15 := own_o_lushr hy623 48 (by decide) (by decide)
          have o16 := own_o_l2i hy624
          have o17 := own_o_i2b hy625
          have o18 := own_o_lushr hy626 56 (by decide) (by decide)
          have o19 := own_o_l2i hy627
          have o20 := own_o_i2b hy628
          have o21 := own_o_lshr hy644 8 (by decide)
          have o22 := own_o_l2i hy645
          have o23 := own_o_i2b hy646
          have o24 := own_o_lshr hy648 16 (by decide)
          have o25 := own_o_l2i hy649
          have o26 := own_o_i2b hy650
          have o27 := own_o_lshr hy652 24 (by decide)
          have o28 := own_o_l2i hy653
          have o29 := own_o_i2b hy654
          have o30 := own_o_lshr hy656 32 (by decide)
          have o31 := own_o_l2i hy657
          have o32 := own_o_i2b hy658
          have o33 := own_o_lshr hy660 40 (by decide)
          have o34 := own_o_l2i hy661
          have o35 := own_o_i2b hy662
          have o36 := own_o_lshr hy664 48 (by decide)
          have o37 := own_o_l2i hy665
          have o38 := own_o_i2b hy666
          have o39 := own_o_lshr hy668 56 (by decide)
          have o40 := own_o_l2i hy669
          have o41 := own_o_i2b hy670
          have o42 := own_eq c647
          have o43 := own_eq c651
          have o44 := own_eq c655
          have o45 := own_eq c659
          have o46 := own_eq c663
          have o47 := own_eq c667
          have o48 := rng32 y584
          have o49 := rng32 y585
          have o50 := rng32 y587
          have o51 := rng32 y588
          have o52 := rng32 y590
          have o53 := rng32 y591
          have o54 := rng32 y593
          have o55 := rng32 y594
          have o56 := rng32 y596
          have o57 := rng32 y597
          have o58 := rng32 y599
          have o59 := rng32 y600
          have o60 := rng32 y602
          have o61 := rng32 y603
          have o62 := rng32 y645
          have o63 := rng32 y646
          have o64 := rng32 y649
          have o65 := rng32 y650
          have o66 := rng32 y653
          have o67 := rng32 y654
          have o68 := rng32 y657
          have o69 := rng32 y658
          have o70 := rng32 y661
          have o71 := rng32 y662
          have o72 := rng32 y665
          have o73 := rng32 y666
          have o74 := rng32 y669
          have o75 := rng32 y670
          have o76 := rng64 i1
          have o77 := rng64 y583
          have o78 := rng64 y586
          have o79 := rng64 y589
          have o80 := rng64 y592
          have o81 := rng64 y595
          have o82 := rng64 y598
          have o83 := rng64 y601
          have o84 := rng64 y644
          have o85 := rng64 y648
          have o86 := rng64 y652
          have o87 := rng64 y656
          have o88 := rng64 y660
          have o89 := rng64 y664
          have o90 := rng64 y668
          have o91 : (8 : Int32).toInt = 8 := by decide
          have o92 : (16 : Int32).toInt = 16 := by decide
          have o93 : (24 : Int32).toInt = 24 := by decide
          have o94 : (32 : Int32).toInt = 32 := by decide
          have o95 : (40 : Int32).toInt = 40 := by decide
          have o96 : (48 : Int32).toInt = 48 := by decide
          have o97 : (56 : Int32).toInt = 56 := by decide
          refine own_eqI ?_
          omega
        refine own_icmpNo (pc' := 391) B X632 at_388 (teq c671).2 rfl ?_
        refine own_aload (pc' := 393) B X632 at_391 rfl rfl rfl ?_
        refine own_iload (pc' := 395) B X632 at_393 rfl rfl ?_
        refine own_bipush (pc' := 397) B X632 (z := (12 : Int32)) at_395 rfl (by decide) ?_
        refine own_iadd (pc' := 398) B X632 (z := (72 : Int32)) at_397 rfl (by decide) ?_
        refine own_baload (pc' := 399) B X632 V_b633 (v := (.int y558)) ⟨by decide, by decide⟩ rfl at_398 rfl ?_
        refine own_iloadN (pc' := 400) B X632 at_399 rfl rfl ?_
        refine own_i2b (pc' := 401) B X632 at_400 rfl hy558 ?_
        refine own_icmpNo (pc' := 404) B X632 at_401 (teq rfl).2 rfl ?_
        refine own_iconst (pc' := 405) B X632 (z := (1 : Int32)) at_404 rfl rfl ?_
        refine own_goto (pc' := 409) B X632 at_405 (by decide) rfl ?_
        refine own_istore (pc' := 411) B X632 (Ls' := #[.val (.int i0), .val (.long i1), .second, .val (.int i2), .val (.int i3), .val (.int (1 : Int32)), .val (.int (0 : Int32)), .val (.int (1 : Int32)), .val (.ref b554), .val (.ref b560), .val (.ref b633), .val (.int (1 : Int32)), .val (.int (60 : Int32)), .unset]) at_409 rfl rfl ?_
        refine own_iload (pc' := 413) B X632 at_411 rfl rfl ?_
        refine own_ifNo (pc' := 416) B X632 at_413 ((if0 _ _).trans (feq (by decide : ¬ ((1 : Int32) = (0 : Int32)))).1) rfl ?_
        refine own_iload (pc' := 418) B X632 at_416 rfl rfl ?_
        refine own_ifNo (pc' := 421) B X632 at_418 ((if0 _ _).trans (feq (by decide : ¬ ((1 : Int32) = (0 : Int32)))).1) rfl ?_
        refine own_aload (pc' := 423) B X632 at_421 rfl rfl rfl ?_
        refine own_iconst (pc' := 424) B X632 (z := (0 : Int32)) at_423 rfl rfl ?_
        refine own_baload (pc' := 425) B X632 V_b633 (v := (.int y556)) ⟨by decide, by decide⟩ rfl at_424 rfl ?_
        refine own_lloadN (pc' := 426) B X632 at_425 rfl rfl ?_
        refine own_l2i (pc' := 427) B X632 at_426 rfl hy555 ?_
        refine own_i2b (pc' := 428) B X632 at_427 rfl hy556 ?_
        refine own_icmpNo (pc' := 431) B X632 at_428 (teq rfl).2 rfl ?_
        refine own_aload (pc' := 433) B X632 at_431 rfl rfl rfl ?_
        refine own_iconst (pc' := 434) B X632 (z := (1 : Int32)) at_433 rfl rfl ?_
        refine own_baload (pc' := 435) B X632 V_b633 (v := (.int (0 : Int32))) ⟨by decide, by decide⟩ rfl at_434 rfl ?_
        refine own_ifNo (pc' := 438) B X632 at_435 ((if0 _ _).trans (teq (by decide : (0 : Int32) = (0 : Int32))).2) rfl ?_
        refine own_aload (pc' := 440) B X632 at_438 rfl rfl rfl ?_
        refine own_bipush (pc' := 442) B X632 (z := (58 : Int32)) at_440 rfl (by decide) ?_
        refine own_baload (pc' := 443) B X632 V_b633 (v := (.int (0 : Int32))) ⟨by decide, by decide⟩ rfl at_442 rfl ?_
        refine own_ifNo (pc' := 446) B X632 at_443 ((if0 _ _).trans (teq (by decide : (0 : Int32) = (0 : Int32))).2) rfl ?_
        refine own_aload (pc' := 448) B X632 at_446 rfl rfl rfl ?_
        refine own_bipush (pc' := 450) B X632 (z := (59 : Int32)) at_448 rfl (by decide) ?_
        refine own_baload (pc' := 451) B X632 V_b633 (v := (.int y558)) ⟨by decide, by decide⟩ rfl at_450 rfl ?_
        refine own_iloadN (pc' := 452) B X632 at_451 rfl rfl ?_
        refine own_i2b (pc' := 453) B X632 at_452 rfl hy558 ?_
        refine own_icmpNo (pc' := 456) B X632 at_453 (teq rfl).2 rfl ?_
        refine own_iconst (pc' := 457) B X632 (z := (1 : Int32)) at_456 rfl rfl ?_
        refine own_goto (pc' := 461) B X632 at_457 (by decide) rfl ?_
        refine own_istore (pc' := 463) B X632 (Ls' := #[.val (.int i0), .val (.long i1), .second, .val (.int i2), .val (.int i3), .val (.int (1 : Int32)), .val (.int (0 : Int32)), .val (.int (1 : Int32)), .val (.ref b554), .val (.ref b560), .val (.ref b633), .val (.int (1 : Int32)), .val (.int (60 : Int32)), .unset]) at_461 rfl rfl ?_
        refine own_iload (pc' := 465) B X632 at_463 rfl rfl ?_
        refine own_ifYes (pc' := 470) B X632 at_465 ((if0 _ _).trans (feq (by decide : ¬ ((1 : Int32) = (0 : Int32)))).2) (by decide) rfl ?_
        refine own_aload (pc' := 472) B X632 at_470 rfl rfl rfl ?_
        refine own_callV (pc' := 475) B X632 (own_w hw 50 rfl) (own_w hw 51 rfl) (own_w hw 53 rfl) (own_w hw 52 rfl) (own_w hw 3 rfl) (own_w hw 54 rfl) E_b560 (by decide) [] [] (rm_38 l Z a0 hw [] b560 b604 k605 (y556) (y558) (y566) (y568) (y570) (y572) (y585) (y588) (y591) (y594) (y597) (y600) (y603) h632 n0 (Nat.le_trans Z0 K.1) E_b560 F_b560_bytes F_b560_size g_b560 E_b604 V_b604 g_b604 ne_b560_b604) 0 (by decide) (by decide) rfl pd_6 rfl rfl (Nat.le_of_eq rfl) at_472 rfl (k' := 5) (n' := 327) rfl rfl (by decide) (by decide) ?_
        intro T672 v672 h672 X672 q672
        obtain ⟨rfl, rfl⟩ := q672
        show own_Go p e below (T672.setTop (mkF m 475 #[.val (.int i0), .val (.long i1), .second, .val (.int i2), .val (.int i3), .val (.int (1 : Int32)), .val (.int (0 : Int32)), .val (.int (1 : Int32)), .val (.ref b554), .val (.ref b560), .val (.ref b633), .val (.int (1 : Int32)), .val (.int (60 : Int32)), .unset] [(.int (73 : Int32))])) _
        refine own_aload (pc' := 477) B X672 at_475 rfl rfl rfl ?_
        refine own_arraylength (pc' := 478) B X672 V_b633 at_477 rfl ?_
        refine own_icmpYes (pc' := 483) B X672 at_478 (teq (by decide : (73 : Int32) = (73 : Int32))).1 (by decide) rfl ?_
        refine own_aload (pc' := 485) B X672 at_483 rfl rfl rfl ?_
        refine own_arraylength (pc' := 486) B X672 V_b633 at_485 rfl ?_
        refine own_ifYes (pc' := 508) B X672 at_486 ((if0 _ _).trans (feq (by decide : ¬ ((73 : Int32) = (0 : Int32)))).2) (by decide) rfl ?_
        refine own_aload (pc' := 510) B X672 at_508 rfl rfl rfl ?_
        refine own_iconst (pc' := 511) B X672 (z := (0 : Int32)) at_510 rfl rfl ?_
        refine own_baload (pc' := 512) B X672 V_b633 (v := (.int y556)) ⟨by decide, by decide⟩ rfl at_511 rfl ?_
        refine own_istore (pc' := 514) B X672 (Ls' := #[.val (.int i0), .val (.long i1), .second, .val (.int i2), .val (.int i3), .val (.int (1 : Int32)), .val (.int (0 : Int32)), .val (.int (1 : Int32)), .val (.ref b554), .val (.ref b560), .val (.ref b633), .val (.int (1 : Int32)), .val (.int y556), .unset]) at_512 rfl rfl ?_
        refine own_aload (pc' := 516) B X672 at_514 rfl rfl rfl ?_
        refine own_iconst (pc' := 517) B X672 (z := (0 : Int32)) at_516 rfl rfl ?_
        refine own_iload (pc' := 519) B X672 at_517 rfl rfl ?_
        refine own_iconst (pc' := 520) B X672 (z := (1 : Int32)) at_519 rfl rfl ?_
        obtain ⟨y673, hy673⟩ : ∃ z : Int32, y556 ^^^ (1 : Int32) = z := ⟨_, rfl⟩
        refine own_ixor (pc' := 521) B X672 at_520 rfl hy673 ?_
        obtain ⟨y674, hy674⟩ : ∃ z : Int32, y673.toInt8.toInt32 = z := ⟨_, rfl⟩
        refine own_i2b (pc' := 522) B X672 at_521 rfl hy674 ?_
        refine own_bastore (pc' := 523) B X672 (x' := y674) V_b633 g_b633 ⟨by decide, by decide⟩ 0 (by decide) (Nat.le_of_ble_eq_true rfl) (own_idem_i2b hy674) at_522 rfl ?_
        intro T675 h675 X675 W675 V_b633
        replace V_b633 : Arv Z h675 b633 k634 .byte (73 : Int32) ((.int y674) :: (.int (0 : Int32)) :: (.int (0 : Int32)) :: (.int (0 : Int32)) :: (.int (0 : Int32)) :: (.int (0 : Int32)) :: (.int (0 : Int32)) :: (.int (0 : Int32)) :: (.int (0 : Int32)) :: (.int (0 : Int32)) :: (.int (0 : Int32)) :: (.int (0 : Int32)) :: (.int (0 : Int32)) :: (.int (0 : Int32)) :: (.int (0 : Int32)) :: (.int (0 : Int32)) :: (.int (0 : Int32)) :: (.int (0 : Int32)) :: (.int (0 : Int32)) :: (.int (0 : Int32)) :: (.int (0 : Int32)) :: (.int (0 : Int32)) :: (.int (0 : Int32)) :: (.int (0 : Int32)) :: (.int (0 : Int32)) :: (.int (0 : Int32)) :: (.int (0 : Int32)) :: (.int (0 : Int32)) :: (.int (0 : Int32)) :: (.int (0 : Int32)) :: (.int (0 : Int32)) :: (.int (0 : Int32)) :: (.int (0 : Int32)) :: (.int (0 : Int32)) :: (.int (0 : Int32)) :: (.int (0 : Int32)) :: (.int (0 : Int32)) :: (.int (0 : Int32)) :: (.int (0 : Int32)) :: (.int (0 : Int32)) :: (.int (0 : Int32)) :: (.int (0 : Int32)) :: (.int (0 : Int32)) :: (.int (0 : Int32)) :: (.int (0 : Int32)) :: (.int (0 : Int32)) :: (.int (0 : Int32)) :: (.int (0 : Int32)) :: (.int (0 : Int32)) :: (.int (0 : Int32)) :: (.int (0 : Int32)) :: (.int (0 : Int32)) :: (.int (0 : Int32)) :: (.int (0 : Int32)) :: (.int (0 : Int32)) :: (.int (0 : Int32)) :: (.int (0 : Int32)) :: (.int (0 : Int32)) :: (.int (0 : Int32)) :: (.int y558) :: (.int y566) :: (.int y568) :: (.int y570) :: (.int y572) :: (.int y556) :: (.int y585) :: (.int y588) :: (.int y591) :: (.int y594) :: (.int y597) :: (.int y600) :: (.int y603) :: (.int y558) :: []) (.int (0 : Int32)) := V_b633
        replace E_b554 := E_b554.wr W675
        replace V_b554 := V_b554.other W675 ne_b554_b633
        replace E_b560 := E_b560.wr W675
        replace F_b560_bytes := F_b560_bytes.other W675 (Or.inl ne_b560_b633)
        replace F_b560_size := F_b560_size.other W675 (Or.inl ne_b560_b633)
        replace E_b562 := E_b562.wr W675
        replace V_b562 := V_b562.other W675 ne_b562_b633
        replace E_b604 := E_b604.wr W675
        replace V_b604 := V_b604.other W675 ne_b604_b633
        replace E_b633 := E_b633.wr W675
        replace K := K.wr W675 (Or.inr sz_b633)
        refine own_aload (pc' := 525) B X675 at_523 rfl rfl rfl ?_
        refine own_callV (pc' := 528) B X675 (own_w hw 33 rfl) (own_w hw 34 rfl) (own_w hw 36 rfl) (own_w hw 35 rfl) (own_w hw 3 rfl) (own_w hw 37 rfl) E_b560 (by decide) [] [] (rm_35 l Z a0 hw [] b560 b604 k605 (y556) (y558) (y566) (y568) (y570) (y572) (y585) (y588) (y591) (y594) (y597) (y600) (y603) h675 n0 (Nat.le_trans Z0 K.1) E_b560 F_b560_bytes F_b560_size g_b560 E_b604 V_b604 g_b604 ne_b560_b604) 0 (by decide) (by decide) rfl pd_5 rfl rfl (Nat.le_of_eq rfl) at_525 rfl (k' := 6) (n' := 400) rfl rfl (by decide) (by decide) ?_
        intro T676 v676 h676 X676 q676
        have lt_b554 := E_b554.lt
        have lt_b560 := E_b560.lt
        have lt_b562 := E_b562.lt
        have lt_b604 := E_b604.lt
        have lt_b633 := E_b633.lt
        obtain ⟨b677, k678, rfl, K676, z_b677, E_b677, V_b677⟩ := q676
        have ne_b554_b677 : b554 ≠ b677 := own_ne' lt_b554 z_b677
        have ne_b560_b677 : b560 ≠ b677 := own_ne' lt_b560 z_b677
        have ne_b562_b677 : b562 ≠ b677 := own_ne' lt_b562 z_b677
        have ne_b604_b677 : b604 ≠ b677 := own_ne' lt_b604 z_b677
        have ne_b633_b677 : b633 ≠ b677 := own_ne' lt_b633 z_b677
        have sz_b677 : h0.size ≤ b677 := Nat.le_trans K.1 z_b677
        have g_b677 : n0 ≤ b677 := Nat.le_trans Z0 sz_b677
        replace K := K.trans K676 all0
        replace E_b554 := E_b554.keep K676
        replace V_b554 := V_b554.keep K676 nin0
        replace E_b560 := E_b560.keep K676
        replace F_b560_bytes := F_b560_bytes.keep K676 nin0
        replace F_b560_size := F_b560_size.keep K676 nin0
        replace E_b562 := E_b562.keep K676
        replace V_b562 := V_b562.keep K676 nin0
        replace E_b604 := E_b604.keep K676
        replace V_b604 := V_b604.keep K676 nin0
        replace E_b633 := E_b633.keep K676
        replace V_b633 := V_b633.keep K676 nin0
        show own_Go p e below (T676.setTop (mkF m 528 #[.val (.int i0), .val (.long i1), .second, .val (.int i2), .val (.int i3), .val (.int (1 : Int32)), .val (.int (0 : Int32)), .val (.int (1 : Int32)), .val (.ref b554), .val (.ref b560), .val (.ref b633), .val (.int (1 : Int32)), .val (.int y556), .unset] [(.ref b677)])) _
        refine own_astore (pc' := 530) B X676 (Ls' := #[.val (.int i0), .val (.long i1), .second, .val (.int i2), .val (.int i3), .val (.int (1 : Int32)), .val (.int (0 : Int32)), .val (.int (1 : Int32)), .val (.ref b554), .val (.ref b560), .val (.ref b633), .val (.int (1 : Int32)), .val (.int y556), .val (.ref b677)]) at_528 rfl rfl rfl ?_
        refine own_aload (pc' := 532) B X676 at_530 rfl rfl rfl ?_
        refine own_aload (pc' := 534) B X676 at_532 rfl rfl rfl ?_
        refine own_acmp B X676 rfl rfl (same := false) at_534 (decide_eq_false fun q => (Ne.symm ne_b633_b677) (Value.ref.inj q)) (by decide) (pc' := 537) (by decide) ?_
        refine own_aload (pc' := 539) B X676 at_537 rfl rfl rfl ?_
        refine own_arraylength (pc' := 540) B X676 V_b677 at_539 rfl ?_
        refine own_aload (pc' := 542) B X676 at_540 rfl rfl rfl ?_
        refine own_arraylength (pc' := 543) B X676 V_b633 at_542 rfl ?_
        refine own_icmpNo (pc' := 546) B X676 at_543 (teq (by decide : (73 : Int32) = (73 : Int32))).2 rfl ?_
        refine own_aload (pc' := 548) B X676 at_546 rfl rfl rfl ?_
        refine own_iconst (pc' := 549) B X676 (z := (0 : Int32)) at_548 rfl rfl ?_
        refine own_baload (pc' := 550) B X676 V_b677 (v := (.int y556)) ⟨by decide, by decide⟩ rfl at_549 rfl ?_
        refine own_iload (pc' := 552) B X676 at_550 rfl rfl ?_
        refine own_icmpNo (pc' := 555) B X676 at_552 (teq rfl).2 rfl ?_
        refine own_iconst (pc' := 556) B X676 (z := (1 : Int32)) at_555 rfl rfl ?_
        refine own_goto (pc' := 560) B X676 at_556 (by decide) rfl ?_
        exact own_retN B X676 (t := .boolean) (z' := (1 : Int32)) (by simp) (by decide) at_560 (by decide) (by decide) rfl
    · refine own_ifNo (pc' := 21) B X0 at_18 ((if0 _ _).trans (feq c426).1) rfl ?_
      refine own_iconst (pc' := 22) B X0 (z := (1 : Int32)) at_21 rfl rfl ?_
      refine own_goto (pc' := 26) B X0 at_22 (by decide) rfl ?_
      refine own_istore (pc' := 28) B X0 (Ls' := #[.val (.int i0), .val (.long i1), .second, .val (.int i2), .val (.int i3), .val (.int (1 : Int32)), .val (.int (1 : Int32)), .unset, .unset, .unset, .unset, .unset, .unset, .unset]) at_26 rfl rfl ?_
      refine own_iload (pc' := 30) B X0 at_28 rfl rfl ?_
      refine own_iconst (pc' := 31) B X0 (z := (4 : Int32)) at_30 rfl rfl ?_
      obtain ⟨y679, hy679⟩ : ∃ z : Int32, i3 &&& (4 : Int32) = z := ⟨_, rfl⟩
      refine own_iand (pc' := 32) B X0 at_31 rfl hy679 ?_
      by_cases c680 : y679 = (0 : Int32)
      · refine own_ifYes (pc' := 39) B X0 at_32 ((if0 _ _).trans (teq c680).1) (by decide) rfl ?_
        refine own_iconst (pc' := 40) B X0 (z := (0 : Int32)) at_39 rfl rfl ?_
        refine own_istore (pc' := 42) B X0 (Ls' := #[.val (.int i0), .val (.long i1), .second, .val (.int i2), .val (.int i3), .val (.int (1 : Int32)), .val (.int (1 : Int32)), .val (.int (0 : Int32)), .unset, .unset, .unset, .unset, .unset, .unset]) at_40 rfl rfl ?_
        refine own_bipush (pc' := 44) B X0 (z := (60 : Int32)) at_42 rfl (by decide) ?_
        refine own_newarray (pc' := 46) B X0 (own_w hw 0 rfl) at_44 rfl rfl (by decide) 60 (by decide) (by decide) (k' := 1) (n' := 60) rfl rfl (by decide) (by decide) "[B" (by decide) (.int (0 : Int32)) rfl ?_
        intro T681 h681 b681 kb681 X681 g681 E681 V_b681 E_b681
        have sz_b681 : h0.size ≤ b681 := own_sz K g681
        have g_b681 : n0 ≤ b681 := Nat.le_trans Z0 sz_b681
        replace K := K.ext E681
        refine own_astore (pc' := 48) B X681 (Ls' := #[.val (.int i0), .val (.long i1), .second, .val (.int i2), .val (.int i3), .val (.int (1 : Int32)), .val (.int (1 : Int32)), .val (.int (0 : Int32)), .val (.ref b681), .unset, .unset, .unset, .unset, .unset]) at_46 rfl rfl rfl ?_
        refine own_aload (pc' := 50) B X681 at_48 rfl rfl rfl ?_
        refine own_iconst (pc' := 51) B X681 (z := (0 : Int32)) at_50 rfl rfl ?_
        refine own_lloadN (pc' := 52) B X681 at_51 rfl rfl ?_
        obtain ⟨y682, hy682⟩ : ∃ z : Int32, i1.toInt32 = z := ⟨_, rfl⟩
        refine own_l2i (pc' := 53) B X681 at_52 rfl hy682 ?_
        obtain ⟨y683, hy683⟩ : ∃ z : Int32, y682.toInt8.toInt32 = z := ⟨_, rfl⟩
        refine own_i2b (pc' := 54) B X681 at_53 rfl hy683 ?_
        replace V_b681 : Arv Z h681 b681 kb681 .byte (60 : Int32) [(.int (0 : Int32))] (.int (0 : Int32)) := V_b681.pad (pad_rep [] (.int (0 : Int32)) 1)
        refine own_bastore (pc' := 55) B X681 (x' := y683) V_b681 g_b681 ⟨by decide, by decide⟩ 0 (by decide) (Nat.le_of_ble_eq_true rfl) (own_idem_i2b hy683) at_54 rfl ?_
        intro T684 h684 X684 W684 V_b681
        replace V_b681 : Arv Z h684 b681 kb681 .byte (60 : Int32) [(.int y683)] (.int (0 : Int32)) := V_b681
        replace E_b681 := E_b681.wr W684
        replace K := K.wr W684 (Or.inr sz_b681)
        refine own_aload (pc' := 57) B X684 at_55 rfl rfl rfl ?_
        refine own_bipush (pc' := 59) B X684 (z := (59 : Int32)) at_57 rfl (by decide) ?_
        refine own_iloadN (pc' := 60) B X684 at_59 rfl rfl ?_
        obtain ⟨y685, hy685⟩ : ∃ z : Int32, i2.toInt8.toInt32 = z := ⟨_, rfl⟩
        refine own_i2b (pc' := 61) B X684 at_60 rfl hy685 ?_
        replace V_b681 : Arv Z h684 b681 kb681 .byte (60 : Int32) ((.int y683) :: (.int (0 : Int32)) :: (.int (0 : Int32)) :: (.int (0 : Int32)) :: (.int (0 : Int32)) :: (.int (0 : Int32)) :: (.int (0 : Int32)) :: (.int (0 : Int32)) :: (.int (0 : Int32)) :: (.int (0 : Int32)) :: (.int (0 : Int32)) :: (.int (0 : Int32)) :: (.int (0 : Int32)) :: (.int (0 : Int32)) :: (.int (0 : Int32)) :: (.int (0 : Int32)) :: (.int (0 : Int32)) :: (.int (0 : Int32)) :: (.int (0 : Int32)) :: (.int (0 : Int32)) :: (.int (0 : Int32)) :: (.int (0 : Int32)) :: (.int (0 : Int32)) :: (.int (0 : Int32)) :: (.int (0 : Int32)) :: (.int (0 : Int32)) :: (.int (0 : Int32)) :: (.int (0 : Int32)) :: (.int (0 : Int32)) :: (.int (0 : Int32)) :: (.int (0 : Int32)) :: (.int (0 : Int32)) :: (.int (0 : Int32)) :: (.int (0 : Int32)) :: (.int (0 : Int32)) :: (.int (0 : Int32)) :: (.int (0 : Int32)) :: (.int (0 : Int32)) :: (.int (0 : Int32)) :: (.int (0 : Int32)) :: (.int (0 : Int32)) :: (.int (0 : Int32)) :: (.int (0 : Int32)) :: (.int (0 : Int32)) :: (.int (0 : Int32)) :: (.int (0 : Int32)) :: (.int (0 : Int32)) :: (.int (0 : Int32)) :: (.int (0 : Int32)) :: (.int (0 : Int32)) :: (.int (0 : Int32)) :: (.int (0 : Int32)) :: (.int (0 : Int32)) :: (.int (0 : Int32)) :: (.int (0 : Int32)) :: (.int (0 : Int32)) :: (.int (0 : Int32)) :: (.int (0 : Int32)) :: (.int (0 : Int32)) :: (.int (0 : Int32)) :: []) (.int (0 : Int32)) := V_b681.pad (pad_rep [(.int y683)] (.int (0 : Int32)) 59)
        refine own_bastore (pc' := 62) B X684 (x' := y685) V_b681 g_b681 ⟨by decide, by decide⟩ 59 (by decide) (Nat.le_of_ble_eq_true rfl) (own_idem_i2b hy685) at_61 rfl ?_
        intro T686 h686 X686 W686 V_b681
        replace V_b681 : Arv Z h686 b681 kb681 .byte (60 : Int32) ((.int y683) :: (.int (0 : Int32)) :: (.int (0 : Int32)) :: (.int (0 : Int32)) :: (.int (0 : Int32)) :: (.int (0 : Int32)) :: (.int (0 : Int32)) :: (.int (0 : Int32)) :: (.int (0 : Int32)) :: (.int (0 : Int32)) :: (.int (0 : Int32)) :: (.int (0 : Int32)) :: (.int (0 : Int32)) :: (.int (0 : Int32)) :: (.int (0 : Int32)) :: (.int (0 : Int32)) :: (.int (0 : Int32)) :: (.int (0 : Int32)) :: (.int (0 : Int32)) :: (.int (0 : Int32)) :: (.int (0 : Int32)) :: (.int (0 : Int32)) :: (.int (0 : Int32)) :: (.int (0 : Int32)) :: (.int (0 : Int32)) :: (.int (0 : Int32)) :: (.int (0 : Int32)) :: (.int (0 : Int32)) :: (.int (0 : Int32)) :: (.int (0 : Int32)) :: (.int (0 : Int32)) :: (.int (0 : Int32)) :: (.int (0 : Int32)) :: (.int (0 : Int32)) :: (.int (0 : Int32)) :: (.int (0 : Int32)) :: (.int (0 : Int32)) :: (.int (0 : Int32)) :: (.int (0 : Int32)) :: (.int (0 : Int32)) :: (.int (0 : Int32)) :: (.int (0 : Int32)) :: (.int (0 : Int32)) :: (.int (0 : Int32)) :: (.int (0 : Int32)) :: (.int (0 : Int32)) :: (.int (0 : Int32)) :: (.int (0 : Int32)) :: (.int (0 : Int32)) :: (.int (0 : Int32)) :: (.int (0 : Int32)) :: (.int (0 : Int32)) :: (.int (0 : Int32)) :: (.int (0 : Int32)) :: (.int (0 : Int32)) :: (.int (0 : Int32)) :: (.int (0 : Int32)) :: (.int (0 : Int32)) :: (.int (0 : Int32)) :: (.int y685) :: []) (.int (0 : Int32)) := V_b681
        replace E_b681 := E_b681.wr W686
        replace K := K.wr W686 (Or.inr sz_b681)
        refine own_new (pc' := 65) B X686 (own_w hw 1 rfl) (own_w hw 2 rfl) (own_w hw 3 rfl) at_62 rfl (k' := 2) (n' := 62) rfl rfl (by decide) (by decide) ?_
        intro T687 h687 b687 X687 g687 E687 E_b687 D687
        have ne_b681_b687 : b681 ≠ b687 := own_ne E_b681.lt g687
        have sz_b687 : h0.size ≤ b687 := own_sz K g687
        have g_b687 : n0 ≤ b687 := Nat.le_trans Z0 sz_b687
        replace K := K.ext E687
        replace E_b681 := E_b681.ext E687
        replace V_b681 := V_b681.ext E687
        have F_b687_bytes : Fld Z h687 b687 "com/example/siltstone/siltstone/format/ByteSink" "bytes" "[B" .null := D687 (Or.inl (own_w hw 11 rfl)) (ty := (.array .byte)) (by decide)
        have F_b687_size : Fld Z h687 b687 "com/example/siltstone/siltstone/format/ByteSink" "size" "I" (.int (0 : Int32)) := D687 (Or.inl (own_w hw 22 rfl)) (ty := .int) (by decide)
        clear D687
        refine own_dup (pc' := 66) B X687 at_65 rfl rfl ?_
        refine own_callI (pc' := 69) B X687 rfl rfl (own_w hw 4 rfl) (own_w hw 5 rfl) (own_w hw 3 rfl) (own_w hw 6 rfl) (by decide) [] [(.ref b687)] (rm_1 l Z a0 hw [] b687 h687 n0 (Nat.le_trans Z0 K.1) E_b687 F_b687_bytes F_b687_size g_b687) 1 (by decide) (by decide) rfl pd_0 rfl rfl (Nat.le_of_eq rfl) at_66 rfl (k' := 3) (n' := 126) rfl rfl (by decide) (by decide) ?_
        intro T688 v688 h688 X688 q688
        have lt_b681 := E_b681.lt
        have lt_b687 := E_b687.lt
        obtain ⟨b689, k690, rfl, K688, z_b689, E_b687, F_b687_bytes, F_b687_size, E_b689, V_b689⟩ := q688
        have ne_b681_b689 : b681 ≠ b689 := own_ne' lt_b681 z_b689
        have ne_b687_b689 : b687 ≠ b689 := own_ne' lt_b687 z_b689
        have sz_b689 : h0.size ≤ b689 := Nat.le_trans K.1 z_b689
        have g_b689 : n0 ≤ b689 := Nat.le_trans Z0 sz_b689
        replace K := K.trans K688 (allS (Or.inr sz_b687) all0)
        replace E_b681 := E_b681.keep K688
        replace V_b681 := V_b681.keep K688 (ninS ne_b681_b687 nin0)
        show own_Go p e below (T688.setTop (mkF m 69 #[.val (.int i0), .val (.long i1), .second, .val (.int i2), .val (.int i3), .val (.int (1 : Int32)), .val (.int (1 : Int32)), .val (.int (0 : Int32)), .val (.ref b681), .unset, .unset, .unset, .unset, .unset] [(.ref b687)])) _
        refine own_astore (pc' := 71) B X688 (Ls' := #[.val (.int i0), .val (.long i1), .second, .val (.int i2), .val (.int i3), .val (.int (1 : Int32)), .val (.int (1 : Int32)), .val (.int (0 : Int32)), .val (.ref b681), .val (.ref b687), .unset, .unset, .unset, .unset]) at_69 rfl rfl rfl ?_
        refine own_iload (pc' := 73) B X688 at_71 rfl rfl ?_
        refine own_ifNo (pc' := 76) B X688 at_73 ((if0 _ _).trans (feq (by decide : ¬ ((1 : Int32) = (0 : Int32)))).1) rfl ?_
        refine own_aload (pc' := 78) B X688 at_76 rfl rfl rfl ?_
        refine own_aload (pc' := 80) B X688 at_78 rfl rfl rfl ?_
        refine own_callV (pc' := 83) B X688 (own_w hw 55 rfl) (own_w hw 56 rfl) (own_w hw 58 rfl) (own_w hw 57 rfl) (own_w hw 3 rfl) (own_w hw 59 rfl) E_b687 (by decide) [(.ref b681)] [] (rm_23 l Z a0 hw [] b687 b689 k690 b681 kb681 (y683) (y685) h688 n0 (Nat.le_trans Z0 K.1) E_b687 F_b687_bytes F_b687_size g_b687 E_b689 V_b689 g_b689 E_b681 V_b681 g_b681 ne_b687_b689 (Ne.symm ne_b681_b687) (Ne.symm ne_b681_b689)) 0 (by decide) (by decide) rfl pd_8 rfl rfl (Nat.le_of_eq rfl) at_80 rfl (k' := 3) (n' := 126) rfl rfl (by decide) (by decide) ?_
        intro T691 v691 h691 X691 q691
        obtain ⟨rfl, K691, E_b687, F_b687_bytes, F_b687_size, E_b689, V_b689⟩ := q691
        replace K := K.trans K691 (allS (Or.inr sz_b689) (allS (Or.inr sz_b687) all0))
        replace E_b681 := E_b681.keep K691
        replace V_b681 := V_b681.keep K691 (ninS ne_b681_b689 (ninS ne_b681_b687 nin0))
        show own_Go p e below (T691.setTop (mkF m 83 #[.val (.int i0), .val (.long i1), .second, .val (.int i2), .val (.int i3), .val (.int (1 : Int32)), .val (.int (1 : Int32)), .val (.int (0 : Int32)), .val (.ref b681), .val (.ref b687), .unset, .unset, .unset, .unset] [])) _
        refine own_aload (pc' := 85) B X691 at_83 rfl rfl rfl ?_
        refine own_iloadN (pc' := 86) B X691 at_85 rfl rfl ?_
        refine own_callV (pc' := 89) B X691 (own_w hw 12 rfl) (own_w hw 13 rfl) (own_w hw 15 rfl) (own_w hw 14 rfl) (own_w hw 3 rfl) (own_w hw 16 rfl) E_b687 (by decide) [(.int i0)] [] (rm_26 l Z a0 hw [] b687 b689 k690 (y683) (y685) (i0) h691 n0 (Nat.le_trans Z0 K.1) E_b687 F_b687_bytes F_b687_size g_b687 E_b689 V_b689 g_b689 ne_b687_b689) 0 (by decide) (by decide) rfl pd_1 rfl rfl (Nat.le_of_eq rfl) at_86 rfl (k' := 3) (n' := 126) rfl rfl (by decide) (by decide) ?_
        intro T692 v692 h692 X692 q692
        obtain ⟨y693, y694, y695, y696, y697, y698, y699, hy700, hy701, hy702, hy703, hy704, hy705, hy706, rfl, K692, E_b687, F_b687_bytes, F_b687_size, E_b689, V_b689⟩ := q692
        replace K := K.trans K692 (allS (Or.inr sz_b687) (allS (Or.inr sz_b689) all0))
        replace E_b681 := E_b681.keep K692
        replace V_b681 := V_b681.keep K692 (ninS ne_b681_b687 (ninS ne_b681_b689 nin0))
        show own_Go p e below (T692.setTop (mkF m 89 #[.val (.int i0), .val (.long i1), .second, .val (.int i2), .val (.int i3), .val (.int (1 : Int32)), .val (.int (1 : Int32)), .val (.int (0 : Int32)), .val (.ref b681), .val (.ref b687), .unset, .unset, .unset, .unset] [])) _
        refine own_aload (pc' := 91) B X692 at_89 rfl rfl rfl ?_
        refine own_lloadN (pc' := 92) B X692 at_91 rfl rfl ?_
        refine own_callV (pc' := 95) B X692 (own_w hw 23 rfl) (own_w hw 24 rfl) (own_w hw 26 rfl) (own_w hw 25 rfl) (own_w hw 3 rfl) (own_w hw 27 rfl) E_b687 (by decide) [(.long i1)] [] (rm_28 l Z a0 hw [] b687 b689 k690 (y683) (y685) (y693) (y695) (y697) (y699) (i1) h692 n0 (Nat.le_trans Z0 K.1) E_b687 F_b687_bytes F_b687_size g_b687 E_b689 V_b689 g_b689 ne_b687_b689) 0 (by decide) (by decide) rfl pd_2 rfl rfl (Nat.le_of_eq rfl) at_92 rfl (k' := 4) (n' := 254) rfl rfl (by decide) (by decide) ?_
        intro T707 v707 h707 X707 q707
        have lt_b681 := E_b681.lt
        have lt_b687 := E_b687.lt
        have lt_b689 := E_b689.lt
        obtain ⟨y708, y709, y710, y711, y712, y713, y714, y715, y716, y717, y718, y719, y720, y721, y722, y723, y724, y725, y726, y727, y728, y729, y730, b731, k732, hy733, hy734, hy735, hy736, hy737, hy738, hy739, hy740, hy741, hy742, hy743, hy744, hy745, hy746, hy747, hy748, hy749, hy750, hy751, hy752, hy753, hy754, hy755, rfl, K707, z_b731, E_b687, F_b687_bytes, F_b687_size, E_b731, V_b731⟩ := q707
        obtain rfl : y682 = y708 := (hy682 : i1.toInt32 = y682).symm.trans hy733
        obtain rfl : y683 = y709 := (hy683 : y682.toInt8.toInt32 = y683).symm.trans hy734
        have ne_b681_b731 : b681 ≠ b731 := own_ne' lt_b681 z_b731
        have ne_b687_b731 : b687 ≠ b731 := own_ne' lt_b687 z_b731
        have ne_b689_b731 : b689 ≠ b731 := own_ne' lt_b689 z_b731
        have sz_b731 : h0.size ≤ b731 := Nat.le_trans K.1 z_b731
        have g_b731 : n0 ≤ b731 := Nat.le_trans Z0 sz_b731
        replace K := K.trans K707 (allS (Or.inr sz_b687) all0)
        replace E_b681 := E_b681.keep K707
        replace V_b681 := V_b681.keep K707 (ninS ne_b681_b687 nin0)
        replace E_b689 := E_b689.keep K707
        replace V_b689 := V_b689.keep K707 (ninS (Ne.symm ne_b687_b689) nin0)
        show own_Go p e below (T707.setTop (mkF m 95 #[.val (.int i0), .val (.long i1), .second, .val (.int i2), .val (.int i3), .val (.int (1 : Int32)), .val (.int (1 : Int32)), .val (.int (0 : Int32)), .val (.ref b681), .val (.ref b687), .unset, .unset, .unset, .unset] [])) _
        refine own_aload (pc' := 97) B X707 at_95 rfl rfl rfl ?_
        refine own_iloadN (pc' := 98) B X707 at_97 rfl rfl ?_
        refine own_callV (pc' := 101) B X707 (own_w hw 28 rfl) (own_w hw 29 rfl) (own_w hw 31 rfl) (own_w hw 30 rfl) (own_w hw 3 rfl) (own_w hw 32 rfl) E_b687 (by decide) [(.int i2)] [] (rm_33 l Z a0 hw [] b687 b731 k732 (y683) (y685) (y693) (y695) (y697) (y699) (y712) (y715) (y718) (y721) (y724) (y727) (y730) (i2) h707 n0 (Nat.le_trans Z0 K.1) E_b687 F_b687_bytes F_b687_size g_b687 E_b731 V_b731 g_b731 ne_b687_b731) 0 (by decide) (by decide) rfl pd_1 rfl rfl (Nat.le_of_eq rfl) at_98 rfl (k' := 4) (n' := 254) rfl rfl (by decide) (by decide) ?_
        intro T756 v756 h756 X756 q756
        obtain ⟨y757, hy758, rfl, K756, E_b687, F_b687_bytes, F_b687_size, E_b731, V_b731⟩ := q756
        obtain rfl : y685 = y757 := (hy685 : i2.toInt8.toInt32 = y685).symm.trans hy758
        replace K := K.trans K756 (allS (Or.inr sz_b687) (allS (Or.inr sz_b731) all0))
        replace E_b681 := E_b681.keep K756
        replace V_b681 := V_b681.keep K756 (ninS ne_b681_b687 (ninS ne_b681_b731 nin0))
        replace E_b689 := E_b689.keep K756
        replace V_b689 := V_b689.keep K756 (ninS (Ne.symm ne_b687_b689) (ninS ne_b689_b731 nin0))
        show own_Go p e below (T756.setTop (mkF m 101 #[.val (.int i0), .val (.long i1), .second, .val (.int i2), .val (.int i3), .val (.int (1 : Int32)), .val (.int (1 : Int32)), .val (.int (0 : Int32)), .val (.ref b681), .val (.ref b687), .unset, .unset, .unset, .unset] [])) _
        refine own_iload (pc' := 103) B X756 at_101 rfl rfl ?_
        refine own_ifNo (pc' := 106) B X756 at_103 ((if0 _ _).trans (feq (by decide : ¬ ((1 : Int32) = (0 : Int32)))).1) rfl ?_
        refine own_aload (pc' := 108) B X756 at_106 rfl rfl rfl ?_
        refine own_callV (pc' := 111) B X756 (own_w hw 71 rfl) (own_w hw 72 rfl) (own_w hw 74 rfl) (own_w hw 73 rfl) (own_w hw 3 rfl) (own_w hw 75 rfl) E_b687 (by decide) [] [] (rm_39 l Z a0 hw [] b687 b731 k732 (y683) (y685) (y693) (y695) (y697) (y699) (y712) (y715) (y718) (y721) (y724) (y727) (y730) h756 n0 (Nat.le_trans Z0 K.1) E_b687 F_b687_bytes F_b687_size g_b687 E_b731 V_b731 g_b731 ne_b687_b731) 0 (by decide) (by decide) rfl pd_0 rfl rfl (Nat.le_of_eq rfl) at_108 rfl (k' := 4) (n' := 254) rfl rfl (by decide) (by decide) ?_
        intro T759 v759 h759 X759 q759
        obtain ⟨rfl, K759, E_b687, F_b687_bytes, F_b687_size⟩ := q759
        replace K := K.trans K759 (allS (Or.inr sz_b687) all0)
        replace E_b681 := E_b681.keep K759
        replace V_b681 := V_b681.keep K759 (ninS ne_b681_b687 nin0)
        replace E_b689 := E_b689.keep K759
        replace V_b689 := V_b689.keep K759 (ninS (Ne.symm ne_b687_b689) nin0)
        replace E_b731 := E_b731.keep K759
        replace V_b731 := V_b731.keep K759 (ninS (Ne.symm ne_b687_b731) nin0)
        show own_Go p e below (T759.setTop (mkF m 111 #[.val (.int i0), .val (.long i1), .second, .val (.int i2), .val (.int i3), .val (.int (1 : Int32)), .val (.int (1 : Int32)), .val (.int (0 : Int32)), .val (.ref b681), .val (.ref b687), .unset, .unset, .unset, .unset] [])) _
        refine own_iload (pc' := 113) B X759 at_111 rfl rfl ?_
        refine own_ifYes (pc' := 122) B X759 at_113 ((if0 _ _).trans (teq (by decide : (0 : Int32) = (0 : Int32))).1) (by decide) rfl ?_
        refine own_aload (pc' := 124) B X759 at_122 rfl rfl rfl ?_
        refine own_callV (pc' := 127) B X759 (own_w hw 33 rfl) (own_w hw 34 rfl) (own_w hw 36 rfl) (own_w hw 35 rfl) (own_w hw 3 rfl) (own_w hw 37 rfl) E_b687 (by decide) [] [] (rm_40 l Z a0 hw [] b687 b731 k732 (y683) (y685) (y693) (y695) (y697) (y699) (y712) (y715) (y718) (y721) (y724) (y727) (y730) h759 n0 (Nat.le_trans Z0 K.1) E_b687 F_b687_bytes F_b687_size g_b687 E_b731 V_b731 g_b731 ne_b687_b731) 0 (by decide) (by decide) rfl pd_5 rfl rfl (Nat.le_of_eq rfl) at_124 rfl (k' := 5) (n' := 254) rfl rfl (by decide) (by decide) ?_
        intro T760 v760 h760 X760 q760
        have lt_b681 := E_b681.lt
        have lt_b687 := E_b687.lt
        have lt_b689 := E_b689.lt
        have lt_b731 := E_b731.lt
        obtain ⟨b761, k762, rfl, K760, z_b761, E_b761, V_b761⟩ := q760
        have ne_b681_b761 : b681 ≠ b761 := own_ne' lt_b681 z_b761
        have ne_b687_b761 : b687 ≠ b761 := own_ne' lt_b687 z_b761
        have ne_b689_b761 : b689 ≠ b761 := own_ne' lt_b689 z_b761
        have ne_b731_b761 : b731 ≠ b761 := own_ne' lt_b731 z_b761
        have sz_b761 : h0.size ≤ b761 := Nat.le_trans K.1 z_b761
        have g_b761 : n0 ≤ b761 := Nat.le_trans Z0 sz_b761
        replace K := K.trans K760 all0
        replace E_b681 := E_b681.keep K760
        replace V_b681 := V_b681.keep K760 nin0
        replace E_b687 := E_b687.keep K760
        replace F_b687_bytes := F_b687_bytes.keep K760 nin0
        replace F_b687_size := F_b687_size.keep K760 nin0
        replace E_b689 := E_b689.keep K760
        replace V_b689 := V_b689.keep K760 nin0
        replace E_b731 := E_b731.keep K760
        replace V_b731 := V_b731.keep K760 nin0
        show own_Go p e below (T760.setTop (mkF m 127 #[.val (.int i0), .val (.long i1), .second, .val (.int i2), .val (.int i3), .val (.int (1 : Int32)), .val (.int (1 : Int32)), .val (.int (0 : Int32)), .val (.ref b681), .val (.ref b687), .unset, .unset, .unset, .unset] [(.ref b761)])) _
        refine own_astore (pc' := 129) B X760 (Ls' := #[.val (.int i0), .val (.long i1), .second, .val (.int i2), .val (.int i3), .val (.int (1 : Int32)), .val (.int (1 : Int32)), .val (.int (0 : Int32)), .val (.ref b681), .val (.ref b687), .val (.ref b761), .unset, .unset, .unset]) at_127 rfl rfl rfl ?_
        refine own_iload (pc' := 131) B X760 at_129 rfl rfl ?_
        refine own_ifNo (pc' := 134) B X760 at_131 ((if0 _ _).trans (feq (by decide : ¬ ((1 : Int32) = (0 : Int32)))).1) rfl ?_
        refine own_iload (pc' := 136) B X760 at_134 rfl rfl ?_
        refine own_ifYes (pc' := 165) B X760 at_136 ((if0 _ _).trans (teq (by decide : (0 : Int32) = (0 : Int32))).1) (by decide) rfl ?_
        refine own_aload (pc' := 167) B X760 at_165 rfl rfl rfl ?_
        refine own_arraylength (pc' := 168) B X760 V_b761 at_167 rfl ?_
        refine own_ifNo (pc' := 171) B X760 at_168 ((if0 _ _).trans (teq (by decide : (0 : Int32) = (0 : Int32))).2) rfl ?_
        refine own_iconst (pc' := 172) B X760 (z := (1 : Int32)) at_171 rfl rfl ?_
        refine own_goto (pc' := 176) B X760 at_172 (by decide) rfl ?_
        refine own_istore (pc' := 178) B X760 (Ls' := #[.val (.int i0), .val (.long i1), .second, .val (.int i2), .val (.int i3), .val (.int (1 : Int32)), .val (.int (1 : Int32)), .val (.int (0 : Int32)), .val (.ref b681), .val (.ref b687), .val (.ref b761), .val (.int (1 : Int32)), .unset, .unset]) at_176 rfl rfl ?_
        refine own_goto (pc' := 463) B X760 at_178 (by decide) rfl ?_
        refine own_iload (pc' := 465) B X760 at_463 rfl rfl ?_
        refine own_ifYes (pc' := 470) B X760 at_465 ((if0 _ _).trans (feq (by decide : ¬ ((1 : Int32) = (0 : Int32)))).2) (by decide) rfl ?_
        refine own_aload (pc' := 472) B X760 at_470 rfl rfl rfl ?_
        refine own_callV (pc' := 475) B X760 (own_w hw 50 rfl) (own_w hw 51 rfl) (own_w hw 53 rfl) (own_w hw 52 rfl) (own_w hw 3 rfl) (own_w hw 54 rfl) E_b687 (by decide) [] [] (rm_43 l Z a0 hw [] b687 b731 k732 (y683) (y685) (y693) (y695) (y697) (y699) (y712) (y715) (y718) (y721) (y724) (y727) (y730) h760 n0 (Nat.le_trans Z0 K.1) E_b687 F_b687_bytes F_b687_size g_b687 E_b731 V_b731 g_b731 ne_b687_b731) 0 (by decide) (by decide) rfl pd_6 rfl rfl (Nat.le_of_eq rfl) at_472 rfl (k' := 5) (n' := 254) rfl rfl (by decide) (by decide) ?_
        intro T763 v763 h763 X763 q763
        obtain ⟨rfl, rfl⟩ := q763
        show own_Go p e below (T763.setTop (mkF m 475 #[.val (.int i0), .val (.long i1), .second, .val (.int i2), .val (.int i3), .val (.int (1 : Int32)), .val (.int (1 : Int32)), .val (.int (0 : Int32)), .val (.ref b681), .val (.ref b687), .val (.ref b761), .val (.int (1 : Int32)), .unset, .unset] [(.int (0 : Int32))])) _
        refine own_aload (pc' := 477) B X763 at_475 rfl rfl rfl ?_
        refine own_arraylength (pc' := 478) B X763 V_b761 at_477 rfl ?_
        refine own_icmpYes (pc' := 483) B X763 at_478 (teq (by decide : (0 : Int32) = (0 : Int32))).1 (by decide) rfl ?_
        refine own_aload (pc' := 485) B X763 at_483 rfl rfl rfl ?_
        refine own_arraylength (pc' := 486) B X763 V_b761 at_485 rfl ?_
        refine own_ifNo (pc' := 489) B X763 at_486 ((if0 _ _).trans (teq (by decide : (0 : Int32) = (0 : Int32))).2) rfl ?_
        refine own_aload (pc' := 491) B X763 at_489 rfl rfl rfl ?_
        refine own_callV (pc' := 494) B X763 (own_w hw 33 rfl) (own_w hw 34 rfl) (own_w hw 36 rfl) (own_w hw 35 rfl) (own_w hw 3 rfl) (own_w hw 37 rfl) E_b687 (by decide) [] [] (rm_40 l Z a0 hw [] b687 b731 k732 (y683) (y685) (y693) (y695) (y697) (y699) (y712) (y715) (y718) (y721) (y724) (y727) (y730) h760 n0 (Nat.le_trans Z0 K.1) E_b687 F_b687_bytes F_b687_size g_b687 E_b731 V_b731 g_b731 ne_b687_b731) 0 (by decide) (by decide) rfl pd_5 rfl rfl (Nat.le_of_eq rfl) at_491 rfl (k' := 6) (n' := 254) rfl rfl (by decide) (by decide) ?_
        intro T764 v764 h764 X764 q764
        have lt_b681 := E_b681.lt
        have lt_b687 := E_b687.lt
        have lt_b689 := E_b689.lt
        have lt_b731 := E_b731.lt
        have lt_b761 := E_b761.lt
        obtain ⟨b765, k766, rfl, K764, z_b765, E_b765, V_b765⟩ := q764
        have ne_b681_b765 : b681 ≠ b765 := own_ne' lt_b681 z_b765
        have ne_b687_b765 : b687 ≠ b765 := own_ne' lt_b687 z_b765
        have ne_b689_b765 : b689 ≠ b765 := own_ne' lt_b689 z_b765
        have ne_b731_b765 : b731 ≠ b765 := own_ne' lt_b731 z_b765
        have ne_b761_b765 : b761 ≠ b765 := own_ne' lt_b761 z_b765
        have sz_b765 : h0.size ≤ b765 := Nat.le_trans K.1 z_b765
        have g_b765 : n0 ≤ b765 := Nat.le_trans Z0 sz_b765
        replace K := K.trans K764 all0
        replace E_b681 := E_b681.keep K764
        replace V_b681 := V_b681.keep K764 nin0
        replace E_b687 := E_b687.keep K764
        replace F_b687_bytes := F_b687_bytes.keep K764 nin0
        replace F_b687_size := F_b687_size.keep K764 nin0
        replace E_b689 := E_b689.keep K764
        replace V_b689 := V_b689.keep K764 nin0
        replace E_b731 := E_b731.keep K764
        replace V_b731 := V_b731.keep K764 nin0
        replace E_b761 := E_b761.keep K764
        replace V_b761 := V_b761.keep K764 nin0
        show own_Go p e below (T764.setTop (mkF m 494 #[.val (.int i0), .val (.long i1), .second, .val (.int i2), .val (.int i3), .val (.int (1 : Int32)), .val (.int (1 : Int32)), .val (.int (0 : Int32)), .val (.ref b681), .val (.ref b687), .val (.ref b761), .val (.int (1 : Int32)), .unset, .unset] [(.ref b765)])) _
        refine own_astore (pc' := 496) B X764 (Ls' := #[.val (.int i0), .val (.long i1), .second, .val (.int i2), .val (.int i3), .val (.int (1 : Int32)), .val (.int (1 : Int32)), .val (.int (0 : Int32)), .val (.ref b681), .val (.ref b687), .val (.ref b761), .val (.int (1 : Int32)), .val (.ref b765), .unset]) at_494 rfl rfl rfl ?_
        refine own_aload (pc' := 498) B X764 at_496 rfl rfl rfl ?_
        refine own_arraylength (pc' := 499) B X764 V_b765 at_498 rfl ?_
        refine own_ifNo (pc' := 502) B X764 at_499 ((if0 _ _).trans (teq (by decide : (0 : Int32) = (0 : Int32))).2) rfl ?_
        refine own_iconst (pc' := 503) B X764 (z := (1 : Int32)) at_502 rfl rfl ?_
        refine own_goto (pc' := 507) B X764 at_503 (by decide) rfl ?_
        exact own_retN B X764 (t := .boolean) (z' := (1 : Int32)) (by simp) (by decide) at_507 (by decide) (by decide) rfl
      · refine own_ifNo (pc' := 35) B X0 at_32 ((if0 _ _).trans (feq c680).1) rfl ?_
        refine own_iconst (pc' := 36) B X0 (z := (1 : Int32)) at_35 rfl rfl ?_
        refine own_goto (pc' := 40) B X0 at_36 (by decide) rfl ?_
        refine own_istore (pc' := 42) B X0 (Ls' := #[.val (.int i0), .val (.long i1), .second, .val (.int i2), .val (.int i3), .val (.int (1 : Int32)), .val (.int (1 : Int32)), .val (.int (1 : Int32)), .unset, .unset, .unset, .unset, .unset, .unset]) at_40 rfl rfl ?_
        refine own_bipush (pc' := 44) B X0 (z := (60 : Int32)) at_42 rfl (by decide) ?_
        refine own_newarray (pc' := 46) B X0 (own_w hw 0 rfl) at_44 rfl rfl (by decide) 60 (by decide) (by decide) (k' := 1) (n' := 60) rfl rfl (by decide) (by decide) "[B" (by decide) (.int (0 : Int32)) rfl ?_
        intro T767 h767 b767 kb767 X767 g767 E767 V_b767 E_b767
        have sz_b767 : h0.size ≤ b767 := own_sz K g767
        have g_b767 : n0 ≤ b767 := Nat.le_trans Z0 sz_b767
        replace K := K.ext E767
        refine own_astore (pc' := 48) B X767 (Ls' := #[.val (.int i0), .val (.long i1), .second, .val (.int i2), .val (.int i3), .val (.int (1 : Int32)), .val (.int (1 : Int32)), .val (.int (1 : Int32)), .val (.ref b767), .unset, .unset, .unset, .unset, .unset]) at_46 rfl rfl rfl ?_
        refine own_aload (pc' := 50) B X767 at_48 rfl rfl rfl ?_
        refine own_iconst (pc' := 51) B X767 (z := (0 : Int32)) at_50 rfl rfl ?_
        refine own_lloadN (pc' := 52) B X767 at_51 rfl rfl ?_
        obtain ⟨y768, hy768⟩ : ∃ z : Int32, i1.toInt32 = z := ⟨_, rfl⟩
        refine own_l2i (pc' := 53) B X767 at_52 rfl hy768 ?_
        obtain ⟨y769, hy769⟩ : ∃ z : Int32, y768.toInt8.toInt32 = z := ⟨_, rfl⟩
        refine own_i2b (pc' := 54) B X767 at_53 rfl hy769 ?_
        replace V_b767 : Arv Z h767 b767 kb767 .byte (60 : Int32) [(.int (0 : Int32))] (.int (0 : Int32)) := V_b767.pad (pad_rep [] (.int (0 : Int32)) 1)
        refine own_bastore (pc' := 55) B X767 (x' := y769) V_b767 g_b767 ⟨by decide, by decide⟩ 0 (by decide) (Nat.le_of_ble_eq_true rfl) (own_idem_i2b hy769) at_54 rfl ?_
        intro T770 h770 X770 W770 V_b767
        replace V_b767 : Arv Z h770 b767 kb767 .byte (60 : Int32) [(.int y769)] (.int (0 : Int32)) := V_b767
        replace E_b767 := E_b767.wr W770
        replace K := K.wr W770 (Or.inr sz_b767)
        refine own_aload (pc' := 57) B X770 at_55 rfl rfl rfl ?_
        refine own_bipush (pc' := 59) B X770 (z := (59 : Int32)) at_57 rfl (by decide) ?_
        refine own_iloadN (pc' := 60) B X770 at_59 rfl rfl ?_
        obtain ⟨y771, hy771⟩ : ∃ z : Int32, i2.toInt8.toInt32 = z := ⟨_, rfl⟩
        refine own_i2b (pc' := 61) B X770 at_60 rfl hy771 ?_
        replace V_b767 : Arv Z h770 b767 kb767 .byte (60 : Int32) ((.int y769) :: (.int (0 : Int32)) :: (.int (0 : Int32)) :: (.int (0 : Int32)) :: (.int (0 : Int32)) :: (.int (0 : Int32)) :: (.int (0 : Int32)) :: (.int (0 : Int32)) :: (.int (0 : Int32)) :: (.int (0 : Int32)) :: (.int (0 : Int32)) :: (.int (0 : Int32)) :: (.int (0 : Int32)) :: (.int (0 : Int32)) :: (.int (0 : Int32)) :: (.int (0 : Int32)) :: (.int (0 : Int32)) :: (.int (0 : Int32)) :: (.int (0 : Int32)) :: (.int (0 : Int32)) :: (.int (0 : Int32)) :: (.int (0 : Int32)) :: (.int (0 : Int32)) :: (.int (0 : Int32)) :: (.int (0 : Int32)) :: (.int (0 : Int32)) :: (.int (0 : Int32)) :: (.int (0 : Int32)) :: (.int (0 : Int32)) :: (.int (0 : Int32)) :: (.int (0 : Int32)) :: (.int (0 : Int32)) :: (.int (0 : Int32)) :: (.int (0 : Int32)) :: (.int (0 : Int32)) :: (.int (0 : Int32)) :: (.int (0 : Int32)) :: (.int (0 : Int32)) :: (.int (0 : Int32)) :: (.int (0 : Int32)) :: (.int (0 : Int32)) :: (.int (0 : Int32)) :: (.int (0 : Int32)) :: (.int (0 : Int32)) :: (.int (0 : Int32)) :: (.int (0 : Int32)) :: (.int (0 : Int32)) :: (.int (0 : Int32)) :: (.int (0 : Int32)) :: (.int (0 : Int32)) :: (.int (0 : Int32)) :: (.int (0 : Int32)) :: (.int (0 : Int32)) :: (.int (0 : Int32)) :: (.int (0 : Int32)) :: (.int (0 : Int32)) :: (.int (0 : Int32)) :: (.int (0 : Int32)) :: (.int (0 : Int32)) :: (.int (0 : Int32)) :: []) (.int (0 : Int32)) := V_b767.pad (pad_rep [(.int y769)] (.int (0 : Int32)) 59)
        refine own_bastore (pc' := 62) B X770 (x' := y771) V_b767 g_b767 ⟨by decide, by decide⟩ 59 (by decide) (Nat.le_of_ble_eq_true rfl) (own_idem_i2b hy771) at_61 rfl ?_
        intro T772 h772 X772 W772 V_b767
        replace V_b767 : Arv Z h772 b767 kb767 .byte (60 : Int32) ((.int y769) :: (.int (0 : Int32)) :: (.int (0 : Int32)) :: (.int (0 : Int32)) :: (.int (0 : Int32)) :: (.int (0 : Int32)) :: (.int (0 : Int32)) :: (.int (0 : Int32)) :: (.int (0 : Int32)) :: (.int (0 : Int32)) :: (.int (0 : Int32)) :: (.int (0 : Int32)) :: (.int (0 : Int32)) :: (.int (0 : Int32)) :: (.int (0 : Int32)) :: (.int (0 : Int32)) :: (.int (0 : Int32)) :: (.int (0 : Int32)) :: (.int (0 : Int32)) :: (.int (0 : Int32)) :: (.int (0 : Int32)) :: (.int (0 : Int32)) :: (.int (0 : Int32)) :: (.int (0 : Int32)) :: (.int (0 : Int32)) :: (.int (0 : Int32)) :: (.int (0 : Int32)) :: (.int (0 : Int32)) :: (.int (0 : Int32)) :: (.int (0 : Int32)) :: (.int (0 : Int32)) :: (.int (0 : Int32)) :: (.int (0 : Int32)) :: (.int (0 : Int32)) :: (.int (0 : Int32)) :: (.int (0 : Int32)) :: (.int (0 : Int32)) :: (.int (0 : Int32)) :: (.int (0 : Int32)) :: (.int (0 : Int32)) :: (.int (0 : Int32)) :: (.int (0 : Int32)) :: (.int (0 : Int32)) :: (.int (0 : Int32)) :: (.int (0 : Int32)) :: (.int (0 : Int32)) :: (.int (0 : Int32)) :: (.int (0 : Int32)) :: (.int (0 : Int32)) :: (.int (0 : Int32)) :: (.int (0 : Int32)) :: (.int (0 : Int32)) :: (.int (0 : Int32)) :: (.int (0 : Int32)) :: (.int (0 : Int32)) :: (.int (0 : Int32)) :: (.int (0 : Int32)) :: (.int (0 : Int32)) :: (.int (0 : Int32)) :: (.int y771) :: []) (.int (0 : Int32)) := V_b767
        replace E_b767 := E_b767.wr W772
        replace K := K.wr W772 (Or.inr sz_b767)
        refine own_new (pc' := 65) B X772 (own_w hw 1 rfl) (own_w hw 2 rfl) (own_w hw 3 rfl) at_62 rfl (k' := 2) (n' := 62) rfl rfl (by decide) (by decide) ?_
        intro T773 h773 b773 X773 g773 E773 E_b773 D773
        have ne_b767_b773 : b767 ≠ b773 := own_ne E_b767.lt g773
        have sz_b773 : h0.size ≤ b773 := own_sz K g773
        have g_b773 : n0 ≤ b773 := Nat.le_trans Z0 sz_b773
        replace K := K.ext E773
        replace E_b767 := E_b767.ext E773
        replace V_b767 := V_b767.ext E773
        have F_b773_bytes : Fld Z h773 b773 "com/example/siltstone/siltstone/format/ByteSink" "bytes" "[B" .null := D773 (Or.inl (own_w hw 11 rfl)) (ty := (.array .byte)) (by decide)
        have F_b773_size : Fld Z h773 b773 "com/example/siltstone/siltstone/format/ByteSink" "size" "I" (.int (0 : Int32)) := D773 (Or.inl (own_w hw 22 rfl)) (ty := .int) (by decide)
        clear D773
        refine own_dup (pc' := 66) B X773 at_65 rfl rfl ?_
        refine own_callI (pc' := 69) B X773 rfl rfl (own_w hw 4 rfl) (own_w hw 5 rfl) (own_w hw 3 rfl) (own_w hw 6 rfl) (by decide) [] [(.ref b773)] (rm_1 l Z a0 hw [] b773 h773 n0 (Nat.le_trans Z0 K.1) E_b773 F_b773_bytes F_b773_size g_b773) 1 (by decide) (by decide) rfl pd_0 rfl rfl (Nat.le_of_eq rfl) at_66 rfl (k' := 3) (n' := 126) rfl rfl (by decide) (by decide) ?_
        intro T774 v774 h774 X774 q774
        have lt_b767 := E_b767.lt
        have lt_b773 := E_b773.lt
        obtain ⟨b775, k776, rfl, K774, z_b775, E_b773, F_b773_bytes, F_b773_size, E_b775, V_b775⟩ := q774
        have ne_b767_b775 : b767 ≠ b775 := own_ne' lt_b767 z_b775
        have ne_b773_b775 : b773 ≠ b775 := own_ne' lt_b773 z_b775
        have sz_b775 : h0.size ≤ b775 := Nat.le_trans K.1 z_b775
        have g_b775 : n0 ≤ b775 := Nat.le_trans Z0 sz_b775
        replace K := K.trans K774 (allS (Or.inr sz_b773) all0)
        replace E_b767 := E_b767.keep K774
        replace V_b767 := V_b767.keep K774 (ninS ne_b767_b773 nin0)
        show own_Go p e below (T774.setTop (mkF m 69 #[.val (.int i0), .val (.long i1), .second, .val (.int i2), .val (.int i3), .val (.int (1 : Int32)), .val (.int (1 : Int32)), .val (.int (1 : Int32)), .val (.ref b767), .unset, .unset, .unset, .unset, .unset] [(.ref b773)])) _
        refine own_astore (pc' := 71) B X774 (Ls' := #[.val (.int i0), .val (.long i1), .second, .val (.int i2), .val (.int i3), .val (.int (1 : Int32)), .val (.int (1 : Int32)), .val (.int (1 : Int32)), .val (.ref b767), .val (.ref b773), .unset, .unset, .unset, .unset]) at_69 rfl rfl rfl ?_
        refine own_iload (pc' := 73) B X774 at_71 rfl rfl ?_
        refine own_ifNo (pc' := 76) B X774 at_73 ((if0 _ _).trans (feq (by decide : ¬ ((1 : Int32) = (0 : Int32)))).1) rfl ?_
        refine own_aload (pc' := 78) B X774 at_76 rfl rfl rfl ?_
        refine own_aload (pc' := 80) B X774 at_78 rfl rfl rfl ?_
        refine own_callV (pc' := 83) B X774 (own_w hw 55 rfl) (own_w hw 56 rfl) (own_w hw 58 rfl) (own_w hw 57 rfl) (own_w hw 3 rfl) (own_w hw 59 rfl) E_b773 (by decide) [(.ref b767)] [] (rm_23 l Z a0 hw [] b773 b775 k776 b767 kb767 (y769) (y771) h774 n0 (Nat.le_trans Z0 K.1) E_b773 F_b773_bytes F_b773_size g_b773 E_b775 V_b775 g_b775 E_b767 V_b767 g_b767 ne_b773_b775 (Ne.symm ne_b767_b773) (Ne.symm ne_b767_b775)) 0 (by decide) (by decide) rfl pd_8 rfl rfl (Nat.le_of_eq rfl) at_80 rfl (k' := 3) (n' := 126) rfl rfl (by decide) (by decide) ?_
        intro T777 v777 h777 X777 q777
        obtain ⟨rfl, K777, E_b773, F_b773_bytes, F_b773_size, E_b775, V_b775⟩ := q777
        replace K := K.trans K777 (allS (Or.inr sz_b775) (allS (Or.inr sz_b773) all0))
        replace E_b767 := E_b767.keep K777
        replace V_b767 := V_b767.keep K777 (ninS ne_b767_b775 (ninS ne_b767_b773 nin0))
        show own_Go p e below (T777.setTop (mkF m 83 #[.val (.int i0), .val (.long i1), .second, .val (.int i2), .val (.int i3), .val (.int (1 : Int32)), .val (.int (1 : Int32)), .val (.int (1 : Int32)), .val (.ref b767), .val (.ref b773), .unset, .unset, .unset, .unset] [])) _
        refine own_aload (pc' := 85) B X777 at_83 rfl rfl rfl ?_
        refine own_iloadN (pc' := 86) B X777 at_85 rfl rfl ?_
        refine own_callV (pc' := 89) B X777 (own_w hw 12 rfl) (own_w hw 13 rfl) (own_w hw 15 rfl) (own_w hw 14 rfl) (own_w hw 3 rfl) (own_w hw 16 rfl) E_b773 (by decide) [(.int i0)] [] (rm_26 l Z a0 hw [] b773 b775 k776 (y769) (y771) (i0) h777 n0 (Nat.le_trans Z0 K.1) E_b773 F_b773_bytes F_b773_size g_b773 E_b775 V_b775 g_b775 ne_b773_b775) 0 (by decide) (by decide) rfl pd_1 rfl rfl (Nat.le_of_eq rfl) at_86 rfl (k' := 3) (n' := 126) rfl rfl (by decide) (by decide) ?_
        intro T778 v778 h778 X778 q778
        obtain ⟨y779, y780, y781, y782, y783, y784, y785, hy786, hy787, hy788, hy789, hy790, hy791, hy792, rfl, K778, E_b773, F_b773_bytes, F_b773_size, E_b775, V_b775⟩ := q778
        replace K := K.trans K778 (allS (Or.inr sz_b773) (allS (Or.inr sz_b775) all0))
        replace E_b767 := E_b767.keep K778
        replace V_b767 := V_b767.keep K778 (ninS ne_b767_b773 (ninS ne_b767_b775 nin0))
        show own_Go p e below (T778.setTop (mkF m 89 #[.val (.int i0), .val (.long i1), .second, .val (.int i2), .val (.int i3), .val (.int (1 : Int32)), .val (.int (1 : Int32)), .val (.int (1 : Int32)), .val (.ref b767), .val (.ref b773), .unset, .unset, .unset, .unset] [])) _
        refine own_aload (pc' := 91) B X778 at_89 rfl rfl rfl ?_
        refine own_lloadN (pc' := 92) B X778 at_91 rfl rfl ?_
        refine own_callV (pc' := 95) B X778 (own_w hw 23 rfl) (own_w hw 24 rfl) (own_w hw 26 rfl) (own_w hw 25 rfl) (own_w hw 3 rfl) (own_w hw 27 rfl) E_b773 (by decide) [(.long i1)] [] (rm_28 l Z a0 hw [] b773 b775 k776 (y769) (y771) (y779) (y781) (y783) (y785) (i1) h778 n0 (Nat.le_trans Z0 K.1) E_b773 F_b773_bytes F_b773_size g_b773 E_b775 V_b775 g_b775 ne_b773_b775) 0 (by decide) (by decide) rfl pd_2 rfl rfl (Nat.le_of_eq rfl) at_92 rfl (k' := 4) (n' := 254) rfl rfl (by decide) (by decide) ?_
        intro T793 v793 h793 X793 q793
        have lt_b767 := E_b767.lt
        have lt_b773 := E_b773.lt
        have lt_b775 := E_b775.lt
        obtain ⟨y794, y795, y796, y797, y798, y799, y800, y801, y802, y803, y804, y805, y806, y807, y808, y809, y810, y811, y812, y813, y814, y815, y816, b817, k818, hy819, hy820, hy821, hy822, hy823, hy824, hy825, hy826, hy827, hy828, hy829, hy830, hy831, hy832, hy833, hy834, hy835, hy836, hy837, hy838, hy839, hy840, hy841, rfl, K793, z_b817, E_b773, F_b773_bytes, F_b773_size, E_b817, V_b817⟩ := q793
        obtain rfl : y768 = y794 := (hy768 : i1.toInt32 = y768).symm.trans hy819
        obtain rfl : y769 = y795 := (hy769 : y768.toInt8.toInt32 = y769).symm.trans hy820
        have ne_b767_b817 : b767 ≠ b817 := own_ne' lt_b767 z_b817
        have ne_b773_b817 : b773 ≠ b817 := own_ne' lt_b773 z_b817
        have ne_b775_b817 : b775 ≠ b817 := own_ne' lt_b775 z_b817
        have sz_b817 : h0.size ≤ b817 := Nat.le_trans K.1 z_b817
        have g_b817 : n0 ≤ b817 := Nat.le_trans Z0 sz_b817
        replace K := K.trans K793 (allS (Or.inr sz_b773) all0)
        replace E_b767 := E_b767.keep K793
        replace V_b767 := V_b767.keep K793 (ninS ne_b767_b773 nin0)
        replace E_b775 := E_b775.keep K793
        replace V_b775 := V_b775.keep K793 (ninS (Ne.symm ne_b773_b775) nin0)
        show own_Go p e below (T793.setTop (mkF m 95 #[.val (.int i0), .val (.long i1), .second, .val (.int i2), .val (.int i3), .val (.int (1 : Int32)), .val (.int (1 : Int32)), .val (.int (1 : Int32)), .val (.ref b767), .val (.ref b773), .unset, .unset, .unset, .unset] [])) _
        refine own_aload (pc' := 97) B X793 at_95 rfl rfl rfl ?_
        refine own_iloadN (pc' := 98) B X793 at_97 rfl rfl ?_
        refine own_callV (pc' := 101) B X793 (own_w hw 28 rfl) (own_w hw 29 rfl) (own_w hw 31 rfl) (own_w hw 30 rfl) (own_w hw 3 rfl) (own_w hw 32 rfl) E_b773 (by decide) [(.int i2)] [] (rm_33 l Z a0 hw [] b773 b817 k818 (y769) (y771) (y779) (y781) (y783) (y785) (y798) (y801) (y804) (y807) (y810) (y813) (y816) (i2) h793 n0 (Nat.le_trans Z0 K.1) E_b773 F_b773_bytes F_b773_size g_b773 E_b817 V_b817 g_b817 ne_b773_b817) 0 (by decide) (by decide) rfl pd_1 rfl rfl (Nat.le_of_eq rfl) at_98 rfl (k' := 4) (n' := 254) rfl rfl (by decide) (by decide) ?_
        intro T842 v842 h842 X842 q842
        obtain ⟨y843, hy844, rfl, K842, E_b773, F_b773_bytes, F_b773_size, E_b817, V_b817⟩ := q842
        obtain rfl : y771 = y843 := (hy771 : i2.toInt8.toInt32 = y771).symm.trans hy844
        replace K := K.trans K842 (allS (Or.inr sz_b773) (allS (Or.inr sz_b817) all0))
        replace E_b767 := E_b767.keep K842
        replace V_b767 := V_b767.keep K842 (ninS ne_b767_b773 (ninS ne_b767_b817 nin0))
        replace E_b775 := E_b775.keep K842
        replace V_b775 := V_b775.keep K842 (ninS (Ne.symm ne_b773_b775) (ninS ne_b775_b817 nin0))
        show own_Go p e below (T842.setTop (mkF m 101 #[.val (.int i0), .val (.long i1), .second, .val (.int i2), .val (.int i3), .val (.int (1 : Int32)), .val (.int (1 : Int32)), .val (.int (1 : Int32)), .val (.ref b767), .val (.ref b773), .unset, .unset, .unset, .unset] [])) _
        refine own_iload (pc' := 103) B X842 at_101 rfl rfl ?_
        refine own_ifNo (pc' := 106) B X842 at_103 ((if0 _ _).trans (feq (by decide : ¬ ((1 : Int32) = (0 : Int32)))).1) rfl ?_
        refine own_aload (pc' := 108) B X842 at_106 rfl rfl rfl ?_
        refine own_callV (pc' := 111) B X842 (own_w hw 71 rfl) (own_w hw 72 rfl) (own_w hw 74 rfl) (own_w hw 73 rfl) (own_w hw 3 rfl) (own_w hw 75 rfl) E_b773 (by decide) [] [] (rm_39 l Z a0 hw [] b773 b817 k818 (y769) (y771) (y779) (y781) (y783) (y785) (y798) (y801) (y804) (y807) (y810) (y813) (y816) h842 n0 (Nat.le_trans Z0 K.1) E_b773 F_b773_bytes F_b773_size g_b773 E_b817 V_b817 g_b817 ne_b773_b817) 0 (by decide) (by decide) rfl pd_0 rfl rfl (Nat.le_of_eq rfl) at_108 rfl (k' := 4) (n' := 254) rfl rfl (by decide) (by decide) ?_
        intro T845 v845 h845 X845 q845
        obtain ⟨rfl, K845, E_b773, F_b773_bytes, F_b773_size⟩ := q845
        replace K := K.trans K845 (allS (Or.inr sz_b773) all0)
        replace E_b767 := E_b767.keep K845
        replace V_b767 := V_b767.keep K845 (ninS ne_b767_b773 nin0)
        replace E_b775 := E_b775.keep K845
        replace V_b775 := V_b775.keep K845 (ninS (Ne.symm ne_b773_b775) nin0)
        replace E_b817 := E_b817.keep K845
        replace V_b817 := V_b817.keep K845 (ninS (Ne.symm ne_b773_b817) nin0)
        show own_Go p e below (T845.setTop (mkF m 111 #[.val (.int i0), .val (.long i1), .second, .val (.int i2), .val (.int i3), .val (.int (1 : Int32)), .val (.int (1 : Int32)), .val (.int (1 : Int32)), .val (.ref b767), .val (.ref b773), .unset, .unset, .unset, .unset] [])) _
        refine own_iload (pc' := 113) B X845 at_111 rfl rfl ?_
        refine own_ifNo (pc' := 116) B X845 at_113 ((if0 _ _).trans (feq (by decide : ¬ ((1 : Int32) = (0 : Int32)))).1) rfl ?_
        refine own_aload (pc' := 118) B X845 at_116 rfl rfl rfl ?_
        refine own_iloadN (pc' := 119) B X845 at_118 rfl rfl ?_
        refine own_callV (pc' := 122) B X845 (own_w hw 28 rfl) (own_w hw 29 rfl) (own_w hw 31 rfl) (own_w hw 30 rfl) (own_w hw 3 rfl) (own_w hw 32 rfl) E_b773 (by decide) [(.int i0)] [] (rm_44 l Z a0 hw [] b773 b817 k818 (y769) (y771) (y779) (y781) (y783) (y785) (y798) (y801) (y804) (y807) (y810) (y813) (y816) (i0) h845 n0 (Nat.le_trans Z0 K.1) E_b773 F_b773_bytes F_b773_size g_b773 E_b817 V_b817 g_b817 ne_b773_b817) 0 (by decide) (by decide) rfl pd_1 rfl rfl (Nat.le_of_eq rfl) at_119 rfl (k' := 4) (n' := 254) rfl rfl (by decide) (by decide) ?_
        intro T846 v846 h846 X846 q846
        obtain ⟨y847, hy848, rfl, K846, E_b773, F_b773_bytes, F_b773_size, E_b817, V_b817⟩ := q846
        obtain rfl : y779 = y847 := (hy786 : i0.toInt8.toInt32 = y779).symm.trans hy848
        replace K := K.trans K846 (allS (Or.inr sz_b773) (allS (Or.inr sz_b817) all0))
        replace E_b767 := E_b767.keep K846
        replace V_b767 := V_b767.keep K846 (ninS ne_b767_b773 (ninS ne_b767_b817 nin0))
        replace E_b775 := E_b775.keep K846
        replace V_b775 := V_b775.keep K846 (ninS (Ne.symm ne_b773_b775) (ninS ne_b775_b817 nin0))
        show own_Go p e below (T846.setTop (mkF m 122 #[.val (.int i0), .val (.long i1), .second, .val (.int i2), .val (.int i3), .val (.int (1 : Int32)), .val (.int (1 : Int32)), .val (.int (1 : Int32)), .val (.ref b767), .val (.ref b773), .unset, .unset, .unset, .unset] [])) _
        refine own_aload (pc' := 124) B X846 at_122 rfl rfl rfl ?_
        refine own_callV (pc' := 127) B X846 (own_w hw 33 rfl) (own_w hw 34 rfl) (own_w hw 36 rfl) (own_w hw 35 rfl) (own_w hw 3 rfl) (own_w hw 37 rfl) E_b773 (by decide) [] [] (rm_46 l Z a0 hw [] b773 b817 k818 (y779) (y771) (y781) (y783) (y785) (y769) (y798) (y801) (y804) (y807) (y810) (y813) (y816) h846 n0 (Nat.le_trans Z0 K.1) E_b773 F_b773_bytes F_b773_size g_b773 E_b817 V_b817 g_b817 ne_b773_b817) 0 (by decide) (by decide) rfl pd_5 rfl rfl (Nat.le_of_eq rfl) at_124 rfl (k' := 5) (n' := 255) rfl rfl (by decide) (by decide) ?_
        intro T849 v849 h849 X849 q849
        have lt_b767 := E_b767.lt
        have lt_b773 := E_b773.lt
        have lt_b775 := E_b775.lt
        have lt_b817 := E_b817.lt
        obtain ⟨b850, k851, rfl, K849, z_b850, E_b850, V_b850⟩ := q849
        have ne_b767_b850 : b767 ≠ b850 := own_ne' lt_b767 z_b850
        have ne_b773_b850 : b773 ≠ b850 := own_ne' lt_b773 z_b850
        have ne_b775_b850 : b775 ≠ b850 := own_ne' lt_b775 z_b850
        have ne_b817_b850 : b817 ≠ b850 := own_ne' lt_b817 z_b850
        have sz_b850 : h0.size ≤ b850 := Nat.le_trans K.1 z_b850
        have g_b850 : n0 ≤ b850 := Nat.le_trans Z0 sz_b850
        replace K := K.trans K849 all0
        replace E_b767 := E_b767.keep K849
        replace V_b767 := V_b767.keep K849 nin0
        replace E_b773 := E_b773.keep K849
        replace F_b773_bytes := F_b773_bytes.keep K849 nin0
        replace F_b773_size := F_b773_size.keep K849 nin0
        replace E_b775 := E_b775.keep K849
        replace V_b775 := V_b775.keep K849 nin0
        replace E_b817 := E_b817.keep K849
        replace V_b817 := V_b817.keep K849 nin0
        show own_Go p e below (T849.setTop (mkF m 127 #[.val (.int i0), .val (.long i1), .second, .val (.int i2), .val (.int i3), .val (.int (1 : Int32)), .val (.int (1 : Int32)), .val (.int (1 : Int32)), .val (.ref b767), .val (.ref b773), .unset, .unset, .unset, .unset] [(.ref b850)])) _
        refine own_astore (pc' := 129) B X849 (Ls' := #[.val (.int i0), .val (.long i1), .second, .val (.int i2), .val (.int i3), .val (.int (1 : Int32)), .val (.int (1 : Int32)), .val (.int (1 : Int32)), .val (.ref b767), .val (.ref b773), .val (.ref b850), .unset, .unset, .unset]) at_127 rfl rfl rfl ?_
        refine own_iload (pc' := 131) B X849 at_129 rfl rfl ?_
        refine own_ifNo (pc' := 134) B X849 at_131 ((if0 _ _).trans (feq (by decide : ¬ ((1 : Int32) = (0 : Int32)))).1) rfl ?_
        refine own_iload (pc' := 136) B X849 at_134 rfl rfl ?_
        refine own_ifNo (pc' := 139) B X849 at_136 ((if0 _ _).trans (feq (by decide : ¬ ((1 : Int32) = (0 : Int32)))).1) rfl ?_
        refine own_aload (pc' := 141) B X849 at_139 rfl rfl rfl ?_
        refine own_arraylength (pc' := 142) B X849 V_b850 at_141 rfl ?_
        refine own_iconst (pc' := 143) B X849 (z := (1 : Int32)) at_142 rfl rfl ?_
        refine own_icmpNo (pc' := 146) B X849 at_143 (teq (by decide : (1 : Int32) = (1 : Int32))).2 rfl ?_
        refine own_aload (pc' := 148) B X849 at_146 rfl rfl rfl ?_
        refine own_iconst (pc' := 149) B X849 (z := (0 : Int32)) at_148 rfl rfl ?_
        refine own_baload (pc' := 150) B X849 V_b850 (v := (.int y779)) ⟨by decide, by decide⟩ rfl at_149 rfl ?_
        refine own_iloadN (pc' := 151) B X849 at_150 rfl rfl ?_
        refine own_i2b (pc' := 152) B X849 at_151 rfl hy786 ?_
        refine own_icmpNo (pc' := 155) B X849 at_152 (teq rfl).2 rfl ?_
        refine own_iconst (pc' := 156) B X849 (z := (1 : Int32)) at_155 rfl rfl ?_
        refine own_goto (pc' := 160) B X849 at_156 (by decide) rfl ?_
        refine own_istore (pc' := 162) B X849 (Ls' := #[.val (.int i0), .val (.long i1), .second, .val (.int i2), .val (.int i3), .val (.int (1 : Int32)), .val (.int (1 : Int32)), .val (.int (1 : Int32)), .val (.ref b767), .val (.ref b773), .val (.ref b850), .val (.int (1 : Int32)), .unset, .unset]) at_160 rfl rfl ?_
        refine own_goto (pc' := 463) B X849 at_162 (by decide) rfl ?_
        refine own_iload (pc' := 465) B X849 at_463 rfl rfl ?_
        refine own_ifYes (pc' := 470) B X849 at_465 ((if0 _ _).trans (feq (by decide : ¬ ((1 : Int32) = (0 : Int32)))).2) (by decide) rfl ?_
        refine own_aload (pc' := 472) B X849 at_470 rfl rfl rfl ?_
        refine own_callV (pc' := 475) B X849 (own_w hw 50 rfl) (own_w hw 51 rfl) (own_w hw 53 rfl) (own_w hw 52 rfl) (own_w hw 3 rfl) (own_w hw 54 rfl) E_b773 (by decide) [] [] (rm_49 l Z a0 hw [] b773 b817 k818 (y779) (y771) (y781) (y783) (y785) (y769) (y798) (y801) (y804) (y807) (y810) (y813) (y816) h849 n0 (Nat.le_trans Z0 K.1) E_b773 F_b773_bytes F_b773_size g_b773 E_b817 V_b817 g_b817 ne_b773_b817) 0 (by decide) (by decide) rfl pd_6 rfl rfl (Nat.le_of_eq rfl) at_472 rfl (k' := 5) (n' := 255) rfl rfl (by decide) (by decide) ?_
        intro T852 v852 h852 X852 q852
        obtain ⟨rfl, rfl⟩ := q852
        show own_Go p e below (T852.setTop (mkF m 475 #[.val (.int i0), .val (.long i1), .second, .val (.int i2), .val (.int i3), .val (.int (1 : Int32)), .val (.int (1 : Int32)), .val (.int (1 : Int32)), .val (.ref b767), .val (.ref b773), .val (.ref b850), .val (.int (1 : Int32)), .unset, .unset] [(.int (1 : Int32))])) _
        refine own_aload (pc' := 477) B X852 at_475 rfl rfl rfl ?_
        refine own_arraylength (pc' := 478) B X852 V_b850 at_477 rfl ?_
        refine own_icmpYes (pc' := 483) B X852 at_478 (teq (by decide : (1 : Int32) = (1 : Int32))).1 (by decide) rfl ?_
        refine own_aload (pc' := 485) B X852 at_483 rfl rfl rfl ?_
        refine own_arraylength (pc' := 486) B X852 V_b850 at_485 rfl ?_
        refine own_ifYes (pc' := 508) B X852 at_486 ((if0 _ _).trans (feq (by decide : ¬ ((1 : Int32) = (0 : Int32)))).2) (by decide) rfl ?_
        refine own_aload (pc' := 510) B X852 at_508 rfl rfl rfl ?_
        refine own_iconst (pc' := 511) B X852 (z := (0 : Int32)) at_510 rfl rfl ?_
        refine own_baload (pc' := 512) B X852 V_b850 (v := (.int y779)) ⟨by decide, by decide⟩ rfl at_511 rfl ?_
        refine own_istore (pc' := 514) B X852 (Ls' := #[.val (.int i0), .val (.long i1), .second, .val (.int i2), .val (.int i3), .val (.int (1 : Int32)), .val (.int (1 : Int32)), .val (.int (1 : Int32)), .val (.ref b767), .val (.ref b773), .val (.ref b850), .val (.int (1 : Int32)), .val (.int y779), .unset]) at_512 rfl rfl ?_
        refine own_aload (pc' := 516) B X852 at_514 rfl rfl rfl ?_
        refine own_iconst (pc' := 517) B X852 (z := (0 : Int32)) at_516 rfl rfl ?_
        refine own_iload (pc' := 519) B X852 at_517 rfl rfl ?_
        refine own_iconst (pc' := 520) B X852 (z := (1 : Int32)) at_519 rfl rfl ?_
        obtain ⟨y853, hy853⟩ : ∃ z : Int32, y779 ^^^ (1 : Int32) = z := ⟨_, rfl⟩
        refine own_ixor (pc' := 521) B X852 at_520 rfl hy853 ?_
        obtain ⟨y854, hy854⟩ : ∃ z : Int32, y853.toInt8.toInt32 = z := ⟨_, rfl⟩
        refine own_i2b (pc' := 522) B X852 at_521 rfl hy854 ?_
        refine own_bastore (pc' := 523) B X852 (x' := y854) V_b850 g_b850 ⟨by decide, by decide⟩ 0 (by decide) (Nat.le_of_ble_eq_true rfl) (own_idem_i2b hy854) at_522 rfl ?_
        intro T855 h855 X855 W855 V_b850
        replace V_b850 : Arv Z h855 b850 k851 .byte (1 : Int32) [(.int y854)] (.int (0 : Int32)) := V_b850
        replace E_b767 := E_b767.wr W855
        replace V_b767 := V_b767.other W855 ne_b767_b850
        replace E_b773 := E_b773.wr W855
        replace F_b773_bytes := F_b773_bytes.other W855 (Or.inl ne_b773_b850)
        replace F_b773_size := F_b773_size.other W855 (Or.inl ne_b773_b850)
        replace E_b775 := E_b775.wr W855
        replace V_b775 := V_b775.other W855 ne_b775_b850
        replace E_b817 := E_b817.wr W855
        replace V_b817 := V_b817.other W855 ne_b817_b850
        replace E_b850 := E_b850.wr W855
        replace K := K.wr W855 (Or.inr sz_b850)
        refine own_aload (pc' := 525) B X855 at_523 rfl rfl rfl ?_
        refine own_callV (pc' := 528) B X855 (own_w hw 33 rfl) (own_w hw 34 rfl) (own_w hw 36 rfl) (own_w hw 35 rfl) (own_w hw 3 rfl) (own_w hw 37 rfl) E_b773 (by decide) [] [] (rm_46 l Z a0 hw [] b773 b817 k818 (y779) (y771) (y781) (y783) (y785) (y769) (y798) (y801) (y804) (y807) (y810) (y813) (y816) h855 n0 (Nat.le_trans Z0 K.1) E_b773 F_b773_bytes F_b773_size g_b773 E_b817 V_b817 g_b817 ne_b773_b817) 0 (by decide) (by decide) rfl pd_5 rfl rfl (Nat.le_of_eq rfl) at_525 rfl (k' := 6) (n' := 256) rfl rfl (by decide) (by decide) ?_
        intro T856 v856 h856 X856 q856
        have lt_b767 := E_b767.lt
        have lt_b773 := E_b773.lt
        have lt_b775 := E_b775.lt
        have lt_b817 := E_b817.lt
        have lt_b850 := E_b850.lt
        obtain ⟨b857, k858, rfl, K856, z_b857, E_b857, V_b857⟩ := q856
        have ne_b767_b857 : b767 ≠ b857 := own_ne' lt_b767 z_b857
        have ne_b773_b857 : b773 ≠ b857 := own_ne' lt_b773 z_b857
        have ne_b775_b857 : b775 ≠ b857 := own_ne' lt_b775 z_b857
        have ne_b817_b857 : b817 ≠ b857 := own_ne' lt_b817 z_b857
        have ne_b850_b857 : b850 ≠ b857 := own_ne' lt_b850 z_b857
        have sz_b857 : h0.size ≤ b857 := Nat.le_trans K.1 z_b857
        have g_b857 : n0 ≤ b857 := Nat.le_trans Z0 sz_b857
        replace K := K.trans K856 all0
        replace E_b767 := E_b767.keep K856
        replace V_b767 := V_b767.keep K856 nin0
        replace E_b773 := E_b773.keep K856
        replace F_b773_bytes := F_b773_bytes.keep K856 nin0
        replace F_b773_size := F_b773_size.keep K856 nin0
        replace E_b775 := E_b775.keep K856
        replace V_b775 := V_b775.keep K856 nin0
        replace E_b817 := E_b817.keep K856
        replace V_b817 := V_b817.keep K856 nin0
        replace E_b850 := E_b850.keep K856
        replace V_b850 := V_b850.keep K856 nin0
        show own_Go p e below (T856.setTop (mkF m 528 #[.val (.int i0), .val (.long i1), .second, .val (.int i2), .val (.int i3), .val (.int (1 : Int32)), .val (.int (1 : Int32)), .val (.int (1 : Int32)), .val (.ref b767), .val (.ref b773), .val (.ref b850), .val (.int (1 : Int32)), .val (.int y779), .unset] [(.ref b857)])) _
        refine own_astore (pc' := 530) B X856 (Ls' := #[.val (.int i0), .val (.long i1), .second, .val (.int i2), .val (.int i3), .val (.int (1 : Int32)), .val (.int (1 : Int32)), .val (.int (1 : Int32)), .val (.ref b767), .val (.ref b773), .val (.ref b850), .val (.int (1 : Int32)), .val (.int y779), .val (.ref b857)]) at_528 rfl rfl rfl ?_
        refine own_aload (pc' := 532) B X856 at_530 rfl rfl rfl ?_
        refine own_aload (pc' := 534) B X856 at_532 rfl rfl rfl ?_
        refine own_acmp B X856 rfl rfl (same := false) at_534 (decide_eq_false fun q => (Ne.symm ne_b850_b857) (Value.ref.inj q)) (by decide) (pc' := 537) (by decide) ?_
        refine own_aload (pc' := 539) B X856 at_537 rfl rfl rfl ?_
        refine own_arraylength (pc' := 540) B X856 V_b857 at_539 rfl ?_
        refine own_aload (pc' := 542) B X856 at_540 rfl rfl rfl ?_
        refine own_arraylength (pc' := 543) B X856 V_b850 at_542 rfl ?_
        refine own_icmpNo (pc' := 546) B X856 at_543 (teq (by decide : (1 : Int32) = (1 : Int32))).2 rfl ?_
        refine own_aload (pc' := 548) B X856 at_546 rfl rfl rfl ?_
        refine own_iconst (pc' := 549) B X856 (z := (0 : Int32)) at_548 rfl rfl ?_
        refine own_baload (pc' := 550) B X856 V_b857 (v := (.int y779)) ⟨by decide, by decide⟩ rfl at_549 rfl ?_
        refine own_iload (pc' := 552) B X856 at_550 rfl rfl ?_
        refine own_icmpNo (pc' := 555) B X856 at_552 (teq rfl).2 rfl ?_
        refine own_iconst (pc' := 556) B X856 (z := (1 : Int32)) at_555 rfl rfl ?_
        refine own_goto (pc' := 560) B X856 at_556 (by decide) rfl ?_
        exact own_retN B X856 (t := .boolean) (z' := (1 : Int32)) (by simp) (by decide) at_560 (by decide) (by decide) rfl
set_option maxRecDepth 65536 in
set_option maxHeartbeats 40000000 in
theorem comes_1 {Post : Tables → Env → Array Value → State → Outcome → State → Prop} (hpost : ∀ tb e args s v u, (limb_1_1.after args s (.returned v) u = true ∧ limb_1_2.after args s (.returned v) u = true ∧ True) → FrameEnd s (.returned v) u (Jvm.fieldLocs frame_1_writes args s ++ Jvm.arrayLocs frame_1_arrays args s ++ Jvm.staticLocs frame_1_statics s) 24 896 → Post tb e args s (.returned v) u) :
    ArmFor flags0 classFile x code maxLocals ret World_1 tables_1 room_1 Calls_1 rest_1 Pre_1 Post := by
  intro l hfl _ _ p e ha hc hk s m args below hf hA hF happ hP
  obtain ⟨hcalls, hrest, hpre⟩ := hP
  obtain ⟨-, -, -, hnamed, -, -, -, hat⟩ := (Spec.applies_iff hf).mp happ
  obtain ⟨hg, hn⟩ := and_e (Cond.before_iff.mp (show (Jvm.Cond.and given_1 narrow_1).before args s = true from hpre))
  obtain ⟨g1, g2⟩ := and_e hg
  obtain ⟨g3, g4⟩ := and_e g2
  obtain ⟨g5, g6⟩ := and_e g4
  obtain ⟨g7, g8⟩ := and_e g6
  obtain ⟨w0, w1, w2, w3, rfl⟩ : ∃ w0 w1 w2 w3 : Value, args = #[w0, w1, w2, w3] := by
    have hs : args.size = 4 := by simpa [Cond.value, given_1] using g1
    obtain ⟨L⟩ := args
    match L, hs with
    | [w0, w1, w2, w3], _ => exact ⟨w0, w1, w2, w3, rfl⟩
  have hw := fun d (hd : d ∈ tables_1) => atoms_spec (ws := Jvm.Cond.code x code maxLocals ret :: tables_1) hat d (List.mem_cons_of_mem _ hd)
  obtain ⟨i0, ei0⟩ := is_v g3
  obtain rfl : w0 = (.int i0) := Option.some.inj ei0
  obtain ⟨i1, ei1⟩ := isL_v g5
  obtain rfl : w1 = (.long i1) := Option.some.inj ei1
  obtain ⟨i2, ei2⟩ := is_v g7
  obtain rfl : w2 = (.int i2) := Option.some.inj ei2
  obtain ⟨i3, ei3⟩ := is_v g8
  obtain rfl : w3 = (.int i3) := Option.some.inj ei3
  obtain ⟨n, o, h1, h2, h3, _, L, rfl, ⟨N, rfl⟩, hq⟩ := rm_0 l s _ hw tables_1 i0 i1 i2 i3 s.heap s.heap.size (Nat.le_refl _)  p e ha hc hk s m _ below hf ((Spec.applies_iff_loose hf).mp happ).1 ⟨rfl, State.Warmed39.refl s, rfl⟩ trivial
  refine ⟨n, _, h1, h2, h3, hpost _ _ _ _ _ _ ⟨Cond.after_iff.mpr rfl, Cond.after_iff.mpr (eq_i res_at (Term.int_eval (1)) rfl), trivial⟩ ⟨hq.1, hq.2.1, (hq.2.2.sift fun y hy => Or.inr (N y hy)).mono (by decide) (by decide)⟩⟩
theorem main_1_1 : Claimed_1_1 := comes_1 fun _ _ _ _ _ _ h hF => ⟨h.1, hF⟩
theorem main_1_2 : Claimed_1_2 := comes_1 fun _ _ _ _ _ _ h hF => ⟨h.2.1, hF⟩
end Jvm.Pilot.@@N@@
namespace Jvm.Pilot.@@N@@
open Jvm Jvm.ClassFile Sem Op Lib Jvm.Free Jvm.Stand Jvm.Pilot.@@N@@.Jvm.D
/-! MADE BY PROGRAM (witnessworld.py) out of the Statement's table words and the real class files: 12 classes; the members and pool entries that the words name. The judged class is class 1, her method 1. -/
namespace start1
open Jvm.ClassFile
def u (s : String) : CpInfo := .utf8 (stringToUtf16 s)
/-- a pool by its gaps: so many unusable entries, then the entry; so many at the end -/
def gap : Nat → List CpInfo → List CpInfo
  | 0, r => r
  | n + 1, r => .unusable :: gap n r
def poolList (es : List (Nat × CpInfo)) (last : Nat) : List CpInfo := es.foldr (fun e r => gap e.1 (e.2 :: r)) (gap last [])
def pool (es : List (Nat × CpInfo)) (last : Nat) : Array CpInfo := ⟨poolList es last⟩
def fileOf (pool : Array CpInfo) (this : Nat) (attrs : Array Attribute := #[]) (ms : Array MethodInfo := #[]) (fl : Nat := 33) (sup : Nat := 0) (ifs : Array Nat := #[]) (fds : Array FieldInfo := #[]) : ClassFile where
  minorVersion := 0
  majorVersion := 65
  constantPool := pool
  accessFlags := fl
  thisClass := this
  superClass := sup
  interfaces := ifs
  fields := fds
  methods := ms
  attributes := attrs
def plain (name : String) (sup : Option ClassId) : Class where
  name := name
  kind := .ordinary
  loader := none
  accessFlags := 33
  super := sup
  interfaces := #[]
  cf := none
  fields := #[]
  methods := #[]
  instanceTypes := #[]
  staticTypes := #[]
  resolved := #[]
  callSites := []
  init := .initialized
  statics := none
  mirror := none

def pool0 : Array CpInfo := pool [(5, u "<init>"), (0, u "()V"), (1, .class_ 10), (1, u "java/lang/Object")] 113

def k0c0 : Code := { maxStack := 0, maxLocals := 1, code := object_method_1_code, exceptionTable := #[], attributes := #[] }
def k0m0 : Method := { name := "<init>", desc := "()V", sig := { parameters := [], returnType := none }, accessFlags := 1, code := some k0c0 }
/-- java/lang/Object -/
def k0 : Class := { plain "java/lang/Object" none with
  accessFlags := 33
  interfaces := #[]
  cf := some (fileOf pool0 8 #[] #[{ accessFlags := 1, nameIndex := 5, descriptorIndex := 6, attributes := #[] }] 33 0 #[] #[])
  fields := #[]
  methods := #[k0m0]
  instanceTypes := #[]
  staticTypes := #[]
  resolved := Array.replicate 124 none
  statics := none }

def pool1 : Array CpInfo := pool [(2, .class_ 4), (0, .nameAndType 5 6), (0, u "java/lang/Object"), (0, u "<init>"), (0, u "()V"), (0, .class_ 8), (0, u "com/example/siltstone/siltstone/format/ByteSink"), (0, .methodref 7 3), (0, .methodref 7 11), (0, .nameAndType 12 13), (0, u "write"), (0, u "([B)V"), (0, .methodref 7 15), (0, .nameAndType 16 17), (0, u "writeIntLe"), (0, u "(I)V"), (0, .methodref 7 19), (0, .nameAndType 20 21), (0, u "writeLongLe"), (0, u "(J)V"), (0, .methodref 7 23), (0, .nameAndType 24 17), (0, u "writeByte"), (0, .methodref 7 26), (0, .nameAndType 27 6), (0, u "clear"), (0, .methodref 7 29), (0, .nameAndType 30 31), (0, u "toByteArray"), (0, u "()[B"), (0, .methodref 7 33), (0, .nameAndType 34 35), (0, u "size"), (0, u "()I"), (0, .class_ 37), (0, u "com/example/siltstone/siltstone/format/ByteSinkToByteArrayPinLaw"), (2, u "law"), (0, u "(IJII)Z")] 5

def k1m0 : Method := { name := "<init>", desc := "()V", sig := { parameters := [], returnType := none }, accessFlags := 1, code := none }
def k1c1 : Code := { maxStack := 4, maxLocals := 14, code := code, exceptionTable := #[], attributes := #[] }
def k1m1 : Method := { name := "law", desc := "(IJII)Z", sig := { parameters := [.int, .long, .int, .int], returnType := some .boolean }, accessFlags := 9, code := some k1c1 }
/-- com/example/siltstone/siltstone/format/ByteSinkToByteArrayPinLaw -/
def k1 : Class := { plain "com/example/siltstone/siltstone/format/ByteSinkToByteArrayPinLaw" (some 0) with
  accessFlags := 49
  interfaces := #[]
  cf := some (fileOf pool1 36 #[] #[{ accessFlags := 1, nameIndex := 5, descriptorIndex := 6, attributes := #[] }, { accessFlags := 9, nameIndex := 40, descriptorIndex := 41, attributes := #[] }] 49 2 #[] #[])
  fields := #[]
  methods := #[k1m0, k1m1]
  instanceTypes := #[]
  staticTypes := #[]
  resolved := Array.replicate 47 none
  statics := none }

def pool2 : Array CpInfo := pool [(1, .methodref 2 3), (0, .class_ 4), (0, .nameAndType 5 6), (0, u "java/lang/Object"), (0, u "<init>"), (0, u "()V"), (0, .fieldref 8 9), (0, .class_ 10), (0, .nameAndType 11 12), (0, u "com/example/siltstone/siltstone/format/ByteSink"), (0, u "bytes"), (0, u "[B"), (0, .fieldref 8 14), (0, .nameAndType 15 16), (0, u "size"), (0, u "I"), (0, .methodref 18 19), (0, .class_ 20), (0, .nameAndType 21 22), (0, u "java/util/Arrays"), (0, u "copyOf"), (0, u "([BI)[B"), (0, .methodref 8 24), (0, .nameAndType 25 26), (0, u "ensure"), (0, u "(I)V"), (0, .methodref 8 28), (0, .nameAndType 29 30), (0, u "write"), (0, u "([BII)V"), (0, .methodref 32 33), (0, .class_ 34), (0, .nameAndType 35 36), (0, u "java/lang/System"), (0, u "arraycopy"), (0, u "(Ljava/lang/Object;ILjava/lang/Object;II)V"), (0, .long 2), (1, .methodref 40 41), (0, .class_ 42), (0, .nameAndType 43 44), (0, u "java/lang/Math"), (0, u "max"), (0, u "(JJ)J"), (2, .long 2147483639), (10, u "()I"), (0, u "clear"), (0, u "toByteArray"), (0, u "()[B"), (1, u "writeByte"), (0, u "writeIntLe"), (1, u "writeLongLe"), (0, u "(J)V"), (0, u "([B)V")] 3

def k2c0 : Code := { maxStack := 2, maxLocals := 1, code := prog_65_method_1_code, exceptionTable := #[], attributes := #[] }
def k2m0 : Method := { name := "<init>", desc := "()V", sig := { parameters := [], returnType := none }, accessFlags := 0, code := some k2c0 }
def k2c1 : Code := { maxStack := 1, maxLocals := 1, code := prog_65_method_2_code, exceptionTable := #[], attributes := #[] }
def k2m1 : Method := { name := "size", desc := "()I", sig := { parameters := [], returnType := some .int }, accessFlags := 0, code := some k2c1 }
def k2c2 : Code := { maxStack := 2, maxLocals := 1, code := prog_65_method_3_code, exceptionTable := #[], attributes := #[] }
def k2m2 : Method := { name := "clear", desc := "()V", sig := { parameters := [], returnType := none }, accessFlags := 0, code := some k2c2 }
def k2c3 : Code := { maxStack := 2, maxLocals := 1, code := prog_65_method_4_code, exceptionTable := #[], attributes := #[] }
def k2m3 : Method := { name := "toByteArray", desc := "()[B", sig := { parameters := [], returnType := some (.array .byte) }, accessFlags := 0, code := some k2c3 }
def k2c4 : Code := { maxStack := 5, maxLocals := 2, code := prog_65_method_6_code, exceptionTable := #[], attributes := #[] }
def k2m4 : Method := { name := "writeByte", desc := "(I)V", sig := { parameters := [.int], returnType := none }, accessFlags := 0, code := some k2c4 }
def k2c5 : Code := { maxStack := 5, maxLocals := 3, code := prog_65_method_7_code, exceptionTable := #[], attributes := #[] }
def k2m5 : Method := { name := "writeIntLe", desc := "(I)V", sig := { parameters := [.int], returnType := none }, accessFlags := 0, code := some k2c5 }
def k2c6 : Code := { maxStack := 6, maxLocals := 4, code := prog_65_method_8_code, exceptionTable := #[], attributes := #[] }
def k2m6 : Method := { name := "writeLongLe", desc := "(J)V", sig := { parameters := [.long], returnType := none }, accessFlags := 0, code := some k2c6 }
def k2c7 : Code := { maxStack := 4, maxLocals := 2, code := prog_65_method_9_code, exceptionTable := #[], attributes := #[] }
def k2m7 : Method := { name := "write", desc := "([B)V", sig := { parameters := [(.array .byte)], returnType := none }, accessFlags := 0, code := some k2c7 }
def k2c8 : Code := { maxStack := 5, maxLocals := 4, code := prog_65_method_10_code, exceptionTable := #[], attributes := #[] }
def k2m8 : Method := { name := "write", desc := "([BII)V", sig := { parameters := [(.array .byte), .int, .int], returnType := none }, accessFlags := 0, code := some k2c8 }
def k2c9 : Code := { maxStack := 6, maxLocals := 4, code := prog_65_method_12_code, exceptionTable := #[], attributes := #[] }
def k2m9 : Method := { name := "ensure", desc := "(I)V", sig := { parameters := [.int], returnType := none }, accessFlags := 2, code := some k2c9 }
/-- com/example/siltstone/siltstone/format/ByteSink -/
def k2 : Class := { plain "com/example/siltstone/siltstone/format/ByteSink" (some 0) with
  accessFlags := 48
  interfaces := #[]
  cf := some (fileOf pool2 8 #[] #[{ accessFlags := 0, nameIndex := 5, descriptorIndex := 6, attributes := #[] }, { accessFlags := 0, nameIndex := 15, descriptorIndex := 58, attributes := #[] }, { accessFlags := 0, nameIndex := 59, descriptorIndex := 6, attributes := #[] }, { accessFlags := 0, nameIndex := 60, descriptorIndex := 61, attributes := #[] }, { accessFlags := 0, nameIndex := 63, descriptorIndex := 26, attributes := #[] }, { accessFlags := 0, nameIndex := 64, descriptorIndex := 26, attributes := #[] }, { accessFlags := 0, nameIndex := 66, descriptorIndex := 67, attributes := #[] }, { accessFlags := 0, nameIndex := 29, descriptorIndex := 68, attributes := #[] }, { accessFlags := 0, nameIndex := 29, descriptorIndex := 30, attributes := #[] }, { accessFlags := 2, nameIndex := 25, descriptorIndex := 26, attributes := #[] }] 48 2 #[] #[{ accessFlags := 2, nameIndex := 11, descriptorIndex := 12, attributes := #[] }, { accessFlags := 2, nameIndex := 15, descriptorIndex := 16, attributes := #[] }])
  fields := #[{ name := "bytes", type := (.array .byte), accessFlags := 2, slot := 0, constantValue := 0 }, { name := "size", type := .int, accessFlags := 2, slot := 1, constantValue := 0 }]
  methods := #[k2m0, k2m1, k2m2, k2m3, k2m4, k2m5, k2m6, k2m7, k2m8, k2m9]
  instanceTypes := #[(.array .byte), .int]
  staticTypes := #[]
  resolved := Array.replicate 72 none
  statics := none }

def pool3 : Array CpInfo := pool [(2, .class_ 4), (1, u "java/lang/Object"), (0, u "<init>"), (0, u "()V"), (7, .class_ 16), (1, u "java/util/Arrays"), (57, .class_ 76), (1, u "java/util/Arrays$NaturalOrder"), (36, .class_ 115), (1, u "java/util/Arrays$LegacyMergeSort"), (1, u "Z"), (32, .methodref 151 152), (0, .class_ 153), (0, .nameAndType 154 155), (0, u "java/lang/System"), (0, u "arraycopy"), (0, u "(Ljava/lang/Object;ILjava/lang/Object;II)V"), (146, u "copyOf"), (1, .methodref 305 306), (0, .class_ 307), (0, .nameAndType 308 309), (0, u "java/lang/Math"), (0, u "min"), (0, u "(II)I"), (65, .class_ 376), (0, u "java/util/Arrays$ArrayList"), (68, u "$assertionsDisabled"), (269, u "MIN_ARRAY_SORT_GRAN"), (0, u "I"), (2, u "INSERTIONSORT_THRESHOLD"), (149, u "([BI)[B"), (105, .class_ 976), (0, u "java/util/Arrays$ArrayItr")] 52

def k3m0 : Method := { name := "<init>", desc := "()V", sig := { parameters := [], returnType := none }, accessFlags := 2, code := none }
def k3c1 : Code := { maxStack := 6, maxLocals := 3, code := jdk_65_method_121_code, exceptionTable := #[], attributes := #[] }
def k3m1 : Method := { name := "copyOf", desc := "([BI)[B", sig := { parameters := [(.array .byte), .int], returnType := some (.array .byte) }, accessFlags := 9, code := some k3c1 }
/-- java/util/Arrays -/
def k3 : Class := { plain "java/util/Arrays" (some 0) with
  accessFlags := 49
  interfaces := #[]
  cf := some (fileOf pool3 14 #[.nestMembers #[975, 375, 113, 74]] #[{ accessFlags := 2, nameIndex := 5, descriptorIndex := 6, attributes := #[] }, { accessFlags := 9, nameIndex := 302, descriptorIndex := 869, attributes := #[] }] 49 2 #[] #[{ accessFlags := 26, nameIndex := 715, descriptorIndex := 716, attributes := #[] }, { accessFlags := 26, nameIndex := 719, descriptorIndex := 716, attributes := #[] }, { accessFlags := 4120, nameIndex := 445, descriptorIndex := 117, attributes := #[] }])
  fields := #[{ name := "MIN_ARRAY_SORT_GRAN", type := .int, accessFlags := 26, slot := 0, constantValue := 0 }, { name := "INSERTIONSORT_THRESHOLD", type := .int, accessFlags := 26, slot := 1, constantValue := 0 }, { name := "$assertionsDisabled", type := .boolean, accessFlags := 4120, slot := 2, constantValue := 0 }]
  methods := #[k3m0, k3m1]
  instanceTypes := #[]
  staticTypes := #[.int, .int, .boolean]
  resolved := Array.replicate 1029 none
  statics := none }

def pool4 : Array CpInfo := pool [(1, .class_ 2), (0, u "java/lang/Math"), (1, .class_ 6), (1, u "java/lang/Object"), (0, u "<init>"), (0, u "()V"), (89, .class_ 100), (1, u "java/lang/Math$RandomNumberGeneratorHolder"), (20, u "(JJ)J"), (50, u "negativeZeroFloatBits"), (0, u "J"), (2, u "negativeZeroDoubleBits"), (21, u "max"), (2, u "min"), (43, u "$assertionsDisabled"), (0, u "Z"), (88, u "(II)I"), (2, u "twoToTheDoubleScaleDown"), (0, u "D"), (4, u "twoToTheDoubleScaleUp"), (9, u "E"), (3, u "PI"), (2, u "TAU"), (2, u "DEGREES_TO_RADIANS"), (0, u "RADIANS_TO_DEGREES")] 94

def k4m0 : Method := { name := "<init>", desc := "()V", sig := { parameters := [], returnType := none }, accessFlags := 2, code := none }
def k4c1 : Code := { maxStack := 4, maxLocals := 4, code := jdk_29_method_66_code, exceptionTable := #[], attributes := #[] }
def k4m1 : Method := { name := "max", desc := "(JJ)J", sig := { parameters := [.long, .long], returnType := some .long }, accessFlags := 9, code := some k4c1 }
def k4c2 : Code := { maxStack := 2, maxLocals := 2, code := jdk_29_method_69_code, exceptionTable := #[], attributes := #[] }
def k4m2 : Method := { name := "min", desc := "(II)I", sig := { parameters := [.int, .int], returnType := some .int }, accessFlags := 9, code := some k4c2 }
/-- java/lang/Math -/
def k4 : Class := { plain "java/lang/Math" (some 0) with
  accessFlags := 49
  interfaces := #[]
  cf := some (fileOf pool4 1 #[.nestMembers #[98]] #[{ accessFlags := 2, nameIndex := 7, descriptorIndex := 8, attributes := #[] }, { accessFlags := 9, nameIndex := 198, descriptorIndex := 121, attributes := #[] }, { accessFlags := 9, nameIndex := 201, descriptorIndex := 335, attributes := #[] }] 49 4 #[] #[{ accessFlags := 25, nameIndex := 354, descriptorIndex := 339, attributes := #[] }, { accessFlags := 25, nameIndex := 358, descriptorIndex := 339, attributes := #[] }, { accessFlags := 25, nameIndex := 361, descriptorIndex := 339, attributes := #[] }, { accessFlags := 26, nameIndex := 364, descriptorIndex := 339, attributes := #[] }, { accessFlags := 26, nameIndex := 365, descriptorIndex := 339, attributes := #[] }, { accessFlags := 26, nameIndex := 172, descriptorIndex := 173, attributes := #[] }, { accessFlags := 26, nameIndex := 176, descriptorIndex := 173, attributes := #[] }, { accessFlags := 8, nameIndex := 344, descriptorIndex := 339, attributes := #[] }, { accessFlags := 8, nameIndex := 338, descriptorIndex := 339, attributes := #[] }, { accessFlags := 4120, nameIndex := 245, descriptorIndex := 246, attributes := #[] }])
  fields := #[{ name := "E", type := .double, accessFlags := 25, slot := 0, constantValue := 0 }, { name := "PI", type := .double, accessFlags := 25, slot := 1, constantValue := 0 }, { name := "TAU", type := .double, accessFlags := 25, slot := 2, constantValue := 0 }, { name := "DEGREES_TO_RADIANS", type := .double, accessFlags := 26, slot := 3, constantValue := 0 }, { name := "RADIANS_TO_DEGREES", type := .double, accessFlags := 26, slot := 4, constantValue := 0 }, { name := "negativeZeroFloatBits", type := .long, accessFlags := 26, slot := 5, constantValue := 0 }, { name := "negativeZeroDoubleBits", type := .long, accessFlags := 26, slot := 6, constantValue := 0 }, { name := "twoToTheDoubleScaleUp", type := .double, accessFlags := 8, slot := 7, constantValue := 0 }, { name := "twoToTheDoubleScaleDown", type := .double, accessFlags := 8, slot := 8, constantValue := 0 }, { name := "$assertionsDisabled", type := .boolean, accessFlags := 4120, slot := 9, constantValue := 0 }]
  methods := #[k4m0, k4m1, k4m2]
  instanceTypes := #[]
  staticTypes := #[.double, .double, .double, .double, .double, .long, .long, .double, .double, .boolean]
  resolved := Array.replicate 460 none
  statics := none }

def pool5 : Array CpInfo := pool [(2, .class_ 4), (1, u "java/lang/Object"), (0, u "<init>"), (0, u "()V"), (1, .class_ 10), (1, u "java/lang/System"), (0, u "allowSecurityManager"), (0, u "I"), (16, u "cons"), (0, u "Ljava/io/Console;"), (77, .class_ 110), (1, u "java/lang/System$CallersHolder"), (43, u "initialErrStream"), (0, u "Ljava/io/PrintStream;"), (19, u "security"), (0, u "Ljava/lang/SecurityManager;"), (31, .class_ 209), (0, u "java/lang/System$1"), (7, u "props"), (0, u "Ljava/util/Properties;"), (2, u "lineSeparator"), (0, u "Ljava/lang/String;"), (96, .class_ 321), (1, u "java/lang/System$LoggerFinder"), (5, .class_ 328), (0, u "java/lang/System$Logger"), (67, u "err"), (2, u "out"), (91, u "notSupportedJnuEncoding"), (15, u "in"), (17, u "initialIn"), (0, u "Ljava/io/InputStream;"), (35, u "bootLayer"), (0, u "Ljava/lang/ModuleLayer;"), (99, .class_ 664), (0, u "java/lang/System$2"), (9, u "NEVER"), (2, u "MAYBE"), (49, u "arraycopy"), (0, u "(Ljava/lang/Object;ILjava/lang/Object;II)V"), (72, .class_ 802), (0, u "java/lang/System$Logger$Level")] 31

def k5m0 : Method := { name := "<init>", desc := "()V", sig := { parameters := [], returnType := none }, accessFlags := 2, code := none }
def k5m1 : Method := { name := "arraycopy", desc := "(Ljava/lang/Object;ILjava/lang/Object;II)V", sig := { parameters := [(.object "java/lang/Object"), .int, (.object "java/lang/Object"), .int, .int], returnType := none }, accessFlags := 265, code := none }
/-- java/lang/System -/
def k5 : Class := { plain "java/lang/System" (some 0) with
  accessFlags := 49
  interfaces := #[]
  cf := some (fileOf pool5 8 #[.nestMembers #[319, 327, 801, 108, 663, 208]] #[{ accessFlags := 2, nameIndex := 5, descriptorIndex := 6, attributes := #[] }, { accessFlags := 265, nameIndex := 727, descriptorIndex := 728, attributes := #[] }] 49 2 #[] #[{ accessFlags := 25, nameIndex := 507, descriptorIndex := 526, attributes := #[] }, { accessFlags := 25, nameIndex := 399, descriptorIndex := 155, attributes := #[] }, { accessFlags := 25, nameIndex := 396, descriptorIndex := 155, attributes := #[] }, { accessFlags := 10, nameIndex := 525, descriptorIndex := 526, attributes := #[] }, { accessFlags := 26, nameIndex := 674, descriptorIndex := 12, attributes := #[] }, { accessFlags := 26, nameIndex := 677, descriptorIndex := 12, attributes := #[] }, { accessFlags := 10, nameIndex := 11, descriptorIndex := 12, attributes := #[] }, { accessFlags := 74, nameIndex := 175, descriptorIndex := 176, attributes := #[] }, { accessFlags := 10, nameIndex := 491, descriptorIndex := 222, attributes := #[] }, { accessFlags := 74, nameIndex := 29, descriptorIndex := 30, attributes := #[] }, { accessFlags := 74, nameIndex := 154, descriptorIndex := 155, attributes := #[] }, { accessFlags := 10, nameIndex := 217, descriptorIndex := 218, attributes := #[] }, { accessFlags := 10, nameIndex := 221, descriptorIndex := 222, attributes := #[] }, { accessFlags := 8, nameIndex := 562, descriptorIndex := 563, attributes := #[] }])
  fields := #[{ name := "in", type := (.object "java/io/InputStream"), accessFlags := 25, slot := 0, constantValue := 0 }, { name := "out", type := (.object "java/io/PrintStream"), accessFlags := 25, slot := 1, constantValue := 0 }, { name := "err", type := (.object "java/io/PrintStream"), accessFlags := 25, slot := 2, constantValue := 0 }, { name := "initialIn", type := (.object "java/io/InputStream"), accessFlags := 10, slot := 3, constantValue := 0 }, { name := "NEVER", type := .int, accessFlags := 26, slot := 4, constantValue := 0 }, { name := "MAYBE", type := .int, accessFlags := 26, slot := 5, constantValue := 0 }, { name := "allowSecurityManager", type := .int, accessFlags := 10, slot := 6, constantValue := 0 }, { name := "security", type := (.object "java/lang/SecurityManager"), accessFlags := 74, slot := 7, constantValue := 0 }, { name := "notSupportedJnuEncoding", type := (.object "java/lang/String"), accessFlags := 10, slot := 8, constantValue := 0 }, { name := "cons", type := (.object "java/io/Console"), accessFlags := 74, slot := 9, constantValue := 0 }, { name := "initialErrStream", type := (.object "java/io/PrintStream"), accessFlags := 74, slot := 10, constantValue := 0 }, { name := "props", type := (.object "java/util/Properties"), accessFlags := 10, slot := 11, constantValue := 0 }, { name := "lineSeparator", type := (.object "java/lang/String"), accessFlags := 10, slot := 12, constantValue := 0 }, { name := "bootLayer", type := (.object "java/lang/ModuleLayer"), accessFlags := 8, slot := 13, constantValue := 0 }]
  methods := #[k5m0, k5m1]
  instanceTypes := #[]
  staticTypes := #[(.object "java/io/InputStream"), (.object "java/io/PrintStream"), (.object "java/io/PrintStream"), (.object "java/io/InputStream"), .int, .int, .int, (.object "java/lang/SecurityManager"), (.object "java/lang/String"), (.object "java/io/Console"), (.object "java/io/PrintStream"), (.object "java/util/Properties"), (.object "java/lang/String"), (.object "java/lang/ModuleLayer")]
  resolved := Array.replicate 834 none
  statics := none }

def pool6 : Array CpInfo := pool [(1, u "java/lang/Cloneable"), (0, .class_ 1), (0, u "java/lang/Object"), (0, .class_ 3)] 3

/-- java/lang/Cloneable -/
def k6 : Class := { plain "java/lang/Cloneable" (some 0) with
  accessFlags := 1537
  interfaces := #[]
  cf := some (fileOf pool6 2 #[] #[] 1537 4 #[] #[])
  fields := #[]
  methods := #[]
  instanceTypes := #[]
  staticTypes := #[]
  resolved := Array.replicate 8 none
  statics := none }

def pool7 : Array CpInfo := pool [(1, u "java/io/Serializable"), (0, .class_ 1), (0, u "java/lang/Object"), (0, .class_ 3)] 3

/-- java/io/Serializable -/
def k7 : Class := { plain "java/io/Serializable" (some 0) with
  accessFlags := 1537
  interfaces := #[]
  cf := some (fileOf pool7 2 #[] #[] 1537 4 #[] #[])
  fields := #[]
  methods := #[]
  instanceTypes := #[]
  staticTypes := #[]
  resolved := Array.replicate 8 none
  statics := none }

/-- the primitive byte -/
def k8 : Class := { plain "byte" none with kind := .primitive 'B', accessFlags := 0x411 }
/-- [B -/
def k9 : Class := { plain "[B" (some 0) with kind := .array 8 .byte, interfaces := #[6, 7], accessFlags := 1041 }

/-- the primitive int -/
def k10 : Class := { plain "int" none with kind := .primitive 'I', accessFlags := 0x411 }
/-- [I -/
def k11 : Class := { plain "[I" (some 0) with kind := .array 10 .int, interfaces := #[6, 7], accessFlags := 1041 }

def heap : Heap := #[]
def classes : Array Class := #[k0, k1, k2, k3, k4, k5, k6, k7, k8, k9, k10, k11]
def interned : List (Array UInt16 × Addr) := []
def slotsUsed : Nat := 0
def theMethod : MethodId := ⟨1, 1⟩
def args0 : Array Value := #[.int 1, .long 2, .int 3, .int 0]
def aboutOver (below : List Frame) : State where
  vm := { classes := classes, interned := interned.toArray }
  heap := heap
  slotsUsed := slotsUsed
  threads := #[{ frames := .invoking theMethod args0 :: below }]
def below0 : List Frame := [.native { method := ⟨0, 0⟩, args := #[] }]
def about1 : State := aboutOver below0
def p0 : Program := .bare "" "" ""
def e0 : Env := launch0.env 0 0 0
theorem w_frames : about1.frames = Frame.invoking theMethod args0 :: below0 := rfl
set_option maxRecDepth 65536 in
theorem w_args : argsFit about1.vm theMethod args0 = true := by decide +kernel
set_option maxRecDepth 65536 in
theorem w_heap : heapFits about1 = true := by decide +kernel
set_option maxRecDepth 65536 in
theorem w_runnable : about1.curStatus? = some .runnable := by decide +kernel
set_option maxRecDepth 65536 in
theorem w_alone : about1.alone = true := by decide +kernel
set_option maxRecDepth 65536 in
theorem w_named : about1.methodNamed? x = some theMethod := by decide +kernel
set_option maxRecDepth 65536 in
theorem w_hears : about1.hears theMethod below0 = true := by decide +kernel
set_option maxRecDepth 65536 in
theorem w_ripe : about1.ripe theMethod args0 below0 = true := by decide +kernel
theorem w_running : about1.status = .running := rfl
set_option maxRecDepth 65536 in
theorem w_room : about1.hasRoom e0.platform room_1 = true :=
  launch0.hasRoom_least _ room_1 (by decide +kernel) (by decide +kernel) (by decide +kernel) (by decide +kernel) (by decide +kernel) (by decide +kernel)
theorem allAtoms_all (ts : List Jvm.Cond) (a : Array Jvm.Value) (st : Jvm.State) : (allAtoms ts).before a st = ts.all (fun c => c.before a st) := by
  induction ts with
  | nil => rfl
  | cons c t ih =>
    show (Jvm.Cond.and c (allAtoms t)).before a st = _
    rw [Jvm.Cond.before_and, ih, List.all_cons]
def words1 : List Jvm.Cond := Jvm.Cond.code x code maxLocals ret :: tables_1
/-- a 'code' word, met by the world's own term for the bytes: nothing is compared byte by byte -/
theorem code_word {y : MethodName} {bytes : ByteArray} {mx : Nat} {rt : Option FieldType} {a : Array Value} {s : State} {m : MethodId} {meth : Method} {c : Code} (h1 : s.methodNamed? y = some m) (h2 : s.vm.method? m = some meth) (h3 : meth.code = some c) (h4 : c.code = bytes)
    (h5 : (c.maxLocals == mx && c.exceptionTable.isEmpty && decide (c.maxStack ≤ mostOperands) && decide (meth.sig.returnType = rt) && !meth.locks && decide (parseMethodDescriptor y.desc = some meth.sig)) = true) : (Jvm.Cond.code y bytes mx rt).before a s = true := by
  simp only [Bool.and_eq_true, beq_iff_eq, Bool.not_eq_true', decide_eq_true_eq] at h5
  obtain ⟨⟨⟨⟨⟨g1, g2⟩, g3⟩, g4⟩, g5⟩, g6⟩ := h5
  simp [Cond.before, Cond.holds, Cond.value, h1, h2, h3, h4, g1, g2, g3, g4, g5, g6]
def isCode : Jvm.Cond → Bool
  | .code _ _ _ _ => true
  | _ => false
theorem all_split {L : List Jvm.Cond} {P : Jvm.Cond → Bool} (h1 : L.all (fun c => isCode c || P c) = true) (h2 : ∀ c ∈ L.filter isCode, P c = true) : L.all P = true := by
  refine List.all_eq_true.mpr fun c hc => ?_
  have h := List.all_eq_true.mp h1 c hc
  rcases Bool.eq_false_or_eq_true (isCode c) with hi | hi
  · exact h2 c (List.mem_filter.mpr ⟨hc, hi⟩)
  · simpa [hi] using h
set_option maxRecDepth 65536 in
theorem w_c0 : (Jvm.Cond.code x code maxLocals ret).before args0 about1 = true := code_word (m := ⟨1, 1⟩) (meth := k1m1) (c := k1c1) (by decide +kernel) rfl rfl rfl (by decide +kernel)
set_option maxRecDepth 65536 in
theorem w_c1 : (Jvm.Cond.code ({ cls := "com/example/siltstone/siltstone/format/ByteSink", name := "<init>", desc := "()V" } : Jvm.MethodName) prog_65_method_1_code (1 : Nat) (Option.none : Option Jvm.ClassFile.FieldType)).before args0 about1 = true := code_word (m := ⟨2, 0⟩) (meth := k2m0) (c := k2c0) (by decide +kernel) rfl rfl rfl (by decide +kernel)
set_option maxRecDepth 65536 in
theorem w_c2 : (Jvm.Cond.code ({ cls := "java/lang/Object", name := "<init>", desc := "()V" } : Jvm.MethodName) object_method_1_code (1 : Nat) (Option.none : Option Jvm.ClassFile.FieldType)).before args0 about1 = true := code_word (m := ⟨0, 0⟩) (meth := k0m0) (c := k0c0) (by decide +kernel) rfl rfl rfl (by decide +kernel)
set_option maxRecDepth 65536 in
theorem w_c3 : (Jvm.Cond.code ({ cls := "com/example/siltstone/siltstone/format/ByteSink", name := "writeIntLe", desc := "(I)V" } : Jvm.MethodName) prog_65_method_7_code (3 : Nat) (Option.none : Option Jvm.ClassFile.FieldType)).before args0 about1 = true := code_word (m := ⟨2, 5⟩) (meth := k2m5) (c := k2c5) (by decide +kernel) rfl rfl rfl (by decide +kernel)
set_option maxRecDepth 65536 in
theorem w_c4 : (Jvm.Cond.code ({ cls := "com/example/siltstone/siltstone/format/ByteSink", name := "ensure", desc := "(I)V" } : Jvm.MethodName) prog_65_method_12_code (4 : Nat) (Option.none : Option Jvm.ClassFile.FieldType)).before args0 about1 = true := code_word (m := ⟨2, 9⟩) (meth := k2m9) (c := k2c9) (by decide +kernel) rfl rfl rfl (by decide +kernel)
set_option maxRecDepth 65536 in
theorem w_c5 : (Jvm.Cond.code ({ cls := "com/example/siltstone/siltstone/format/ByteSink", name := "writeLongLe", desc := "(J)V" } : Jvm.MethodName) prog_65_method_8_code (4 : Nat) (Option.none : Option Jvm.ClassFile.FieldType)).before args0 about1 = true := code_word (m := ⟨2, 6⟩) (meth := k2m6) (c := k2c6) (by decide +kernel) rfl rfl rfl (by decide +kernel)
set_option maxRecDepth 65536 in
theorem w_c6 : (Jvm.Cond.code ({ cls := "com/example/siltstone/siltstone/format/ByteSink", name := "writeByte", desc := "(I)V" } : Jvm.MethodName) prog_65_method_6_code (2 : Nat) (Option.none : Option Jvm.ClassFile.FieldType)).before args0 about1 = true := code_word (m := ⟨2, 4⟩) (meth := k2m4) (c := k2c4) (by decide +kernel) rfl rfl rfl (by decide +kernel)
set_option maxRecDepth 65536 in
theorem w_c7 : (Jvm.Cond.code ({ cls := "com/example/siltstone/siltstone/format/ByteSink", name := "toByteArray", desc := "()[B" } : Jvm.MethodName) prog_65_method_4_code (1 : Nat) (Option.some (Jvm.ClassFile.FieldType.array Jvm.ClassFile.FieldType.byte))).before args0 about1 = true := code_word (m := ⟨2, 3⟩) (meth := k2m3) (c := k2c3) (by decide +kernel) rfl rfl rfl (by decide +kernel)
set_option maxRecDepth 65536 in
theorem w_c8 : (Jvm.Cond.code ({ cls := "java/util/Arrays", name := "copyOf", desc := "([BI)[B" } : Jvm.MethodName) jdk_65_method_121_code (3 : Nat) (Option.some (Jvm.ClassFile.FieldType.array Jvm.ClassFile.FieldType.byte))).before args0 about1 = true := code_word (m := ⟨3, 1⟩) (meth := k3m1) (c := k3c1) (by decide +kernel) rfl rfl rfl (by decide +kernel)
set_option maxRecDepth 65536 in
theorem w_c9 : (Jvm.Cond.code ({ cls := "java/lang/Math", name := "min", desc := "(II)I" } : Jvm.MethodName) jdk_29_method_69_code (2 : Nat) (Option.some Jvm.ClassFile.FieldType.int)).before args0 about1 = true := code_word (m := ⟨4, 2⟩) (meth := k4m2) (c := k4c2) (by decide +kernel) rfl rfl rfl (by decide +kernel)
set_option maxRecDepth 65536 in
theorem w_c10 : (Jvm.Cond.code ({ cls := "com/example/siltstone/siltstone/format/ByteSink", name := "size", desc := "()I" } : Jvm.MethodName) prog_65_method_2_code (1 : Nat) (Option.some Jvm.ClassFile.FieldType.int)).before args0 about1 = true := code_word (m := ⟨2, 1⟩) (meth := k2m1) (c := k2c1) (by decide +kernel) rfl rfl rfl (by decide +kernel)
set_option maxRecDepth 65536 in
theorem w_c11 : (Jvm.Cond.code ({ cls := "com/example/siltstone/siltstone/format/ByteSink", name := "write", desc := "([B)V" } : Jvm.MethodName) prog_65_method_9_code (2 : Nat) (Option.none : Option Jvm.ClassFile.FieldType)).before args0 about1 = true := code_word (m := ⟨2, 7⟩) (meth := k2m7) (c := k2c7) (by decide +kernel) rfl rfl rfl (by decide +kernel)
set_option maxRecDepth 65536 in
theorem w_c12 : (Jvm.Cond.code ({ cls := "com/example/siltstone/siltstone/format/ByteSink", name := "write", desc := "([BII)V" } : Jvm.MethodName) prog_65_method_10_code (4 : Nat) (Option.none : Option Jvm.ClassFile.FieldType)).before args0 about1 = true := code_word (m := ⟨2, 8⟩) (meth := k2m8) (c := k2c8) (by decide +kernel) rfl rfl rfl (by decide +kernel)
set_option maxRecDepth 65536 in
theorem w_c13 : (Jvm.Cond.code ({ cls := "java/lang/Math", name := "max", desc := "(JJ)J" } : Jvm.MethodName) jdk_29_method_66_code (4 : Nat) (Option.some Jvm.ClassFile.FieldType.long)).before args0 about1 = true := code_word (m := ⟨4, 1⟩) (meth := k4m1) (c := k4c1) (by decide +kernel) rfl rfl rfl (by decide +kernel)
set_option maxRecDepth 65536 in
theorem w_c14 : (Jvm.Cond.code ({ cls := "com/example/siltstone/siltstone/format/ByteSink", name := "clear", desc := "()V" } : Jvm.MethodName) prog_65_method_3_code (1 : Nat) (Option.none : Option Jvm.ClassFile.FieldType)).before args0 about1 = true := code_word (m := ⟨2, 2⟩) (meth := k2m2) (c := k2c2) (by decide +kernel) rfl rfl rfl (by decide +kernel)
def codes1 : List Jvm.Cond := [Jvm.Cond.code x code maxLocals ret, Jvm.Cond.code ({ cls := "com/example/siltstone/siltstone/format/ByteSink", name := "<init>", desc := "()V" } : Jvm.MethodName) prog_65_method_1_code (1 : Nat) (Option.none : Option Jvm.ClassFile.FieldType), Jvm.Cond.code ({ cls := "java/lang/Object", name := "<init>", desc := "()V" } : Jvm.MethodName) object_method_1_code (1 : Nat) (Option.none : Option Jvm.ClassFile.FieldType), Jvm.Cond.code ({ cls := "com/example/siltstone/siltstone/format/ByteSink", name := "writeIntLe", desc := "(I)V" } : Jvm.MethodName) prog_65_method_7_code (3 : Nat) (Option.none : Option Jvm.ClassFile.FieldType), Jvm.Cond.code ({ cls := "com/example/siltstone/siltstone/format/ByteSink", name := "ensure", desc := "(I)V" } : Jvm.MethodName) prog_65_method_12_code (4 : Nat) (Option.none : Option Jvm.ClassFile.FieldType), Jvm.Cond.code ({ cls := "com/example/siltstone/siltstone/format/ByteSink", name := "writeLongLe", desc := "(J)V" } : Jvm.MethodName) prog_65_method_8_code (4 : Nat) (Option.none : Option Jvm.ClassFile.FieldType), Jvm.Cond.code ({ cls := "com/example/siltstone/siltstone/format/ByteSink", name := "writeByte", desc := "(I)V" } : Jvm.MethodName) prog_65_method_6_code (2 : Nat) (Option.none : Option Jvm.ClassFile.FieldType), Jvm.Cond.code ({ cls := "com/example/siltstone/siltstone/format/ByteSink", name := "toByteArray", desc := "()[B" } : Jvm.MethodName) prog_65_method_4_code (1 : Nat) (Option.some (Jvm.ClassFile.FieldType.array Jvm.ClassFile.FieldType.byte)), Jvm.Cond.code ({ cls := "java/util/Arrays", name := "copyOf", desc := "([BI)[B" } : Jvm.MethodName) jdk_65_method_121_code (3 : Nat) (Option.some (Jvm.ClassFile.FieldType.array Jvm.ClassFile.FieldType.byte)), Jvm.Cond.code ({ cls := "java/lang/Math", name := "min", desc := "(II)I" } : Jvm.MethodName) jdk_29_method_69_code (2 : Nat) (Option.some Jvm.ClassFile.FieldType.int), Jvm.Cond.code ({ cls := "com/example/siltstone/siltstone/format/ByteSink", name := "size", desc := "()I" } : Jvm.MethodName) prog_65_method_2_code (1 : Nat) (Option.some Jvm.ClassFile.FieldType.int), Jvm.Cond.code ({ cls := "com/example/siltstone/siltstone/format/ByteSink", name := "write", desc := "([B)V" } : Jvm.MethodName) prog_65_method_9_code (2 : Nat) (Option.none : Option Jvm.ClassFile.FieldType), Jvm.Cond.code ({ cls := "com/example/siltstone/siltstone/format/ByteSink", name := "write", desc := "([BII)V" } : Jvm.MethodName) prog_65_method_10_code (4 : Nat) (Option.none : Option Jvm.ClassFile.FieldType), Jvm.Cond.code ({ cls := "java/lang/Math", name := "max", desc := "(JJ)J" } : Jvm.MethodName) jdk_29_method_66_code (4 : Nat) (Option.some Jvm.ClassFile.FieldType.long), Jvm.Cond.code ({ cls := "com/example/siltstone/siltstone/format/ByteSink", name := "clear", desc := "()V" } : Jvm.MethodName) prog_65_method_3_code (1 : Nat) (Option.none : Option Jvm.ClassFile.FieldType)]
set_option maxRecDepth 65536 in
theorem codes_eq : words1.filter isCode = codes1 := rfl
theorem w_codes : ∀ c ∈ words1.filter isCode, c.before args0 about1 = true := by
  rw [codes_eq]
  intro c hc
  simp only [codes1, List.mem_cons, List.not_mem_nil, or_false] at hc
  rcases hc with rfl | rfl | rfl | rfl | rfl | rfl | rfl | rfl | rfl | rfl | rfl | rfl | rfl | rfl | rfl
  · exact w_c0
  · exact w_c1
  · exact w_c2
  · exact w_c3
  · exact w_c4
  · exact w_c5
  · exact w_c6
  · exact w_c7
  · exact w_c8
  · exact w_c9
  · exact w_c10
  · exact w_c11
  · exact w_c12
  · exact w_c13
  · exact w_c14
set_option maxRecDepth 65536 in
theorem w_t1 : (words1.take 24).all (fun c => isCode c || c.before args0 about1) = true := by decide +kernel
set_option maxRecDepth 65536 in
theorem w_t2 : ((words1.drop 24).take 24).all (fun c => isCode c || c.before args0 about1) = true := by decide +kernel
set_option maxRecDepth 65536 in
theorem w_t3 : (((words1.drop 24).drop 24).take 24).all (fun c => isCode c || c.before args0 about1) = true := by decide +kernel
set_option maxRecDepth 65536 in
theorem w_t4 : (((words1.drop 24).drop 24).drop 24).all (fun c => isCode c || c.before args0 about1) = true := by decide +kernel
theorem w_tables : (allAtoms (Jvm.Cond.code x code maxLocals ret :: tables_1)).before args0 about1 = true := by
  rw [allAtoms_all]
  show words1.all (fun c => c.before args0 about1) = true
  refine all_split ?_ w_codes
  rw [← List.take_append_drop 24 words1, List.all_append, w_t1, ← List.take_append_drop 24 (words1.drop 24), List.all_append, w_t2, ← List.take_append_drop 24 ((words1.drop 24).drop 24), List.all_append, w_t3, w_t4]
  rfl
set_option maxRecDepth 65536 in
theorem w_case : (Jvm.Cond.and given_1 narrow_1).before args0 about1 = true := by decide +kernel
theorem w_applies : (headSpec (Jvm.Cond.code x code maxLocals ret :: tables_1) room_1).applies x e0.platform about1 = true :=
  (Spec.applies_iff w_frames).mpr ⟨w_running, w_runnable, w_alone, w_named, w_hears, w_ripe, w_room, w_tables⟩
theorem atStart : AtStart classFile x code maxLocals ret World_1 tables_1 room_1 Calls_1 rest_1 Pre_1 launch0 p0 e0 about1 theMethod args0 below0 :=
  ⟨lists_1, trivial, launch0.admits_env _ _ _, launch0.least_env, fairChoices_fair.cas, fairChoices_fair.clock, w_frames, w_args, w_heap, w_applies, trivial, trivial, w_case⟩
end start1
theorem witness_1 : WitnessClaimed_1 := ⟨start1.p0, start1.e0, start1.about1, start1.theMethod, start1.args0, start1.below0, start1.atStart⟩
end Jvm.Pilot.@@N@@
