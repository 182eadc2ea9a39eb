import JvmDerived
import JvmDerived.Pilot.@@N@@Statement
import JvmDerived.Pilot.@@N@@Code
set_option linter.unusedVariables false
set_option linter.unusedSimpArgs false
namespace Jvm.Pilot.@@N@@
open Jvm Jvm.ClassFile Sem Op Lib Jvm.Free Jvm.Stand Jvm.LawKit Jvm.RoadKit Bundle Jvm.Pilot.@@N@@.Jvm.D
section OwnKit
variable {p : Program} {l : Launch} {e : Env} {R : Room} {s : State} {m : MethodId} {args : Array Value} {below : List Frame} {meth : Method} {c : Code} {T : State} {cells slots : Nat} {P : State → Outcome → Prop}
variable {Z : State} {a0 : Array Value} {h h0 : Heap} {n0 : Nat} {own nm : String} {bytes : ByteArray} {maxL : Nat} {ret : Option FieldType}
variable {pc pc' : Nat} {Ls : Array Slot} {st : List Value}
/-- from the state U the run comes to an end that P allows -/
def own_Go (p : Program) (e : Env) (below : List Frame) (U : State) (P : State → Outcome → Prop) : Prop := ∃ a o, Steps p.tables e below U a ∧ P a o
theorem own_by {U U' : State} (q : ∀ t, Steps p.tables e below U' t → Steps p.tables e below U t) (G : own_Go p e below U' P) : own_Go p e below U P := by
  obtain ⟨a, o, h1, h2⟩ := G
  exact ⟨a, o, q a h1, h2⟩
/-- what stays the same in one body -/
def own_B (p : Program) (s : State) (m : MethodId) (meth : Method) (c : Code) (Z : State) (own nm : String) (bytes : ByteArray) (maxL : Nat) (ret : Option FieldType) : Prop :=
  p.tables.exec = Jvm.exec ∧ Z.Warmed39 s.vm ∧ c.maxLocals = maxL ∧ s.vm.findClass own = some m.cls ∧ meth.sig.returnType = ret ∧ meth.locks = false ∧ meth.name = nm ∧ c.code = bytes
/-- where the run stands: the state T, its heap h; nothing below n0 has been written -/
def own_S (p : Program) (l : Launch) (e : Env) (R : Room) (s : State) (m : MethodId) (args : Array Value) (below : List Frame) (meth : Method) (c : Code) (n0 : Nat) (T : State) (h : Heap) (cells slots : Nat) : Prop :=
  ∃ locs, Stand p l e R s m args below meth c T locs cells slots ∧ T.heap = h ∧ Fr n0 locs
/-- what a body owes at its end -/
def own_P (s : State) (below : List Frame) (n0 : Nat) (Q : Option Value → Heap → Prop) (k n : Nat) (a : State) (o : Outcome) : Prop :=
  a.status = .running ∧ Ended a below o ∧ ∃ v L, o = .returned v ∧ (Fr n0 L ∧ Q v a.heap) ∧ FrameEnd s o a L k n
theorem own_iload (B : own_B p s m meth c Z own nm bytes maxL ret) (X : own_S p l e R s m args below meth c n0 T h cells slots) {k : Nat} {v : Int32} (d : decode bytes pc = .ok (.iload k, 2)) (hp : pc + 2 = pc') (hl : Ls[k]? = some (.val (.int v)))
    (G : own_Go p e below (T.setTop (mkF m pc' Ls (.int v :: st))) P) : own_Go p e below (T.setTop (mkF m pc Ls (st))) P := by
  obtain ⟨locs, X, -, -⟩ := X
  subst hp
  exact own_by (fun _ => XS.iload X.here B.1 rfl (hb B.2.2.2.2.2.2.2 d) hl) G
theorem own_iloadN (B : own_B p s m meth c Z own nm bytes maxL ret) (X : own_S p l e R s m args below meth c n0 T h cells slots) {k : Fin 4} {v : Int32} (d : decode bytes pc = .ok (.iload_n k, 1)) (hp : pc + 1 = pc') (hl : Ls[k.val]? = some (.val (.int v)))
    (G : own_Go p e below (T.setTop (mkF m pc' Ls (.int v :: st))) P) : own_Go p e below (T.setTop (mkF m pc Ls (st))) P := by
  obtain ⟨locs, X, -, -⟩ := X
  subst hp
  exact own_by (fun _ => XS.iloadN X.here B.1 rfl (hb B.2.2.2.2.2.2.2 d) hl) G
theorem own_lload (B : own_B p s m meth c Z own nm bytes maxL ret) (X : own_S p l e R s m args below meth c n0 T h cells slots) {k : Nat} {v : Int64} (d : decode bytes pc = .ok (.lload k, 2)) (hp : pc + 2 = pc') (hl : Ls[k]? = some (.val (.long v)))
    (G : own_Go p e below (T.setTop (mkF m pc' Ls (.long v :: st))) P) : own_Go p e below (T.setTop (mkF m pc Ls (st))) P := by
  obtain ⟨locs, X, -, -⟩ := X
  subst hp
  exact own_by (fun _ => XS.lload X.here B.1 rfl (hb B.2.2.2.2.2.2.2 d) hl) G
theorem own_lloadN (B : own_B p s m meth c Z own nm bytes maxL ret) (X : own_S p l e R s m args below meth c n0 T h cells slots) {k : Fin 4} {v : Int64} (d : decode bytes pc = .ok (.lload_n k, 1)) (hp : pc + 1 = pc') (hl : Ls[k.val]? = some (.val (.long v)))
    (G : own_Go p e below (T.setTop (mkF m pc' Ls (.long v :: st))) P) : own_Go p e below (T.setTop (mkF m pc Ls (st))) P := by
  obtain ⟨locs, X, -, -⟩ := X
  subst hp
  exact own_by (fun _ => XS.lloadN X.here B.1 rfl (hb B.2.2.2.2.2.2.2 d) hl) G
theorem own_aload (B : own_B p s m meth c Z own nm bytes maxL ret) (X : own_S p l e R s m args below meth c n0 T h cells slots) {k : Nat} {v : Value} (d : decode bytes pc = .ok (.aload k, 2)) (hp : pc + 2 = pc') (hl : Ls[k]? = some (.val v)) (hv : v.isRef = true)
    (G : own_Go p e below (T.setTop (mkF m pc' Ls (v :: st))) P) : own_Go p e below (T.setTop (mkF m pc Ls (st))) P := by
  obtain ⟨locs, X, -, -⟩ := X
  subst hp
  exact own_by (fun _ => XS.aload X.here B.1 rfl (hb B.2.2.2.2.2.2.2 d) hl hv) G
theorem own_aloadN (B : own_B p s m meth c Z own nm bytes maxL ret) (X : own_S p l e R s m args below meth c n0 T h cells slots) {k : Fin 4} {v : Value} (d : decode bytes pc = .ok (.aload_n k, 1)) (hp : pc + 1 = pc') (hl : Ls[k.val]? = some (.val v)) (hv : v.isRef = true)
    (G : own_Go p e below (T.setTop (mkF m pc' Ls (v :: st))) P) : own_Go p e below (T.setTop (mkF m pc Ls (st))) P := by
  obtain ⟨locs, X, -, -⟩ := X
  subst hp
  exact own_by (fun _ => XS.aloadN X.here B.1 rfl (hb B.2.2.2.2.2.2.2 d) hl hv) G
theorem own_istore (B : own_B p s m meth c Z own nm bytes maxL ret) (X : own_S p l e R s m args below meth c n0 T h cells slots) {k : Nat} {v : Int32} {Ls' : Array Slot} (d : decode bytes pc = .ok (.istore k, 2)) (hp : pc + 2 = pc') (hl : storeLocals Ls k (.int v) = some Ls')
    (G : own_Go p e below (T.setTop (mkF m pc' Ls' st)) P) : own_Go p e below (T.setTop (mkF m pc Ls (.int v :: st))) P := by
  obtain ⟨locs, X, -, -⟩ := X
  subst hp
  exact own_by (fun _ => XS.istore X.here B.1 rfl (hb B.2.2.2.2.2.2.2 d) rfl hl) G
theorem own_lstore (B : own_B p s m meth c Z own nm bytes maxL ret) (X : own_S p l e R s m args below meth c n0 T h cells slots) {k : Nat} {v : Int64} {Ls' : Array Slot} (d : decode bytes pc = .ok (.lstore k, 2)) (hp : pc + 2 = pc') (hl : storeLocals Ls k (.long v) = some Ls')
    (G : own_Go p e below (T.setTop (mkF m pc' Ls' st)) P) : own_Go p e below (T.setTop (mkF m pc Ls (.long v :: st))) P := by
  obtain ⟨locs, X, -, -⟩ := X
  subst hp
  exact own_by (fun _ => XS.lstore X.here B.1 rfl (hb B.2.2.2.2.2.2.2 d) rfl hl) G
theorem own_lstoreN (B : own_B p s m meth c Z own nm bytes maxL ret) (X : own_S p l e R s m args below meth c n0 T h cells slots) {k : Fin 4} {v : Int64} {Ls' : Array Slot} (d : decode bytes pc = .ok (.lstore_n k, 1)) (hp : pc + 1 = pc') (hl : storeLocals Ls k.val (.long v) = some Ls')
    (G : own_Go p e below (T.setTop (mkF m pc' Ls' st)) P) : own_Go p e below (T.setTop (mkF m pc Ls (.long v :: st))) P := by
  obtain ⟨locs, X, -, -⟩ := X
  subst hp
  exact own_by (fun _ => XS.lstoreN X.here B.1 rfl (hb B.2.2.2.2.2.2.2 d) rfl hl) G
theorem own_astore (B : own_B p s m meth c Z own nm bytes maxL ret) (X : own_S p l e R s m args below meth c n0 T h cells slots) {k : Nat} {v : Value} {Ls' : Array Slot} (d : decode bytes pc = .ok (.astore k, 2)) (hp : pc + 2 = pc') (hv : v.isRef = true) (hl : storeLocals Ls k (v) = some Ls')
    (G : own_Go p e below (T.setTop (mkF m pc' Ls' st)) P) : own_Go p e below (T.setTop (mkF m pc Ls (v :: st))) P := by
  obtain ⟨locs, X, -, -⟩ := X
  subst hp
  exact own_by (fun _ => XS.astore X.here B.1 rfl (hb B.2.2.2.2.2.2.2 d) rfl hv hl) G
theorem own_astoreN (B : own_B p s m meth c Z own nm bytes maxL ret) (X : own_S p l e R s m args below meth c n0 T h cells slots) {k : Fin 4} {v : Value} {Ls' : Array Slot} (d : decode bytes pc = .ok (.astore_n k, 1)) (hp : pc + 1 = pc') (hv : v.isRef = true) (hl : storeLocals Ls k.val (v) = some Ls')
    (G : own_Go p e below (T.setTop (mkF m pc' Ls' st)) P) : own_Go p e below (T.setTop (mkF m pc Ls (v :: st))) P := by
  obtain ⟨locs, X, -, -⟩ := X
  subst hp
  exact own_by (fun _ => XS.astoreN X.here B.1 rfl (hb B.2.2.2.2.2.2.2 d) rfl hv hl) G
theorem own_iinc (B : own_B p s m meth c Z own nm bytes maxL ret) (X : own_S p l e R s m args below meth c n0 T h cells slots) {k : Nat} {i : Int} {x z : Int32} {Ls' : Array Slot} (d : decode bytes pc = .ok (.iinc k i, 3)) (hp : pc + 3 = pc') (hl : Ls[k]? = some (.val (.int x))) (hz : x + Int32.ofInt i = z) (hs : storeLocals Ls k (.int z) = some Ls')
    (G : own_Go p e below (T.setTop (mkF m pc' Ls' st)) P) : own_Go p e below (T.setTop (mkF m pc Ls st)) P := by
  obtain ⟨locs, X, -, -⟩ := X
  subst hp hz
  exact own_by (fun _ => XS.iinc X.here B.1 rfl (hb B.2.2.2.2.2.2.2 d) hl hs) G
theorem own_iconst (B : own_B p s m meth c Z own nm bytes maxL ret) (X : own_S p l e R s m args below meth c n0 T h cells slots) {i : Int} {z : Int32} (d : decode bytes pc = .ok (.iconst i, 1)) (hp : pc + 1 = pc') (hz : Int32.ofInt i = z)
    (G : own_Go p e below (T.setTop (mkF m pc' Ls (.int z :: st))) P) : own_Go p e below (T.setTop (mkF m pc Ls (st))) P := by
  obtain ⟨locs, X, -, -⟩ := X
  subst hp
  subst hz
  exact own_by (fun _ => XS.iconst X.here B.1 rfl (hb B.2.2.2.2.2.2.2 d)) G
theorem own_bipush (B : own_B p s m meth c Z own nm bytes maxL ret) (X : own_S p l e R s m args below meth c n0 T h cells slots) {i : Int} {z : Int32} (d : decode bytes pc = .ok (.bipush i, 2)) (hp : pc + 2 = pc') (hz : (Int8.ofInt i).toInt32 = z)
    (G : own_Go p e below (T.setTop (mkF m pc' Ls (.int z :: st))) P) : own_Go p e below (T.setTop (mkF m pc Ls (st))) P := by
  obtain ⟨locs, X, -, -⟩ := X
  subst hp
  subst hz
  exact own_by (fun _ => XS.bipush X.here B.1 rfl (hb B.2.2.2.2.2.2.2 d)) G
theorem own_sipush (B : own_B p s m meth c Z own nm bytes maxL ret) (X : own_S p l e R s m args below meth c n0 T h cells slots) {i : Int} {z : Int32} (d : decode bytes pc = .ok (.sipush i, 3)) (hp : pc + 3 = pc') (hz : (Int16.ofInt i).toInt32 = z)
    (G : own_Go p e below (T.setTop (mkF m pc' Ls (.int z :: st))) P) : own_Go p e below (T.setTop (mkF m pc Ls (st))) P := by
  obtain ⟨locs, X, -, -⟩ := X
  subst hp
  subst hz
  exact own_by (fun _ => XS.sipush X.here B.1 rfl (hb B.2.2.2.2.2.2.2 d)) G
theorem own_ldcI (B : own_B p s m meth c Z own nm bytes maxL ret) (X : own_S p l e R s m args below meth c n0 T h cells slots) {i : Nat} {z : Int32} (w : (Cond.constant own i z).before a0 Z = true) (d : decode bytes pc = .ok (.ldc i, 2)) (hp : pc + 2 = pc') 
    (G : own_Go p e below (T.setTop (mkF m pc' Ls (.int z :: st))) P) : own_Go p e below (T.setTop (mkF m pc Ls (st))) P := by
  obtain ⟨locs, X, -, -⟩ := X
  subst hp
  exact own_by (fun _ => X.ldcInt B.1 B.2.2.2.1 (mvT B.2.1 w) (g := mkF m pc Ls st) rfl (hb B.2.2.2.2.2.2.2 d) _) G
theorem own_ldc2J (B : own_B p s m meth c Z own nm bytes maxL ret) (X : own_S p l e R s m args below meth c n0 T h cells slots) {i : Nat} {z : Int64} (w : (Cond.constantLong own i z).before a0 Z = true) (d : decode bytes pc = .ok (.ldc2_w i, 3)) (hp : pc + 3 = pc') 
    (G : own_Go p e below (T.setTop (mkF m pc' Ls (.long z :: st))) P) : own_Go p e below (T.setTop (mkF m pc Ls (st))) P := by
  obtain ⟨locs, X, -, -⟩ := X
  subst hp
  exact own_by (fun _ => X.ldc2Long B.1 B.2.2.2.1 (mvT B.2.1 w) (g := mkF m pc Ls st) rfl (hb B.2.2.2.2.2.2.2 d) _) G
theorem own_iand (B : own_B p s m meth c Z own nm bytes maxL ret) (X : own_S p l e R s m args below meth c n0 T h cells slots) {x y z : Int32} (d : decode bytes pc = .ok (.iand, 1)) (hp : pc + 1 = pc') (hz : x &&& y = z)
    (G : own_Go p e below (T.setTop (mkF m pc' Ls (.int z :: st))) P) : own_Go p e below (T.setTop (mkF m pc Ls (.int y :: .int x :: st))) P := by
  obtain ⟨locs, X, -, -⟩ := X
  subst hp
  subst hz
  exact own_by (fun _ => XS.iand X.here B.1 rfl (hb B.2.2.2.2.2.2.2 d) rfl) G
theorem own_lmul (B : own_B p s m meth c Z own nm bytes maxL ret) (X : own_S p l e R s m args below meth c n0 T h cells slots) {x y z : Int64} (d : decode bytes pc = .ok (.lmul, 1)) (hp : pc + 1 = pc') (hz : x * y = z)
    (G : own_Go p e below (T.setTop (mkF m pc' Ls (.long z :: st))) P) : own_Go p e below (T.setTop (mkF m pc Ls (.long y :: .long x :: st))) P := by
  obtain ⟨locs, X, -, -⟩ := X
  subst hp
  subst hz
  exact own_by (fun _ => XS.lmul X.here B.1 rfl (hb B.2.2.2.2.2.2.2 d) rfl) G
theorem own_lxor (B : own_B p s m meth c Z own nm bytes maxL ret) (X : own_S p l e R s m args below meth c n0 T h cells slots) {x y z : Int64} (d : decode bytes pc = .ok (.lxor, 1)) (hp : pc + 1 = pc') (hz : x ^^^ y = z)
    (G : own_Go p e below (T.setTop (mkF m pc' Ls (.long z :: st))) P) : own_Go p e below (T.setTop (mkF m pc Ls (.long y :: .long x :: st))) P := by
  obtain ⟨locs, X, -, -⟩ := X
  subst hp
  subst hz
  exact own_by (fun _ => XS.lxor X.here B.1 rfl (hb B.2.2.2.2.2.2.2 d) rfl) G
theorem own_lushr (B : own_B p s m meth c Z own nm bytes maxL ret) (X : own_S p l e R s m args below meth c n0 T h cells slots) {x z : Int64} {y : Int32} (d : decode bytes pc = .ok (.lushr, 1)) (hp : pc + 1 = pc') (hz : (x.toUInt64 >>> (y &&& 0x3f).toInt64.toUInt64).toInt64 = z)
    (G : own_Go p e below (T.setTop (mkF m pc' Ls (.long z :: st))) P) : own_Go p e below (T.setTop (mkF m pc Ls (.int y :: .long x :: st))) P := by
  obtain ⟨locs, X, -, -⟩ := X
  subst hp
  subst hz
  exact own_by (fun _ => XS.lushr X.here B.1 rfl (hb B.2.2.2.2.2.2.2 d) rfl) G
theorem own_lcmp (B : own_B p s m meth c Z own nm bytes maxL ret) (X : own_S p l e R s m args below meth c n0 T h cells slots) {x y : Int64} {z : Int32} (d : decode bytes pc = .ok (.lcmp, 1)) (hp : pc + 1 = pc') (hz : lcmpW x y = z)
    (G : own_Go p e below (T.setTop (mkF m pc' Ls (.int z :: st))) P) : own_Go p e below (T.setTop (mkF m pc Ls (.long y :: .long x :: st))) P := by
  obtain ⟨locs, X, -, -⟩ := X
  subst hp
  subst hz
  exact own_by (fun _ => XS.lcmp X.here B.1 rfl (hb B.2.2.2.2.2.2.2 d) rfl) G
theorem own_irem (B : own_B p s m meth c Z own nm bytes maxL ret) (X : own_S p l e R s m args below meth c n0 T h cells slots) {x y z : Int32} (d : decode bytes pc = .ok (.irem, 1)) (hp : pc + 1 = pc') (hy : y ≠ 0) (hz : x % y = z)
    (G : own_Go p e below (T.setTop (mkF m pc' Ls (.int z :: st))) P) : own_Go p e below (T.setTop (mkF m pc Ls (.int y :: .int x :: st))) P := by
  obtain ⟨locs, X, -, -⟩ := X
  subst hp
  subst hz
  exact own_by (fun _ => iremM X B.1 rfl (hb B.2.2.2.2.2.2.2 d) rfl hy) G
theorem own_i2l (B : own_B p s m meth c Z own nm bytes maxL ret) (X : own_S p l e R s m args below meth c n0 T h cells slots) {x : Int32} {z : Int64} (d : decode bytes pc = .ok (.i2l, 1)) (hp : pc + 1 = pc') (hz : x.toInt64 = z)
    (G : own_Go p e below (T.setTop (mkF m pc' Ls (.long z :: st))) P) : own_Go p e below (T.setTop (mkF m pc Ls (.int x :: st))) P := by
  obtain ⟨locs, X, -, -⟩ := X
  subst hp
  subst hz
  exact own_by (fun _ => XS.i2l X.here B.1 rfl (hb B.2.2.2.2.2.2.2 d) rfl) G
theorem own_i2b (B : own_B p s m meth c Z own nm bytes maxL ret) (X : own_S p l e R s m args below meth c n0 T h cells slots) {x : Int32} {z : Int32} (d : decode bytes pc = .ok (.i2b, 1)) (hp : pc + 1 = pc') (hz : x.toInt8.toInt32 = z)
    (G : own_Go p e below (T.setTop (mkF m pc' Ls (.int z :: st))) P) : own_Go p e below (T.setTop (mkF m pc Ls (.int x :: st))) P := by
  obtain ⟨locs, X, -, -⟩ := X
  subst hp
  subst hz
  exact own_by (fun _ => XS.i2b X.here B.1 rfl (hb B.2.2.2.2.2.2.2 d) rfl) G
theorem own_dup (B : own_B p s m meth c Z own nm bytes maxL ret) (X : own_S p l e R s m args below meth c n0 T h cells slots) {v : Value} (d : decode bytes pc = .ok (.dup, 1)) (hp : pc + 1 = pc') (hv : v.category = 1)
    (G : own_Go p e below (T.setTop (mkF m pc' Ls (v :: v :: st))) P) : own_Go p e below (T.setTop (mkF m pc Ls (v :: st))) P := by
  obtain ⟨locs, X, -, -⟩ := X
  subst hp
  exact own_by (fun _ => XS.dup X.here B.1 rfl (hb B.2.2.2.2.2.2.2 d) rfl hv) G
theorem own_goto (B : own_B p s m meth c Z own nm bytes maxL ret) (X : own_S p l e R s m args below meth c n0 T h cells slots) {o : Int} (d : decode bytes pc = .ok (.goto o, 3)) (ho : 0 ≤ (pc : Int) + o) (hp : ((pc : Int) + o).toNat = pc')
    (G : own_Go p e below (T.setTop (mkF m pc' Ls st)) P) : own_Go p e below (T.setTop (mkF m pc Ls st)) P := by
  obtain ⟨locs, X, -, -⟩ := X
  exact own_by (fun _ => XS.goto X.here B.1 rfl (pc0 := pc) rfl (hb B.2.2.2.2.2.2.2 d) ho hp) G
theorem own_ifYes (B : own_B p s m meth c Z own nm bytes maxL ret) (X : own_S p l e R s m args below meth c n0 T h cells slots) {cd : ClassFile.Cond} {o : Int} {x : Int32} (d : decode bytes pc = .ok (.ifCond cd o, 3)) (hc : ifCond.holds cd x = true) (ho : 0 ≤ (pc : Int) + o) (hp : ((pc : Int) + o).toNat = pc')
    (G : own_Go p e below (T.setTop (mkF m pc' Ls st)) P) : own_Go p e below (T.setTop (mkF m pc Ls (.int x :: st))) P := by
  obtain ⟨locs, X, -, -⟩ := X
  exact own_by (fun _ => XS.ifYes X.here B.1 rfl (pc0 := pc) rfl (hb B.2.2.2.2.2.2.2 d) rfl hc ho hp) G
theorem own_ifNo (B : own_B p s m meth c Z own nm bytes maxL ret) (X : own_S p l e R s m args below meth c n0 T h cells slots) {cd : ClassFile.Cond} {o : Int} {x : Int32} (d : decode bytes pc = .ok (.ifCond cd o, 3)) (hc : ifCond.holds cd x = false) (hp : pc + 3 = pc')
    (G : own_Go p e below (T.setTop (mkF m pc' Ls st)) P) : own_Go p e below (T.setTop (mkF m pc Ls (.int x :: st))) P := by
  obtain ⟨locs, X, -, -⟩ := X
  subst hp
  exact own_by (fun _ => XS.ifNo X.here B.1 rfl (hb B.2.2.2.2.2.2.2 d) rfl hc) G
theorem own_icmpYes (B : own_B p s m meth c Z own nm bytes maxL ret) (X : own_S p l e R s m args below meth c n0 T h cells slots) {cd : ClassFile.Cond} {o : Int} {x y : Int32} (d : decode bytes pc = .ok (.if_icmp cd o, 3)) (hc : if_icmp.holds cd x y = true) (ho : 0 ≤ (pc : Int) + o) (hp : ((pc : Int) + o).toNat = pc')
    (G : own_Go p e below (T.setTop (mkF m pc' Ls st)) P) : own_Go p e below (T.setTop (mkF m pc Ls (.int y :: .int x :: st))) P := by
  obtain ⟨locs, X, -, -⟩ := X
  exact own_by (fun _ => XS.icmpYes X.here B.1 rfl (pc0 := pc) rfl (hb B.2.2.2.2.2.2.2 d) rfl hc ho hp) G
theorem own_icmpNo (B : own_B p s m meth c Z own nm bytes maxL ret) (X : own_S p l e R s m args below meth c n0 T h cells slots) {cd : ClassFile.Cond} {o : Int} {x y : Int32} (d : decode bytes pc = .ok (.if_icmp cd o, 3)) (hc : if_icmp.holds cd x y = false) (hp : pc + 3 = pc')
    (G : own_Go p e below (T.setTop (mkF m pc' Ls st)) P) : own_Go p e below (T.setTop (mkF m pc Ls (.int y :: .int x :: st))) P := by
  obtain ⟨locs, X, -, -⟩ := X
  subst hp
  exact own_by (fun _ => XS.icmpNo X.here B.1 rfl (hb B.2.2.2.2.2.2.2 d) rfl hc) G
theorem own_arraylength (B : own_B p s m meth c Z own nm bytes maxL ret) (X : own_S p l e R s m args below meth c n0 T h cells slots) {a : Addr} {k : ClassId} {z : Int32} {vs : List Value} {dv : Value} {ty : FieldType} (V : Arv Z h a k ty z vs dv) (d : decode bytes pc = .ok (.arraylength, 1)) (hp : pc + 1 = pc')
    (G : own_Go p e below (T.setTop (mkF m pc' Ls (.int z :: st))) P) : own_Go p e below (T.setTop (mkF m pc Ls (.ref a :: st))) P := by
  obtain ⟨locs, X, eT, -⟩ := X
  subst hp
  obtain ⟨cl, A, -, S, N, -, -⟩ := V
  refine own_by (fun t ht => ?_) G
  refine X.arraylength B.1 (by rw [eT]; exact A.1) (State.isArrayOf_alike B.2.1.alike A.2.1) (g := mkF m pc Ls (.ref a :: st)) rfl rfl (hb B.2.2.2.2.2.2.2 d) _ ?_
  rw [len_of S N]; exact ht
theorem own_baload (B : own_B p s m meth c Z own nm bytes maxL ret) (X : own_S p l e R s m args below meth c n0 T h cells slots) {a : Addr} {k : ClassId} {z : Int32} {vs : List Value} {dv : Value} {j : Int32} {v : Value} (V : Arv Z h a k .byte z vs dv) (hj : ¬ j < 0 ∧ j < z) (hv : vs.getD j.toNatClampNeg dv = v) (d : decode bytes pc = .ok (.baload, 1)) (hp : pc + 1 = pc')
    (G : own_Go p e below (T.setTop (mkF m pc' Ls (v :: st))) P) : own_Go p e below (T.setTop (mkF m pc Ls (.int j :: .ref a :: st))) P := by
  obtain ⟨locs, X, eT, -⟩ := X
  subst hp
  obtain ⟨cl, A, -, S, N, H, -⟩ := V
  have hin := inb_of S hj
  exact own_by (fun t => X.baloadBytes B.1 (j := j) (v := v) (by rw [eT]; exact A.1) (State.isArrayOf_alike B.2.1.alike A.2.1) A.2.2 hin (H.at hin hv) (g := mkF m pc Ls (.int j :: .ref a :: st)) rfl rfl (hb B.2.2.2.2.2.2.2 d) t) G
theorem own_bastore (B : own_B p s m meth c Z own nm bytes maxL ret) (X : own_S p l e R s m args below meth c n0 T h cells slots) {a : Addr} {k : ClassId} {z : Int32} {vs : List Value} {dv : Value} {j : Int32} {x x' : Int32} (V : Arv Z h a k .byte z vs dv) (ge : n0 ≤ a) (hj : ¬ j < 0 ∧ j < z) (i : Nat) (hi : j.toNatClampNeg = i) (hl : i < vs.length) (hz : x.toInt8.toInt32 = x') (d : decode bytes pc = .ok (.bastore, 1)) (hp : pc + 1 = pc')
    (G : ∀ T' h', own_S p l e R s m args below meth c n0 T' h' cells slots → Wr h h' a i (.int x') → Arv Z h' a k .byte z (vs.set i (.int x')) dv → own_Go p e below (T'.setTop (mkF m pc' Ls st)) P) : own_Go p e below (T.setTop (mkF m pc Ls (.int x :: .int j :: .ref a :: st))) P := by
  obtain ⟨locs, X, eT, N0⟩ := X
  subst hp hi hz
  obtain ⟨cl, A, q, S, N, H, F⟩ := V
  have hin := inb_of S hj
  obtain ⟨T', h', X', e', W, st'⟩ := stB X B.1 B.2.1 eT A (j := j) hin (g := mkF m pc Ls (.int x :: .int j :: .ref a :: st)) rfl rfl (hb B.2.2.2.2.2.2.2 d)
  exact own_by st' (G T' h' ⟨_, X', e', Fr.snoc X' N0 ge⟩ W (Arv.set A q S N H F (fits_nar_byte _) W _ rfl hl))
theorem own_newarray (B : own_B p s m meth c Z own nm bytes maxL ret) (X : own_S p l e R s m args below meth c n0 T h cells slots) {aty : ArrayType} {t : FieldType} (w : (Cond.arrayClass t).before a0 Z = true) (d : decode bytes pc = .ok (.newarray aty, 2)) (hp : pc + 2 = pc') (hty : newarray.typeOf aty = t) {z : Int32} (hz : ¬ z < 0) (cap : Nat) (hcap : z.toNatClampNeg ≤ cap) (hbig : cap * 8 ≤ 536870912) {k' n' : Nat} (hk : cells + 1 = k') (hn : slots + cap = n') (hkR : k' ≤ R.cells) (hnR : n' ≤ R.slots) (ad : String) (had : "[" ++ (newarray.typeOf aty).toString = ad) (dv : Value) (hdv : defaultValue t = dv)
    (G : ∀ T' h' b k, own_S p l e R s m args below meth c n0 T' h' k' n' → b = h.size → Ext h h' → Arv Z h' b k t z [] dv → Exa Z h' b ad → own_Go p e below (T'.setTop (mkF m pc' Ls (.ref b :: st))) P) : own_Go p e below (T.setTop (mkF m pc Ls (.int z :: st))) P := by
  obtain ⟨locs, X, eT, N0⟩ := X
  subst hp hk hn hdv hty
  obtain ⟨T', h', kA, X', e', E, A, A', st'⟩ := newPE X B.1 B.2.1 w eT (g := mkF m pc Ls (.int z :: st)) rfl (hb B.2.2.2.2.2.2.2 d) rfl hz (cap := cap) hcap hbig hkR hnR had
  exact own_by st' (G T' h' _ kA ⟨_, X', e', N0⟩ rfl E (Arv.new A hz) A')
theorem own_retJ (B : own_B p s m meth c Z own nm bytes maxL (some .long)) (X : own_S p l e R s m args below meth c n0 T h cells slots) {Q : Option Value → Heap → Prop} {k n : Nat} {z : Int64} (d : decode bytes pc = .ok (.lreturn, 1)) (hk : cells ≤ k) (hn : slots ≤ n) (hq : Q (some (.long z)) h) : own_Go p e below (T.setTop (mkF m pc Ls (.long z :: st))) (own_P s below n0 Q k n) := by
  obtain ⟨locs, X, eT, N0⟩ := X
  obtain ⟨fs, hr, hrun, hended, hW, hsame⟩ := X.leave (v := (some (.long z))) (fun h => by rw [B.2.2.2.2.1] at h; cases h) B.2.2.2.2.2.1
  exact ⟨_, _, retOut X B.1 B.2.2.2.2.1 rfl (Or.inr (Or.inl ⟨rfl, rfl, _, rfl⟩)) (hb B.2.2.2.2.2.2.2 d) hr, hrun, hended, _, _, rfl, ⟨N0, by show Q _ T.heap; rw [eT]; exact hq⟩, ⟨_, rfl⟩, hW, hsame.mono hk hn⟩
theorem own_retN {t : FieldType} (B : own_B p s m meth c Z own nm bytes maxL (some t)) (X : own_S p l e R s m args below meth c n0 T h cells slots) {Q : Option Value → Heap → Prop} {k n : Nat} {z z' : Int32} (ht : t = .boolean ∨ t = .byte ∨ t = .char ∨ t = .short) (hz : nar t z = z') (d : decode bytes pc = .ok (.ireturn, 1)) (hk : cells ≤ k) (hn : slots ≤ n) (hq : Q (some (.int z')) h) : own_Go p e below (T.setTop (mkF m pc Ls (.int z :: st))) (own_P s below n0 Q k n) := by
  subst hz
  obtain ⟨locs, X, eT, N0⟩ := X
  obtain ⟨fs, hr, hrun, hended, hW, hsame⟩ := X.leave (v := (some (.int (nar t z)))) (fun h => by rw [B.2.2.2.2.1] at h; cases h) B.2.2.2.2.2.1
  exact ⟨_, _, retN X B.1 B.2.2.2.2.1 ht (hb B.2.2.2.2.2.2.2 d) hr, hrun, hended, _, _, rfl, ⟨N0, by show Q _ T.heap; rw [eT]; exact hq⟩, ⟨_, rfl⟩, hW, hsame.mono hk hn⟩
theorem own_enter {y : MethodName} {rm : Room} {ws : List Jvm.Cond} {as' : Array Value} {Q : Option Value → Heap → Prop} {F : MethodId → JFrame} (hpl : plainFor y = true) (hF : ∀ m, entryFrame m as' maxL = F m)
    (body : ∀ p e s m below meth c s₁, own_B p s m meth c Z y.cls y.name bytes maxL ret → own_S p l e rm s m as' below meth c n0 s₁ h0 0 0 → own_Go p e below (s₁.setTop (F m)) (own_P s below n0 Q rm.cells rm.slots)) :
    MetFree l y (head1 (Jvm.Cond.code y bytes maxL ret :: ws) rm) (fun a U => a = as' ∧ Z.Warmed39 U.vm ∧ U.heap = h0) (fun _ _ _ _ _ => True) (fun _ U o U' => ∃ v L, o = .returned v ∧ (Fr n0 L ∧ Q v U'.heap) ∧ FrameEnd U o U' L rm.cells rm.slots) := by
  refine MetFree.of_bodySF hpl hisR ?_
  intro p e s m args below meth c s₁ Bd hml0 hP hK
  obtain ⟨rfl, hZ, hh⟩ := hP
  have e0 : s₁.heap = h0 := by rw [← hh, Bd.state]; rfl
  have nm := (name_of_methodNamed Bd.named Bd.method).1
  obtain ⟨a, o, h1, h2⟩ := body p e s m below meth c s₁ ⟨Bd.exec, hZ, hml0, findClass_of_methodNamed Bd.named, Bd.returns, Bd.notSynchronized, nm, Bd.bytes⟩ ⟨[], Stand.of_body Bd, e0, Fr.nil n0⟩
  exact ⟨a, o, castTop (hF m) h1, h2⟩
theorem own_callS (B : own_B p s m meth c Z own nm bytes maxL ret) (X : own_S p l e R s m args below meth c n0 T h cells slots) {i : Nat} {y : MethodName} {yb : ByteArray} {yl : Nat} {yr : Option FieldType} (w1 : (Cond.methodLink own i y).before a0 Z = true) (w2 : (Cond.static y).before a0 Z = true) (w3 : (Cond.initialized y.cls).before a0 Z = true) (w4 : (Cond.code y yb yl yr).before a0 Z = true) (hy : y.cls ≠ "java/lang/invoke/MethodHandle" ∧ y.cls ≠ "java/lang/invoke/VarHandle") {rm : Room} {Q : Option Value → Heap → Prop} (argsL rest : List Value)
    (hM : MetFree l y (head1 [Jvm.Cond.code y yb yl yr] rm) (fun b U => b = argsL.toArray ∧ Z.Warmed39 U.vm ∧ U.heap = h) (fun _ _ _ _ _ => True) (fun _ U o U' => ∃ v L, o = .returned v ∧ (Fr n0 L ∧ Q v U'.heap) ∧ FrameEnd U o U' L rm.cells rm.slots))
    (W : Nat) (hf : rm.frames + 1 ≤ R.frames) (hl : W + (yl + 11) + rm.locals ≤ R.locals) (hsz : Ls.size = maxL) {ps : List FieldType} {rt : Option FieldType} (hpd : parseMethodDescriptor y.desc = some ⟨ps, rt⟩) (hln : argsL.length = ps.length) (hst : st = argsL.reverse ++ rest) (hW : (rest.map fun v => v.category).sum ≤ W) (d : decode bytes pc = .ok (.invokestatic i, 3)) (hp : pc + 3 = pc') {k' n' : Nat} (hk : cells + rm.cells = k') (hn : slots + rm.slots = n') (hkR : k' ≤ R.cells) (hnR : n' ≤ R.slots)
    (G : ∀ T' v h', own_S p l e R s m args below meth c n0 T' h' k' n' → Q v h' → own_Go p e below (T'.setTop (mkF m pc' Ls (v.toList ++ rest))) P) : own_Go p e below (T.setTop (mkF m pc Ls st)) P := by
  obtain ⟨locs, X, eT, N0⟩ := X
  subst hp hk hn
  have bk := backOf (p := p) (e := e) (below := below) (args := args) (len := 3) (W := W) (Q := fun v h' L => Fr n0 L ∧ Q v h') hM B.2.1 w4 w3 hf hl
  obtain ⟨v, vm₁, ⟨T', L', k1, n1⟩, hW1, X', ⟨Lc, hQ, l1, y1, z1⟩, stp⟩ := Jvm.LawKit.callS X B.1 (y := y) B.2.2.2.1 (mvT B.2.1 w1) (mvT B.2.1 w2) (mvT B.2.1 w3) (mvT B.2.1 w4) hy bk (g := mkF m pc Ls st) rfl (by rw [B.2.2.1]; exact hsz) (argsL := argsL) (rest := rest) (lenOf hpd hln) hst (by show 2 * 0 + _ ≤ _; omega) (hb B.2.2.2.2.2.2.2 d) (fun _ _ => ⟨rfl, eT, hkR, hnR⟩)
  dsimp only [Pt.U, Pt.locs, Pt.cells, Pt.slots] at X' l1 y1 z1 stp hQ
  subst l1 y1 z1
  exact own_by stp (G T' v _ ⟨_, X', rfl, N0.app hQ.1⟩ hQ.2)
theorem own_sz {h1 : Heap} {ws : List Addr} {b : Addr} (K : Keep h0 h1 ws) (g : b = h1.size) : h0.size ≤ b := g ▸ K.1
end OwnKit
section OwnNum
theorem own_idem_i2b {x y : Int32} (h : x.toInt8.toInt32 = y) : y.toInt8.toInt32 = y := by subst h; simp
theorem own_w {a0 : Array Value} {Z : State} (hw : ∀ d ∈ tables_1, d.before a0 Z = true) (i : Nat) {d : Jvm.Cond} (hd : tables_1[i]? = some d) : d.before a0 Z = true := hw _ (List.mem_of_getElem? hd)
theorem own_lt {x y : Int32} (h : x < y) : x.toInt < y.toInt := Int32.lt_iff_toInt_lt.mp h
theorem own_nlt {x y : Int32} (h : ¬ x < y) : ¬ x.toInt < y.toInt := fun q => h (Int32.lt_iff_toInt_lt.mpr q)
theorem own_eq {x y : Int32} (h : x = y) : x.toInt = y.toInt := congrArg Int32.toInt h
theorem own_neq {x y : Int32} (h : ¬ x = y) : ¬ x.toInt = y.toInt := fun q => h (Int32.toInt_inj.mp q)
theorem own_ltI {x y : Int32} (h : x.toInt < y.toInt) : x < y := Int32.lt_iff_toInt_lt.mpr h
theorem own_nltI {x y : Int32} (h : ¬ x.toInt < y.toInt) : ¬ x < y := fun q => h (Int32.lt_iff_toInt_lt.mp q)
theorem own_o_mask {x m z : Int32} (h : x &&& m = z) (k : Nat) (hk : k ≤ 31) (hm : m.toBitVec.toNat = 2 ^ k - 1) : z.toInt = x.toInt % (2 ^ k : Nat) := h ▸ c_mask x m k hk hm
theorem own_o_irem {x y z : Int32} (h : x % y = z) (d : Int) (hy : y.toInt = d) : (0 ≤ x.toInt → z.toInt = x.toInt % d) ∧ (x.toInt < 0 → z.toInt = -((-x.toInt) % d)) := h ▸ c_irem x y d hy
theorem own_lcm {x y : Int64} {z : Int32} (h : lcmpW x y = z) {P : Int32 → Prop} (q : P (lcmpW x y)) : P z := h ▸ q
end OwnNum

theorem d1_0 : decode method_4_code 0 = .ok (.lload_n 0, 1) := by decide +kernel
theorem d1_1 : decode method_4_code 1 = .ok (.lload_n 0, 1) := by decide +kernel
theorem d1_2 : decode method_4_code 2 = .ok (.bipush 33, 2) := by decide +kernel
theorem d1_4 : decode method_4_code 4 = .ok (.lushr, 1) := by decide +kernel
theorem d1_5 : decode method_4_code 5 = .ok (.lxor, 1) := by decide +kernel
theorem d1_6 : decode method_4_code 6 = .ok (.lstore_n 2, 1) := by decide +kernel
theorem d1_7 : decode method_4_code 7 = .ok (.lload_n 2, 1) := by decide +kernel
theorem d1_8 : decode method_4_code 8 = .ok (.ldc2_w 28, 3) := by decide +kernel
theorem d1_11 : decode method_4_code 11 = .ok (.lmul, 1) := by decide +kernel
theorem d1_12 : decode method_4_code 12 = .ok (.lstore_n 2, 1) := by decide +kernel
theorem d1_13 : decode method_4_code 13 = .ok (.lload_n 2, 1) := by decide +kernel
theorem d1_14 : decode method_4_code 14 = .ok (.lload_n 2, 1) := by decide +kernel
theorem d1_15 : decode method_4_code 15 = .ok (.bipush 33, 2) := by decide +kernel
theorem d1_17 : decode method_4_code 17 = .ok (.lushr, 1) := by decide +kernel
theorem d1_18 : decode method_4_code 18 = .ok (.lxor, 1) := by decide +kernel
theorem d1_19 : decode method_4_code 19 = .ok (.lstore_n 2, 1) := by decide +kernel
theorem d1_20 : decode method_4_code 20 = .ok (.lload_n 2, 1) := by decide +kernel
theorem d1_21 : decode method_4_code 21 = .ok (.ldc2_w 30, 3) := by decide +kernel
theorem d1_24 : decode method_4_code 24 = .ok (.lmul, 1) := by decide +kernel
theorem d1_25 : decode method_4_code 25 = .ok (.lstore_n 2, 1) := by decide +kernel
theorem d1_26 : decode method_4_code 26 = .ok (.lload_n 2, 1) := by decide +kernel
theorem d1_27 : decode method_4_code 27 = .ok (.lload_n 2, 1) := by decide +kernel
theorem d1_28 : decode method_4_code 28 = .ok (.bipush 33, 2) := by decide +kernel
theorem d1_30 : decode method_4_code 30 = .ok (.lushr, 1) := by decide +kernel
theorem d1_31 : decode method_4_code 31 = .ok (.lxor, 1) := by decide +kernel
theorem d1_32 : decode method_4_code 32 = .ok (.lstore_n 2, 1) := by decide +kernel
theorem d1_33 : decode method_4_code 33 = .ok (.lload_n 2, 1) := by decide +kernel
theorem d1_34 : decode method_4_code 34 = .ok (.lreturn, 1) := by decide +kernel
theorem pn_0 : plainName "com/example/tideline/tideline/io/PositionsFileHashPinLaw" = true := by first | (simp [plainName, overriddenIn]; done) | decide +kernel
theorem pd_0 : parseMethodDescriptor "(J)J" = some ⟨[.long], some .long⟩ := by decide +kernel
theorem d2_0 : decode prog_124_method_8_code 0 = .ok (.ldc2_w 175, 3) := by decide +kernel
theorem d2_3 : decode prog_124_method_8_code 3 = .ok (.lstore_n 1, 1) := by decide +kernel
theorem d2_4 : decode prog_124_method_8_code 4 = .ok (.aload_n 0, 1) := by decide +kernel
theorem d2_5 : decode prog_124_method_8_code 5 = .ok (.astore_n 3, 1) := by decide +kernel
theorem d2_6 : decode prog_124_method_8_code 6 = .ok (.aload_n 3, 1) := by decide +kernel
theorem d2_7 : decode prog_124_method_8_code 7 = .ok (.arraylength, 1) := by decide +kernel
theorem d2_8 : decode prog_124_method_8_code 8 = .ok (.istore 4, 2) := by decide +kernel
theorem d2_10 : decode prog_124_method_8_code 10 = .ok (.iconst 0, 1) := by decide +kernel
theorem d2_11 : decode prog_124_method_8_code 11 = .ok (.istore 5, 2) := by decide +kernel
theorem d2_13 : decode prog_124_method_8_code 13 = .ok (.iload 5, 2) := by decide +kernel
theorem d2_15 : decode prog_124_method_8_code 15 = .ok (.iload 4, 2) := by decide +kernel
theorem d2_17 : decode prog_124_method_8_code 17 = .ok (.if_icmp .ge 29, 3) := by decide +kernel
theorem d2_46 : decode prog_124_method_8_code 46 = .ok (.lload_n 1, 1) := by decide +kernel
theorem d2_47 : decode prog_124_method_8_code 47 = .ok (.lload_n 1, 1) := by decide +kernel
theorem d2_48 : decode prog_124_method_8_code 48 = .ok (.bipush 33, 2) := by decide +kernel
theorem d2_50 : decode prog_124_method_8_code 50 = .ok (.lushr, 1) := by decide +kernel
theorem d2_51 : decode prog_124_method_8_code 51 = .ok (.lxor, 1) := by decide +kernel
theorem d2_52 : decode prog_124_method_8_code 52 = .ok (.ldc2_w 179, 3) := by decide +kernel
theorem d2_55 : decode prog_124_method_8_code 55 = .ok (.lmul, 1) := by decide +kernel
theorem d2_56 : decode prog_124_method_8_code 56 = .ok (.lstore_n 1, 1) := by decide +kernel
theorem d2_57 : decode prog_124_method_8_code 57 = .ok (.lload_n 1, 1) := by decide +kernel
theorem d2_58 : decode prog_124_method_8_code 58 = .ok (.lload_n 1, 1) := by decide +kernel
theorem d2_59 : decode prog_124_method_8_code 59 = .ok (.bipush 33, 2) := by decide +kernel
theorem d2_61 : decode prog_124_method_8_code 61 = .ok (.lushr, 1) := by decide +kernel
theorem d2_62 : decode prog_124_method_8_code 62 = .ok (.lxor, 1) := by decide +kernel
theorem d2_63 : decode prog_124_method_8_code 63 = .ok (.ldc2_w 181, 3) := by decide +kernel
theorem d2_66 : decode prog_124_method_8_code 66 = .ok (.lmul, 1) := by decide +kernel
theorem d2_67 : decode prog_124_method_8_code 67 = .ok (.lstore_n 1, 1) := by decide +kernel
theorem d2_68 : decode prog_124_method_8_code 68 = .ok (.lload_n 1, 1) := by decide +kernel
theorem d2_69 : decode prog_124_method_8_code 69 = .ok (.lload_n 1, 1) := by decide +kernel
theorem d2_70 : decode prog_124_method_8_code 70 = .ok (.bipush 33, 2) := by decide +kernel
theorem d2_72 : decode prog_124_method_8_code 72 = .ok (.lushr, 1) := by decide +kernel
theorem d2_73 : decode prog_124_method_8_code 73 = .ok (.lxor, 1) := by decide +kernel
theorem d2_74 : decode prog_124_method_8_code 74 = .ok (.lreturn, 1) := by decide +kernel
theorem pn_1 : plainName "com/example/tideline/tideline/io/PositionsFile" = true := by first | (simp [plainName, overriddenIn]; done) | decide +kernel
theorem pd_1 : parseMethodDescriptor "([B)J" = some ⟨[(.array .byte)], some .long⟩ := by decide +kernel
theorem d3_0 : decode method_3_code 0 = .ok (.iload_n 2, 1) := by decide +kernel
theorem d3_1 : decode method_3_code 1 = .ok (.sipush 255, 3) := by decide +kernel
theorem d3_4 : decode method_3_code 4 = .ok (.iand, 1) := by decide +kernel
theorem d3_5 : decode method_3_code 5 = .ok (.i2l, 1) := by decide +kernel
theorem d3_6 : decode method_3_code 6 = .ok (.lstore_n 3, 1) := by decide +kernel
theorem d3_7 : decode method_3_code 7 = .ok (.lload_n 0, 1) := by decide +kernel
theorem d3_8 : decode method_3_code 8 = .ok (.lload_n 3, 1) := by decide +kernel
theorem d3_9 : decode method_3_code 9 = .ok (.lxor, 1) := by decide +kernel
theorem d3_10 : decode method_3_code 10 = .ok (.ldc2_w 26, 3) := by decide +kernel
theorem d3_13 : decode method_3_code 13 = .ok (.lmul, 1) := by decide +kernel
theorem d3_14 : decode method_3_code 14 = .ok (.lreturn, 1) := by decide +kernel
theorem pd_2 : parseMethodDescriptor "(JB)J" = some ⟨[.long, .byte], some .long⟩ := by decide +kernel
theorem d2_20 : decode prog_124_method_8_code 20 = .ok (.aload_n 3, 1) := by decide +kernel
theorem d2_21 : decode prog_124_method_8_code 21 = .ok (.iload 5, 2) := by decide +kernel
theorem d2_23 : decode prog_124_method_8_code 23 = .ok (.baload, 1) := by decide +kernel
theorem d2_24 : decode prog_124_method_8_code 24 = .ok (.istore 6, 2) := by decide +kernel
theorem d2_26 : decode prog_124_method_8_code 26 = .ok (.lload_n 1, 1) := by decide +kernel
theorem d2_27 : decode prog_124_method_8_code 27 = .ok (.iload 6, 2) := by decide +kernel
theorem d2_29 : decode prog_124_method_8_code 29 = .ok (.sipush 255, 3) := by decide +kernel
theorem d2_32 : decode prog_124_method_8_code 32 = .ok (.iand, 1) := by decide +kernel
theorem d2_33 : decode prog_124_method_8_code 33 = .ok (.i2l, 1) := by decide +kernel
theorem d2_34 : decode prog_124_method_8_code 34 = .ok (.lxor, 1) := by decide +kernel
theorem d2_35 : decode prog_124_method_8_code 35 = .ok (.ldc2_w 177, 3) := by decide +kernel
theorem d2_38 : decode prog_124_method_8_code 38 = .ok (.lmul, 1) := by decide +kernel
theorem d2_39 : decode prog_124_method_8_code 39 = .ok (.lstore_n 1, 1) := by decide +kernel
theorem d2_40 : decode prog_124_method_8_code 40 = .ok (.iinc 5 1, 3) := by decide +kernel
theorem d2_43 : decode prog_124_method_8_code 43 = .ok (.goto (-30), 3) := by decide +kernel
def Q_1 (Z : State)  (h0 : Heap) (n0 : Nat) (v : Option Value) (h : Heap) : Prop :=
  (v = some (.long (-1166397803181037274 : Int64)) ∧ h0 = h)
set_option maxRecDepth 65536 in
set_option maxHeartbeats 40000000 in
theorem rm_1 (l : Launch) (Z : State) (a0 : Array Value) (hw : ∀ d ∈ tables_1, d.before a0 Z = true) (ws : List Jvm.Cond)  (h0 : Heap) (n0 : Nat) (Z0 : n0 ≤ h0.size)  :
    MetFree l (⟨"com/example/tideline/tideline/io/PositionsFileHashPinLaw", "fmix", "(J)J"⟩ : MethodName) (head1 (Jvm.Cond.code (⟨"com/example/tideline/tideline/io/PositionsFileHashPinLaw", "fmix", "(J)J"⟩ : MethodName) method_4_code 4 (some .long) :: ws) ({ frames := 0, cells := 0, slots := 0, locals := 0 } : Room)) (fun a U => a = #[(.long (-3750763034362895579 : Int64))] ∧ Z.Warmed39 U.vm ∧ U.heap = h0) (fun _ _ _ _ _ => True) (fun _ U o U' => ∃ v L, o = .returned v ∧ (Fr n0 L ∧ Q_1 Z  h0 n0 v U'.heap) ∧ FrameEnd U o U' L ({ frames := 0, cells := 0, slots := 0, locals := 0 } : Room).cells ({ frames := 0, cells := 0, slots := 0, locals := 0 } : Room).slots) := by
  refine own_enter (Q := Q_1 Z  h0 n0) (F := fun m => mkF m 0 #[.val (.long (-3750763034362895579 : Int64)), .second, .unset, .unset] []) (plainFor_of_name pn_0) (fun m => by first | (simp [entryFrame, mkF, argsToLocals, Value.category]; done) | rfl) ?_
  intro p e s m below meth c s₁ B X0
  have K : Keep h0 h0 [] := Keep.refl h0 _
  refine own_lloadN (pc' := 1) B X0 d1_0 rfl rfl ?_
  refine own_lloadN (pc' := 2) B X0 d1_1 rfl rfl ?_
  refine own_bipush (pc' := 4) B X0 (z := (33 : Int32)) d1_2 rfl (by decide) ?_
  refine own_lushr (pc' := 5) B X0 (z := (1710837362 : Int64)) d1_4 rfl (by decide) ?_
  refine own_lxor (pc' := 6) B X0 (z := (-3750763032790471337 : Int64)) d1_5 rfl (by decide) ?_
  refine own_lstoreN (pc' := 7) B X0 (Ls' := #[.val (.long (-3750763034362895579 : Int64)), .second, .val (.long (-3750763032790471337 : Int64)), .second]) d1_6 rfl rfl ?_
  refine own_lloadN (pc' := 8) B X0 d1_7 rfl rfl ?_
  refine own_ldc2J (pc' := 11) B X0 (own_w hw 7 rfl) d1_8 rfl ?_
  refine own_lmul (pc' := 12) B X0 (z := (-1388729422455692629 : Int64)) d1_11 rfl (by decide) ?_
  refine own_lstoreN (pc' := 13) B X0 (Ls' := #[.val (.long (-3750763034362895579 : Int64)), .second, .val (.long (-1388729422455692629 : Int64)), .second]) d1_12 rfl rfl ?_
  refine own_lloadN (pc' := 14) B X0 d1_13 rfl rfl ?_
  refine own_lloadN (pc' := 15) B X0 d1_14 rfl rfl ?_
  refine own_bipush (pc' := 17) B X0 (z := (33 : Int32)) d1_15 rfl (by decide) ?_
  refine own_lushr (pc' := 18) B X0 (z := (1985814265 : Int64)) d1_17 rfl (by decide) ?_
  refine own_lxor (pc' := 19) B X0 (z := (-1388729422223754158 : Int64)) d1_18 rfl (by decide) ?_
  refine own_lstoreN (pc' := 20) B X0 (Ls' := #[.val (.long (-3750763034362895579 : Int64)), .second, .val (.long (-1388729422223754158 : Int64)), .second]) d1_19 rfl rfl ?_
  refine own_lloadN (pc' := 21) B X0 d1_20 rfl rfl ?_
  refine own_ldc2J (pc' := 24) B X0 (own_w hw 8 rfl) d1_21 rfl ?_
  refine own_lmul (pc' := 25) B X0 (z := (-1166397802864892266 : Int64)) d1_24 rfl (by decide) ?_
  refine own_lstoreN (pc' := 26) B X0 (Ls' := #[.val (.long (-3750763034362895579 : Int64)), .second, .val (.long (-1166397802864892266 : Int64)), .second]) d1_25 rfl rfl ?_
  refine own_lloadN (pc' := 27) B X0 d1_26 rfl rfl ?_
  refine own_lloadN (pc' := 28) B X0 d1_27 rfl rfl ?_
  refine own_bipush (pc' := 30) B X0 (z := (33 : Int32)) d1_28 rfl (by decide) ?_
  refine own_lushr (pc' := 31) B X0 (z := (2011697072 : Int64)) d1_30 rfl (by decide) ?_
  refine own_lxor (pc' := 32) B X0 (z := (-1166397803181037274 : Int64)) d1_31 rfl (by decide) ?_
  refine own_lstoreN (pc' := 33) B X0 (Ls' := #[.val (.long (-3750763034362895579 : Int64)), .second, .val (.long (-1166397803181037274 : Int64)), .second]) d1_32 rfl rfl ?_
  refine own_lloadN (pc' := 34) B X0 d1_33 rfl rfl ?_
  exact own_retJ B X0 d1_34 (by decide) (by decide) (⟨rfl, rfl⟩)
def Q_2 (Z : State) (w0 : Addr) (kw0 : ClassId) (h0 : Heap) (n0 : Nat) (v : Option Value) (h : Heap) : Prop :=
  (v = some (.long (-1166397803181037274 : Int64)) ∧ h0 = h)
set_option maxRecDepth 65536 in
set_option maxHeartbeats 40000000 in
theorem rm_2 (l : Launch) (Z : State) (a0 : Array Value) (hw : ∀ d ∈ tables_1, d.before a0 Z = true) (ws : List Jvm.Cond) (w0 : Addr) (kw0 : ClassId) (h0 : Heap) (n0 : Nat) (Z0 : n0 ≤ h0.size) (E_w0 : Exa Z h0 w0 "[B") (V_w0 : Arv Z h0 w0 kw0 .byte (0 : Int32) [] (.int (0 : Int32))) (g_w0 : n0 ≤ w0) :
    MetFree l (⟨"com/example/tideline/tideline/io/PositionsFile", "hash", "([B)J"⟩ : MethodName) (head1 (Jvm.Cond.code (⟨"com/example/tideline/tideline/io/PositionsFile", "hash", "([B)J"⟩ : MethodName) prog_124_method_8_code 7 (some .long) :: ws) ({ frames := 0, cells := 0, slots := 0, locals := 0 } : Room)) (fun a U => a = #[(.ref w0)] ∧ Z.Warmed39 U.vm ∧ U.heap = h0) (fun _ _ _ _ _ => True) (fun _ U o U' => ∃ v L, o = .returned v ∧ (Fr n0 L ∧ Q_2 Z w0 kw0 h0 n0 v U'.heap) ∧ FrameEnd U o U' L ({ frames := 0, cells := 0, slots := 0, locals := 0 } : Room).cells ({ frames := 0, cells := 0, slots := 0, locals := 0 } : Room).slots) := by
  refine own_enter (Q := Q_2 Z w0 kw0 h0 n0) (F := fun m => mkF m 0 #[.val (.ref w0), .unset, .unset, .unset, .unset, .unset, .unset] []) (plainFor_of_name pn_1) (fun m => by first | (simp [entryFrame, mkF, argsToLocals, Value.category]; done) | rfl) ?_
  intro p e s m below meth c s₁ B X0
  have K : Keep h0 h0 [] := Keep.refl h0 _
  refine own_ldc2J (pc' := 3) B X0 (own_w hw 13 rfl) d2_0 rfl ?_
  refine own_lstoreN (pc' := 4) B X0 (Ls' := #[.val (.ref w0), .val (.long (-3750763034362895579 : Int64)), .second, .unset, .unset, .unset, .unset]) d2_3 rfl rfl ?_
  refine own_aloadN (pc' := 5) B X0 d2_4 rfl rfl rfl ?_
  refine own_astoreN (pc' := 6) B X0 (Ls' := #[.val (.ref w0), .val (.long (-3750763034362895579 : Int64)), .second, .val (.ref w0), .unset, .unset, .unset]) d2_5 rfl rfl rfl ?_
  refine own_aloadN (pc' := 7) B X0 d2_6 rfl rfl rfl ?_
  refine own_arraylength (pc' := 8) B X0 V_w0 d2_7 rfl ?_
  refine own_istore (pc' := 10) B X0 (Ls' := #[.val (.ref w0), .val (.long (-3750763034362895579 : Int64)), .second, .val (.ref w0), .val (.int (0 : Int32)), .unset, .unset]) d2_8 rfl rfl ?_
  refine own_iconst (pc' := 11) B X0 (z := (0 : Int32)) d2_10 rfl rfl ?_
  refine own_istore (pc' := 13) B X0 (Ls' := #[.val (.ref w0), .val (.long (-3750763034362895579 : Int64)), .second, .val (.ref w0), .val (.int (0 : Int32)), .val (.int (0 : Int32)), .unset]) d2_11 rfl rfl ?_
  refine own_iload (pc' := 15) B X0 d2_13 rfl rfl ?_
  refine own_iload (pc' := 17) B X0 d2_15 rfl rfl ?_
  refine own_icmpYes (pc' := 46) B X0 d2_17 (flt (by decide : ¬ ((0 : Int32) < (0 : Int32)))).2.1 (by decide) rfl ?_
  refine own_lloadN (pc' := 47) B X0 d2_46 rfl rfl ?_
  refine own_lloadN (pc' := 48) B X0 d2_47 rfl rfl ?_
  refine own_bipush (pc' := 50) B X0 (z := (33 : Int32)) d2_48 rfl (by decide) ?_
  refine own_lushr (pc' := 51) B X0 (z := (1710837362 : Int64)) d2_50 rfl (by decide) ?_
  refine own_lxor (pc' := 52) B X0 (z := (-3750763032790471337 : Int64)) d2_51 rfl (by decide) ?_
  refine own_ldc2J (pc' := 55) B X0 (own_w hw 14 rfl) d2_52 rfl ?_
  refine own_lmul (pc' := 56) B X0 (z := (-1388729422455692629 : Int64)) d2_55 rfl (by decide) ?_
  refine own_lstoreN (pc' := 57) B X0 (Ls' := #[.val (.ref w0), .val (.long (-1388729422455692629 : Int64)), .second, .val (.ref w0), .val (.int (0 : Int32)), .val (.int (0 : Int32)), .unset]) d2_56 rfl rfl ?_
  refine own_lloadN (pc' := 58) B X0 d2_57 rfl rfl ?_
  refine own_lloadN (pc' := 59) B X0 d2_58 rfl rfl ?_
  refine own_bipush (pc' := 61) B X0 (z := (33 : Int32)) d2_59 rfl (by decide) ?_
  refine own_lushr (pc' := 62) B X0 (z := (1985814265 : Int64)) d2_61 rfl (by decide) ?_
  refine own_lxor (pc' := 63) B X0 (z := (-1388729422223754158 : Int64)) d2_62 rfl (by decide) ?_
  refine own_ldc2J (pc' := 66) B X0 (own_w hw 15 rfl) d2_63 rfl ?_
  refine own_lmul (pc' := 67) B X0 (z := (-1166397802864892266 : Int64)) d2_66 rfl (by decide) ?_
  refine own_lstoreN (pc' := 68) B X0 (Ls' := #[.val (.ref w0), .val (.long (-1166397802864892266 : Int64)), .second, .val (.ref w0), .val (.int (0 : Int32)), .val (.int (0 : Int32)), .unset]) d2_67 rfl rfl ?_
  refine own_lloadN (pc' := 69) B X0 d2_68 rfl rfl ?_
  refine own_lloadN (pc' := 70) B X0 d2_69 rfl rfl ?_
  refine own_bipush (pc' := 72) B X0 (z := (33 : Int32)) d2_70 rfl (by decide) ?_
  refine own_lushr (pc' := 73) B X0 (z := (2011697072 : Int64)) d2_72 rfl (by decide) ?_
  refine own_lxor (pc' := 74) B X0 (z := (-1166397803181037274 : Int64)) d2_73 rfl (by decide) ?_
  exact own_retJ B X0 d2_74 (by decide) (by decide) (⟨rfl, rfl⟩)
def Q_3 (Z : State) (p0 : Int32) (h0 : Heap) (n0 : Nat) (v : Option Value) (h : Heap) : Prop :=
  (∃ (y1 : Int32) (y2 : Int64) (y3 : Int64) (y4 : Int64), p0 &&& (255 : Int32) = y1 ∧ y1.toInt64 = y2 ∧ (-3750763034362895579 : Int64) ^^^ y2 = y3 ∧ y3 * (1099511628211 : Int64) = y4 ∧ v = some (.long y4) ∧ h0 = h)
set_option maxRecDepth 65536 in
set_option maxHeartbeats 40000000 in
theorem rm_3 (l : Launch) (Z : State) (a0 : Array Value) (hw : ∀ d ∈ tables_1, d.before a0 Z = true) (ws : List Jvm.Cond) (p0 : Int32) (h0 : Heap) (n0 : Nat) (Z0 : n0 ≤ h0.size)  :
    MetFree l (⟨"com/example/tideline/tideline/io/PositionsFileHashPinLaw", "step", "(JB)J"⟩ : MethodName) (head1 (Jvm.Cond.code (⟨"com/example/tideline/tideline/io/PositionsFileHashPinLaw", "step", "(JB)J"⟩ : MethodName) method_3_code 5 (some .long) :: ws) ({ frames := 0, cells := 0, slots := 0, locals := 0 } : Room)) (fun a U => a = #[(.long (-3750763034362895579 : Int64)), (.int p0)] ∧ Z.Warmed39 U.vm ∧ U.heap = h0) (fun _ _ _ _ _ => True) (fun _ U o U' => ∃ v L, o = .returned v ∧ (Fr n0 L ∧ Q_3 Z p0 h0 n0 v U'.heap) ∧ FrameEnd U o U' L ({ frames := 0, cells := 0, slots := 0, locals := 0 } : Room).cells ({ frames := 0, cells := 0, slots := 0, locals := 0 } : Room).slots) := by
  refine own_enter (Q := Q_3 Z p0 h0 n0) (F := fun m => mkF m 0 #[.val (.long (-3750763034362895579 : Int64)), .second, .val (.int p0), .unset, .unset] []) (plainFor_of_name pn_0) (fun m => by first | (simp [entryFrame, mkF, argsToLocals, Value.category]; done) | rfl) ?_
  intro p e s m below meth c s₁ B X0
  have K : Keep h0 h0 [] := Keep.refl h0 _
  refine own_iloadN (pc' := 1) B X0 d3_0 rfl rfl ?_
  refine own_sipush (pc' := 4) B X0 (z := (255 : Int32)) d3_1 rfl (by decide) ?_
  obtain ⟨y1, hy1⟩ : ∃ z : Int32, p0 &&& (255 : Int32) = z := ⟨_, rfl⟩
  refine own_iand (pc' := 5) B X0 d3_4 rfl hy1 ?_
  obtain ⟨y2, hy2⟩ : ∃ z : Int64, y1.toInt64 = z := ⟨_, rfl⟩
  refine own_i2l (pc' := 6) B X0 d3_5 rfl hy2 ?_
  refine own_lstoreN (pc' := 7) B X0 (Ls' := #[.val (.long (-3750763034362895579 : Int64)), .second, .val (.int p0), .val (.long y2), .second]) d3_6 rfl rfl ?_
  refine own_lloadN (pc' := 8) B X0 d3_7 rfl rfl ?_
  refine own_lloadN (pc' := 9) B X0 d3_8 rfl rfl ?_
  obtain ⟨y3, hy3⟩ : ∃ z : Int64, (-3750763034362895579 : Int64) ^^^ y2 = z := ⟨_, rfl⟩
  refine own_lxor (pc' := 10) B X0 d3_9 rfl hy3 ?_
  refine own_ldc2J (pc' := 13) B X0 (own_w hw 19 rfl) d3_10 rfl ?_
  obtain ⟨y4, hy4⟩ : ∃ z : Int64, y3 * (1099511628211 : Int64) = z := ⟨_, rfl⟩
  refine own_lmul (pc' := 14) B X0 d3_13 rfl hy4 ?_
  exact own_retJ B X0 d3_14 (by decide) (by decide) (⟨y1, y2, y3, y4, hy1, hy2, hy3, hy4, rfl, rfl⟩)
def Q_4 (Z : State) (q0 : Int64) (h0 : Heap) (n0 : Nat) (v : Option Value) (h : Heap) : Prop :=
  (∃ (y1 : Int64) (y2 : Int64) (y3 : Int64) (y4 : Int64) (y5 : Int64) (y6 : Int64) (y7 : Int64) (y8 : Int64), (q0.toUInt64 >>> ((33 : Int32) &&& 0x3f).toInt64.toUInt64).toInt64 = y1 ∧ q0 ^^^ y1 = y2 ∧ y2 * (-49064778989728563 : Int64) = y3 ∧ (y3.toUInt64 >>> ((33 : Int32) &&& 0x3f).toInt64.toUInt64).toInt64 = y4 ∧ y3 ^^^ y4 = y5 ∧ y5 * (-4265267296055464877 : Int64) = y6 ∧ (y6.toUInt64 >>> ((33 : Int32) &&& 0x3f).toInt64.toUInt64).toInt64 = y7 ∧ y6 ^^^ y7 = y8 ∧ v = some (.long y8) ∧ h0 = h)
set_option maxRecDepth 65536 in
set_option maxHeartbeats 40000000 in
theorem rm_4 (l : Launch) (Z : State) (a0 : Array Value) (hw : ∀ d ∈ tables_1, d.before a0 Z = true) (ws : List Jvm.Cond) (q0 : Int64) (h0 : Heap) (n0 : Nat) (Z0 : n0 ≤ h0.size)  :
    MetFree l (⟨"com/example/tideline/tideline/io/PositionsFileHashPinLaw", "fmix", "(J)J"⟩ : MethodName) (head1 (Jvm.Cond.code (⟨"com/example/tideline/tideline/io/PositionsFileHashPinLaw", "fmix", "(J)J"⟩ : MethodName) method_4_code 4 (some .long) :: ws) ({ frames := 0, cells := 0, slots := 0, locals := 0 } : Room)) (fun a U => a = #[(.long q0)] ∧ Z.Warmed39 U.vm ∧ U.heap = h0) (fun _ _ _ _ _ => True) (fun _ U o U' => ∃ v L, o = .returned v ∧ (Fr n0 L ∧ Q_4 Z q0 h0 n0 v U'.heap) ∧ FrameEnd U o U' L ({ frames := 0, cells := 0, slots := 0, locals := 0 } : Room).cells ({ frames := 0, cells := 0, slots := 0, locals := 0 } : Room).slots) := by
  refine own_enter (Q := Q_4 Z q0 h0 n0) (F := fun m => mkF m 0 #[.val (.long q0), .second, .unset, .unset] []) (plainFor_of_name pn_0) (fun m => by first | (simp [entryFrame, mkF, argsToLocals, Value.category]; done) | rfl) ?_
  intro p e s m below meth c s₁ B X0
  have K : Keep h0 h0 [] := Keep.refl h0 _
  refine own_lloadN (pc' := 1) B X0 d1_0 rfl rfl ?_
  refine own_lloadN (pc' := 2) B X0 d1_1 rfl rfl ?_
  refine own_bipush (pc' := 4) B X0 (z := (33 : Int32)) d1_2 rfl (by decide) ?_
  obtain ⟨y1, hy1⟩ : ∃ z : Int64, (q0.toUInt64 >>> ((33 : Int32) &&& 0x3f).toInt64.toUInt64).toInt64 = z := ⟨_, rfl⟩
  refine own_lushr (pc' := 5) B X0 d1_4 rfl hy1 ?_
  obtain ⟨y2, hy2⟩ : ∃ z : Int64, q0 ^^^ y1 = z := ⟨_, rfl⟩
  refine own_lxor (pc' := 6) B X0 d1_5 rfl hy2 ?_
  refine own_lstoreN (pc' := 7) B X0 (Ls' := #[.val (.long q0), .second, .val (.long y2), .second]) d1_6 rfl rfl ?_
  refine own_lloadN (pc' := 8) B X0 d1_7 rfl rfl ?_
  refine own_ldc2J (pc' := 11) B X0 (own_w hw 7 rfl) d1_8 rfl ?_
  obtain ⟨y3, hy3⟩ : ∃ z : Int64, y2 * (-49064778989728563 : Int64) = z := ⟨_, rfl⟩
  refine own_lmul (pc' := 12) B X0 d1_11 rfl hy3 ?_
  refine own_lstoreN (pc' := 13) B X0 (Ls' := #[.val (.long q0), .second, .val (.long y3), .second]) d1_12 rfl rfl ?_
  refine own_lloadN (pc' := 14) B X0 d1_13 rfl rfl ?_
  refine own_lloadN (pc' := 15) B X0 d1_14 rfl rfl ?_
  refine own_bipush (pc' := 17) B X0 (z := (33 : Int32)) d1_15 rfl (by decide) ?_
  obtain ⟨y4, hy4⟩ : ∃ z : Int64, (y3.toUInt64 >>> ((33 : Int32) &&& 0x3f).toInt64.toUInt64).toInt64 = z := ⟨_, rfl⟩
  refine own_lushr (pc' := 18) B X0 d1_17 rfl hy4 ?_
  obtain ⟨y5, hy5⟩ : ∃ z : Int64, y3 ^^^ y4 = z := ⟨_, rfl⟩
  refine own_lxor (pc' := 19) B X0 d1_18 rfl hy5 ?_
  refine own_lstoreN (pc' := 20) B X0 (Ls' := #[.val (.long q0), .second, .val (.long y5), .second]) d1_19 rfl rfl ?_
  refine own_lloadN (pc' := 21) B X0 d1_20 rfl rfl ?_
  refine own_ldc2J (pc' := 24) B X0 (own_w hw 8 rfl) d1_21 rfl ?_
  obtain ⟨y6, hy6⟩ : ∃ z : Int64, y5 * (-4265267296055464877 : Int64) = z := ⟨_, rfl⟩
  refine own_lmul (pc' := 25) B X0 d1_24 rfl hy6 ?_
  refine own_lstoreN (pc' := 26) B X0 (Ls' := #[.val (.long q0), .second, .val (.long y6), .second]) d1_25 rfl rfl ?_
  refine own_lloadN (pc' := 27) B X0 d1_26 rfl rfl ?_
  refine own_lloadN (pc' := 28) B X0 d1_27 rfl rfl ?_
  refine own_bipush (pc' := 30) B X0 (z := (33 : Int32)) d1_28 rfl (by decide) ?_
  obtain ⟨y7, hy7⟩ : ∃ z : Int64, (y6.toUInt64 >>> ((33 : Int32) &&& 0x3f).toInt64.toUInt64).toInt64 = z := ⟨_, rfl⟩
  refine own_lushr (pc' := 31) B X0 d1_30 rfl hy7 ?_
  obtain ⟨y8, hy8⟩ : ∃ z : Int64, y6 ^^^ y7 = z := ⟨_, rfl⟩
  refine own_lxor (pc' := 32) B X0 d1_31 rfl hy8 ?_
  refine own_lstoreN (pc' := 33) B X0 (Ls' := #[.val (.long q0), .second, .val (.long y8), .second]) d1_32 rfl rfl ?_
  refine own_lloadN (pc' := 34) B X0 d1_33 rfl rfl ?_
  exact own_retJ B X0 d1_34 (by decide) (by decide) (⟨y1, y2, y3, y4, y5, y6, y7, y8, hy1, hy2, hy3, hy4, hy5, hy6, hy7, hy8, rfl, rfl⟩)
def Q_5 (Z : State) (w0 : Addr) (kw0 : ClassId) (p2 : Int32) (h0 : Heap) (n0 : Nat) (v : Option Value) (h : Heap) : Prop :=
  (∃ (y1 : Int32) (y2 : Int64) (y3 : Int64) (y4 : Int64) (y5 : Int64) (y6 : Int64) (y7 : Int64) (y8 : Int64) (y9 : Int64) (y10 : Int64) (y11 : Int64) (y12 : Int64), p2 &&& (255 : Int32) = y1 ∧ y1.toInt64 = y2 ∧ (-3750763034362895579 : Int64) ^^^ y2 = y3 ∧ y3 * (1099511628211 : Int64) = y4 ∧ (y4.toUInt64 >>> ((33 : Int32) &&& 0x3f).toInt64.toUInt64).toInt64 = y5 ∧ y4 ^^^ y5 = y6 ∧ y6 * (-49064778989728563 : Int64) = y7 ∧ (y7.toUInt64 >>> ((33 : Int32) &&& 0x3f).toInt64.toUInt64).toInt64 = y8 ∧ y7 ^^^ y8 = y9 ∧ y9 * (-4265267296055464877 : Int64) = y10 ∧ (y10.toUInt64 >>> ((33 : Int32) &&& 0x3f).toInt64.toUInt64).toInt64 = y11 ∧ y10 ^^^ y11 = y12 ∧ v = some (.long y12) ∧ h0 = h)
set_option maxRecDepth 65536 in
set_option maxHeartbeats 40000000 in
theorem rm_5 (l : Launch) (Z : State) (a0 : Array Value) (hw : ∀ d ∈ tables_1, d.before a0 Z = true) (ws : List Jvm.Cond) (w0 : Addr) (kw0 : ClassId) (p2 : Int32) (h0 : Heap) (n0 : Nat) (Z0 : n0 ≤ h0.size) (E_w0 : Exa Z h0 w0 "[B") (V_w0 : Arv Z h0 w0 kw0 .byte (1 : Int32) [(.int p2)] (.int (0 : Int32))) (g_w0 : n0 ≤ w0) :
    MetFree l (⟨"com/example/tideline/tideline/io/PositionsFile", "hash", "([B)J"⟩ : MethodName) (head1 (Jvm.Cond.code (⟨"com/example/tideline/tideline/io/PositionsFile", "hash", "([B)J"⟩ : MethodName) prog_124_method_8_code 7 (some .long) :: ws) ({ frames := 0, cells := 0, slots := 0, locals := 0 } : Room)) (fun a U => a = #[(.ref w0)] ∧ Z.Warmed39 U.vm ∧ U.heap = h0) (fun _ _ _ _ _ => True) (fun _ U o U' => ∃ v L, o = .returned v ∧ (Fr n0 L ∧ Q_5 Z w0 kw0 p2 h0 n0 v U'.heap) ∧ FrameEnd U o U' L ({ frames := 0, cells := 0, slots := 0, locals := 0 } : Room).cells ({ frames := 0, cells := 0, slots := 0, locals := 0 } : Room).slots) := by
  refine own_enter (Q := Q_5 Z w0 kw0 p2 h0 n0) (F := fun m => mkF m 0 #[.val (.ref w0), .unset, .unset, .unset, .unset, .unset, .unset] []) (plainFor_of_name pn_1) (fun m => by first | (simp [entryFrame, mkF, argsToLocals, Value.category]; done) | rfl) ?_
  intro p e s m below meth c s₁ B X0
  have K : Keep h0 h0 [] := Keep.refl h0 _
  refine own_ldc2J (pc' := 3) B X0 (own_w hw 13 rfl) d2_0 rfl ?_
  refine own_lstoreN (pc' := 4) B X0 (Ls' := #[.val (.ref w0), .val (.long (-3750763034362895579 : Int64)), .second, .unset, .unset, .unset, .unset]) d2_3 rfl rfl ?_
  refine own_aloadN (pc' := 5) B X0 d2_4 rfl rfl rfl ?_
  refine own_astoreN (pc' := 6) B X0 (Ls' := #[.val (.ref w0), .val (.long (-3750763034362895579 : Int64)), .second, .val (.ref w0), .unset, .unset, .unset]) d2_5 rfl rfl rfl ?_
  refine own_aloadN (pc' := 7) B X0 d2_6 rfl rfl rfl ?_
  refine own_arraylength (pc' := 8) B X0 V_w0 d2_7 rfl ?_
  refine own_istore (pc' := 10) B X0 (Ls' := #[.val (.ref w0), .val (.long (-3750763034362895579 : Int64)), .second, .val (.ref w0), .val (.int (1 : Int32)), .unset, .unset]) d2_8 rfl rfl ?_
  refine own_iconst (pc' := 11) B X0 (z := (0 : Int32)) d2_10 rfl rfl ?_
  refine own_istore (pc' := 13) B X0 (Ls' := #[.val (.ref w0), .val (.long (-3750763034362895579 : Int64)), .second, .val (.ref w0), .val (.int (1 : Int32)), .val (.int (0 : Int32)), .unset]) d2_11 rfl rfl ?_
  refine own_iload (pc' := 15) B X0 d2_13 rfl rfl ?_
  refine own_iload (pc' := 17) B X0 d2_15 rfl rfl ?_
  refine own_icmpNo (pc' := 20) B X0 d2_17 (tlt (by decide : (0 : Int32) < (1 : Int32))).2.1 rfl ?_
  refine own_aloadN (pc' := 21) B X0 d2_20 rfl rfl rfl ?_
  refine own_iload (pc' := 23) B X0 d2_21 rfl rfl ?_
  refine own_baload (pc' := 24) B X0 V_w0 (v := (.int p2)) ⟨by decide, by decide⟩ rfl d2_23 rfl ?_
  refine own_istore (pc' := 26) B X0 (Ls' := #[.val (.ref w0), .val (.long (-3750763034362895579 : Int64)), .second, .val (.ref w0), .val (.int (1 : Int32)), .val (.int (0 : Int32)), .val (.int p2)]) d2_24 rfl rfl ?_
  refine own_lloadN (pc' := 27) B X0 d2_26 rfl rfl ?_
  refine own_iload (pc' := 29) B X0 d2_27 rfl rfl ?_
  refine own_sipush (pc' := 32) B X0 (z := (255 : Int32)) d2_29 rfl (by decide) ?_
  obtain ⟨y1, hy1⟩ : ∃ z : Int32, p2 &&& (255 : Int32) = z := ⟨_, rfl⟩
  refine own_iand (pc' := 33) B X0 d2_32 rfl hy1 ?_
  obtain ⟨y2, hy2⟩ : ∃ z : Int64, y1.toInt64 = z := ⟨_, rfl⟩
  refine own_i2l (pc' := 34) B X0 d2_33 rfl hy2 ?_
  obtain ⟨y3, hy3⟩ : ∃ z : Int64, (-3750763034362895579 : Int64) ^^^ y2 = z := ⟨_, rfl⟩
  refine own_lxor (pc' := 35) B X0 d2_34 rfl hy3 ?_
  refine own_ldc2J (pc' := 38) B X0 (own_w hw 20 rfl) d2_35 rfl ?_
  obtain ⟨y4, hy4⟩ : ∃ z : Int64, y3 * (1099511628211 : Int64) = z := ⟨_, rfl⟩
  refine own_lmul (pc' := 39) B X0 d2_38 rfl hy4 ?_
  refine own_lstoreN (pc' := 40) B X0 (Ls' := #[.val (.ref w0), .val (.long y4), .second, .val (.ref w0), .val (.int (1 : Int32)), .val (.int (0 : Int32)), .val (.int p2)]) d2_39 rfl rfl ?_
  refine own_iinc (pc' := 43) B X0 (Ls' := #[.val (.ref w0), .val (.long y4), .second, .val (.ref w0), .val (.int (1 : Int32)), .val (.int (1 : Int32)), .val (.int p2)]) d2_40 rfl rfl (z := (1 : Int32)) (by decide) rfl ?_
  refine own_goto (pc' := 13) B X0 d2_43 (by decide) rfl ?_
  refine own_iload (pc' := 15) B X0 d2_13 rfl rfl ?_
  refine own_iload (pc' := 17) B X0 d2_15 rfl rfl ?_
  refine own_icmpYes (pc' := 46) B X0 d2_17 (flt (by decide : ¬ ((1 : Int32) < (1 : Int32)))).2.1 (by decide) rfl ?_
  refine own_lloadN (pc' := 47) B X0 d2_46 rfl rfl ?_
  refine own_lloadN (pc' := 48) B X0 d2_47 rfl rfl ?_
  refine own_bipush (pc' := 50) B X0 (z := (33 : Int32)) d2_48 rfl (by decide) ?_
  obtain ⟨y5, hy5⟩ : ∃ z : Int64, (y4.toUInt64 >>> ((33 : Int32) &&& 0x3f).toInt64.toUInt64).toInt64 = z := ⟨_, rfl⟩
  refine own_lushr (pc' := 51) B X0 d2_50 rfl hy5 ?_
  obtain ⟨y6, hy6⟩ : ∃ z : Int64, y4 ^^^ y5 = z := ⟨_, rfl⟩
  refine own_lxor (pc' := 52) B X0 d2_51 rfl hy6 ?_
  refine own_ldc2J (pc' := 55) B X0 (own_w hw 14 rfl) d2_52 rfl ?_
  obtain ⟨y7, hy7⟩ : ∃ z : Int64, y6 * (-49064778989728563 : Int64) = z := ⟨_, rfl⟩
  refine own_lmul (pc' := 56) B X0 d2_55 rfl hy7 ?_
  refine own_lstoreN (pc' := 57) B X0 (Ls' := #[.val (.ref w0), .val (.long y7), .second, .val (.ref w0), .val (.int (1 : Int32)), .val (.int (1 : Int32)), .val (.int p2)]) d2_56 rfl rfl ?_
  refine own_lloadN (pc' := 58) B X0 d2_57 rfl rfl ?_
  refine own_lloadN (pc' := 59) B X0 d2_58 rfl rfl ?_
  refine own_bipush (pc' := 61) B X0 (z := (33 : Int32)) d2_59 rfl (by decide) ?_
  obtain ⟨y8, hy8⟩ : ∃ z : Int64, (y7.toUInt64 >>> ((33 : Int32) &&& 0x3f).toInt64.toUInt64).toInt64 = z := ⟨_, rfl⟩
  refine own_lushr (pc' := 62) B X0 d2_61 rfl hy8 ?_
  obtain ⟨y9, hy9⟩ : ∃ z : Int64, y7 ^^^ y8 = z := ⟨_, rfl⟩
  refine own_lxor (pc' := 63) B X0 d2_62 rfl hy9 ?_
  refine own_ldc2J (pc' := 66) B X0 (own_w hw 15 rfl) d2_63 rfl ?_
  obtain ⟨y10, hy10⟩ : ∃ z : Int64, y9 * (-4265267296055464877 : Int64) = z := ⟨_, rfl⟩
  refine own_lmul (pc' := 67) B X0 d2_66 rfl hy10 ?_
  refine own_lstoreN (pc' := 68) B X0 (Ls' := #[.val (.ref w0), .val (.long y10), .second, .val (.ref w0), .val (.int (1 : Int32)), .val (.int (1 : Int32)), .val (.int p2)]) d2_67 rfl rfl ?_
  refine own_lloadN (pc' := 69) B X0 d2_68 rfl rfl ?_
  refine own_lloadN (pc' := 70) B X0 d2_69 rfl rfl ?_
  refine own_bipush (pc' := 72) B X0 (z := (33 : Int32)) d2_70 rfl (by decide) ?_
  obtain ⟨y11, hy11⟩ : ∃ z : Int64, (y10.toUInt64 >>> ((33 : Int32) &&& 0x3f).toInt64.toUInt64).toInt64 = z := ⟨_, rfl⟩
  refine own_lushr (pc' := 73) B X0 d2_72 rfl hy11 ?_
  obtain ⟨y12, hy12⟩ : ∃ z : Int64, y10 ^^^ y11 = z := ⟨_, rfl⟩
  refine own_lxor (pc' := 74) B X0 d2_73 rfl hy12 ?_
  exact own_retJ B X0 d2_74 (by decide) (by decide) (⟨y1, y2, y3, y4, y5, y6, y7, y8, y9, y10, y11, y12, hy1, hy2, hy3, hy4, hy5, hy6, hy7, hy8, hy9, hy10, hy11, hy12, rfl, rfl⟩)
def Q_6 (Z : State) (q0 : Int64) (p1 : Int32) (h0 : Heap) (n0 : Nat) (v : Option Value) (h : Heap) : Prop :=
  (∃ (y1 : Int32) (y2 : Int64) (y3 : Int64) (y4 : Int64), p1 &&& (255 : Int32) = y1 ∧ y1.toInt64 = y2 ∧ q0 ^^^ y2 = y3 ∧ y3 * (1099511628211 : Int64) = y4 ∧ v = some (.long y4) ∧ h0 = h)
set_option maxRecDepth 65536 in
set_option maxHeartbeats 40000000 in
theorem rm_6 (l : Launch) (Z : State) (a0 : Array Value) (hw : ∀ d ∈ tables_1, d.before a0 Z = true) (ws : List Jvm.Cond) (q0 : Int64) (p1 : Int32) (h0 : Heap) (n0 : Nat) (Z0 : n0 ≤ h0.size)  :
    MetFree l (⟨"com/example/tideline/tideline/io/PositionsFileHashPinLaw", "step", "(JB)J"⟩ : MethodName) (head1 (Jvm.Cond.code (⟨"com/example/tideline/tideline/io/PositionsFileHashPinLaw", "step", "(JB)J"⟩ : MethodName) method_3_code 5 (some .long) :: ws) ({ frames := 0, cells := 0, slots := 0, locals := 0 } : Room)) (fun a U => a = #[(.long q0), (.int p1)] ∧ Z.Warmed39 U.vm ∧ U.heap = h0) (fun _ _ _ _ _ => True) (fun _ U o U' => ∃ v L, o = .returned v ∧ (Fr n0 L ∧ Q_6 Z q0 p1 h0 n0 v U'.heap) ∧ FrameEnd U o U' L ({ frames := 0, cells := 0, slots := 0, locals := 0 } : Room).cells ({ frames := 0, cells := 0, slots := 0, locals := 0 } : Room).slots) := by
  refine own_enter (Q := Q_6 Z q0 p1 h0 n0) (F := fun m => mkF m 0 #[.val (.long q0), .second, .val (.int p1), .unset, .unset] []) (plainFor_of_name pn_0) (fun m => by first | (simp [entryFrame, mkF, argsToLocals, Value.category]; done) | rfl) ?_
  intro p e s m below meth c s₁ B X0
  have K : Keep h0 h0 [] := Keep.refl h0 _
  refine own_iloadN (pc' := 1) B X0 d3_0 rfl rfl ?_
  refine own_sipush (pc' := 4) B X0 (z := (255 : Int32)) d3_1 rfl (by decide) ?_
  obtain ⟨y1, hy1⟩ : ∃ z : Int32, p1 &&& (255 : Int32) = z := ⟨_, rfl⟩
  refine own_iand (pc' := 5) B X0 d3_4 rfl hy1 ?_
  obtain ⟨y2, hy2⟩ : ∃ z : Int64, y1.toInt64 = z := ⟨_, rfl⟩
  refine own_i2l (pc' := 6) B X0 d3_5 rfl hy2 ?_
  refine own_lstoreN (pc' := 7) B X0 (Ls' := #[.val (.long q0), .second, .val (.int p1), .val (.long y2), .second]) d3_6 rfl rfl ?_
  refine own_lloadN (pc' := 8) B X0 d3_7 rfl rfl ?_
  refine own_lloadN (pc' := 9) B X0 d3_8 rfl rfl ?_
  obtain ⟨y3, hy3⟩ : ∃ z : Int64, q0 ^^^ y2 = z := ⟨_, rfl⟩
  refine own_lxor (pc' := 10) B X0 d3_9 rfl hy3 ?_
  refine own_ldc2J (pc' := 13) B X0 (own_w hw 19 rfl) d3_10 rfl ?_
  obtain ⟨y4, hy4⟩ : ∃ z : Int64, y3 * (1099511628211 : Int64) = z := ⟨_, rfl⟩
  refine own_lmul (pc' := 14) B X0 d3_13 rfl hy4 ?_
  exact own_retJ B X0 d3_14 (by decide) (by decide) (⟨y1, y2, y3, y4, hy1, hy2, hy3, hy4, rfl, rfl⟩)
def Q_7 (Z : State) (w0 : Addr) (kw0 : ClassId) (p2 : Int32) (p3 : Int32) (h0 : Heap) (n0 : Nat) (v : Option Value) (h : Heap) : Prop :=
  (∃ (y1 : Int32) (y2 : Int64) (y3 : Int64) (y4 : Int64) (y5 : Int32) (y6 : Int64) (y7 : Int64) (y8 : Int64) (y9 : Int64) (y10 : Int64) (y11 : Int64) (y12 : Int64) (y13 : Int64) (y14 : Int64) (y15 : Int64) (y16 : Int64), p2 &&& (255 : Int32) = y1 ∧ y1.toInt64 = y2 ∧ (-3750763034362895579 : Int64) ^^^ y2 = y3 ∧ y3 * (1099511628211 : Int64) = y4 ∧ p3 &&& (255 : Int32) = y5 ∧ y5.toInt64 = y6 ∧ y4 ^^^ y6 = y7 ∧ y7 * (1099511628211 : Int64) = y8 ∧ (y8.toUInt64 >>> ((33 : Int32) &&& 0x3f).toInt64.toUInt64).toInt64 = y9 ∧ y8 ^^^ y9 = y10 ∧ y10 * (-49064778989728563 : Int64) = y11 ∧ (y11.toUInt64 >>> ((33 : Int32) &&& 0x3f).toInt64.toUInt64).toInt64 = y12 ∧ y11 ^^^ y12 = y13 ∧ y13 * (-4265267296055464877 : Int64) = y14 ∧ (y14.toUInt64 >>> ((33 : Int32) &&& 0x3f).toInt64.toUInt64).toInt64 = y15 ∧ y14 ^^^ y15 = y16 ∧ v = some (.long y16) ∧ h0 = h)
set_option maxRecDepth 65536 in
set_option maxHeartbeats 40000000 in
theorem rm_7 (l : Launch) (Z : State) (a0 : Array Value) (hw : ∀ d ∈ tables_1, d.before a0 Z = true) (ws : List Jvm.Cond) (w0 : Addr) (kw0 : ClassId) (p2 : Int32) (p3 : Int32) (h0 : Heap) (n0 : Nat) (Z0 : n0 ≤ h0.size) (E_w0 : Exa Z h0 w0 "[B") (V_w0 : Arv Z h0 w0 kw0 .byte (2 : Int32) [(.int p2), (.int p3)] (.int (0 : Int32))) (g_w0 : n0 ≤ w0) :
    MetFree l (⟨"com/example/tideline/tideline/io/PositionsFile", "hash", "([B)J"⟩ : MethodName) (head1 (Jvm.Cond.code (⟨"com/example/tideline/tideline/io/PositionsFile", "hash", "([B)J"⟩ : MethodName) prog_124_method_8_code 7 (some .long) :: ws) ({ frames := 0, cells := 0, slots := 0, locals := 0 } : Room)) (fun a U => a = #[(.ref w0)] ∧ Z.Warmed39 U.vm ∧ U.heap = h0) (fun _ _ _ _ _ => True) (fun _ U o U' => ∃ v L, o = .returned v ∧ (Fr n0 L ∧ Q_7 Z w0 kw0 p2 p3 h0 n0 v U'.heap) ∧ FrameEnd U o U' L ({ frames := 0, cells := 0, slots := 0, locals := 0 } : Room).cells ({ frames := 0, cells := 0, slots := 0, locals := 0 } : Room).slots) := by
  refine own_enter (Q := Q_7 Z w0 kw0 p2 p3 h0 n0) (F := fun m => mkF m 0 #[.val (.ref w0), .unset, .unset, .unset, .unset, .unset, .unset] []) (plainFor_of_name pn_1) (fun m => by first | (simp [entryFrame, mkF, argsToLocals, Value.category]; done) | rfl) ?_
  intro p e s m below meth c s₁ B X0
  have K : Keep h0 h0 [] := Keep.refl h0 _
  refine own_ldc2J (pc' := 3) B X0 (own_w hw 13 rfl) d2_0 rfl ?_
  refine own_lstoreN (pc' := 4) B X0 (Ls' := #[.val (.ref w0), .val (.long (-3750763034362895579 : Int64)), .second, .unset, .unset, .unset, .unset]) d2_3 rfl rfl ?_
  refine own_aloadN (pc' := 5) B X0 d2_4 rfl rfl rfl ?_
  refine own_astoreN (pc' := 6) B X0 (Ls' := #[.val (.ref w0), .val (.long (-3750763034362895579 : Int64)), .second, .val (.ref w0), .unset, .unset, .unset]) d2_5 rfl rfl rfl ?_
  refine own_aloadN (pc' := 7) B X0 d2_6 rfl rfl rfl ?_
  refine own_arraylength (pc' := 8) B X0 V_w0 d2_7 rfl ?_
  refine own_istore (pc' := 10) B X0 (Ls' := #[.val (.ref w0), .val (.long (-3750763034362895579 : Int64)), .second, .val (.ref w0), .val (.int (2 : Int32)), .unset, .unset]) d2_8 rfl rfl ?_
  refine own_iconst (pc' := 11) B X0 (z := (0 : Int32)) d2_10 rfl rfl ?_
  refine own_istore (pc' := 13) B X0 (Ls' := #[.val (.ref w0), .val (.long (-3750763034362895579 : Int64)), .second, .val (.ref w0), .val (.int (2 : Int32)), .val (.int (0 : Int32)), .unset]) d2_11 rfl rfl ?_
  refine own_iload (pc' := 15) B X0 d2_13 rfl rfl ?_
  refine own_iload (pc' := 17) B X0 d2_15 rfl rfl ?_
  refine own_icmpNo (pc' := 20) B X0 d2_17 (tlt (by decide : (0 : Int32) < (2 : Int32))).2.1 rfl ?_
  refine own_aloadN (pc' := 21) B X0 d2_20 rfl rfl rfl ?_
  refine own_iload (pc' := 23) B X0 d2_21 rfl rfl ?_
  refine own_baload (pc' := 24) B X0 V_w0 (v := (.int p2)) ⟨by decide, by decide⟩ rfl d2_23 rfl ?_
  refine own_istore (pc' := 26) B X0 (Ls' := #[.val (.ref w0), .val (.long (-3750763034362895579 : Int64)), .second, .val (.ref w0), .val (.int (2 : Int32)), .val (.int (0 : Int32)), .val (.int p2)]) d2_24 rfl rfl ?_
  refine own_lloadN (pc' := 27) B X0 d2_26 rfl rfl ?_
  refine own_iload (pc' := 29) B X0 d2_27 rfl rfl ?_
  refine own_sipush (pc' := 32) B X0 (z := (255 : Int32)) d2_29 rfl (by decide) ?_
  obtain ⟨y1, hy1⟩ : ∃ z : Int32, p2 &&& (255 : Int32) = z := ⟨_, rfl⟩
  refine own_iand (pc' := 33) B X0 d2_32 rfl hy1 ?_
  obtain ⟨y2, hy2⟩ : ∃ z : Int64, y1.toInt64 = z := ⟨_, rfl⟩
  refine own_i2l (pc' := 34) B X0 d2_33 rfl hy2 ?_
  obtain ⟨y3, hy3⟩ : ∃ z : Int64, (-3750763034362895579 : Int64) ^^^ y2 = z := ⟨_, rfl⟩
  refine own_lxor (pc' := 35) B X0 d2_34 rfl hy3 ?_
  refine own_ldc2J (pc' := 38) B X0 (own_w hw 20 rfl) d2_35 rfl ?_
  obtain ⟨y4, hy4⟩ : ∃ z : Int64, y3 * (1099511628211 : Int64) = z := ⟨_, rfl⟩
  refine own_lmul (pc' := 39) B X0 d2_38 rfl hy4 ?_
  refine own_lstoreN (pc' := 40) B X0 (Ls' := #[.val (.ref w0), .val (.long y4), .second, .val (.ref w0), .val (.int (2 : Int32)), .val (.int (0 : Int32)), .val (.int p2)]) d2_39 rfl rfl ?_
  refine own_iinc (pc' := 43) B X0 (Ls' := #[.val (.ref w0), .val (.long y4), .second, .val (.ref w0), .val (.int (2 : Int32)), .val (.int (1 : Int32)), .val (.int p2)]) d2_40 rfl rfl (z := (1 : Int32)) (by decide) rfl ?_
  refine own_goto (pc' := 13) B X0 d2_43 (by decide) rfl ?_
  refine own_iload (pc' := 15) B X0 d2_13 rfl rfl ?_
  refine own_iload (pc' := 17) B X0 d2_15 rfl rfl ?_
  refine own_icmpNo (pc' := 20) B X0 d2_17 (tlt (by decide : (1 : Int32) < (2 : Int32))).2.1 rfl ?_
  refine own_aloadN (pc' := 21) B X0 d2_20 rfl rfl rfl ?_
  refine own_iload (pc' := 23) B X0 d2_21 rfl rfl ?_
  refine own_baload (pc' := 24) B X0 V_w0 (v := (.int p3)) ⟨by decide, by decide⟩ rfl d2_23 rfl ?_
  refine own_istore (pc' := 26) B X0 (Ls' := #[.val (.ref w0), .val (.long y4), .second, .val (.ref w0), .val (.int (2 : Int32)), .val (.int (1 : Int32)), .val (.int p3)]) d2_24 rfl rfl ?_
  refine own_lloadN (pc' := 27) B X0 d2_26 rfl rfl ?_
  refine own_iload (pc' := 29) B X0 d2_27 rfl rfl ?_
  refine own_sipush (pc' := 32) B X0 (z := (255 : Int32)) d2_29 rfl (by decide) ?_
  obtain ⟨y5, hy5⟩ : ∃ z : Int32, p3 &&& (255 : Int32) = z := ⟨_, rfl⟩
  refine own_iand (pc' := 33) B X0 d2_32 rfl hy5 ?_
  obtain ⟨y6, hy6⟩ : ∃ z : Int64, y5.toInt64 = z := ⟨_, rfl⟩
  refine own_i2l (pc' := 34) B X0 d2_33 rfl hy6 ?_
  obtain ⟨y7, hy7⟩ : ∃ z : Int64, y4 ^^^ y6 = z := ⟨_, rfl⟩
  refine own_lxor (pc' := 35) B X0 d2_34 rfl hy7 ?_
  refine own_ldc2J (pc' := 38) B X0 (own_w hw 20 rfl) d2_35 rfl ?_
  obtain ⟨y8, hy8⟩ : ∃ z : Int64, y7 * (1099511628211 : Int64) = z := ⟨_, rfl⟩
  refine own_lmul (pc' := 39) B X0 d2_38 rfl hy8 ?_
  refine own_lstoreN (pc' := 40) B X0 (Ls' := #[.val (.ref w0), .val (.long y8), .second, .val (.ref w0), .val (.int (2 : Int32)), .val (.int (1 : Int32)), .val (.int p3)]) d2_39 rfl rfl ?_
  refine own_iinc (pc' := 43) B X0 (Ls' := #[.val (.ref w0), .val (.long y8), .second, .val (.ref w0), .val (.int (2 : Int32)), .val (.int (2 : Int32)), .val (.int p3)]) d2_40 rfl rfl (z := (2 : Int32)) (by decide) rfl ?_
  refine own_goto (pc' := 13) B X0 d2_43 (by decide) rfl ?_
  refine own_iload (pc' := 15) B X0 d2_13 rfl rfl ?_
  refine own_iload (pc' := 17) B X0 d2_15 rfl rfl ?_
  refine own_icmpYes (pc' := 46) B X0 d2_17 (flt (by decide : ¬ ((2 : Int32) < (2 : Int32)))).2.1 (by decide) rfl ?_
  refine own_lloadN (pc' := 47) B X0 d2_46 rfl rfl ?_
  refine own_lloadN (pc' := 48) B X0 d2_47 rfl rfl ?_
  refine own_bipush (pc' := 50) B X0 (z := (33 : Int32)) d2_48 rfl (by decide) ?_
  obtain ⟨y9, hy9⟩ : ∃ z : Int64, (y8.toUInt64 >>> ((33 : Int32) &&& 0x3f).toInt64.toUInt64).toInt64 = z := ⟨_, rfl⟩
  refine own_lushr (pc' := 51) B X0 d2_50 rfl hy9 ?_
  obtain ⟨y10, hy10⟩ : ∃ z : Int64, y8 ^^^ y9 = z := ⟨_, rfl⟩
  refine own_lxor (pc' := 52) B X0 d2_51 rfl hy10 ?_
  refine own_ldc2J (pc' := 55) B X0 (own_w hw 14 rfl) d2_52 rfl ?_
  obtain ⟨y11, hy11⟩ : ∃ z : Int64, y10 * (-49064778989728563 : Int64) = z := ⟨_, rfl⟩
  refine own_lmul (pc' := 56) B X0 d2_55 rfl hy11 ?_
  refine own_lstoreN (pc' := 57) B X0 (Ls' := #[.val (.ref w0), .val (.long y11), .second, .val (.ref w0), .val (.int (2 : Int32)), .val (.int (2 : Int32)), .val (.int p3)]) d2_56 rfl rfl ?_
  refine own_lloadN (pc' := 58) B X0 d2_57 rfl rfl ?_
  refine own_lloadN (pc' := 59) B X0 d2_58 rfl rfl ?_
  refine own_bipush (pc' := 61) B X0 (z := (33 : Int32)) d2_59 rfl (by decide) ?_
  obtain ⟨y12, hy12⟩ : ∃ z : Int64, (y11.toUInt64 >>> ((33 : Int32) &&& 0x3f).toInt64.toUInt64).toInt64 = z := ⟨_, rfl⟩
  refine own_lushr (pc' := 62) B X0 d2_61 rfl hy12 ?_
  obtain ⟨y13, hy13⟩ : ∃ z : Int64, y11 ^^^ y12 = z := ⟨_, rfl⟩
  refine own_lxor (pc' := 63) B X0 d2_62 rfl hy13 ?_
  refine own_ldc2J (pc' := 66) B X0 (own_w hw 15 rfl) d2_63 rfl ?_
  obtain ⟨y14, hy14⟩ : ∃ z : Int64, y13 * (-4265267296055464877 : Int64) = z := ⟨_, rfl⟩
  refine own_lmul (pc' := 67) B X0 d2_66 rfl hy14 ?_
  refine own_lstoreN (pc' := 68) B X0 (Ls' := #[.val (.ref w0), .val (.long y14), .second, .val (.ref w0), .val (.int (2 : Int32)), .val (.int (2 : Int32)), .val (.int p3)]) d2_67 rfl rfl ?_
  refine own_lloadN (pc' := 69) B X0 d2_68 rfl rfl ?_
  refine own_lloadN (pc' := 70) B X0 d2_69 rfl rfl ?_
  refine own_bipush (pc' := 72) B X0 (z := (33 : Int32)) d2_70 rfl (by decide) ?_
  obtain ⟨y15, hy15⟩ : ∃ z : Int64, (y14.toUInt64 >>> ((33 : Int32) &&& 0x3f).toInt64.toUInt64).toInt64 = z := ⟨_, rfl⟩
  refine own_lushr (pc' := 73) B X0 d2_72 rfl hy15 ?_
  obtain ⟨y16, hy16⟩ : ∃ z : Int64, y14 ^^^ y15 = z := ⟨_, rfl⟩
  refine own_lxor (pc' := 74) B X0 d2_73 rfl hy16 ?_
  exact own_retJ B X0 d2_74 (by decide) (by decide) (⟨y1, y2, y3, y4, y5, y6, y7, y8, y9, y10, y11, y12, y13, y14, y15, y16, hy1, hy2, hy3, hy4, hy5, hy6, hy7, hy8, hy9, hy10, hy11, hy12, hy13, hy14, hy15, hy16, rfl, rfl⟩)
def Q_8 (Z : State) (w0 : Addr) (kw0 : ClassId) (p2 : Int32) (p3 : Int32) (p4 : Int32) (h0 : Heap) (n0 : Nat) (v : Option Value) (h : Heap) : Prop :=
  (∃ (y1 : Int32) (y2 : Int64) (y3 : Int64) (y4 : Int64) (y5 : Int32) (y6 : Int64) (y7 : Int64) (y8 : Int64) (y9 : Int32) (y10 : Int64) (y11 : Int64) (y12 : Int64) (y13 : Int64) (y14 : Int64) (y15 : Int64) (y16 : Int64) (y17 : Int64) (y18 : Int64) (y19 : Int64) (y20 : Int64), p2 &&& (255 : Int32) = y1 ∧ y1.toInt64 = y2 ∧ (-3750763034362895579 : Int64) ^^^ y2 = y3 ∧ y3 * (1099511628211 : Int64) = y4 ∧ p3 &&& (255 : Int32) = y5 ∧ y5.toInt64 = y6 ∧ y4 ^^^ y6 = y7 ∧ y7 * (1099511628211 : Int64) = y8 ∧ p4 &&& (255 : Int32) = y9 ∧ y9.toInt64 = y10 ∧ y8 ^^^ y10 = y11 ∧ y11 * (1099511628211 : Int64) = y12 ∧ (y12.toUInt64 >>> ((33 : Int32) &&& 0x3f).toInt64.toUInt64).toInt64 = y13 ∧ y12 ^^^ y13 = y14 ∧ y14 * (-49064778989728563 : Int64) = y15 ∧ (y15.toUInt64 >>> ((33 : Int32) &&& 0x3f).toInt64.toUInt64).toInt64 = y16 ∧ y15 ^^^ y16 = y17 ∧ y17 * (-4265267296055464877 : Int64) = y18 ∧ (y18.toUInt64 >>> ((33 : Int32) &&& 0x3f).toInt64.toUInt64).toInt64 = y19 ∧ y18 ^^^ y19 = y20 ∧ v = some (.long y20) ∧ h0 = h)
set_option maxRecDepth 65536 in
set_option maxHeartbeats 40000000 in
theorem rm_8 (l : Launch) (Z : State) (a0 : Array Value) (hw : ∀ d ∈ tables_1, d.before a0 Z = true) (ws : List Jvm.Cond) (w0 : Addr) (kw0 : ClassId) (p2 : Int32) (p3 : Int32) (p4 : Int32) (h0 : Heap) (n0 : Nat) (Z0 : n0 ≤ h0.size) (E_w0 : Exa Z h0 w0 "[B") (V_w0 : Arv Z h0 w0 kw0 .byte (3 : Int32) [(.int p2), (.int p3), (.int p4)] (.int (0 : Int32))) (g_w0 : n0 ≤ w0) :
    MetFree l (⟨"com/example/tideline/tideline/io/PositionsFile", "hash", "([B)J"⟩ : MethodName) (head1 (Jvm.Cond.code (⟨"com/example/tideline/tideline/io/PositionsFile", "hash", "([B)J"⟩ : MethodName) prog_124_method_8_code 7 (some .long) :: ws) ({ frames := 0, cells := 0, slots := 0, locals := 0 } : Room)) (fun a U => a = #[(.ref w0)] ∧ Z.Warmed39 U.vm ∧ U.heap = h0) (fun _ _ _ _ _ => True) (fun _ U o U' => ∃ v L, o = .returned v ∧ (Fr n0 L ∧ Q_8 Z w0 kw0 p2 p3 p4 h0 n0 v U'.heap) ∧ FrameEnd U o U' L ({ frames := 0, cells := 0, slots := 0, locals := 0 } : Room).cells ({ frames := 0, cells := 0, slots := 0, locals := 0 } : Room).slots) := by
  refine own_enter (Q := Q_8 Z w0 kw0 p2 p3 p4 h0 n0) (F := fun m => mkF m 0 #[.val (.ref w0), .unset, .unset, .unset, .unset, .unset, .unset] []) (plainFor_of_name pn_1) (fun m => by first | (simp [entryFrame, mkF, argsToLocals, Value.category]; done) | rfl) ?_
  intro p e s m below meth c s₁ B X0
  have K : Keep h0 h0 [] := Keep.refl h0 _
  refine own_ldc2J (pc' := 3) B X0 (own_w hw 13 rfl) d2_0 rfl ?_
  refine own_lstoreN (pc' := 4) B X0 (Ls' := #[.val (.ref w0), .val (.long (-3750763034362895579 : Int64)), .second, .unset, .unset, .unset, .unset]) d2_3 rfl rfl ?_
  refine own_aloadN (pc' := 5) B X0 d2_4 rfl rfl rfl ?_
  refine own_astoreN (pc' := 6) B X0 (Ls' := #[.val (.ref w0), .val (.long (-3750763034362895579 : Int64)), .second, .val (.ref w0), .unset, .unset, .unset]) d2_5 rfl rfl rfl ?_
  refine own_aloadN (pc' := 7) B X0 d2_6 rfl rfl rfl ?_
  refine own_arraylength (pc' := 8) B X0 V_w0 d2_7 rfl ?_
  refine own_istore (pc' := 10) B X0 (Ls' := #[.val (.ref w0), .val (.long (-3750763034362895579 : Int64)), .second, .val (.ref w0), .val (.int (3 : Int32)), .unset, .unset]) d2_8 rfl rfl ?_
  refine own_iconst (pc' := 11) B X0 (z := (0 : Int32)) d2_10 rfl rfl ?_
  refine own_istore (pc' := 13) B X0 (Ls' := #[.val (.ref w0), .val (.long (-3750763034362895579 : Int64)), .second, .val (.ref w0), .val (.int (3 : Int32)), .val (.int (0 : Int32)), .unset]) d2_11 rfl rfl ?_
  refine own_iload (pc' := 15) B X0 d2_13 rfl rfl ?_
  refine own_iload (pc' := 17) B X0 d2_15 rfl rfl ?_
  refine own_icmpNo (pc' := 20) B X0 d2_17 (tlt (by decide : (0 : Int32) < (3 : Int32))).2.1 rfl ?_
  refine own_aloadN (pc' := 21) B X0 d2_20 rfl rfl rfl ?_
  refine own_iload (pc' := 23) B X0 d2_21 rfl rfl ?_
  refine own_baload (pc' := 24) B X0 V_w0 (v := (.int p2)) ⟨by decide, by decide⟩ rfl d2_23 rfl ?_
  refine own_istore (pc' := 26) B X0 (Ls' := #[.val (.ref w0), .val (.long (-3750763034362895579 : Int64)), .second, .val (.ref w0), .val (.int (3 : Int32)), .val (.int (0 : Int32)), .val (.int p2)]) d2_24 rfl rfl ?_
  refine own_lloadN (pc' := 27) B X0 d2_26 rfl rfl ?_
  refine own_iload (pc' := 29) B X0 d2_27 rfl rfl ?_
  refine own_sipush (pc' := 32) B X0 (z := (255 : Int32)) d2_29 rfl (by decide) ?_
  obtain ⟨y1, hy1⟩ : ∃ z : Int32, p2 &&& (255 : Int32) = z := ⟨_, rfl⟩
  refine own_iand (pc' := 33) B X0 d2_32 rfl hy1 ?_
  obtain ⟨y2, hy2⟩ : ∃ z : Int64, y1.toInt64 = z := ⟨_, rfl⟩
  refine own_i2l (pc' := 34) B X0 d2_33 rfl hy2 ?_
  obtain ⟨y3, hy3⟩ : ∃ z : Int64, (-3750763034362895579 : Int64) ^^^ y2 = z := ⟨_, rfl⟩
  refine own_lxor (pc' := 35) B X0 d2_34 rfl hy3 ?_
  refine own_ldc2J (pc' := 38) B X0 (own_w hw 20 rfl) d2_35 rfl ?_
  obtain ⟨y4, hy4⟩ : ∃ z : Int64, y3 * (1099511628211 : Int64) = z := ⟨_, rfl⟩
  refine own_lmul (pc' := 39) B X0 d2_38 rfl hy4 ?_
  refine own_lstoreN (pc' := 40) B X0 (Ls' := #[.val (.ref w0), .val (.long y4), .second, .val (.ref w0), .val (.int (3 : Int32)), .val (.int (0 : Int32)), .val (.int p2)]) d2_39 rfl rfl ?_
  refine own_iinc (pc' := 43) B X0 (Ls' := #[.val (.ref w0), .val (.long y4), .second, .val (.ref w0), .val (.int (3 : Int32)), .val (.int (1 : Int32)), .val (.int p2)]) d2_40 rfl rfl (z := (1 : Int32)) (by decide) rfl ?_
  refine own_goto (pc' := 13) B X0 d2_43 (by decide) rfl ?_
  refine own_iload (pc' := 15) B X0 d2_13 rfl rfl ?_
  refine own_iload (pc' := 17) B X0 d2_15 rfl rfl ?_
  refine own_icmpNo (pc' := 20) B X0 d2_17 (tlt (by decide : (1 : Int32) < (3 : Int32))).2.1 rfl ?_
  refine own_aloadN (pc' := 21) B X0 d2_20 rfl rfl rfl ?_
  refine own_iload (pc' := 23) B X0 d2_21 rfl rfl ?_
  refine own_baload (pc' := 24) B X0 V_w0 (v := (.int p3)) ⟨by decide, by decide⟩ rfl d2_23 rfl ?_
  refine own_istore (pc' := 26) B X0 (Ls' := #[.val (.ref w0), .val (.long y4), .second, .val (.ref w0), .val (.int (3 : Int32)), .val (.int (1 : Int32)), .val (.int p3)]) d2_24 rfl rfl ?_
  refine own_lloadN (pc' := 27) B X0 d2_26 rfl rfl ?_
  refine own_iload (pc' := 29) B X0 d2_27 rfl rfl ?_
  refine own_sipush (pc' := 32) B X0 (z := (255 : Int32)) d2_29 rfl (by decide) ?_
  obtain ⟨y5, hy5⟩ : ∃ z : Int32, p3 &&& (255 : Int32) = z := ⟨_, rfl⟩
  refine own_iand (pc' := 33) B X0 d2_32 rfl hy5 ?_
  obtain ⟨y6, hy6⟩ : ∃ z : Int64, y5.toInt64 = z := ⟨_, rfl⟩
  refine own_i2l (pc' := 34) B X0 d2_33 rfl hy6 ?_
  obtain ⟨y7, hy7⟩ : ∃ z : Int64, y4 ^^^ y6 = z := ⟨_, rfl⟩
  refine own_lxor (pc' := 35) B X0 d2_34 rfl hy7 ?_
  refine own_ldc2J (pc' := 38) B X0 (own_w hw 20 rfl) d2_35 rfl ?_
  obtain ⟨y8, hy8⟩ : ∃ z : Int64, y7 * (1099511628211 : Int64) = z := ⟨_, rfl⟩
  refine own_lmul (pc' := 39) B X0 d2_38 rfl hy8 ?_
  refine own_lstoreN (pc' := 40) B X0 (Ls' := #[.val (.ref w0), .val (.long y8), .second, .val (.ref w0), .val (.int (3 : Int32)), .val (.int (1 : Int32)), .val (.int p3)]) d2_39 rfl rfl ?_
  refine own_iinc (pc' := 43) B X0 (Ls' := #[.val (.ref w0), .val (.long y8), .second, .val (.ref w0), .val (.int (3 : Int32)), .val (.int (2 : Int32)), .val (.int p3)]) d2_40 rfl rfl (z := (2 : Int32)) (by decide) rfl ?_
  refine own_goto (pc' := 13) B X0 d2_43 (by decide) rfl ?_
  refine own_iload (pc' := 15) B X0 d2_13 rfl rfl ?_
  refine own_iload (pc' := 17) B X0 d2_15 rfl rfl ?_
  refine own_icmpNo (pc' := 20) B X0 d2_17 (tlt (by decide : (2 : Int32) < (3 : Int32))).2.1 rfl ?_
  refine own_aloadN (pc' := 21) B X0 d2_20 rfl rfl rfl ?_
  refine own_iload (pc' := 23) B X0 d2_21 rfl rfl ?_
  refine own_baload (pc' := 24) B X0 V_w0 (v := (.int p4)) ⟨by decide, by decide⟩ rfl d2_23 rfl ?_
  refine own_istore (pc' := 26) B X0 (Ls' := #[.val (.ref w0), .val (.long y8), .second, .val (.ref w0), .val (.int (3 : Int32)), .val (.int (2 : Int32)), .val (.int p4)]) d2_24 rfl rfl ?_
  refine own_lloadN (pc' := 27) B X0 d2_26 rfl rfl ?_
  refine own_iload (pc' := 29) B X0 d2_27 rfl rfl ?_
  refine own_sipush (pc' := 32) B X0 (z := (255 : Int32)) d2_29 rfl (by decide) ?_
  obtain ⟨y9, hy9⟩ : ∃ z : Int32, p4 &&& (255 : Int32) = z := ⟨_, rfl⟩
  refine own_iand (pc' := 33) B X0 d2_32 rfl hy9 ?_
  obtain ⟨y10, hy10⟩ : ∃ z : Int64, y9.toInt64 = z := ⟨_, rfl⟩
  refine own_i2l (pc' := 34) B X0 d2_33 rfl hy10 ?_
  obtain ⟨y11, hy11⟩ : ∃ z : Int64, y8 ^^^ y10 = z := ⟨_, rfl⟩
  refine own_lxor (pc' := 35) B X0 d2_34 rfl hy11 ?_
  refine own_ldc2J (pc' := 38) B X0 (own_w hw 20 rfl) d2_35 rfl ?_
  obtain ⟨y12, hy12⟩ : ∃ z : Int64, y11 * (1099511628211 : Int64) = z := ⟨_, rfl⟩
  refine own_lmul (pc' := 39) B X0 d2_38 rfl hy12 ?_
  refine own_lstoreN (pc' := 40) B X0 (Ls' := #[.val (.ref w0), .val (.long y12), .second, .val (.ref w0), .val (.int (3 : Int32)), .val (.int (2 : Int32)), .val (.int p4)]) d2_39 rfl rfl ?_
  refine own_iinc (pc' := 43) B X0 (Ls' := #[.val (.ref w0), .val (.long y12), .second, .val (.ref w0), .val (.int (3 : Int32)), .val (.int (3 : Int32)), .val (.int p4)]) d2_40 rfl rfl (z := (3 : Int32)) (by decide) rfl ?_
  refine own_goto (pc' := 13) B X0 d2_43 (by decide) rfl ?_
  refine own_iload (pc' := 15) B X0 d2_13 rfl rfl ?_
  refine own_iload (pc' := 17) B X0 d2_15 rfl rfl ?_
  refine own_icmpYes (pc' := 46) B X0 d2_17 (flt (by decide : ¬ ((3 : Int32) < (3 : Int32)))).2.1 (by decide) rfl ?_
  refine own_lloadN (pc' := 47) B X0 d2_46 rfl rfl ?_
  refine own_lloadN (pc' := 48) B X0 d2_47 rfl rfl ?_
  refine own_bipush (pc' := 50) B X0 (z := (33 : Int32)) d2_48 rfl (by decide) ?_
  obtain ⟨y13, hy13⟩ : ∃ z : Int64, (y12.toUInt64 >>> ((33 : Int32) &&& 0x3f).toInt64.toUInt64).toInt64 = z := ⟨_, rfl⟩
  refine own_lushr (pc' := 51) B X0 d2_50 rfl hy13 ?_
  obtain ⟨y14, hy14⟩ : ∃ z : Int64, y12 ^^^ y13 = z := ⟨_, rfl⟩
  refine own_lxor (pc' := 52) B X0 d2_51 rfl hy14 ?_
  refine own_ldc2J (pc' := 55) B X0 (own_w hw 14 rfl) d2_52 rfl ?_
  obtain ⟨y15, hy15⟩ : ∃ z : Int64, y14 * (-49064778989728563 : Int64) = z := ⟨_, rfl⟩
  refine own_lmul (pc' := 56) B X0 d2_55 rfl hy15 ?_
  refine own_lstoreN (pc' := 57) B X0 (Ls' := #[.val (.ref w0), .val (.long y15), .second, .val (.ref w0), .val (.int (3 : Int32)), .val (.int (3 : Int32)), .val (.int p4)]) d2_56 rfl rfl ?_
  refine own_lloadN (pc' := 58) B X0 d2_57 rfl rfl ?_
  refine own_lloadN (pc' := 59) B X0 d2_58 rfl rfl ?_
  refine own_bipush (pc' := 61) B X0 (z := (33 : Int32)) d2_59 rfl (by decide) ?_
  obtain ⟨y16, hy16⟩ : ∃ z : Int64, (y15.toUInt64 >>> ((33 : Int32) &&& 0x3f).toInt64.toUInt64).toInt64 = z := ⟨_, rfl⟩
  refine own_lushr (pc' := 62) B X0 d2_61 rfl hy16 ?_
  obtain ⟨y17, hy17⟩ : ∃ z : Int64, y15 ^^^ y16 = z := ⟨_, rfl⟩
  refine own_lxor (pc' := 63) B X0 d2_62 rfl hy17 ?_
  refine own_ldc2J (pc' := 66) B X0 (own_w hw 15 rfl) d2_63 rfl ?_
  obtain ⟨y18, hy18⟩ : ∃ z : Int64, y17 * (-4265267296055464877 : Int64) = z := ⟨_, rfl⟩
  refine own_lmul (pc' := 67) B X0 d2_66 rfl hy18 ?_
  refine own_lstoreN (pc' := 68) B X0 (Ls' := #[.val (.ref w0), .val (.long y18), .second, .val (.ref w0), .val (.int (3 : Int32)), .val (.int (3 : Int32)), .val (.int p4)]) d2_67 rfl rfl ?_
  refine own_lloadN (pc' := 69) B X0 d2_68 rfl rfl ?_
  refine own_lloadN (pc' := 70) B X0 d2_69 rfl rfl ?_
  refine own_bipush (pc' := 72) B X0 (z := (33 : Int32)) d2_70 rfl (by decide) ?_
  obtain ⟨y19, hy19⟩ : ∃ z : Int64, (y18.toUInt64 >>> ((33 : Int32) &&& 0x3f).toInt64.toUInt64).toInt64 = z := ⟨_, rfl⟩
  refine own_lushr (pc' := 73) B X0 d2_72 rfl hy19 ?_
  obtain ⟨y20, hy20⟩ : ∃ z : Int64, y18 ^^^ y19 = z := ⟨_, rfl⟩
  refine own_lxor (pc' := 74) B X0 d2_73 rfl hy20 ?_
  exact own_retJ B X0 d2_74 (by decide) (by decide) (⟨y1, y2, y3, y4, y5, y6, y7, y8, y9, y10, y11, y12, y13, y14, y15, y16, y17, y18, y19, y20, hy1, hy2, hy3, hy4, hy5, hy6, hy7, hy8, hy9, hy10, hy11, hy12, hy13, hy14, hy15, hy16, hy17, hy18, hy19, hy20, rfl, rfl⟩)
def Q_9 (Z : State) (w0 : Addr) (kw0 : ClassId) (p2 : Int32) (p3 : Int32) (p4 : Int32) (p5 : Int32) (h0 : Heap) (n0 : Nat) (v : Option Value) (h : Heap) : Prop :=
  (∃ (y1 : Int32) (y2 : Int64) (y3 : Int64) (y4 : Int64) (y5 : Int32) (y6 : Int64) (y7 : Int64) (y8 : Int64) (y9 : Int32) (y10 : Int64) (y11 : Int64) (y12 : Int64) (y13 : Int32) (y14 : Int64) (y15 : Int64) (y16 : Int64) (y17 : Int64) (y18 : Int64) (y19 : Int64) (y20 : Int64) (y21 : Int64) (y22 : Int64) (y23 : Int64) (y24 : Int64), p2 &&& (255 : Int32) = y1 ∧ y1.toInt64 = y2 ∧ (-3750763034362895579 : Int64) ^^^ y2 = y3 ∧ y3 * (1099511628211 : Int64) = y4 ∧ p3 &&& (255 : Int32) = y5 ∧ y5.toInt64 = y6 ∧ y4 ^^^ y6 = y7 ∧ y7 * (1099511628211 : Int64) = y8 ∧ p4 &&& (255 : Int32) = y9 ∧ y9.toInt64 = y10 ∧ y8 ^^^ y10 = y11 ∧ y11 * (1099511628211 : Int64) = y12 ∧ p5 &&& (255 : Int32) = y13 ∧ y13.toInt64 = y14 ∧ y12 ^^^ y14 = y15 ∧ y15 * (1099511628211 : Int64) = y16 ∧ (y16.toUInt64 >>> ((33 : Int32) &&& 0x3f).toInt64.toUInt64).toInt64 = y17 ∧ y16 ^^^ y17 = y18 ∧ y18 * (-49064778989728563 : Int64) = y19 ∧ (y19.toUInt64 >>> ((33 : Int32) &&& 0x3f).toInt64.toUInt64).toInt64 = y20 ∧ y19 ^^^ y20 = y21 ∧ y21 * (-4265267296055464877 : Int64) = y22 ∧ (y22.toUInt64 >>> ((33 : Int32) &&& 0x3f).toInt64.toUInt64).toInt64 = y23 ∧ y22 ^^^ y23 = y24 ∧ v = some (.long y24) ∧ h0 = h)
set_option maxRecDepth 65536 in
set_option maxHeartbeats 40000000 in
theorem rm_9 (l : Launch) (Z : State) (a0 : Array Value) (hw : ∀ d ∈ tables_1, d.before a0 Z = true) (ws : List Jvm.Cond) (w0 : Addr) (kw0 : ClassId) (p2 : Int32) (p3 : Int32) (p4 : Int32) (p5 : Int32) (h0 : Heap) (n0 : Nat) (Z0 : n0 ≤ h0.size) (E_w0 : Exa Z h0 w0 "[B") (V_w0 : Arv Z h0 w0 kw0 .byte (4 : Int32) [(.int p2), (.int p3), (.int p4), (.int p5)] (.int (0 : Int32))) (g_w0 : n0 ≤ w0) :
    MetFree l (⟨"com/example/tideline/tideline/io/PositionsFile", "hash", "([B)J"⟩ : MethodName) (head1 (Jvm.Cond.code (⟨"com/example/tideline/tideline/io/PositionsFile", "hash", "([B)J"⟩ : MethodName) prog_124_method_8_code 7 (some .long) :: ws) ({ frames := 0, cells := 0, slots := 0, locals := 0 } : Room)) (fun a U => a = #[(.ref w0)] ∧ Z.Warmed39 U.vm ∧ U.heap = h0) (fun _ _ _ _ _ => True) (fun _ U o U' => ∃ v L, o = .returned v ∧ (Fr n0 L ∧ Q_9 Z w0 kw0 p2 p3 p4 p5 h0 n0 v U'.heap) ∧ FrameEnd U o U' L ({ frames := 0, cells := 0, slots := 0, locals := 0 } : Room).cells ({ frames := 0, cells := 0, slots := 0, locals := 0 } : Room).slots) := by
  refine own_enter (Q := Q_9 Z w0 kw0 p2 p3 p4 p5 h0 n0) (F := fun m => mkF m 0 #[.val (.ref w0), .unset, .unset, .unset, .unset, .unset, .unset] []) (plainFor_of_name pn_1) (fun m => by first | (simp [entryFrame, mkF, argsToLocals, Value.category]; done) | rfl) ?_
  intro p e s m below meth c s₁ B X0
  have K : Keep h0 h0 [] := Keep.refl h0 _
  refine own_ldc2J (pc' := 3) B X0 (own_w hw 13 rfl) d2_0 rfl ?_
  refine own_lstoreN (pc' := 4) B X0 (Ls' := #[.val (.ref w0), .val (.long (-3750763034362895579 : Int64)), .second, .unset, .unset, .unset, .unset]) d2_3 rfl rfl ?_
  refine own_aloadN (pc' := 5) B X0 d2_4 rfl rfl rfl ?_
  refine own_astoreN (pc' := 6) B X0 (Ls' := #[.val (.ref w0), .val (.long (-3750763034362895579 : Int64)), .second, .val (.ref w0), .unset, .unset, .unset]) d2_5 rfl rfl rfl ?_
  refine own_aloadN (pc' := 7) B X0 d2_6 rfl rfl rfl ?_
  refine own_arraylength (pc' := 8) B X0 V_w0 d2_7 rfl ?_
  refine own_istore (pc' := 10) B X0 (Ls' := #[.val (.ref w0), .val (.long (-3750763034362895579 : Int64)), .second, .val (.ref w0), .val (.int (4 : Int32)), .unset, .unset]) d2_8 rfl rfl ?_
  refine own_iconst (pc' := 11) B X0 (z := (0 : Int32)) d2_10 rfl rfl ?_
  refine own_istore (pc' := 13) B X0 (Ls' := #[.val (.ref w0), .val (.long (-3750763034362895579 : Int64)), .second, .val (.ref w0), .val (.int (4 : Int32)), .val (.int (0 : Int32)), .unset]) d2_11 rfl rfl ?_
  refine own_iload (pc' := 15) B X0 d2_13 rfl rfl ?_
  refine own_iload (pc' := 17) B X0 d2_15 rfl rfl ?_
  refine own_icmpNo (pc' := 20) B X0 d2_17 (tlt (by decide : (0 : Int32) < (4 : Int32))).2.1 rfl ?_
  refine own_aloadN (pc' := 21) B X0 d2_20 rfl rfl rfl ?_
  refine own_iload (pc' := 23) B X0 d2_21 rfl rfl ?_
  refine own_baload (pc' := 24) B X0 V_w0 (v := (.int p2)) ⟨by decide, by decide⟩ rfl d2_23 rfl ?_
  refine own_istore (pc' := 26) B X0 (Ls' := #[.val (.ref w0), .val (.long (-3750763034362895579 : Int64)), .second, .val (.ref w0), .val (.int (4 : Int32)), .val (.int (0 : Int32)), .val (.int p2)]) d2_24 rfl rfl ?_
  refine own_lloadN (pc' := 27) B X0 d2_26 rfl rfl ?_
  refine own_iload (pc' := 29) B X0 d2_27 rfl rfl ?_
  refine own_sipush (pc' := 32) B X0 (z := (255 : Int32)) d2_29 rfl (by decide) ?_
  obtain ⟨y1, hy1⟩ : ∃ z : Int32, p2 &&& (255 : Int32) = z := ⟨_, rfl⟩
  refine own_iand (pc' := 33) B X0 d2_32 rfl hy1 ?_
  obtain ⟨y2, hy2⟩ : ∃ z : Int64, y1.toInt64 = z := ⟨_, rfl⟩
  refine own_i2l (pc' := 34) B X0 d2_33 rfl hy2 ?_
  obtain ⟨y3, hy3⟩ : ∃ z : Int64, (-3750763034362895579 : Int64) ^^^ y2 = z := ⟨_, rfl⟩
  refine own_lxor (pc' := 35) B X0 d2_34 rfl hy3 ?_
  refine own_ldc2J (pc' := 38) B X0 (own_w hw 20 rfl) d2_35 rfl ?_
  obtain ⟨y4, hy4⟩ : ∃ z : Int64, y3 * (1099511628211 : Int64) = z := ⟨_, rfl⟩
  refine own_lmul (pc' := 39) B X0 d2_38 rfl hy4 ?_
  refine own_lstoreN (pc' := 40) B X0 (Ls' := #[.val (.ref w0), .val (.long y4), .second, .val (.ref w0), .val (.int (4 : Int32)), .val (.int (0 : Int32)), .val (.int p2)]) d2_39 rfl rfl ?_
  refine own_iinc (pc' := 43) B X0 (Ls' := #[.val (.ref w0), .val (.long y4), .second, .val (.ref w0), .val (.int (4 : Int32)), .val (.int (1 : Int32)), .val (.int p2)]) d2_40 rfl rfl (z := (1 : Int32)) (by decide) rfl ?_
  refine own_goto (pc' := 13) B X0 d2_43 (by decide) rfl ?_
  refine own_iload (pc' := 15) B X0 d2_13 rfl rfl ?_
  refine own_iload (pc' := 17) B X0 d2_15 rfl rfl ?_
  refine own_icmpNo (pc' := 20) B X0 d2_17 (tlt (by decide : (1 : Int32) < (4 : Int32))).2.1 rfl ?_
  refine own_aloadN (pc' := 21) B X0 d2_20 rfl rfl rfl ?_
  refine own_iload (pc' := 23) B X0 d2_21 rfl rfl ?_
  refine own_baload (pc' := 24) B X0 V_w0 (v := (.int p3)) ⟨by decide, by decide⟩ rfl d2_23 rfl ?_
  refine own_istore (pc' := 26) B X0 (Ls' := #[.val (.ref w0), .val (.long y4), .second, .val (.ref w0), .val (.int (4 : Int32)), .val (.int (1 : Int32)), .val (.int p3)]) d2_24 rfl rfl ?_
  refine own_lloadN (pc' := 27) B X0 d2_26 rfl rfl ?_
  refine own_iload (pc' := 29) B X0 d2_27 rfl rfl ?_
  refine own_sipush (pc' := 32) B X0 (z := (255 : Int32)) d2_29 rfl (by decide) ?_
  obtain ⟨y5, hy5⟩ : ∃ z : Int32, p3 &&& (255 : Int32) = z := ⟨_, rfl⟩
  refine own_iand (pc' := 33) B X0 d2_32 rfl hy5 ?_
  obtain ⟨y6, hy6⟩ : ∃ z : Int64, y5.toInt64 = z := ⟨_, rfl⟩
  refine own_i2l (pc' := 34) B X0 d2_33 rfl hy6 ?_
  obtain ⟨y7, hy7⟩ : ∃ z : Int64, y4 ^^^ y6 = z := ⟨_, rfl⟩
  refine own_lxor (pc' := 35) B X0 d2_34 rfl hy7 ?_
  refine own_ldc2J (pc' := 38) B X0 (own_w hw 20 rfl) d2_35 rfl ?_
  obtain ⟨y8, hy8⟩ : ∃ z : Int64, y7 * (1099511628211 : Int64) = z := ⟨_, rfl⟩
  refine own_lmul (pc' := 39) B X0 d2_38 rfl hy8 ?_
  refine own_lstoreN (pc' := 40) B X0 (Ls' := #[.val (.ref w0), .val (.long y8), .second, .val (.ref w0), .val (.int (4 : Int32)), .val (.int (1 : Int32)), .val (.int p3)]) d2_39 rfl rfl ?_
  refine own_iinc (pc' := 43) B X0 (Ls' := #[.val (.ref w0), .val (.long y8), .second, .val (.ref w0), .val (.int (4 : Int32)), .val (.int (2 : Int32)), .val (.int p3)]) d2_40 rfl rfl (z := (2 : Int32)) (by decide) rfl ?_
  refine own_goto (pc' := 13) B X0 d2_43 (by decide) rfl ?_
  refine own_iload (pc' := 15) B X0 d2_13 rfl rfl ?_
  refine own_iload (pc' := 17) B X0 d2_15 rfl rfl ?_
  refine own_icmpNo (pc' := 20) B X0 d2_17 (tlt (by decide : (2 : Int32) < (4 : Int32))).2.1 rfl ?_
  refine own_aloadN (pc' := 21) B X0 d2_20 rfl rfl rfl ?_
  refine own_iload (pc' := 23) B X0 d2_21 rfl rfl ?_
  refine own_baload (pc' := 24) B X0 V_w0 (v := (.int p4)) ⟨by decide, by decide⟩ rfl d2_23 rfl ?_
  refine own_istore (pc' := 26) B X0 (Ls' := #[.val (.ref w0), .val (.long y8), .second, .val (.ref w0), .val (.int (4 : Int32)), .val (.int (2 : Int32)), .val (.int p4)]) d2_24 rfl rfl ?_
  refine own_lloadN (pc' := 27) B X0 d2_26 rfl rfl ?_
  refine own_iload (pc' := 29) B X0 d2_27 rfl rfl ?_
  refine own_sipush (pc' := 32) B X0 (z := (255 : Int32)) d2_29 rfl (by decide) ?_
  obtain ⟨y9, hy9⟩ : ∃ z : Int32, p4 &&& (255 : Int32) = z := ⟨_, rfl⟩
  refine own_iand (pc' := 33) B X0 d2_32 rfl hy9 ?_
  obtain ⟨y10, hy10⟩ : ∃ z : Int64, y9.toInt64 = z := ⟨_, rfl⟩
  refine own_i2l (pc' := 34) B X0 d2_33 rfl hy10 ?_
  obtain ⟨y11, hy11⟩ : ∃ z : Int64, y8 ^^^ y10 = z := ⟨_, rfl⟩
  refine own_lxor (pc' := 35) B X0 d2_34 rfl hy11 ?_
  refine own_ldc2J (pc' := 38) B X0 (own_w hw 20 rfl) d2_35 rfl ?_
  obtain ⟨y12, hy12⟩ : ∃ z : Int64, y11 * (1099511628211 : Int64) = z := ⟨_, rfl⟩
  refine own_lmul (pc' := 39) B X0 d2_38 rfl hy12 ?_
  refine own_lstoreN (pc' := 40) B X0 (Ls' := #[.val (.ref w0), .val (.long y12), .second, .val (.ref w0), .val (.int (4 : Int32)), .val (.int (2 : Int32)), .val (.int p4)]) d2_39 rfl rfl ?_
  refine own_iinc (pc' := 43) B X0 (Ls' := #[.val (.ref w0), .val (.long y12), .second, .val (.ref w0), .val (.int (4 : Int32)), .val (.int (3 : Int32)), .val (.int p4)]) d2_40 rfl rfl (z := (3 : Int32)) (by decide) rfl ?_
  refine own_goto (pc' := 13) B X0 d2_43 (by decide) rfl ?_
  refine own_iload (pc' := 15) B X0 d2_13 rfl rfl ?_
  refine own_iload (pc' := 17) B X0 d2_15 rfl rfl ?_
  refine own_icmpNo (pc' := 20) B X0 d2_17 (tlt (by decide : (3 : Int32) < (4 : Int32))).2.1 rfl ?_
  refine own_aloadN (pc' := 21) B X0 d2_20 rfl rfl rfl ?_
  refine own_iload (pc' := 23) B X0 d2_21 rfl rfl ?_
  refine own_baload (pc' := 24) B X0 V_w0 (v := (.int p5)) ⟨by decide, by decide⟩ rfl d2_23 rfl ?_
  refine own_istore (pc' := 26) B X0 (Ls' := #[.val (.ref w0), .val (.long y12), .second, .val (.ref w0), .val (.int (4 : Int32)), .val (.int (3 : Int32)), .val (.int p5)]) d2_24 rfl rfl ?_
  refine own_lloadN (pc' := 27) B X0 d2_26 rfl rfl ?_
  refine own_iload (pc' := 29) B X0 d2_27 rfl rfl ?_
  refine own_sipush (pc' := 32) B X0 (z := (255 : Int32)) d2_29 rfl (by decide) ?_
  obtain ⟨y13, hy13⟩ : ∃ z : Int32, p5 &&& (255 : Int32) = z := ⟨_, rfl⟩
  refine own_iand (pc' := 33) B X0 d2_32 rfl hy13 ?_
  obtain ⟨y14, hy14⟩ : ∃ z : Int64, y13.toInt64 = z := ⟨_, rfl⟩
  refine own_i2l (pc' := 34) B X0 d2_33 rfl hy14 ?_
  obtain ⟨y15, hy15⟩ : ∃ z : Int64, y12 ^^^ y14 = z := ⟨_, rfl⟩
  refine own_lxor (pc' := 35) B X0 d2_34 rfl hy15 ?_
  refine own_ldc2J (pc' := 38) B X0 (own_w hw 20 rfl) d2_35 rfl ?_
  obtain ⟨y16, hy16⟩ : ∃ z : Int64, y15 * (1099511628211 : Int64) = z := ⟨_, rfl⟩
  refine own_lmul (pc' := 39) B X0 d2_38 rfl hy16 ?_
  refine own_lstoreN (pc' := 40) B X0 (Ls' := #[.val (.ref w0), .val (.long y16), .second, .val (.ref w0), .val (.int (4 : Int32)), .val (.int (3 : Int32)), .val (.int p5)]) d2_39 rfl rfl ?_
  refine own_iinc (pc' := 43) B X0 (Ls' := #[.val (.ref w0), .val (.long y16), .second, .val (.ref w0), .val (.int (4 : Int32)), .val (.int (4 : Int32)), .val (.int p5)]) d2_40 rfl rfl (z := (4 : Int32)) (by decide) rfl ?_
  refine own_goto (pc' := 13) B X0 d2_43 (by decide) rfl ?_
  refine own_iload (pc' := 15) B X0 d2_13 rfl rfl ?_
  refine own_iload (pc' := 17) B X0 d2_15 rfl rfl ?_
  refine own_icmpYes (pc' := 46) B X0 d2_17 (flt (by decide : ¬ ((4 : Int32) < (4 : Int32)))).2.1 (by decide) rfl ?_
  refine own_lloadN (pc' := 47) B X0 d2_46 rfl rfl ?_
  refine own_lloadN (pc' := 48) B X0 d2_47 rfl rfl ?_
  refine own_bipush (pc' := 50) B X0 (z := (33 : Int32)) d2_48 rfl (by decide) ?_
  obtain ⟨y17, hy17⟩ : ∃ z : Int64, (y16.toUInt64 >>> ((33 : Int32) &&& 0x3f).toInt64.toUInt64).toInt64 = z := ⟨_, rfl⟩
  refine own_lushr (pc' := 51) B X0 d2_50 rfl hy17 ?_
  obtain ⟨y18, hy18⟩ : ∃ z : Int64, y16 ^^^ y17 = z := ⟨_, rfl⟩
  refine own_lxor (pc' := 52) B X0 d2_51 rfl hy18 ?_
  refine own_ldc2J (pc' := 55) B X0 (own_w hw 14 rfl) d2_52 rfl ?_
  obtain ⟨y19, hy19⟩ : ∃ z : Int64, y18 * (-49064778989728563 : Int64) = z := ⟨_, rfl⟩
  refine own_lmul (pc' := 56) B X0 d2_55 rfl hy19 ?_
  refine own_lstoreN (pc' := 57) B X0 (Ls' := #[.val (.ref w0), .val (.long y19), .second, .val (.ref w0), .val (.int (4 : Int32)), .val (.int (4 : Int32)), .val (.int p5)]) d2_56 rfl rfl ?_
  refine own_lloadN (pc' := 58) B X0 d2_57 rfl rfl ?_
  refine own_lloadN (pc' := 59) B X0 d2_58 rfl rfl ?_
  refine own_bipush (pc' := 61) B X0 (z := (33 : Int32)) d2_59 rfl (by decide) ?_
  obtain ⟨y20, hy20⟩ : ∃ z : Int64, (y19.toUInt64 >>> ((33 : Int32) &&& 0x3f).toInt64.toUInt64).toInt64 = z := ⟨_, rfl⟩
  refine own_lushr (pc' := 62) B X0 d2_61 rfl hy20 ?_
  obtain ⟨y21, hy21⟩ : ∃ z : Int64, y19 ^^^ y20 = z := ⟨_, rfl⟩
  refine own_lxor (pc' := 63) B X0 d2_62 rfl hy21 ?_
  refine own_ldc2J (pc' := 66) B X0 (own_w hw 15 rfl) d2_63 rfl ?_
  obtain ⟨y22, hy22⟩ : ∃ z : Int64, y21 * (-4265267296055464877 : Int64) = z := ⟨_, rfl⟩
  refine own_lmul (pc' := 67) B X0 d2_66 rfl hy22 ?_
  refine own_lstoreN (pc' := 68) B X0 (Ls' := #[.val (.ref w0), .val (.long y22), .second, .val (.ref w0), .val (.int (4 : Int32)), .val (.int (4 : Int32)), .val (.int p5)]) d2_67 rfl rfl ?_
  refine own_lloadN (pc' := 69) B X0 d2_68 rfl rfl ?_
  refine own_lloadN (pc' := 70) B X0 d2_69 rfl rfl ?_
  refine own_bipush (pc' := 72) B X0 (z := (33 : Int32)) d2_70 rfl (by decide) ?_
  obtain ⟨y23, hy23⟩ : ∃ z : Int64, (y22.toUInt64 >>> ((33 : Int32) &&& 0x3f).toInt64.toUInt64).toInt64 = z := ⟨_, rfl⟩
  refine own_lushr (pc' := 73) B X0 d2_72 rfl hy23 ?_
  obtain ⟨y24, hy24⟩ : ∃ z : Int64, y22 ^^^ y23 = z := ⟨_, rfl⟩
  refine own_lxor (pc' := 74) B X0 d2_73 rfl hy24 ?_
  exact own_retJ B X0 d2_74 (by decide) (by decide) (⟨y1, y2, y3, y4, y5, y6, y7, y8, y9, y10, y11, y12, y13, y14, y15, y16, y17, y18, y19, y20, y21, y22, y23, y24, hy1, hy2, hy3, hy4, hy5, hy6, hy7, hy8, hy9, hy10, hy11, hy12, hy13, hy14, hy15, hy16, hy17, hy18, hy19, hy20, hy21, hy22, hy23, hy24, rfl, rfl⟩)
def Q_0 (Z : State) (i0 : Int32) (i1 : Int32) (i2 : Int32) (i3 : Int32) (i4 : Int32) (h0 : Heap) (n0 : Nat) (v : Option Value) (h : Heap) : Prop :=
  (v = some (.int (1 : Int32)))
set_option maxRecDepth 65536 in
set_option maxHeartbeats 40000000 in
theorem rm_0 (l : Launch) (Z : State) (a0 : Array Value) (hw : ∀ d ∈ tables_1, d.before a0 Z = true) (ws : List Jvm.Cond) (i0 : Int32) (i1 : Int32) (i2 : Int32) (i3 : Int32) (i4 : Int32) (h0 : Heap) (n0 : Nat) (Z0 : n0 ≤ h0.size)  :
    MetFree l x (head1 (Jvm.Cond.code x code maxLocals ret :: ws) room_1) (fun a U => a = #[(.int i0), (.int i1), (.int i2), (.int i3), (.int i4)] ∧ Z.Warmed39 U.vm ∧ U.heap = h0) (fun _ _ _ _ _ => True) (fun _ U o U' => ∃ v L, o = .returned v ∧ (Fr n0 L ∧ Q_0 Z i0 i1 i2 i3 i4 h0 n0 v U'.heap) ∧ FrameEnd U o U' L room_1.cells room_1.slots) := by
  refine own_enter (Q := Q_0 Z i0 i1 i2 i3 i4 h0 n0) (F := fun m => mkF m 0 #[.val (.int i0), .val (.int i1), .val (.int i2), .val (.int i3), .val (.int i4), .unset, .unset, .unset, .unset, .unset, .unset, .unset, .unset, .unset, .unset] []) (plainFor_of_name pn_0) (fun m => by first | (simp [entryFrame, mkF, argsToLocals, Value.category, maxLocals]; done) | rfl) ?_
  intro p e s m below meth c s₁ B X0
  have K : Keep h0 h0 [] := Keep.refl h0 _
  refine own_iloadN (pc' := 1) B X0 at_0 rfl rfl ?_
  refine own_ldcI (pc' := 3) B X0 (own_w hw 0 rfl) at_1 rfl ?_
  obtain ⟨y1, hy1⟩ : ∃ z : Int32, i0 &&& (2147483647 : Int32) = z := ⟨_, rfl⟩
  refine own_iand (pc' := 4) B X0 at_3 rfl hy1 ?_
  refine own_iconst (pc' := 5) B X0 (z := (5 : Int32)) at_4 rfl rfl ?_
  obtain ⟨y2, hy2⟩ : ∃ z : Int32, y1 % (5 : Int32) = z := ⟨_, rfl⟩
  refine own_irem (pc' := 6) B X0 at_5 rfl (by decide) hy2 ?_
  refine own_istore (pc' := 8) B X0 (Ls' := #[.val (.int i0), .val (.int i1), .val (.int i2), .val (.int i3), .val (.int i4), .val (.int y2), .unset, .unset, .unset, .unset, .unset, .unset, .unset, .unset, .unset]) at_6 rfl rfl ?_
  refine own_iloadN (pc' := 9) B X0 at_8 rfl rfl ?_
  obtain ⟨y3, hy3⟩ : ∃ z : Int32, i1.toInt8.toInt32 = z := ⟨_, rfl⟩
  refine own_i2b (pc' := 10) B X0 at_9 rfl hy3 ?_
  refine own_istore (pc' := 12) B X0 (Ls' := #[.val (.int i0), .val (.int i1), .val (.int i2), .val (.int i3), .val (.int i4), .val (.int y2), .val (.int y3), .unset, .unset, .unset, .unset, .unset, .unset, .unset, .unset]) at_10 rfl rfl ?_
  refine own_iloadN (pc' := 13) B X0 at_12 rfl rfl ?_
  obtain ⟨y4, hy4⟩ : ∃ z : Int32, i2.toInt8.toInt32 = z := ⟨_, rfl⟩
  refine own_i2b (pc' := 14) B X0 at_13 rfl hy4 ?_
  refine own_istore (pc' := 16) B X0 (Ls' := #[.val (.int i0), .val (.int i1), .val (.int i2), .val (.int i3), .val (.int i4), .val (.int y2), .val (.int y3), .val (.int y4), .unset, .unset, .unset, .unset, .unset, .unset, .unset]) at_14 rfl rfl ?_
  refine own_iloadN (pc' := 17) B X0 at_16 rfl rfl ?_
  obtain ⟨y5, hy5⟩ : ∃ z : Int32, i3.toInt8.toInt32 = z := ⟨_, rfl⟩
  refine own_i2b (pc' := 18) B X0 at_17 rfl hy5 ?_
  refine own_istore (pc' := 20) B X0 (Ls' := #[.val (.int i0), .val (.int i1), .val (.int i2), .val (.int i3), .val (.int i4), .val (.int y2), .val (.int y3), .val (.int y4), .val (.int y5), .unset, .unset, .unset, .unset, .unset, .unset]) at_18 rfl rfl ?_
  refine own_iload (pc' := 22) B X0 at_20 rfl rfl ?_
  obtain ⟨y6, hy6⟩ : ∃ z : Int32, i4.toInt8.toInt32 = z := ⟨_, rfl⟩
  refine own_i2b (pc' := 23) B X0 at_22 rfl hy6 ?_
  refine own_istore (pc' := 25) B X0 (Ls' := #[.val (.int i0), .val (.int i1), .val (.int i2), .val (.int i3), .val (.int i4), .val (.int y2), .val (.int y3), .val (.int y4), .val (.int y5), .val (.int y6), .unset, .unset, .unset, .unset, .unset]) at_23 rfl rfl ?_
  refine own_iload (pc' := 27) B X0 at_25 rfl rfl ?_
  by_cases c7 : y2 = (0 : Int32)
  · refine own_ifNo (pc' := 30) B X0 at_27 ((if0 _ _).trans (teq c7).2) rfl ?_
    refine own_iconst (pc' := 31) B X0 (z := (0 : Int32)) at_30 rfl rfl ?_
    refine own_newarray (pc' := 33) B X0 (own_w hw 1 rfl) at_31 rfl rfl (by decide) 0 (by decide) (by decide) (k' := 1) (n' := 0) rfl rfl (by decide) (by decide) "[B" (by decide) (.int (0 : Int32)) rfl ?_
    intro T8 h8 b8 kb8 X8 g8 E8 V_b8 E_b8
    have sz_b8 : h0.size ≤ b8 := own_sz K g8
    have g_b8 : n0 ≤ b8 := Nat.le_trans Z0 sz_b8
    replace K := K.ext E8
    refine own_astore (pc' := 35) B X8 (Ls' := #[.val (.int i0), .val (.int i1), .val (.int i2), .val (.int i3), .val (.int i4), .val (.int y2), .val (.int y3), .val (.int y4), .val (.int y5), .val (.int y6), .val (.ref b8), .unset, .unset, .unset, .unset]) at_33 rfl rfl rfl ?_
    refine own_goto (pc' := 135) B X8 at_35 (by decide) rfl ?_
    refine own_ldc2J (pc' := 138) B X8 (own_w hw 2 rfl) at_135 rfl ?_
    refine own_lstore (pc' := 140) B X8 (Ls' := #[.val (.int i0), .val (.int i1), .val (.int i2), .val (.int i3), .val (.int i4), .val (.int y2), .val (.int y3), .val (.int y4), .val (.int y5), .val (.int y6), .val (.ref b8), .val (.long (-3750763034362895579 : Int64)), .second, .unset, .unset]) at_138 rfl rfl ?_
    refine own_iload (pc' := 142) B X8 at_140 rfl rfl ?_
    refine own_iconst (pc' := 143) B X8 (z := (1 : Int32)) at_142 rfl rfl ?_
    have c9 : y2 < (1 : Int32) := by
      have o0 := own_o_mask hy1 31 (by decide) (by decide)
      have o1 := own_o_irem hy2 5 (by decide)
      have o2 := own_eq c7
      have o3 := rng32 i0
      have o4 := rng32 y1
      have o5 := rng32 y2
      have o6 : (2147483647 : Int32).toInt = 2147483647 := by decide
      have o7 : (5 : Int32).toInt = 5 := by decide
      have o8 : (0 : Int32).toInt = 0 := by decide
      have o9 : (1 : Int32).toInt = 1 := by decide
      refine own_ltI ?_
      omega
    refine own_icmpYes (pc' := 155) B X8 at_143 (tlt c9).1 (by decide) rfl ?_
    refine own_iload (pc' := 157) B X8 at_155 rfl rfl ?_
    refine own_iconst (pc' := 158) B X8 (z := (2 : Int32)) at_157 rfl rfl ?_
    have c10 : y2 < (2 : Int32) := by
      have o0 := own_o_mask hy1 31 (by decide) (by decide)
      have o1 := own_o_irem hy2 5 (by decide)
      have o2 := own_eq c7
      have o3 := own_lt c9
      have o4 := rng32 i0
      have o5 := rng32 y1
      have o6 := rng32 y2
      have o7 : (2147483647 : Int32).toInt = 2147483647 := by decide
      have o8 : (5 : Int32).toInt = 5 := by decide
      have o9 : (0 : Int32).toInt = 0 := by decide
      have o10 : (1 : Int32).toInt = 1 := by decide
      have o11 : (2 : Int32).toInt = 2 := by decide
      refine own_ltI ?_
      omega
    refine own_icmpYes (pc' := 170) B X8 at_158 (tlt c10).1 (by decide) rfl ?_
    refine own_iload (pc' := 172) B X8 at_170 rfl rfl ?_
    refine own_iconst (pc' := 173) B X8 (z := (3 : Int32)) at_172 rfl rfl ?_
    have c11 : y2 < (3 : Int32) := by
      have o0 := own_o_mask hy1 31 (by decide) (by decide)
      have o1 := own_o_irem hy2 5 (by decide)
      have o2 := own_eq c7
      have o3 := own_lt c9
      have o4 := own_lt c10
      have o5 := rng32 i0
      have o6 := rng32 y1
      have o7 := rng32 y2
      have o8 : (2147483647 : Int32).toInt = 2147483647 := by decide
      have o9 : (5 : Int32).toInt = 5 := by decide
      have o10 : (0 : Int32).toInt = 0 := by decide
      have o11 : (1 : Int32).toInt = 1 := by decide
      have o12 : (2 : Int32).toInt = 2 := by decide
      have o13 : (3 : Int32).toInt = 3 := by decide
      refine own_ltI ?_
      omega
    refine own_icmpYes (pc' := 185) B X8 at_173 (tlt c11).1 (by decide) rfl ?_
    refine own_iload (pc' := 187) B X8 at_185 rfl rfl ?_
    refine own_iconst (pc' := 188) B X8 (z := (4 : Int32)) at_187 rfl rfl ?_
    have c12 : y2 < (4 : Int32) := by
      have o0 := own_o_mask hy1 31 (by decide) (by decide)
      have o1 := own_o_irem hy2 5 (by decide)
      have o2 := own_eq c7
      have o3 := own_lt c9
      have o4 := own_lt c10
      have o5 := own_lt c11
      have o6 := rng32 i0
      have o7 := rng32 y1
      have o8 := rng32 y2
      have o9 : (2147483647 : Int32).toInt = 2147483647 := by decide
      have o10 : (5 : Int32).toInt = 5 := by decide
      have o11 : (0 : Int32).toInt = 0 := by decide
      have o12 : (1 : Int32).toInt = 1 := by decide
      have o13 : (2 : Int32).toInt = 2 := by decide
      have o14 : (3 : Int32).toInt = 3 := by decide
      have o15 : (4 : Int32).toInt = 4 := by decide
      refine own_ltI ?_
      omega
    refine own_icmpYes (pc' := 200) B X8 at_188 (tlt c12).1 (by decide) rfl ?_
    refine own_lload (pc' := 202) B X8 at_200 rfl rfl ?_
    refine own_callS (pc' := 205) B X8 (own_w hw 3 rfl) (own_w hw 4 rfl) (own_w hw 5 rfl) (own_w hw 6 rfl) (by decide) [(.long (-3750763034362895579 : Int64))] [] (rm_1 l Z a0 hw []  h8 n0 (Nat.le_trans Z0 K.1) ) 0 (by decide) (by decide) rfl pd_0 rfl rfl (Nat.le_of_eq rfl) at_202 rfl (k' := 1) (n' := 0) rfl rfl (by decide) (by decide) ?_
    intro T13 v13 h13 X13 q13
    obtain ⟨rfl, rfl⟩ := q13
    show own_Go p e below (T13.setTop (mkF m 205 #[.val (.int i0), .val (.int i1), .val (.int i2), .val (.int i3), .val (.int i4), .val (.int y2), .val (.int y3), .val (.int y4), .val (.int y5), .val (.int y6), .val (.ref b8), .val (.long (-3750763034362895579 : Int64)), .second, .unset, .unset] [(.long (-1166397803181037274 : Int64))])) _
    refine own_lstore (pc' := 207) B X13 (Ls' := #[.val (.int i0), .val (.int i1), .val (.int i2), .val (.int i3), .val (.int i4), .val (.int y2), .val (.int y3), .val (.int y4), .val (.int y5), .val (.int y6), .val (.ref b8), .val (.long (-3750763034362895579 : Int64)), .second, .val (.long (-1166397803181037274 : Int64)), .second]) at_205 rfl rfl ?_
    refine own_aload (pc' := 209) B X13 at_207 rfl rfl rfl ?_
    refine own_callS (pc' := 212) B X13 (own_w hw 9 rfl) (own_w hw 10 rfl) (own_w hw 11 rfl) (own_w hw 12 rfl) (by decide) [(.ref b8)] [] (rm_2 l Z a0 hw [] b8 kb8 h8 n0 (Nat.le_trans Z0 K.1) E_b8 V_b8 g_b8) 0 (by decide) (by decide) rfl pd_1 rfl rfl (Nat.le_of_eq rfl) at_209 rfl (k' := 1) (n' := 0) rfl rfl (by decide) (by decide) ?_
    intro T14 v14 h14 X14 q14
    obtain ⟨rfl, rfl⟩ := q14
    show own_Go p e below (T14.setTop (mkF m 212 #[.val (.int i0), .val (.int i1), .val (.int i2), .val (.int i3), .val (.int i4), .val (.int y2), .val (.int y3), .val (.int y4), .val (.int y5), .val (.int y6), .val (.ref b8), .val (.long (-3750763034362895579 : Int64)), .second, .val (.long (-1166397803181037274 : Int64)), .second] [(.long (-1166397803181037274 : Int64))])) _
    refine own_lload (pc' := 214) B X14 at_212 rfl rfl ?_
    refine own_lcmp (pc' := 215) B X14 (z := (0 : Int32)) at_214 rfl (by decide) ?_
    refine own_ifNo (pc' := 218) B X14 at_215 ((if0 _ _).trans (teq (by decide : (0 : Int32) = (0 : Int32))).2) rfl ?_
    refine own_iconst (pc' := 219) B X14 (z := (1 : Int32)) at_218 rfl rfl ?_
    refine own_goto (pc' := 223) B X14 at_219 (by decide) rfl ?_
    exact own_retN B X14 (t := .boolean) (z' := (1 : Int32)) (by simp) (by decide) at_223 (by decide) (by decide) rfl
  · refine own_ifYes (pc' := 38) B X0 at_27 ((if0 _ _).trans (feq c7).2) (by decide) rfl ?_
    refine own_iload (pc' := 40) B X0 at_38 rfl rfl ?_
    refine own_iconst (pc' := 41) B X0 (z := (1 : Int32)) at_40 rfl rfl ?_
    by_cases c15 : y2 = (1 : Int32)
    · refine own_icmpNo (pc' := 44) B X0 at_41 (teq c15).2 rfl ?_
      refine own_iconst (pc' := 45) B X0 (z := (1 : Int32)) at_44 rfl rfl ?_
      refine own_newarray (pc' := 47) B X0 (own_w hw 1 rfl) at_45 rfl rfl (by decide) 1 (by decide) (by decide) (k' := 1) (n' := 1) rfl rfl (by decide) (by decide) "[B" (by decide) (.int (0 : Int32)) rfl ?_
      intro T16 h16 b16 kb16 X16 g16 E16 V_b16 E_b16
      have sz_b16 : h0.size ≤ b16 := own_sz K g16
      have g_b16 : n0 ≤ b16 := Nat.le_trans Z0 sz_b16
      replace K := K.ext E16
      replace V_b16 : Arv Z h16 b16 kb16 .byte (1 : Int32) [(.int (0 : Int32))] (.int (0 : Int32)) := V_b16.pad (pad_rep [] (.int (0 : Int32)) 1)
      refine own_dup (pc' := 48) B X16 at_47 rfl rfl ?_
      refine own_iconst (pc' := 49) B X16 (z := (0 : Int32)) at_48 rfl rfl ?_
      refine own_iload (pc' := 51) B X16 at_49 rfl rfl ?_
      refine own_bastore (pc' := 52) B X16 (x' := y3) V_b16 g_b16 ⟨by decide, by decide⟩ 0 (by decide) (Nat.le_of_ble_eq_true rfl) (own_idem_i2b hy3) at_51 rfl ?_
      intro T17 h17 X17 W17 V_b16
      replace V_b16 : Arv Z h17 b16 kb16 .byte (1 : Int32) [(.int y3)] (.int (0 : Int32)) := V_b16
      replace E_b16 := E_b16.wr W17
      replace K := K.wr W17 (Or.inr sz_b16)
      refine own_astore (pc' := 54) B X17 (Ls' := #[.val (.int i0), .val (.int i1), .val (.int i2), .val (.int i3), .val (.int i4), .val (.int y2), .val (.int y3), .val (.int y4), .val (.int y5), .val (.int y6), .val (.ref b16), .unset, .unset, .unset, .unset]) at_52 rfl rfl rfl ?_
      refine own_goto (pc' := 135) B X17 at_54 (by decide) rfl ?_
      refine own_ldc2J (pc' := 138) B X17 (own_w hw 2 rfl) at_135 rfl ?_
      refine own_lstore (pc' := 140) B X17 (Ls' := #[.val (.int i0), .val (.int i1), .val (.int i2), .val (.int i3), .val (.int i4), .val (.int y2), .val (.int y3), .val (.int y4), .val (.int y5), .val (.int y6), .val (.ref b16), .val (.long (-3750763034362895579 : Int64)), .second, .unset, .unset]) at_138 rfl rfl ?_
      refine own_iload (pc' := 142) B X17 at_140 rfl rfl ?_
      refine own_iconst (pc' := 143) B X17 (z := (1 : Int32)) at_142 rfl rfl ?_
      have c18 : ¬ (y2 < (1 : Int32)) := by
        have o0 := own_o_mask hy1 31 (by decide) (by decide)
        have o1 := own_o_irem hy2 5 (by decide)
        have o2 := own_neq c7
        have o3 := own_eq c15
        have o4 := rng32 i0
        have o5 := rng32 y1
        have o6 := rng32 y2
        have o7 : (2147483647 : Int32).toInt = 2147483647 := by decide
        have o8 : (5 : Int32).toInt = 5 := by decide
        have o9 : (0 : Int32).toInt = 0 := by decide
        have o10 : (1 : Int32).toInt = 1 := by decide
        refine own_nltI ?_
        omega
      refine own_icmpNo (pc' := 146) B X17 at_143 (flt c18).1 rfl ?_
      refine own_lload (pc' := 148) B X17 at_146 rfl rfl ?_
      refine own_iload (pc' := 150) B X17 at_148 rfl rfl ?_
      refine own_callS (pc' := 153) B X17 (own_w hw 16 rfl) (own_w hw 17 rfl) (own_w hw 5 rfl) (own_w hw 18 rfl) (by decide) [(.long (-3750763034362895579 : Int64)), (.int y3)] [] (rm_3 l Z a0 hw [] (y3) h17 n0 (Nat.le_trans Z0 K.1) ) 0 (by decide) (by decide) rfl pd_2 rfl rfl (Nat.le_of_eq rfl) at_150 rfl (k' := 1) (n' := 1) rfl rfl (by decide) (by decide) ?_
      intro T19 v19 h19 X19 q19
      obtain ⟨y20, y21, y22, y23, hy24, hy25, hy26, hy27, rfl, rfl⟩ := q19
      show own_Go p e below (T19.setTop (mkF m 153 #[.val (.int i0), .val (.int i1), .val (.int i2), .val (.int i3), .val (.int i4), .val (.int y2), .val (.int y3), .val (.int y4), .val (.int y5), .val (.int y6), .val (.ref b16), .val (.long (-3750763034362895579 : Int64)), .second, .unset, .unset] [(.long y23)])) _
      refine own_lstore (pc' := 155) B X19 (Ls' := #[.val (.int i0), .val (.int i1), .val (.int i2), .val (.int i3), .val (.int i4), .val (.int y2), .val (.int y3), .val (.int y4), .val (.int y5), .val (.int y6), .val (.ref b16), .val (.long y23), .second, .unset, .unset]) at_153 rfl rfl ?_
      refine own_iload (pc' := 157) B X19 at_155 rfl rfl ?_
      refine own_iconst (pc' := 158) B X19 (z := (2 : Int32)) at_157 rfl rfl ?_
      have c28 : y2 < (2 : Int32) := by
        have o0 := own_o_mask hy1 31 (by decide) (by decide)
        have o1 := own_o_irem hy2 5 (by decide)
        have o2 := own_neq c7
        have o3 := own_eq c15
        have o4 := own_nlt c18
        have o5 := rng32 i0
        have o6 := rng32 y1
        have o7 := rng32 y2
        have o8 : (2147483647 : Int32).toInt = 2147483647 := by decide
        have o9 : (5 : Int32).toInt = 5 := by decide
        have o10 : (0 : Int32).toInt = 0 := by decide
        have o11 : (1 : Int32).toInt = 1 := by decide
        have o12 : (2 : Int32).toInt = 2 := by decide
        refine own_ltI ?_
        omega
      refine own_icmpYes (pc' := 170) B X19 at_158 (tlt c28).1 (by decide) rfl ?_
      refine own_iload (pc' := 172) B X19 at_170 rfl rfl ?_
      refine own_iconst (pc' := 173) B X19 (z := (3 : Int32)) at_172 rfl rfl ?_
      have c29 : y2 < (3 : Int32) := by
        have o0 := own_o_mask hy1 31 (by decide) (by decide)
        have o1 := own_o_irem hy2 5 (by decide)
        have o2 := own_neq c7
        have o3 := own_eq c15
        have o4 := own_nlt c18
        have o5 := own_lt c28
        have o6 := rng32 i0
        have o7 := rng32 y1
        have o8 := rng32 y2
        have o9 : (2147483647 : Int32).toInt = 2147483647 := by decide
        have o10 : (5 : Int32).toInt = 5 := by decide
        have o11 : (0 : Int32).toInt = 0 := by decide
        have o12 : (1 : Int32).toInt = 1 := by decide
        have o13 : (2 : Int32).toInt = 2 := by decide
        have o14 : (3 : Int32).toInt = 3 := by decide
        refine own_ltI ?_
        omega
      refine own_icmpYes (pc' := 185) B X19 at_173 (tlt c29).1 (by decide) rfl ?_
      refine own_iload (pc' := 187) B X19 at_185 rfl rfl ?_
      refine own_iconst (pc' := 188) B X19 (z := (4 : Int32)) at_187 rfl rfl ?_
      have c30 : y2 < (4 : Int32) := by
        have o0 := own_o_mask hy1 31 (by decide) (by decide)
        have o1 := own_o_irem hy2 5 (by decide)
        have o2 := own_neq c7
        have o3 := own_eq c15
        have o4 := own_nlt c18
        have o5 := own_lt c28
        have o6 := own_lt c29
        have o7 := rng32 i0
        have o8 := rng32 y1
        have o9 := rng32 y2
        have o10 : (2147483647 : Int32).toInt = 2147483647 := by decide
        have o11 : (5 : Int32).toInt = 5 := by decide
        have o12 : (0 : Int32).toInt = 0 := by decide
        have o13 : (1 : Int32).toInt = 1 := by decide
        have o14 : (2 : Int32).toInt = 2 := by decide
        have o15 : (3 : Int32).toInt = 3 := by decide
        have o16 : (4 : Int32).toInt = 4 := by decide
        refine own_ltI ?_
        omega
      refine own_icmpYes (pc' := 200) B X19 at_188 (tlt c30).1 (by decide) rfl ?_
      refine own_lload (pc' := 202) B X19 at_200 rfl rfl ?_
      refine own_callS (pc' := 205) B X19 (own_w hw 3 rfl) (own_w hw 4 rfl) (own_w hw 5 rfl) (own_w hw 6 rfl) (by decide) [(.long y23)] [] (rm_4 l Z a0 hw [] (y23) h17 n0 (Nat.le_trans Z0 K.1) ) 0 (by decide) (by decide) rfl pd_0 rfl rfl (Nat.le_of_eq rfl) at_202 rfl (k' := 1) (n' := 1) rfl rfl (by decide) (by decide) ?_
      intro T31 v31 h31 X31 q31
      obtain ⟨y32, y33, y34, y35, y36, y37, y38, y39, hy40, hy41, hy42, hy43, hy44, hy45, hy46, hy47, rfl, rfl⟩ := q31
      show own_Go p e below (T31.setTop (mkF m 205 #[.val (.int i0), .val (.int i1), .val (.int i2), .val (.int i3), .val (.int i4), .val (.int y2), .val (.int y3), .val (.int y4), .val (.int y5), .val (.int y6), .val (.ref b16), .val (.long y23), .second, .unset, .unset] [(.long y39)])) _
      refine own_lstore (pc' := 207) B X31 (Ls' := #[.val (.int i0), .val (.int i1), .val (.int i2), .val (.int i3), .val (.int i4), .val (.int y2), .val (.int y3), .val (.int y4), .val (.int y5), .val (.int y6), .val (.ref b16), .val (.long y23), .second, .val (.long y39), .second]) at_205 rfl rfl ?_
      refine own_aload (pc' := 209) B X31 at_207 rfl rfl rfl ?_
      refine own_callS (pc' := 212) B X31 (own_w hw 9 rfl) (own_w hw 10 rfl) (own_w hw 11 rfl) (own_w hw 12 rfl) (by decide) [(.ref b16)] [] (rm_5 l Z a0 hw [] b16 kb16 (y3) h17 n0 (Nat.le_trans Z0 K.1) E_b16 V_b16 g_b16) 0 (by decide) (by decide) rfl pd_1 rfl rfl (Nat.le_of_eq rfl) at_209 rfl (k' := 1) (n' := 1) rfl rfl (by decide) (by decide) ?_
      intro T48 v48 h48 X48 q48
      obtain ⟨y49, y50, y51, y52, y53, y54, y55, y56, y57, y58, y59, y60, hy61, hy62, hy63, hy64, hy65, hy66, hy67, hy68, hy69, hy70, hy71, hy72, rfl, rfl⟩ := q48
      obtain rfl : y20 = y49 := (hy24 : y3 &&& (255 : Int32) = y20).symm.trans hy61
      obtain rfl : y21 = y50 := (hy25 : y20.toInt64 = y21).symm.trans hy62
      obtain rfl : y22 = y51 := (hy26 : (-3750763034362895579 : Int64) ^^^ y21 = y22).symm.trans hy63
      obtain rfl : y23 = y52 := (hy27 : y22 * (1099511628211 : Int64) = y23).symm.trans hy64
      obtain rfl : y32 = y53 := (hy40 : (y23.toUInt64 >>> ((33 : Int32) &&& 0x3f).toInt64.toUInt64).toInt64 = y32).symm.trans hy65
      obtain rfl : y33 = y54 := (hy41 : y23 ^^^ y32 = y33).symm.trans hy66
      obtain rfl : y34 = y55 := (hy42 : y33 * (-49064778989728563 : Int64) = y34).symm.trans hy67
      obtain rfl : y35 = y56 := (hy43 : (y34.toUInt64 >>> ((33 : Int32) &&& 0x3f).toInt64.toUInt64).toInt64 = y35).symm.trans hy68
      obtain rfl : y36 = y57 := (hy44 : y34 ^^^ y35 = y36).symm.trans hy69
      obtain rfl : y37 = y58 := (hy45 : y36 * (-4265267296055464877 : Int64) = y37).symm.trans hy70
      obtain rfl : y38 = y59 := (hy46 : (y37.toUInt64 >>> ((33 : Int32) &&& 0x3f).toInt64.toUInt64).toInt64 = y38).symm.trans hy71
      obtain rfl : y39 = y60 := (hy47 : y37 ^^^ y38 = y39).symm.trans hy72
      show own_Go p e below (T48.setTop (mkF m 212 #[.val (.int i0), .val (.int i1), .val (.int i2), .val (.int i3), .val (.int i4), .val (.int y2), .val (.int y3), .val (.int y4), .val (.int y5), .val (.int y6), .val (.ref b16), .val (.long y23), .second, .val (.long y39), .second] [(.long y39)])) _
      refine own_lload (pc' := 214) B X48 at_212 rfl rfl ?_
      obtain ⟨y73, hy73⟩ : ∃ z : Int32, lcmpW y39 y39 = z := ⟨_, rfl⟩
      refine own_lcmp (pc' := 215) B X48 at_214 rfl hy73 ?_
      refine own_ifNo (pc' := 218) B X48 at_215 ((if0 _ _).trans (teq (own_lcm (P := fun q => (q = (0 : Int32))) hy73 ((lw_eq y39 y39).mpr rfl))).2) rfl ?_
      refine own_iconst (pc' := 219) B X48 (z := (1 : Int32)) at_218 rfl rfl ?_
      refine own_goto (pc' := 223) B X48 at_219 (by decide) rfl ?_
      exact own_retN B X48 (t := .boolean) (z' := (1 : Int32)) (by simp) (by decide) at_223 (by decide) (by decide) rfl
    · refine own_icmpYes (pc' := 57) B X0 at_41 (feq c15).2 (by decide) rfl ?_
      refine own_iload (pc' := 59) B X0 at_57 rfl rfl ?_
      refine own_iconst (pc' := 60) B X0 (z := (2 : Int32)) at_59 rfl rfl ?_
      by_cases c74 : y2 = (2 : Int32)
      · refine own_icmpNo (pc' := 63) B X0 at_60 (teq c74).2 rfl ?_
        refine own_iconst (pc' := 64) B X0 (z := (2 : Int32)) at_63 rfl rfl ?_
        refine own_newarray (pc' := 66) B X0 (own_w hw 1 rfl) at_64 rfl rfl (by decide) 2 (by decide) (by decide) (k' := 1) (n' := 2) rfl rfl (by decide) (by decide) "[B" (by decide) (.int (0 : Int32)) rfl ?_
        intro T75 h75 b75 kb75 X75 g75 E75 V_b75 E_b75
        have sz_b75 : h0.size ≤ b75 := own_sz K g75
        have g_b75 : n0 ≤ b75 := Nat.le_trans Z0 sz_b75
        replace K := K.ext E75
        replace V_b75 : Arv Z h75 b75 kb75 .byte (2 : Int32) [(.int (0 : Int32)), (.int (0 : Int32))] (.int (0 : Int32)) := V_b75.pad (pad_rep [] (.int (0 : Int32)) 2)
        refine own_dup (pc' := 67) B X75 at_66 rfl rfl ?_
        refine own_iconst (pc' := 68) B X75 (z := (0 : Int32)) at_67 rfl rfl ?_
        refine own_iload (pc' := 70) B X75 at_68 rfl rfl ?_
        refine own_bastore (pc' := 71) B X75 (x' := y3) V_b75 g_b75 ⟨by decide, by decide⟩ 0 (by decide) (Nat.le_of_ble_eq_true rfl) (own_idem_i2b hy3) at_70 rfl ?_
        intro T76 h76 X76 W76 V_b75
        replace V_b75 : Arv Z h76 b75 kb75 .byte (2 : Int32) [(.int y3), (.int (0 : Int32))] (.int (0 : Int32)) := V_b75
        replace E_b75 := E_b75.wr W76
        replace K := K.wr W76 (Or.inr sz_b75)
        refine own_dup (pc' := 72) B X76 at_71 rfl rfl ?_
        refine own_iconst (pc' := 73) B X76 (z := (1 : Int32)) at_72 rfl rfl ?_
        refine own_iload (pc' := 75) B X76 at_73 rfl rfl ?_
        refine own_bastore (pc' := 76) B X76 (x' := y4) V_b75 g_b75 ⟨by decide, by decide⟩ 1 (by decide) (Nat.le_of_ble_eq_true rfl) (own_idem_i2b hy4) at_75 rfl ?_
        intro T77 h77 X77 W77 V_b75
        replace V_b75 : Arv Z h77 b75 kb75 .byte (2 : Int32) [(.int y3), (.int y4)] (.int (0 : Int32)) := V_b75
        replace E_b75 := E_b75.wr W77
        replace K := K.wr W77 (Or.inr sz_b75)
        refine own_astore (pc' := 78) B X77 (Ls' := #[.val (.int i0), .val (.int i1), .val (.int i2), .val (.int i3), .val (.int i4), .val (.int y2), .val (.int y3), .val (.int y4), .val (.int y5), .val (.int y6), .val (.ref b75), .unset, .unset, .unset, .unset]) at_76 rfl rfl rfl ?_
        refine own_goto (pc' := 135) B X77 at_78 (by decide) rfl ?_
        refine own_ldc2J (pc' := 138) B X77 (own_w hw 2 rfl) at_135 rfl ?_
        refine own_lstore (pc' := 140) B X77 (Ls' := #[.val (.int i0), .val (.int i1), .val (.int i2), .val (.int i3), .val (.int i4), .val (.int y2), .val (.int y3), .val (.int y4), .val (.int y5), .val (.int y6), .val (.ref b75), .val (.long (-3750763034362895579 : Int64)), .second, .unset, .unset]) at_138 rfl rfl ?_
        refine own_iload (pc' := 142) B X77 at_140 rfl rfl ?_
        refine own_iconst (pc' := 143) B X77 (z := (1 : Int32)) at_142 rfl rfl ?_
        have c78 : ¬ (y2 < (1 : Int32)) := by
          have o0 := own_o_mask hy1 31 (by decide) (by decide)
          have o1 := own_o_irem hy2 5 (by decide)
          have o2 := own_neq c7
          have o3 := own_neq c15
          have o4 := own_eq c74
          have o5 := rng32 i0
          have o6 := rng32 y1
          have o7 := rng32 y2
          have o8 : (2147483647 : Int32).toInt = 2147483647 := by decide
          have o9 : (5 : Int32).toInt = 5 := by decide
          have o10 : (0 : Int32).toInt = 0 := by decide
          have o11 : (1 : Int32).toInt = 1 := by decide
          have o12 : (2 : Int32).toInt = 2 := by decide
          refine own_nltI ?_
          omega
        refine own_icmpNo (pc' := 146) B X77 at_143 (flt c78).1 rfl ?_
        refine own_lload (pc' := 148) B X77 at_146 rfl rfl ?_
        refine own_iload (pc' := 150) B X77 at_148 rfl rfl ?_
        refine own_callS (pc' := 153) B X77 (own_w hw 16 rfl) (own_w hw 17 rfl) (own_w hw 5 rfl) (own_w hw 18 rfl) (by decide) [(.long (-3750763034362895579 : Int64)), (.int y3)] [] (rm_3 l Z a0 hw [] (y3) h77 n0 (Nat.le_trans Z0 K.1) ) 0 (by decide) (by decide) rfl pd_2 rfl rfl (Nat.le_of_eq rfl) at_150 rfl (k' := 1) (n' := 2) rfl rfl (by decide) (by decide) ?_
        intro T79 v79 h79 X79 q79
        obtain ⟨y80, y81, y82, y83, hy84, hy85, hy86, hy87, rfl, rfl⟩ := q79
        show own_Go p e below (T79.setTop (mkF m 153 #[.val (.int i0), .val (.int i1), .val (.int i2), .val (.int i3), .val (.int i4), .val (.int y2), .val (.int y3), .val (.int y4), .val (.int y5), .val (.int y6), .val (.ref b75), .val (.long (-3750763034362895579 : Int64)), .second, .unset, .unset] [(.long y83)])) _
        refine own_lstore (pc' := 155) B X79 (Ls' := #[.val (.int i0), .val (.int i1), .val (.int i2), .val (.int i3), .val (.int i4), .val (.int y2), .val (.int y3), .val (.int y4), .val (.int y5), .val (.int y6), .val (.ref b75), .val (.long y83), .second, .unset, .unset]) at_153 rfl rfl ?_
        refine own_iload (pc' := 157) B X79 at_155 rfl rfl ?_
        refine own_iconst (pc' := 158) B X79 (z := (2 : Int32)) at_157 rfl rfl ?_
        have c88 : ¬ (y2 < (2 : Int32)) := by
          have o0 := own_o_mask hy1 31 (by decide) (by decide)
          have o1 := own_o_irem hy2 5 (by decide)
          have o2 := own_neq c7
          have o3 := own_neq c15
          have o4 := own_eq c74
          have o5 := own_nlt c78
          have o6 := rng32 i0
          have o7 := rng32 y1
          have o8 := rng32 y2
          have o9 : (2147483647 : Int32).toInt = 2147483647 := by decide
          have o10 : (5 : Int32).toInt = 5 := by decide
          have o11 : (0 : Int32).toInt = 0 := by decide
          have o12 : (1 : Int32).toInt = 1 := by decide
          have o13 : (2 : Int32).toInt = 2 := by decide
          refine own_nltI ?_
          omega
        refine own_icmpNo (pc' := 161) B X79 at_158 (flt c88).1 rfl ?_
        refine own_lload (pc' := 163) B X79 at_161 rfl rfl ?_
        refine own_iload (pc' := 165) B X79 at_163 rfl rfl ?_
        refine own_callS (pc' := 168) B X79 (own_w hw 16 rfl) (own_w hw 17 rfl) (own_w hw 5 rfl) (own_w hw 18 rfl) (by decide) [(.long y83), (.int y4)] [] (rm_6 l Z a0 hw [] (y83) (y4) h77 n0 (Nat.le_trans Z0 K.1) ) 0 (by decide) (by decide) rfl pd_2 rfl rfl (Nat.le_of_eq rfl) at_165 rfl (k' := 1) (n' := 2) rfl rfl (by decide) (by decide) ?_
        intro T89 v89 h89 X89 q89
        obtain ⟨y90, y91, y92, y93, hy94, hy95, hy96, hy97, rfl, rfl⟩ := q89
        show own_Go p e below (T89.setTop (mkF m 168 #[.val (.int i0), .val (.int i1), .val (.int i2), .val (.int i3), .val (.int i4), .val (.int y2), .val (.int y3), .val (.int y4), .val (.int y5), .val (.int y6), .val (.ref b75), .val (.long y83), .second, .unset, .unset] [(.long y93)])) _
        refine own_lstore (pc' := 170) B X89 (Ls' := #[.val (.int i0), .val (.int i1), .val (.int i2), .val (.int i3), .val (.int i4), .val (.int y2), .val (.int y3), .val (.int y4), .val (.int y5), .val (.int y6), .val (.ref b75), .val (.long y93), .second, .unset, .unset]) at_168 rfl rfl ?_
        refine own_iload (pc' := 172) B X89 at_170 rfl rfl ?_
        refine own_iconst (pc' := 173) B X89 (z := (3 : Int32)) at_172 rfl rfl ?_
        have c98 : y2 < (3 : Int32) := by
          have o0 := own_o_mask hy1 31 (by decide) (by decide)
          have o1 := own_o_irem hy2 5 (by decide)
          have o2 := own_neq c7
          have o3 := own_neq c15
          have o4 := own_eq c74
          have o5 := own_nlt c78
          have o6 := own_nlt c88
          have o7 := rng32 i0
          have o8 := rng32 y1
          have o9 := rng32 y2
          have o10 : (2147483647 : Int32).toInt = 2147483647 := by decide
          have o11 : (5 : Int32).toInt = 5 := by decide
          have o12 : (0 : Int32).toInt = 0 := by decide
          have o13 : (1 : Int32).toInt = 1 := by decide
          have o14 : (2 : Int32).toInt = 2 := by decide
          have o15 : (3 : Int32).toInt = 3 := by decide
          refine own_ltI ?_
          omega
        refine own_icmpYes (pc' := 185) B X89 at_173 (tlt c98).1 (by decide) rfl ?_
        refine own_iload (pc' := 187) B X89 at_185 rfl rfl ?_
        refine own_iconst (pc' := 188) B X89 (z := (4 : Int32)) at_187 rfl rfl ?_
        have c99 : y2 < (4 : Int32) := by
          have o0 := own_o_mask hy1 31 (by decide) (by decide)
          have o1 := own_o_irem hy2 5 (by decide)
          have o2 := own_neq c7
          have o3 := own_neq c15
          have o4 := own_eq c74
          have o5 := own_nlt c78
          have o6 := own_nlt c88
          have o7 := own_lt c98
          have o8 := rng32 i0
          have o9 := rng32 y1
          have o10 := rng32 y2
          have o11 : (2147483647 : Int32).toInt = 2147483647 := by decide
          have o12 : (5 : Int32).toInt = 5 := by decide
          have o13 : (0 : Int32).toInt = 0 := by decide
          have o14 : (1 : Int32).toInt = 1 := by decide
          have o15 : (2 : Int32).toInt = 2 := by decide
          have o16 : (3 : Int32).toInt = 3 := by decide
          have o17 : (4 : Int32).toInt = 4 := by decide
          refine own_ltI ?_
          omega
        refine own_icmpYes (pc' := 200) B X89 at_188 (tlt c99).1 (by decide) rfl ?_
        refine own_lload (pc' := 202) B X89 at_200 rfl rfl ?_
        refine own_callS (pc' := 205) B X89 (own_w hw 3 rfl) (own_w hw 4 rfl) (own_w hw 5 rfl) (own_w hw 6 rfl) (by decide) [(.long y93)] [] (rm_4 l Z a0 hw [] (y93) h77 n0 (Nat.le_trans Z0 K.1) ) 0 (by decide) (by decide) rfl pd_0 rfl rfl (Nat.le_of_eq rfl) at_202 rfl (k' := 1) (n' := 2) rfl rfl (by decide) (by decide) ?_
        intro T100 v100 h100 X100 q100
        obtain ⟨y101, y102, y103, y104, y105, y106, y107, y108, hy109, hy110, hy111, hy112, hy113, hy114, hy115, hy116, rfl, rfl⟩ := q100
        show own_Go p e below (T100.setTop (mkF m 205 #[.val (.int i0), .val (.int i1), .val (.int i2), .val (.int i3), .val (.int i4), .val (.int y2), .val (.int y3), .val (.int y4), .val (.int y5), .val (.int y6), .val (.ref b75), .val (.long y93), .second, .unset, .unset] [(.long y108)])) _
        refine own_lstore (pc' := 207) B X100 (Ls' := #[.val (.int i0), .val (.int i1), .val (.int i2), .val (.int i3), .val (.int i4), .val (.int y2), .val (.int y3), .val (.int y4), .val (.int y5), .val (.int y6), .val (.ref b75), .val (.long y93), .second, .val (.long y108), .second]) at_205 rfl rfl ?_
        refine own_aload (pc' := 209) B X100 at_207 rfl rfl rfl ?_
        refine own_callS (pc' := 212) B X100 (own_w hw 9 rfl) (own_w hw 10 rfl) (own_w hw 11 rfl) (own_w hw 12 rfl) (by decide) [(.ref b75)] [] (rm_7 l Z a0 hw [] b75 kb75 (y3) (y4) h77 n0 (Nat.le_trans Z0 K.1) E_b75 V_b75 g_b75) 0 (by decide) (by decide) rfl pd_1 rfl rfl (Nat.le_of_eq rfl) at_209 rfl (k' := 1) (n' := 2) rfl rfl (by decide) (by decide) ?_
        intro T117 v117 h117 X117 q117
        obtain ⟨y118, y119, y120, y121, y122, y123, y124, y125, y126, y127, y128, y129, y130, y131, y132, y133, hy134, hy135, hy136, hy137, hy138, hy139, hy140, hy141, hy142, hy143, hy144, hy145, hy146, hy147, hy148, hy149, rfl, rfl⟩ := q117
        obtain rfl : y80 = y118 := (hy84 : y3 &&& (255 : Int32) = y80).symm.trans hy134
        obtain rfl : y81 = y119 := (hy85 : y80.toInt64 = y81).symm.trans hy135
        obtain rfl : y82 = y120 := (hy86 : (-3750763034362895579 : Int64) ^^^ y81 = y82).symm.trans hy136
        obtain rfl : y83 = y121 := (hy87 : y82 * (1099511628211 : Int64) = y83).symm.trans hy137
        obtain rfl : y90 = y122 := (hy94 : y4 &&& (255 : Int32) = y90).symm.trans hy138
        obtain rfl : y91 = y123 := (hy95 : y90.toInt64 = y91).symm.trans hy139
        obtain rfl : y92 = y124 := (hy96 : y83 ^^^ y91 = y92).symm.trans hy140
        obtain rfl : y93 = y125 := (hy97 : y92 * (1099511628211 : Int64) = y93).symm.trans hy141
        obtain rfl : y101 = y126 := (hy109 : (y93.toUInt64 >>> ((33 : Int32) &&& 0x3f).toInt64.toUInt64).toInt64 = y101).symm.trans hy142
        obtain rfl : y102 = y127 := (hy110 : y93 ^^^ y101 = y102).symm.trans hy143
        obtain rfl : y103 = y128 := (hy111 : y102 * (-49064778989728563 : Int64) = y103).symm.trans hy144
        obtain rfl : y104 = y129 := (hy112 : (y103.toUInt64 >>> ((33 : Int32) &&& 0x3f).toInt64.toUInt64).toInt64 = y104).symm.trans hy145
        obtain rfl : y105 = y130 := (hy113 : y103 ^^^ y104 = y105).symm.trans hy146
        obtain rfl : y106 = y131 := (hy114 : y105 * (-4265267296055464877 : Int64) = y106).symm.trans hy147
        obtain rfl : y107 = y132 := (hy115 : (y106.toUInt64 >>> ((33 : Int32) &&& 0x3f).toInt64.toUInt64).toInt64 = y107).symm.trans hy148
        obtain rfl : y108 = y133 := (hy116 : y106 ^^^ y107 = y108).symm.trans hy149
        show own_Go p e below (T117.setTop (mkF m 212 #[.val (.int i0), .val (.int i1), .val (.int i2), .val (.int i3), .val (.int i4), .val (.int y2), .val (.int y3), .val (.int y4), .val (.int y5), .val (.int y6), .val (.ref b75), .val (.long y93), .second, .val (.long y108), .second] [(.long y108)])) _
        refine own_lload (pc' := 214) B X117 at_212 rfl rfl ?_
        obtain ⟨y150, hy150⟩ : ∃ z : Int32, lcmpW y108 y108 = z := ⟨_, rfl⟩
        refine own_lcmp (pc' := 215) B X117 at_214 rfl hy150 ?_
        refine own_ifNo (pc' := 218) B X117 at_215 ((if0 _ _).trans (teq (own_lcm (P := fun q => (q = (0 : Int32))) hy150 ((lw_eq y108 y108).mpr rfl))).2) rfl ?_
        refine own_iconst (pc' := 219) B X117 (z := (1 : Int32)) at_218 rfl rfl ?_
        refine own_goto (pc' := 223) B X117 at_219 (by decide) rfl ?_
        exact own_retN B X117 (t := .boolean) (z' := (1 : Int32)) (by simp) (by decide) at_223 (by decide) (by decide) rfl
      · refine own_icmpYes (pc' := 81) B X0 at_60 (feq c74).2 (by decide) rfl ?_
        refine own_iload (pc' := 83) B X0 at_81 rfl rfl ?_
        refine own_iconst (pc' := 84) B X0 (z := (3 : Int32)) at_83 rfl rfl ?_
        by_cases c151 : y2 = (3 : Int32)
        · refine own_icmpNo (pc' := 87) B X0 at_84 (teq c151).2 rfl ?_
          refine own_iconst (pc' := 88) B X0 (z := (3 : Int32)) at_87 rfl rfl ?_
          refine own_newarray (pc' := 90) B X0 (own_w hw 1 rfl) at_88 rfl rfl (by decide) 3 (by decide) (by decide) (k' := 1) (n' := 3) rfl rfl (by decide) (by decide) "[B" (by decide) (.int (0 : Int32)) rfl ?_
          intro T152 h152 b152 kb152 X152 g152 E152 V_b152 E_b152
          have sz_b152 : h0.size ≤ b152 := own_sz K g152
          have g_b152 : n0 ≤ b152 := Nat.le_trans Z0 sz_b152
          replace K := K.ext E152
          replace V_b152 : Arv Z h152 b152 kb152 .byte (3 : Int32) [(.int (0 : Int32)), (.int (0 : Int32)), (.int (0 : Int32))] (.int (0 : Int32)) := V_b152.pad (pad_rep [] (.int (0 : Int32)) 3)
          refine own_dup (pc' := 91) B X152 at_90 rfl rfl ?_
          refine own_iconst (pc' := 92) B X152 (z := (0 : Int32)) at_91 rfl rfl ?_
          refine own_iload (pc' := 94) B X152 at_92 rfl rfl ?_
          refine own_bastore (pc' := 95) B X152 (x' := y3) V_b152 g_b152 ⟨by decide, by decide⟩ 0 (by decide) (Nat.le_of_ble_eq_true rfl) (own_idem_i2b hy3) at_94 rfl ?_
          intro T153 h153 X153 W153 V_b152
          replace V_b152 : Arv Z h153 b152 kb152 .byte (3 : Int32) [(.int y3), (.int (0 : Int32)), (.int (0 : Int32))] (.int (0 : Int32)) := V_b152
          replace E_b152 := E_b152.wr W153
          replace K := K.wr W153 (Or.inr sz_b152)
          refine own_dup (pc' := 96) B X153 at_95 rfl rfl ?_
          refine own_iconst (pc' := 97) B X153 (z := (1 : Int32)) at_96 rfl rfl ?_
          refine own_iload (pc' := 99) B X153 at_97 rfl rfl ?_
          refine own_bastore (pc' := 100) B X153 (x' := y4) V_b152 g_b152 ⟨by decide, by decide⟩ 1 (by decide) (Nat.le_of_ble_eq_true rfl) (own_idem_i2b hy4) at_99 rfl ?_
          intro T154 h154 X154 W154 V_b152
          replace V_b152 : Arv Z h154 b152 kb152 .byte (3 : Int32) [(.int y3), (.int y4), (.int (0 : Int32))] (.int (0 : Int32)) := V_b152
          replace E_b152 := E_b152.wr W154
          replace K := K.wr W154 (Or.inr sz_b152)
          refine own_dup (pc' := 101) B X154 at_100 rfl rfl ?_
          refine own_iconst (pc' := 102) B X154 (z := (2 : Int32)) at_101 rfl rfl ?_
          refine own_iload (pc' := 104) B X154 at_102 rfl rfl ?_
          refine own_bastore (pc' := 105) B X154 (x' := y5) V_b152 g_b152 ⟨by decide, by decide⟩ 2 (by decide) (Nat.le_of_ble_eq_true rfl) (own_idem_i2b hy5) at_104 rfl ?_
          intro T155 h155 X155 W155 V_b152
          replace V_b152 : Arv Z h155 b152 kb152 .byte (3 : Int32) [(.int y3), (.int y4), (.int y5)] (.int (0 : Int32)) := V_b152
          replace E_b152 := E_b152.wr W155
          replace K := K.wr W155 (Or.inr sz_b152)
          refine own_astore (pc' := 107) B X155 (Ls' := #[.val (.int i0), .val (.int i1), .val (.int i2), .val (.int i3), .val (.int i4), .val (.int y2), .val (.int y3), .val (.int y4), .val (.int y5), .val (.int y6), .val (.ref b152), .unset, .unset, .unset, .unset]) at_105 rfl rfl rfl ?_
          refine own_goto (pc' := 135) B X155 at_107 (by decide) rfl ?_
          refine own_ldc2J (pc' := 138) B X155 (own_w hw 2 rfl) at_135 rfl ?_
          refine own_lstore (pc' := 140) B X155 (Ls' := #[.val (.int i0), .val (.int i1), .val (.int i2), .val (.int i3), .val (.int i4), .val (.int y2), .val (.int y3), .val (.int y4), .val (.int y5), .val (.int y6), .val (.ref b152), .val (.long (-3750763034362895579 : Int64)), .second, .unset, .unset]) at_138 rfl rfl ?_
          refine own_iload (pc' := 142) B X155 at_140 rfl rfl ?_
          refine own_iconst (pc' := 143) B X155 (z := (1 : Int32)) at_142 rfl rfl ?_
          have c156 : ¬ (y2 < (1 : Int32)) := by
            have o0 := own_o_mask hy1 31 (by decide) (by decide)
            have o1 := own_o_irem hy2 5 (by decide)
            have o2 := own_neq c7
            have o3 := own_neq c15
            have o4 := own_neq c74
            have o5 := own_eq c151
            have o6 := rng32 i0
            have o7 := rng32 y1
            have o8 := rng32 y2
            have o9 : (2147483647 : Int32).toInt = 2147483647 := by decide
            have o10 : (5 : Int32).toInt = 5 := by decide
            have o11 : (0 : Int32).toInt = 0 := by decide
            have o12 : (1 : Int32).toInt = 1 := by decide
            have o13 : (2 : Int32).toInt = 2 := by decide
            have o14 : (3 : Int32).toInt = 3 := by decide
            refine own_nltI ?_
            omega
          refine own_icmpNo (pc' := 146) B X155 at_143 (flt c156).1 rfl ?_
          refine own_lload (pc' := 148) B X155 at_146 rfl rfl ?_
          refine own_iload (pc' := 150) B X155 at_148 rfl rfl ?_
          refine own_callS (pc' := 153) B X155 (own_w hw 16 rfl) (own_w hw 17 rfl) (own_w hw 5 rfl) (own_w hw 18 rfl) (by decide) [(.long (-3750763034362895579 : Int64)), (.int y3)] [] (rm_3 l Z a0 hw [] (y3) h155 n0 (Nat.le_trans Z0 K.1) ) 0 (by decide) (by decide) rfl pd_2 rfl rfl (Nat.le_of_eq rfl) at_150 rfl (k' := 1) (n' := 3) rfl rfl (by decide) (by decide) ?_
          intro T157 v157 h157 X157 q157
          obtain ⟨y158, y159, y160, y161, hy162, hy163, hy164, hy165, rfl, rfl⟩ := q157
          show own_Go p e below (T157.setTop (mkF m 153 #[.val (.int i0), .val (.int i1), .val (.int i2), .val (.int i3), .val (.int i4), .val (.int y2), .val (.int y3), .val (.int y4), .val (.int y5), .val (.int y6), .val (.ref b152), .val (.long (-3750763034362895579 : Int64)), .second, .unset, .unset] [(.long y161)])) _
          refine own_lstore (pc' := 155) B X157 (Ls' := #[.val (.int i0), .val (.int i1), .val (.int i2), .val (.int i3), .val (.int i4), .val (.int y2), .val (.int y3), .val (.int y4), .val (.int y5), .val (.int y6), .val (.ref b152), .val (.long y161), .second, .unset, .unset]) at_153 rfl rfl ?_
          refine own_iload (pc' := 157) B X157 at_155 rfl rfl ?_
          refine own_iconst (pc' := 158) B X157 (z := (2 : Int32)) at_157 rfl rfl ?_
          have c166 : ¬ (y2 < (2 : Int32)) := by
            have o0 := own_o_mask hy1 31 (by decide) (by decide)
            have o1 := own_o_irem hy2 5 (by decide)
            have o2 := own_neq c7
            have o3 := own_neq c15
            have o4 := own_neq c74
            have o5 := own_eq c151
            have o6 := own_nlt c156
            have o7 := rng32 i0
            have o8 := rng32 y1
            have o9 := rng32 y2
            have o10 : (2147483647 : Int32).toInt = 2147483647 := by decide
            have o11 : (5 : Int32).toInt = 5 := by decide
            have o12 : (0 : Int32).toInt = 0 := by decide
            have o13 : (1 : Int32).toInt = 1 := by decide
            have o14 : (2 : Int32).toInt = 2 := by decide
            have o15 : (3 : Int32).toInt = 3 := by decide
            refine own_nltI ?_
            omega
          refine own_icmpNo (pc' := 161) B X157 at_158 (flt c166).1 rfl ?_
          refine own_lload (pc' := 163) B X157 at_161 rfl rfl ?_
          refine own_iload (pc' := 165) B X157 at_163 rfl rfl ?_
          refine own_callS (pc' := 168) B X157 (own_w hw 16 rfl) (own_w hw 17 rfl) (own_w hw 5 rfl) (own_w hw 18 rfl) (by decide) [(.long y161), (.int y4)] [] (rm_6 l Z a0 hw [] (y161) (y4) h155 n0 (Nat.le_trans Z0 K.1) ) 0 (by decide) (by decide) rfl pd_2 rfl rfl (Nat.le_of_eq rfl) at_165 rfl (k' := 1) (n' := 3) rfl rfl (by decide) (by decide) ?_
          intro T167 v167 h167 X167 q167
          obtain ⟨y168, y169, y170, y171, hy172, hy173, hy174, hy175, rfl, rfl⟩ := q167
          show own_Go p e below (T167.setTop (mkF m 168 #[.val (.int i0), .val (.int i1), .val (.int i2), .val (.int i3), .val (.int i4), .val (.int y2), .val (.int y3), .val (.int y4), .val (.int y5), .val (.int y6), .val (.ref b152), .val (.long y161), .second, .unset, .unset] [(.long y171)])) _
          refine own_lstore (pc' := 170) B X167 (Ls' := #[.val (.int i0), .val (.int i1), .val (.int i2), .val (.int i3), .val (.int i4), .val (.int y2), .val (.int y3), .val (.int y4), .val (.int y5), .val (.int y6), .val (.ref b152), .val (.long y171), .second, .unset, .unset]) at_168 rfl rfl ?_
          refine own_iload (pc' := 172) B X167 at_170 rfl rfl ?_
          refine own_iconst (pc' := 173) B X167 (z := (3 : Int32)) at_172 rfl rfl ?_
          have c176 : ¬ (y2 < (3 : Int32)) := by
            have o0 := own_o_mask hy1 31 (by decide) (by decide)
            have o1 := own_o_irem hy2 5 (by decide)
            have o2 := own_neq c7
            have o3 := own_neq c15
            have o4 := own_neq c74
            have o5 := own_eq c151
            have o6 := own_nlt c156
            have o7 := own_nlt c166
            have o8 := rng32 i0
            have o9 := rng32 y1
            have o10 := rng32 y2
            have o11 : (2147483647 : Int32).toInt = 2147483647 := by decide
            have o12 : (5 : Int32).toInt = 5 := by decide
            have o13 : (0 : Int32).toInt = 0 := by decide
            have o14 : (1 : Int32).toInt = 1 := by decide
            have o15 : (2 : Int32).toInt = 2 := by decide
            have o16 : (3 : Int32).toInt = 3 := by decide
            refine own_nltI ?_
            omega
          refine own_icmpNo (pc' := 176) B X167 at_173 (flt c176).1 rfl ?_
          refine own_lload (pc' := 178) B X167 at_176 rfl rfl ?_
          refine own_iload (pc' := 180) B X167 at_178 rfl rfl ?_
          refine own_callS (pc' := 183) B X167 (own_w hw 16 rfl) (own_w hw 17 rfl) (own_w hw 5 rfl) (own_w hw 18 rfl) (by decide) [(.long y171), (.int y5)] [] (rm_6 l Z a0 hw [] (y171) (y5) h155 n0 (Nat.le_trans Z0 K.1) ) 0 (by decide) (by decide) rfl pd_2 rfl rfl (Nat.le_of_eq rfl) at_180 rfl (k' := 1) (n' := 3) rfl rfl (by decide) (by decide) ?_
          intro T177 v177 h177 X177 q177
          obtain ⟨y178, y179, y180, y181, hy182, hy183, hy184, hy185, rfl, rfl⟩ := q177
          show own_Go p e below (T177.setTop (mkF m 183 #[.val (.int i0), .val (.int i1), .val (.int i2), .val (.int i3), .val (.int i4), .val (.int y2), .val (.int y3), .val (.int y4), .val (.int y5), .val (.int y6), .val (.ref b152), .val (.long y171), .second, .unset, .unset] [(.long y181)])) _
          refine own_lstore (pc' := 185) B X177 (Ls' := #[.val (.int i0), .val (.int i1), .val (.int i2), .val (.int i3), .val (.int i4), .val (.int y2), .val (.int y3), .val (.int y4), .val (.int y5), .val (.int y6), .val (.ref b152), .val (.long y181), .second, .unset, .unset]) at_183 rfl rfl ?_
          refine own_iload (pc' := 187) B X177 at_185 rfl rfl ?_
          refine own_iconst (pc' := 188) B X177 (z := (4 : Int32)) at_187 rfl rfl ?_
          have c186 : y2 < (4 : Int32) := by
            have o0 := own_o_mask hy1 31 (by decide) (by decide)
            have o1 := own_o_irem hy2 5 (by decide)
            have o2 := own_neq c7
            have o3 := own_neq c15
            have o4 := own_neq c74
            have o5 := own_eq c151
            have o6 := own_nlt c156
            have o7 := own_nlt c166
            have o8 := own_nlt c176
            have o9 := rng32 i0
            have o10 := rng32 y1
            have o11 := rng32 y2
            have o12 : (2147483647 : Int32).toInt = 2147483647 := by decide
            have o13 : (5 : Int32).toInt = 5 := by decide
            have o14 : (0 : Int32).toInt = 0 := by decide
            have o15 : (1 : Int32).toInt = 1 := by decide
            have o16 : (2 : Int32).toInt = 2 := by decide
            have o17 : (3 : Int32).toInt = 3 := by decide
            have o18 : (4 : Int32).toInt = 4 := by decide
            refine own_ltI ?_
            omega
          refine own_icmpYes (pc' := 200) B X177 at_188 (tlt c186).1 (by decide) rfl ?_
          refine own_lload (pc' := 202) B X177 at_200 rfl rfl ?_
          refine own_callS (pc' := 205) B X177 (own_w hw 3 rfl) (own_w hw 4 rfl) (own_w hw 5 rfl) (own_w hw 6 rfl) (by decide) [(.long y181)] [] (rm_4 l Z a0 hw [] (y181) h155 n0 (Nat.le_trans Z0 K.1) ) 0 (by decide) (by decide) rfl pd_0 rfl rfl (Nat.le_of_eq rfl) at_202 rfl (k' := 1) (n' := 3) rfl rfl (by decide) (by decide) ?_
          intro T187 v187 h187 X187 q187
          obtain ⟨y188, y189, y190, y191, y192, y193, y194, y195, hy196, hy197, hy198, hy199, hy200, hy201, hy202, hy203, rfl, rfl⟩ := q187
          show own_Go p e below (T187.setTop (mkF m 205 #[.val (.int i0), .val (.int i1), .val (.int i2), .val (.int i3), .val (.int i4), .val (.int y2), .val (.int y3), .val (.int y4), .val (.int y5), .val (.int y6), .val (.ref b152), .val (.long y181), .second, .unset, .unset] [(.long y195)])) _
          refine own_lstore (pc' := 207) B X187 (Ls' := #[.val (.int i0), .val (.int i1), .val (.int i2), .val (.int i3), .val (.int i4), .val (.int y2), .val (.int y3), .val (.int y4), .val (.int y5), .val (.int y6), .val (.ref b152), .val (.long y181), .second, .val (.long y195), .second]) at_205 rfl rfl ?_
          refine own_aload (pc' := 209) B X187 at_207 rfl rfl rfl ?_
          refine own_callS (pc' := 212) B X187 (own_w hw 9 rfl) (own_w hw 10 rfl) (own_w hw 11 rfl) (own_w hw 12 rfl) (by decide) [(.ref b152)] [] (rm_8 l Z a0 hw [] b152 kb152 (y3) (y4) (y5) h155 n0 (Nat.le_trans Z0 K.1) E_b152 V_b152 g_b152) 0 (by decide) (by decide) rfl pd_1 rfl rfl (Nat.le_of_eq rfl) at_209 rfl (k' := 1) (n' := 3) rfl rfl (by decide) (by decide) ?_
          intro T204 v204 h204 X204 q204
          obtain ⟨y205, y206, y207, y208, y209, y210, y211, y212, y213, y214, y215, y216, y217, y218, y219, y220, y221, y222, y223, y224, hy225, hy226, hy227, hy228, hy229, hy230, hy231, hy232, hy233, hy234, hy235, hy236, hy237, hy238, hy239, hy240, hy241, hy242, hy243, hy244, rfl, rfl⟩ := q204
          obtain rfl : y158 = y205 := (hy162 : y3 &&& (255 : Int32) = y158).symm.trans hy225
          obtain rfl : y159 = y206 := (hy163 : y158.toInt64 = y159).symm.trans hy226
          obtain rfl : y160 = y207 := (hy164 : (-3750763034362895579 : Int64) ^^^ y159 = y160).symm.trans hy227
          obtain rfl : y161 = y208 := (hy165 : y160 * (1099511628211 : Int64) = y161).symm.trans hy228
          obtain rfl : y168 = y209 := (hy172 : y4 &&& (255 : Int32) = y168).symm.trans hy229
          obtain rfl : y169 = y210 := (hy173 : y168.toInt64 = y169).symm.trans hy230
          obtain rfl : y170 = y211 := (hy174 : y161 ^^^ y169 = y170).symm.trans hy231
          obtain rfl : y171 = y212 := (hy175 : y170 * (1099511628211 : Int64) = y171).symm.trans hy232
          obtain rfl : y178 = y213 := (hy182 : y5 &&& (255 : Int32) = y178).symm.trans hy233
          obtain rfl : y179 = y214 := (hy183 : y178.toInt64 = y179).symm.trans hy234
          obtain rfl : y180 = y215 := (hy184 : y171 ^^^ y179 = y180).symm.trans hy235
          obtain rfl : y181 = y216 := (hy185 : y180 * (1099511628211 : Int64) = y181).symm.trans hy236
          obtain rfl : y188 = y217 := (hy196 : (y181.toUInt64 >>> ((33 : Int32) &&& 0x3f).toInt64.toUInt64).toInt64 = y188).symm.trans hy237
          obtain rfl : y189 = y218 := (hy197 : y181 ^^^ y188 = y189).symm.trans hy238
          obtain rfl : y190 = y219 := (hy198 : y189 * (-49064778989728563 : Int64) = y190).symm.trans hy239
          obtain rfl : y191 = y220 := (hy199 : (y190.toUInt64 >>> ((33 : Int32) &&& 0x3f).toInt64.toUInt64).toInt64 = y191).symm.trans hy240
          obtain rfl : y192 = y221 := (hy200 : y190 ^^^ y191 = y192).symm.trans hy241
          obtain rfl : y193 = y222 := (hy201 : y192 * (-4265267296055464877 : Int64) = y193).symm.trans hy242
          obtain rfl : y194 = y223 := (hy202 : (y193.toUInt64 >>> ((33 : Int32) &&& 0x3f).toInt64.toUInt64).toInt64 = y194).symm.trans hy243
          obtain rfl : y195 = y224 := (hy203 : y193 ^^^ y194 = y195).symm.trans hy244
          show own_Go p e below (T204.setTop (mkF m 212 #[.val (.int i0), .val (.int i1), .val (.int i2), .val (.int i3), .val (.int i4), .val (.int y2), .val (.int y3), .val (.int y4), .val (.int y5), .val (.int y6), .val (.ref b152), .val (.long y181), .second, .val (.long y195), .second] [(.long y195)])) _
          refine own_lload (pc' := 214) B X204 at_212 rfl rfl ?_
          obtain ⟨y245, hy245⟩ : ∃ z : Int32, lcmpW y195 y195 = z := ⟨_, rfl⟩
          refine own_lcmp (pc' := 215) B X204 at_214 rfl hy245 ?_
          refine own_ifNo (pc' := 218) B X204 at_215 ((if0 _ _).trans (teq (own_lcm (P := fun q => (q = (0 : Int32))) hy245 ((lw_eq y195 y195).mpr rfl))).2) rfl ?_
          refine own_iconst (pc' := 219) B X204 (z := (1 : Int32)) at_218 rfl rfl ?_
          refine own_goto (pc' := 223) B X204 at_219 (by decide) rfl ?_
          exact own_retN B X204 (t := .boolean) (z' := (1 : Int32)) (by simp) (by decide) at_223 (by decide) (by decide) rfl
        · refine own_icmpYes (pc' := 110) B X0 at_84 (feq c151).2 (by decide) rfl ?_
          refine own_iconst (pc' := 111) B X0 (z := (4 : Int32)) at_110 rfl rfl ?_
          refine own_newarray (pc' := 113) B X0 (own_w hw 1 rfl) at_111 rfl rfl (by decide) 4 (by decide) (by decide) (k' := 1) (n' := 4) rfl rfl (by decide) (by decide) "[B" (by decide) (.int (0 : Int32)) rfl ?_
          intro T246 h246 b246 kb246 X246 g246 E246 V_b246 E_b246
          have sz_b246 : h0.size ≤ b246 := own_sz K g246
          have g_b246 : n0 ≤ b246 := Nat.le_trans Z0 sz_b246
          replace K := K.ext E246
          replace V_b246 : Arv Z h246 b246 kb246 .byte (4 : Int32) [(.int (0 : Int32)), (.int (0 : Int32)), (.int (0 : Int32)), (.int (0 : Int32))] (.int (0 : Int32)) := V_b246.pad (pad_rep [] (.int (0 : Int32)) 4)
          refine own_dup (pc' := 114) B X246 at_113 rfl rfl ?_
          refine own_iconst (pc' := 115) B X246 (z := (0 : Int32)) at_114 rfl rfl ?_
          refine own_iload (pc' := 117) B X246 at_115 rfl rfl ?_
          refine own_bastore (pc' := 118) B X246 (x' := y3) V_b246 g_b246 ⟨by decide, by decide⟩ 0 (by decide) (Nat.le_of_ble_eq_true rfl) (own_idem_i2b hy3) at_117 rfl ?_
          intro T247 h247 X247 W247 V_b246
          replace V_b246 : Arv Z h247 b246 kb246 .byte (4 : Int32) [(.int y3), (.int (0 : Int32)), (.int (0 : Int32)), (.int (0 : Int32))] (.int (0 : Int32)) := V_b246
          replace E_b246 := E_b246.wr W247
          replace K := K.wr W247 (Or.inr sz_b246)
          refine own_dup (pc' := 119) B X247 at_118 rfl rfl ?_
          refine own_iconst (pc' := 120) B X247 (z := (1 : Int32)) at_119 rfl rfl ?_
          refine own_iload (pc' := 122) B X247 at_120 rfl rfl ?_
          refine own_bastore (pc' := 123) B X247 (x' := y4) V_b246 g_b246 ⟨by decide, by decide⟩ 1 (by decide) (Nat.le_of_ble_eq_true rfl) (own_idem_i2b hy4) at_122 rfl ?_
          intro T248 h248 X248 W248 V_b246
          replace V_b246 : Arv Z h248 b246 kb246 .byte (4 : Int32) [(.int y3), (.int y4), (.int (0 : Int32)), (.int (0 : Int32))] (.int (0 : Int32)) := V_b246
          replace E_b246 := E_b246.wr W248
          replace K := K.wr W248 (Or.inr sz_b246)
          refine own_dup (pc' := 124) B X248 at_123 rfl rfl ?_
          refine own_iconst (pc' := 125) B X248 (z := (2 : Int32)) at_124 rfl rfl ?_
          refine own_iload (pc' := 127) B X248 at_125 rfl rfl ?_
          refine own_bastore (pc' := 128) B X248 (x' := y5) V_b246 g_b246 ⟨by decide, by decide⟩ 2 (by decide) (Nat.le_of_ble_eq_true rfl) (own_idem_i2b hy5) at_127 rfl ?_
          intro T249 h249 X249 W249 V_b246
          replace V_b246 : Arv Z h249 b246 kb246 .byte (4 : Int32) [(.int y3), (.int y4), (.int y5), (.int (0 : Int32))] (.int (0 : Int32)) := V_b246
          replace E_b246 := E_b246.wr W249
          replace K := K.wr W249 (Or.inr sz_b246)
          refine own_dup (pc' := 129) B X249 at_128 rfl rfl ?_
          refine own_iconst (pc' := 130) B X249 (z := (3 : Int32)) at_129 rfl rfl ?_
          refine own_iload (pc' := 132) B X249 at_130 rfl rfl ?_
          refine own_bastore (pc' := 133) B X249 (x' := y6) V_b246 g_b246 ⟨by decide, by decide⟩ 3 (by decide) (Nat.le_of_ble_eq_true rfl) (own_idem_i2b hy6) at_132 rfl ?_
          intro T250 h250 X250 W250 V_b246
          replace V_b246 : Arv Z h250 b246 kb246 .byte (4 : Int32) [(.int y3), (.int y4), (.int y5), (.int y6)] (.int (0 : Int32)) := V_b246
          replace E_b246 := E_b246.wr W250
          replace K := K.wr W250 (Or.inr sz_b246)
          refine own_astore (pc' := 135) B X250 (Ls' := #[.val (.int i0), .val (.int i1), .val (.int i2), .val (.int i3), .val (.int i4), .val (.int y2), .val (.int y3), .val (.int y4), .val (.int y5), .val (.int y6), .val (.ref b246), .unset, .unset, .unset, .unset]) at_133 rfl rfl rfl ?_
          refine own_ldc2J (pc' := 138) B X250 (own_w hw 2 rfl) at_135 rfl ?_
          refine own_lstore (pc' := 140) B X250 (Ls' := #[.val (.int i0), .val (.int i1), .val (.int i2), .val (.int i3), .val (.int i4), .val (.int y2), .val (.int y3), .val (.int y4), .val (.int y5), .val (.int y6), .val (.ref b246), .val (.long (-3750763034362895579 : Int64)), .second, .unset, .unset]) at_138 rfl rfl ?_
          refine own_iload (pc' := 142) B X250 at_140 rfl rfl ?_
          refine own_iconst (pc' := 143) B X250 (z := (1 : Int32)) at_142 rfl rfl ?_
          have c251 : ¬ (y2 < (1 : Int32)) := by
            have o0 := own_o_mask hy1 31 (by decide) (by decide)
            have o1 := own_o_irem hy2 5 (by decide)
            have o2 := own_neq c7
            have o3 := own_neq c15
            have o4 := own_neq c74
            have o5 := own_neq c151
            have o6 := rng32 i0
            have o7 := rng32 y1
            have o8 := rng32 y2
            have o9 : (2147483647 : Int32).toInt = 2147483647 := by decide
            have o10 : (5 : Int32).toInt = 5 := by decide
            have o11 : (0 : Int32).toInt = 0 := by decide
            have o12 : (1 : Int32).toInt = 1 := by decide
            have o13 : (2 : Int32).toInt = 2 := by decide
            have o14 : (3 : Int32).toInt = 3 := by decide
            refine own_nltI ?_
            omega
          refine own_icmpNo (pc' := 146) B X250 at_143 (flt c251).1 rfl ?_
          refine own_lload (pc' := 148) B X250 at_146 rfl rfl ?_
          refine own_iload (pc' := 150) B X250 at_148 rfl rfl ?_
          refine own_callS (pc' := 153) B X250 (own_w hw 16 rfl) (own_w hw 17 rfl) (own_w hw 5 rfl) (own_w hw 18 rfl) (by decide) [(.long (-3750763034362895579 : Int64)), (.int y3)] [] (rm_3 l Z a0 hw [] (y3) h250 n0 (Nat.le_trans Z0 K.1) ) 0 (by decide) (by decide) rfl pd_2 rfl rfl (Nat.le_of_eq rfl) at_150 rfl (k' := 1) (n' := 4) rfl rfl (by decide) (by decide) ?_
          intro T252 v252 h252 X252 q252
          obtain ⟨y253, y254, y255, y256, hy257, hy258, hy259, hy260, rfl, rfl⟩ := q252
          show own_Go p e below (T252.setTop (mkF m 153 #[.val (.int i0), .val (.int i1), .val (.int i2), .val (.int i3), .val (.int i4), .val (.int y2), .val (.int y3), .val (.int y4), .val (.int y5), .val (.int y6), .val (.ref b246), .val (.long (-3750763034362895579 : Int64)), .second, .unset, .unset] [(.long y256)])) _
          refine own_lstore (pc' := 155) B X252 (Ls' := #[.val (.int i0), .val (.int i1), .val (.int i2), .val (.int i3), .val (.int i4), .val (.int y2), .val (.int y3), .val (.int y4), .val (.int y5), .val (.int y6), .val (.ref b246), .val (.long y256), .second, .unset, .unset]) at_153 rfl rfl ?_
          refine own_iload (pc' := 157) B X252 at_155 rfl rfl ?_
          refine own_iconst (pc' := 158) B X252 (z := (2 : Int32)) at_157 rfl rfl ?_
          have c261 : ¬ (y2 < (2 : Int32)) := by
            have o0 := own_o_mask hy1 31 (by decide) (by decide)
            have o1 := own_o_irem hy2 5 (by decide)
            have o2 := own_neq c7
            have o3 := own_neq c15
            have o4 := own_neq c74
            have o5 := own_neq c151
            have o6 := own_nlt c251
            have o7 := rng32 i0
            have o8 := rng32 y1
            have o9 := rng32 y2
            have o10 : (2147483647 : Int32).toInt = 2147483647 := by decide
            have o11 : (5 : Int32).toInt = 5 := by decide
            have o12 : (0 : Int32).toInt = 0 := by decide
            have o13 : (1 : Int32).toInt = 1 := by decide
            have o14 : (2 : Int32).toInt = 2 := by decide
            have o15 : (3 : Int32).toInt = 3 := by decide
            refine own_nltI ?_
            omega
          refine own_icmpNo (pc' := 161) B X252 at_158 (flt c261).1 rfl ?_
          refine own_lload (pc' := 163) B X252 at_161 rfl rfl ?_
          refine own_iload (pc' := 165) B X252 at_163 rfl rfl ?_
          refine own_callS (pc' := 168) B X252 (own_w hw 16 rfl) (own_w hw 17 rfl) (own_w hw 5 rfl) (own_w hw 18 rfl) (by decide) [(.long y256), (.int y4)] [] (rm_6 l Z a0 hw [] (y256) (y4) h250 n0 (Nat.le_trans Z0 K.1) ) 0 (by decide) (by decide) rfl pd_2 rfl rfl (Nat.le_of_eq rfl) at_165 rfl (k' := 1) (n' := 4) rfl rfl (by decide) (by decide) ?_
          intro T262 v262 h262 X262 q262
          obtain ⟨y263, y264, y265, y266, hy267, hy268, hy269, hy270, rfl, rfl⟩ := q262
          show own_Go p e below (T262.setTop (mkF m 168 #[.val (.int i0), .val (.int i1), .val (.int i2), .val (.int i3), .val (.int i4), .val (.int y2), .val (.int y3), .val (.int y4), .val (.int y5), .val (.int y6), .val (.ref b246), .val (.long y256), .second, .unset, .unset] [(.long y266)])) _
          refine own_lstore (pc' := 170) B X262 (Ls' := #[.val (.int i0), .val (.int i1), .val (.int i2), .val (.int i3), .val (.int i4), .val (.int y2), .val (.int y3), .val (.int y4), .val (.int y5), .val (.int y6), .val (.ref b246), .val (.long y266), .second, .unset, .unset]) at_168 rfl rfl ?_
          refine own_iload (pc' := 172) B X262 at_170 rfl rfl ?_
          refine own_iconst (pc' := 173) B X262 (z := (3 : Int32)) at_172 rfl rfl ?_
          have c271 : ¬ (y2 < (3 : Int32)) := by
            have o0 := own_o_mask hy1 31 (by decide) (by decide)
            have o1 := own_o_irem hy2 5 (by decide)
            have o2 := own_neq c7
            have o3 := own_neq c15
            have o4 := own_neq c74
            have o5 := own_neq c151
            have o6 := own_nlt c251
            have o7 := own_nlt c261
            have o8 := rng32 i0
            have o9 := rng32 y1
            have o10 := rng32 y2
            have o11 : (2147483647 : Int32).toInt = 2147483647 := by decide
            have o12 : (5 : Int32).toInt = 5 := by decide
            have o13 : (0 : Int32).toInt = 0 := by decide
            have o14 : (1 : Int32).toInt = 1 := by decide
            have o15 : (2 : Int32).toInt = 2 := by decide
            have o16 : (3 : Int32).toInt = 3 := by decide
            refine own_nltI ?_
            omega
          refine own_icmpNo (pc' := 176) B X262 at_173 (flt c271).1 rfl ?_
          refine own_lload (pc' := 178) B X262 at_176 rfl rfl ?_
          refine own_iload (pc' := 180) B X262 at_178 rfl rfl ?_
          refine own_callS (pc' := 183) B X262 (own_w hw 16 rfl) (own_w hw 17 rfl) (own_w hw 5 rfl) (own_w hw 18 rfl) (by decide) [(.long y266), (.int y5)] [] (rm_6 l Z a0 hw [] (y266) (y5) h250 n0 (Nat.le_trans Z0 K.1) ) 0 (by decide) (by decide) rfl pd_2 rfl rfl (Nat.le_of_eq rfl) at_180 rfl (k' := 1) (n' := 4) rfl rfl (by decide) (by decide) ?_
          intro T272 v272 h272 X272 q272
          obtain ⟨y273, y274, y275, y276, hy277, hy278, hy279, hy280, rfl, rfl⟩ := q272
          show own_Go p e below (T272.setTop (mkF m 183 #[.val (.int i0), .val (.int i1), .val (.int i2), .val (.int i3), .val (.int i4), .val (.int y2), .val (.int y3), .val (.int y4), .val (.int y5), .val (.int y6), .val (.ref b246), .val (.long y266), .second, .unset, .unset] [(.long y276)])) _
          refine own_lstore (pc' := 185) B X272 (Ls' := #[.val (.int i0), .val (.int i1), .val (.int i2), .val (.int i3), .val (.int i4), .val (.int y2), .val (.int y3), .val (.int y4), .val (.int y5), .val (.int y6), .val (.ref b246), .val (.long y276), .second, .unset, .unset]) at_183 rfl rfl ?_
          refine own_iload (pc' := 187) B X272 at_185 rfl rfl ?_
          refine own_iconst (pc' := 188) B X272 (z := (4 : Int32)) at_187 rfl rfl ?_
          have c281 : ¬ (y2 < (4 : Int32)) := by
            have o0 := own_o_mask hy1 31 (by decide) (by decide)
            have o1 := own_o_irem hy2 5 (by decide)
            have o2 := own_neq c7
            have o3 := own_neq c15
            have o4 := own_neq c74
            have o5 := own_neq c151
            have o6 := own_nlt c251
            have o7 := own_nlt c261
            have o8 := own_nlt c271
            have o9 := rng32 i0
            have o10 := rng32 y1
            have o11 := rng32 y2
            have o12 : (2147483647 : Int32).toInt = 2147483647 := by decide
            have o13 : (5 : Int32).toInt = 5 := by decide
            have o14 : (0 : Int32).toInt = 0 := by decide
            have o15 : (1 : Int32).toInt = 1 := by decide
            have o16 : (2 : Int32).toInt = 2 := by decide
            have o17 : (3 : Int32).toInt = 3 := by decide
            have o18 : (4 : Int32).toInt = 4 := by decide
            refine own_nltI ?_
            omega
          refine own_icmpNo (pc' := 191) B X272 at_188 (flt c281).1 rfl ?_
          refine own_lload (pc' := 193) B X272 at_191 rfl rfl ?_
          refine own_iload (pc' := 195) B X272 at_193 rfl rfl ?_
          refine own_callS (pc' := 198) B X272 (own_w hw 16 rfl) (own_w hw 17 rfl) (own_w hw 5 rfl) (own_w hw 18 rfl) (by decide) [(.long y276), (.int y6)] [] (rm_6 l Z a0 hw [] (y276) (y6) h250 n0 (Nat.le_trans Z0 K.1) ) 0 (by decide) (by decide) rfl pd_2 rfl rfl (Nat.le_of_eq rfl) at_195 rfl (k' := 1) (n' := 4) rfl rfl (by decide) (by decide) ?_
          intro T282 v282 h282 X282 q282
          obtain ⟨y283, y284, y285, y286, hy287, hy288, hy289, hy290, rfl, rfl⟩ := q282
          show own_Go p e below (T282.setTop (mkF m 198 #[.val (.int i0), .val (.int i1), .val (.int i2), .val (.int i3), .val (.int i4), .val (.int y2), .val (.int y3), .val (.int y4), .val (.int y5), .val (.int y6), .val (.ref b246), .val (.long y276), .second, .unset, .unset] [(.long y286)])) _
          refine own_lstore (pc' := 200) B X282 (Ls' := #[.val (.int i0), .val (.int i1), .val (.int i2), .val (.int i3), .val (.int i4), .val (.int y2), .val (.int y3), .val (.int y4), .val (.int y5), .val (.int y6), .val (.ref b246), .val (.long y286), .second, .unset, .unset]) at_198 rfl rfl ?_
          refine own_lload (pc' := 202) B X282 at_200 rfl rfl ?_
          refine own_callS (pc' := 205) B X282 (own_w hw 3 rfl) (own_w hw 4 rfl) (own_w hw 5 rfl) (own_w hw 6 rfl) (by decide) [(.long y286)] [] (rm_4 l Z a0 hw [] (y286) h250 n0 (Nat.le_trans Z0 K.1) ) 0 (by decide) (by decide) rfl pd_0 rfl rfl (Nat.le_of_eq rfl) at_202 rfl (k' := 1) (n' := 4) rfl rfl (by decide) (by decide) ?_
          intro T291 v291 h291 X291 q291
          obtain ⟨y292, y293, y294, y295, y296, y297, y298, y299, hy300, hy301, hy302, hy303, hy304, hy305, hy306, hy307, rfl, rfl⟩ := q291
          show own_Go p e below (T291.setTop (mkF m 205 #[.val (.int i0), .val (.int i1), .val (.int i2), .val (.int i3), .val (.int i4), .val (.int y2), .val (.int y3), .val (.int y4), .val (.int y5), .val (.int y6), .val (.ref b246), .val (.long y286), .second, .unset, .unset] [(.long y299)])) _
          refine own_lstore (pc' := 207) B X291 (Ls' := #[.val (.int i0), .val (.int i1), .val (.int i2), .val (.int i3), .val (.int i4), .val (.int y2), .val (.int y3), .val (.int y4), .val (.int y5), .val (.int y6), .val (.ref b246), .val (.long y286), .second, .val (.long y299), .second]) at_205 rfl rfl ?_
          refine own_aload (pc' := 209) B X291 at_207 rfl rfl rfl ?_
          refine own_callS (pc' := 212) B X291 (own_w hw 9 rfl) (own_w hw 10 rfl) (own_w hw 11 rfl) (own_w hw 12 rfl) (by decide) [(.ref b246)] [] (rm_9 l Z a0 hw [] b246 kb246 (y3) (y4) (y5) (y6) h250 n0 (Nat.le_trans Z0 K.1) E_b246 V_b246 g_b246) 0 (by decide) (by decide) rfl pd_1 rfl rfl (Nat.le_of_eq rfl) at_209 rfl (k' := 1) (n' := 4) rfl rfl (by decide) (by decide) ?_
          intro T308 v308 h308 X308 q308
          obtain ⟨y309, y310, y311, y312, y313, y314, y315, y316, y317, y318, y319, y320, y321, y322, y323, y324, y325, y326, y327, y328, y329, y330, y331, y332, hy333, hy334, hy335, hy336, hy337, hy338, hy339, hy340, hy341, hy342, hy343, hy344, hy345, hy346, hy347, hy348, hy349, hy350, hy351, hy352, hy353, hy354, hy355, hy356, rfl, rfl⟩ := q308
          obtain rfl : y253 = y309 := (hy257 : y3 &&& (255 : Int32) = y253).symm.trans hy333
          obtain rfl : y254 = y310 := (hy258 : y253.toInt64 = y254).symm.trans hy334
          obtain rfl : y255 = y311 := (hy259 : (-3750763034362895579 : Int64) ^^^ y254 = y255).symm.trans hy335
          obtain rfl : y256 = y312 := (hy260 : y255 * (1099511628211 : Int64) = y256).symm.trans hy336
          obtain rfl : y263 = y313 := (hy267 : y4 &&& (255 : Int32) = y263).symm.trans hy337
          obtain rfl : y264 = y314 := (hy268 : y263.toInt64 = y264).symm.trans hy338
          obtain rfl : y265 = y315 := (hy269 : y256 ^^^ y264 = y265).symm.trans hy339
          obtain rfl : y266 = y316 := (hy270 : y265 * (1099511628211 : Int64) = y266).symm.trans hy340
          obtain rfl : y273 = y317 := (hy277 : y5 &&& (255 : Int32) = y273).symm.trans hy341
          obtain rfl : y274 = y318 := (hy278 : y273.toInt64 = y274).symm.trans hy342
          obtain rfl : y275 = y319 := (hy279 : y266 ^^^ y274 = y275).symm.trans hy343
          obtain rfl : y276 = y320 := (hy280 : y275 * (1099511628211 : Int64) = y276).symm.trans hy344
          obtain rfl : y283 = y321 := (hy287 : y6 &&& (255 : Int32) = y283).symm.trans hy345
          obtain rfl : y284 = y322 := (hy288 : y283.toInt64 = y284).symm.trans hy346
          obtain rfl : y285 = y323 := (hy289 : y276 ^^^ y284 = y285).symm.trans hy347
          obtain rfl : y286 = y324 := (hy290 : y285 * (1099511628211 : Int64) = y286).symm.trans hy348
          obtain rfl : y292 = y325 := (hy300 : (y286.toUInt64 >>> ((33 : Int32) &&& 0x3f).toInt64.toUInt64).toInt64 = y292).symm.trans hy349
          obtain rfl : y293 = y326 := (hy301 : y286 ^^^ y292 = y293).symm.trans hy350
          obtain rfl : y294 = y327 := (hy302 : y293 * (-49064778989728563 : Int64) = y294).symm.trans hy351
          obtain rfl : y295 = y328 := (hy303 : (y294.toUInt64 >>> ((33 : Int32) &&& 0x3f).toInt64.toUInt64).toInt64 = y295).symm.trans hy352
          obtain rfl : y296 = y329 := (hy304 : y294 ^^^ y295 = y296).symm.trans hy353
          obtain rfl : y297 = y330 := (hy305 : y296 * (-4265267296055464877 : Int64) = y297).symm.trans hy354
          obtain rfl : y298 = y331 := (hy306 : (y297.toUInt64 >>> ((33 : Int32) &&& 0x3f).toInt64.toUInt64).toInt64 = y298).symm.trans hy355
          obtain rfl : y299 = y332 := (hy307 : y297 ^^^ y298 = y299).symm.trans hy356
          show own_Go p e below (T308.setTop (mkF m 212 #[.val (.int i0), .val (.int i1), .val (.int i2), .val (.int i3), .val (.int i4), .val (.int y2), .val (.int y3), .val (.int y4), .val (.int y5), .val (.int y6), .val (.ref b246), .val (.long y286), .second, .val (.long y299), .second] [(.long y299)])) _
          refine own_lload (pc' := 214) B X308 at_212 rfl rfl ?_
          obtain ⟨y357, hy357⟩ : ∃ z : Int32, lcmpW y299 y299 = z := ⟨_, rfl⟩
          refine own_lcmp (pc' := 215) B X308 at_214 rfl hy357 ?_
          refine own_ifNo (pc' := 218) B X308 at_215 ((if0 _ _).trans (teq (own_lcm (P := fun q => (q = (0 : Int32))) hy357 ((lw_eq y299 y299).mpr rfl))).2) rfl ?_
          refine own_iconst (pc' := 219) B X308 (z := (1 : Int32)) at_218 rfl rfl ?_
          refine own_goto (pc' := 223) B X308 at_219 (by decide) rfl ?_
          exact own_retN B X308 (t := .boolean) (z' := (1 : Int32)) (by simp) (by decide) at_223 (by decide) (by decide) rfl
set_option maxRecDepth 65536 in
set_option maxHeartbeats 40000000 in
theorem comes_1 {Post : Tables → Env → Array Value → State → Outcome → State → Prop} (hpost : ∀ tb e args s v u, (limb_1_1.after args s (.returned v) u = true ∧ limb_1_2.after args s (.returned v) u = true ∧ True) → FrameEnd s (.returned v) u (Jvm.fieldLocs frame_1_writes args s ++ Jvm.arrayLocs frame_1_arrays args s ++ Jvm.staticLocs frame_1_statics s) 16 128 → Post tb e args s (.returned v) u) :
    ArmFor flags0 classFile x code maxLocals ret World_1 tables_1 room_1 Calls_1 rest_1 Pre_1 Post := by
  intro l hfl _ _ p e ha hc hk s m args below hf hA hF happ hP
  obtain ⟨hcalls, hrest, hpre⟩ := hP
  obtain ⟨-, -, -, hnamed, -, -, -, hat⟩ := (Spec.applies_iff hf).mp happ
  obtain ⟨hg, hn⟩ := and_e (Cond.before_iff.mp (show (Jvm.Cond.and given_1 narrow_1).before args s = true from hpre))
  obtain ⟨g1, g2⟩ := and_e hg
  obtain ⟨g3, g4⟩ := and_e g2
  obtain ⟨g5, g6⟩ := and_e g4
  obtain ⟨g7, g8⟩ := and_e g6
  obtain ⟨g9, g10⟩ := and_e g8
  obtain ⟨w0, w1, w2, w3, w4, rfl⟩ : ∃ w0 w1 w2 w3 w4 : Value, args = #[w0, w1, w2, w3, w4] := by
    have hs : args.size = 5 := by simpa [Cond.value, given_1] using g1
    obtain ⟨L⟩ := args
    match L, hs with
    | [w0, w1, w2, w3, w4], _ => exact ⟨w0, w1, w2, w3, w4, rfl⟩
  have hw := fun d (hd : d ∈ tables_1) => atoms_spec (ws := Jvm.Cond.code x code maxLocals ret :: tables_1) hat d (List.mem_cons_of_mem _ hd)
  obtain ⟨i0, ei0⟩ := is_v g3
  obtain rfl : w0 = (.int i0) := Option.some.inj ei0
  obtain ⟨i1, ei1⟩ := is_v g5
  obtain rfl : w1 = (.int i1) := Option.some.inj ei1
  obtain ⟨i2, ei2⟩ := is_v g7
  obtain rfl : w2 = (.int i2) := Option.some.inj ei2
  obtain ⟨i3, ei3⟩ := is_v g9
  obtain rfl : w3 = (.int i3) := Option.some.inj ei3
  obtain ⟨i4, ei4⟩ := is_v g10
  obtain rfl : w4 = (.int i4) := Option.some.inj ei4
  obtain ⟨n, o, h1, h2, h3, _, L, rfl, ⟨N, rfl⟩, hq⟩ := rm_0 l s _ hw tables_1 i0 i1 i2 i3 i4 s.heap s.heap.size (Nat.le_refl _)  p e ha hc hk s m _ below hf ((Spec.applies_iff_loose hf).mp happ).1 ⟨rfl, State.Warmed39.refl s, rfl⟩ trivial
  refine ⟨n, _, h1, h2, h3, hpost _ _ _ _ _ _ ⟨Cond.after_iff.mpr rfl, Cond.after_iff.mpr (eq_i res_at (Term.int_eval (1)) rfl), trivial⟩ ⟨hq.1, hq.2.1, (hq.2.2.sift fun y hy => Or.inr (N y hy)).mono (by decide) (by decide)⟩⟩
theorem main_1_1 : Claimed_1_1 := comes_1 fun _ _ _ _ _ _ h hF => ⟨h.1, hF⟩
theorem main_1_2 : Claimed_1_2 := comes_1 fun _ _ _ _ _ _ h hF => ⟨h.2.1, hF⟩
end Jvm.Pilot.@@N@@
namespace Jvm.Pilot.@@N@@
open Jvm Jvm.ClassFile Sem Op Lib Jvm.Free Jvm.Stand Jvm.Pilot.@@N@@.Jvm.D
/-! MADE BY PROGRAM (witnessworld.py) out of the Statement's table words and the real class files: 9 classes; the members and pool entries that the words name. The judged class is class 1, her method 1. -/
namespace start1
open Jvm.ClassFile
def u (s : String) : CpInfo := .utf8 (stringToUtf16 s)
/-- a pool by its gaps: so many unusable entries, then the entry; so many at the end -/
def gap : Nat → List CpInfo → List CpInfo
  | 0, r => r
  | n + 1, r => .unusable :: gap n r
def poolList (es : List (Nat × CpInfo)) (last : Nat) : List CpInfo := es.foldr (fun e r => gap e.1 (e.2 :: r)) (gap last [])
def pool (es : List (Nat × CpInfo)) (last : Nat) : Array CpInfo := ⟨poolList es last⟩
def fileOf (pool : Array CpInfo) (this : Nat) (attrs : Array Attribute := #[]) (ms : Array MethodInfo := #[]) (fl : Nat := 33) (sup : Nat := 0) (ifs : Array Nat := #[]) (fds : Array FieldInfo := #[]) : ClassFile where
  minorVersion := 0
  majorVersion := 65
  constantPool := pool
  accessFlags := fl
  thisClass := this
  superClass := sup
  interfaces := ifs
  fields := fds
  methods := ms
  attributes := attrs
def plain (name : String) (sup : Option ClassId) : Class where
  name := name
  kind := .ordinary
  loader := none
  accessFlags := 33
  super := sup
  interfaces := #[]
  cf := none
  fields := #[]
  methods := #[]
  instanceTypes := #[]
  staticTypes := #[]
  resolved := #[]
  callSites := []
  init := .initialized
  statics := none
  mirror := none

def pool0 : Array CpInfo := pool [(5, u "<init>"), (0, u "()V"), (1, .class_ 10), (1, u "java/lang/Object")] 113

def k0m0 : Method := { name := "<init>", desc := "()V", sig := { parameters := [], returnType := none }, accessFlags := 1, code := none }
/-- java/lang/Object -/
def k0 : Class := { plain "java/lang/Object" none with
  accessFlags := 33
  interfaces := #[]
  cf := some (fileOf pool0 8 #[] #[{ accessFlags := 1, nameIndex := 5, descriptorIndex := 6, attributes := #[] }] 33 0 #[] #[])
  fields := #[]
  methods := #[k0m0]
  instanceTypes := #[]
  staticTypes := #[]
  resolved := Array.replicate 124 none
  statics := none }

def pool1 : Array CpInfo := pool [(2, .class_ 4), (1, u "java/lang/Object"), (0, u "<init>"), (0, u "()V"), (0, .integer 2147483647), (0, .long 14695981039346656037), (1, .methodref 11 12), (0, .class_ 13), (0, .nameAndType 14 15), (0, u "com/example/tideline/tideline/io/PositionsFileHashPinLaw"), (0, u "step"), (0, u "(JB)J"), (0, .methodref 11 17), (0, .nameAndType 18 19), (0, u "fmix"), (0, u "(J)J"), (0, .methodref 21 22), (0, .class_ 23), (0, .nameAndType 24 25), (0, u "com/example/tideline/tideline/io/PositionsFile"), (0, u "hash"), (0, u "([B)J"), (0, .long 1099511628211), (1, .long 18397679294719823053), (1, .long 14181476777654086739), (3, u "law"), (0, u "(IIIII)Z")] 5

def k1m0 : Method := { name := "<init>", desc := "()V", sig := { parameters := [], returnType := none }, accessFlags := 2, code := none }
def k1c1 : Code := { maxStack := 4, maxLocals := 15, code := code, exceptionTable := #[], attributes := #[] }
def k1m1 : Method := { name := "law", desc := "(IIIII)Z", sig := { parameters := [.int, .int, .int, .int, .int], returnType := some .boolean }, accessFlags := 9, code := some k1c1 }
def k1c2 : Code := { maxStack := 4, maxLocals := 5, code := method_3_code, exceptionTable := #[], attributes := #[] }
def k1m2 : Method := { name := "step", desc := "(JB)J", sig := { parameters := [.long, .byte], returnType := some .long }, accessFlags := 10, code := some k1c2 }
def k1c3 : Code := { maxStack := 5, maxLocals := 4, code := method_4_code, exceptionTable := #[], attributes := #[] }
def k1m3 : Method := { name := "fmix", desc := "(J)J", sig := { parameters := [.long], returnType := some .long }, accessFlags := 10, code := some k1c3 }
/-- com/example/tideline/tideline/io/PositionsFileHashPinLaw -/
def k1 : Class := { plain "com/example/tideline/tideline/io/PositionsFileHashPinLaw" (some 0) with
  accessFlags := 49
  interfaces := #[]
  cf := some (fileOf pool1 11 #[] #[{ accessFlags := 2, nameIndex := 5, descriptorIndex := 6, attributes := #[] }, { accessFlags := 9, nameIndex := 34, descriptorIndex := 35, attributes := #[] }, { accessFlags := 10, nameIndex := 14, descriptorIndex := 15, attributes := #[] }, { accessFlags := 10, nameIndex := 18, descriptorIndex := 19, attributes := #[] }] 49 2 #[] #[])
  fields := #[]
  methods := #[k1m0, k1m1, k1m2, k1m3]
  instanceTypes := #[]
  staticTypes := #[]
  resolved := Array.replicate 41 none
  statics := none }

def pool2 : Array CpInfo := pool [(8, .class_ 10), (1, u "java/lang/Object"), (0, u "<init>"), (0, u "()V"), (17, .class_ 32), (1, u "com/example/tideline/tideline/io/PositionsFile"), (85, .class_ 119), (0, u "com/example/tideline/tideline/io/PositionsFile$Reader"), (35, .class_ 156), (0, u "com/example/tideline/tideline/io/PositionsFile$Pages"), (6, .class_ 164), (0, u "com/example/tideline/tideline/io/PositionsFile$Text"), (10, .long 14695981039346656037), (1, .long 1099511628211), (1, .long 18397679294719823053), (1, .long 14181476777654086739), (68, .class_ 251), (0, u "com/example/tideline/tideline/io/PositionsFile$CheckedPages"), (25, .class_ 278), (0, u "com/example/tideline/tideline/io/PositionsFile$Writer"), (33, .class_ 313), (0, u "com/example/tideline/tideline/io/PositionsFile$Encoder"), (26, u "LONGS"), (0, u "Ljava/lang/invoke/VarHandle;"), (0, u "FILE_NAME"), (0, u "Ljava/lang/String;"), (1, u "PAGE"), (0, u "I"), (1, u "HEADER"), (1, u "MOST_FINGERPRINT_BITS"), (16, u "hash"), (0, u "([B)J"), (28, .class_ 398), (0, u "com/example/tideline/tideline/io/PositionsFile$Opened")] 73

def k2m0 : Method := { name := "<init>", desc := "()V", sig := { parameters := [], returnType := none }, accessFlags := 2, code := none }
def k2c1 : Code := { maxStack := 5, maxLocals := 7, code := prog_124_method_8_code, exceptionTable := #[], attributes := #[] }
def k2m1 : Method := { name := "hash", desc := "([B)J", sig := { parameters := [(.array .byte)], returnType := some .long }, accessFlags := 8, code := some k2c1 }
/-- com/example/tideline/tideline/io/PositionsFile -/
def k2 : Class := { plain "com/example/tideline/tideline/io/PositionsFile" (some 0) with
  accessFlags := 49
  interfaces := #[]
  cf := some (fileOf pool2 30 #[.nestMembers #[250, 397, 118, 163, 155, 277, 312]] #[{ accessFlags := 2, nameIndex := 11, descriptorIndex := 12, attributes := #[] }, { accessFlags := 8, nameIndex := 367, descriptorIndex := 368, attributes := #[] }] 49 8 #[] #[{ accessFlags := 24, nameIndex := 342, descriptorIndex := 343, attributes := #[] }, { accessFlags := 26, nameIndex := 345, descriptorIndex := 346, attributes := #[] }, { accessFlags := 26, nameIndex := 348, descriptorIndex := 346, attributes := #[] }, { accessFlags := 26, nameIndex := 350, descriptorIndex := 346, attributes := #[] }, { accessFlags := 26, nameIndex := 340, descriptorIndex := 341, attributes := #[] }])
  fields := #[{ name := "FILE_NAME", type := (.object "java/lang/String"), accessFlags := 24, slot := 0, constantValue := 0 }, { name := "PAGE", type := .int, accessFlags := 26, slot := 1, constantValue := 0 }, { name := "HEADER", type := .int, accessFlags := 26, slot := 2, constantValue := 0 }, { name := "MOST_FINGERPRINT_BITS", type := .int, accessFlags := 26, slot := 3, constantValue := 0 }, { name := "LONGS", type := (.object "java/lang/invoke/VarHandle"), accessFlags := 26, slot := 4, constantValue := 0 }]
  methods := #[k2m0, k2m1]
  instanceTypes := #[]
  staticTypes := #[(.object "java/lang/String"), .int, .int, .int, (.object "java/lang/invoke/VarHandle")]
  resolved := Array.replicate 472 none
  statics := none }

def pool3 : Array CpInfo := pool [(1, u "java/lang/Cloneable"), (0, .class_ 1), (0, u "java/lang/Object"), (0, .class_ 3)] 3

/-- java/lang/Cloneable -/
def k3 : Class := { plain "java/lang/Cloneable" (some 0) with
  accessFlags := 1537
  interfaces := #[]
  cf := some (fileOf pool3 2 #[] #[] 1537 4 #[] #[])
  fields := #[]
  methods := #[]
  instanceTypes := #[]
  staticTypes := #[]
  resolved := Array.replicate 8 none
  statics := none }

def pool4 : Array CpInfo := pool [(1, u "java/io/Serializable"), (0, .class_ 1), (0, u "java/lang/Object"), (0, .class_ 3)] 3

/-- java/io/Serializable -/
def k4 : Class := { plain "java/io/Serializable" (some 0) with
  accessFlags := 1537
  interfaces := #[]
  cf := some (fileOf pool4 2 #[] #[] 1537 4 #[] #[])
  fields := #[]
  methods := #[]
  instanceTypes := #[]
  staticTypes := #[]
  resolved := Array.replicate 8 none
  statics := none }

/-- the primitive byte -/
def k5 : Class := { plain "byte" none with kind := .primitive 'B', accessFlags := 0x411 }
/-- [B -/
def k6 : Class := { plain "[B" (some 0) with kind := .array 5 .byte, interfaces := #[3, 4], accessFlags := 1041 }

/-- the primitive int -/
def k7 : Class := { plain "int" none with kind := .primitive 'I', accessFlags := 0x411 }
/-- [I -/
def k8 : Class := { plain "[I" (some 0) with kind := .array 7 .int, interfaces := #[3, 4], accessFlags := 1041 }

def heap : Heap := #[]
def classes : Array Class := #[k0, k1, k2, k3, k4, k5, k6, k7, k8]
def interned : List (Array UInt16 × Addr) := []
def slotsUsed : Nat := 0
def theMethod : MethodId := ⟨1, 1⟩
def args0 : Array Value := #[.int 3, .int 1, .int 2, .int 3, .int 4]
def aboutOver (below : List Frame) : State where
  vm := { classes := classes, interned := interned.toArray }
  heap := heap
  slotsUsed := slotsUsed
  threads := #[{ frames := .invoking theMethod args0 :: below }]
def below0 : List Frame := [.native { method := ⟨0, 0⟩, args := #[] }]
def about1 : State := aboutOver below0
def p0 : Program := .bare "" "" ""
def e0 : Env := launch0.env 0 0 0
theorem w_frames : about1.frames = Frame.invoking theMethod args0 :: below0 := rfl
set_option maxRecDepth 65536 in
theorem w_args : argsFit about1.vm theMethod args0 = true := by decide +kernel
set_option maxRecDepth 65536 in
theorem w_heap : heapFits about1 = true := by decide +kernel
set_option maxRecDepth 65536 in
theorem w_runnable : about1.curStatus? = some .runnable := by decide +kernel
set_option maxRecDepth 65536 in
theorem w_alone : about1.alone = true := by decide +kernel
set_option maxRecDepth 65536 in
theorem w_named : about1.methodNamed? x = some theMethod := by decide +kernel
set_option maxRecDepth 65536 in
theorem w_hears : about1.hears theMethod below0 = true := by decide +kernel
set_option maxRecDepth 65536 in
theorem w_ripe : about1.ripe theMethod args0 below0 = true := by decide +kernel
theorem w_running : about1.status = .running := rfl
set_option maxRecDepth 65536 in
theorem w_room : about1.hasRoom e0.platform room_1 = true :=
  launch0.hasRoom_least _ room_1 (by decide +kernel) (by decide +kernel) (by decide +kernel) (by decide +kernel) (by decide +kernel) (by decide +kernel)
theorem allAtoms_all (ts : List Jvm.Cond) (a : Array Jvm.Value) (st : Jvm.State) : (allAtoms ts).before a st = ts.all (fun c => c.before a st) := by
  induction ts with
  | nil => rfl
  | cons c t ih =>
    show (Jvm.Cond.and c (allAtoms t)).before a st = _
    rw [Jvm.Cond.before_and, ih, List.all_cons]
def words1 : List Jvm.Cond := Jvm.Cond.code x code maxLocals ret :: tables_1
/-- a 'code' word, met by the world's own term for the bytes: nothing is compared byte by byte -/
theorem code_word {y : MethodName} {bytes : ByteArray} {mx : Nat} {rt : Option FieldType} {a : Array Value} {s : State} {m : MethodId} {meth : Method} {c : Code} (h1 : s.methodNamed? y = some m) (h2 : s.vm.method? m = some meth) (h3 : meth.code = some c) (h4 : c.code = bytes)
    (h5 : (c.maxLocals == mx && c.exceptionTable.isEmpty && decide (c.maxStack ≤ mostOperands) && decide (meth.sig.returnType = rt) && !meth.locks && decide (parseMethodDescriptor y.desc = some meth.sig)) = true) : (Jvm.Cond.code y bytes mx rt).before a s = true := by
  simp only [Bool.and_eq_true, beq_iff_eq, Bool.not_eq_true', decide_eq_true_eq] at h5
  obtain ⟨⟨⟨⟨⟨g1, g2⟩, g3⟩, g4⟩, g5⟩, g6⟩ := h5
  simp [Cond.before, Cond.holds, Cond.value, h1, h2, h3, h4, g1, g2, g3, g4, g5, g6]
def isCode : Jvm.Cond → Bool
  | .code _ _ _ _ => true
  | _ => false
theorem all_split {L : List Jvm.Cond} {P : Jvm.Cond → Bool} (h1 : L.all (fun c => isCode c || P c) = true) (h2 : ∀ c ∈ L.filter isCode, P c = true) : L.all P = true := by
  refine List.all_eq_true.mpr fun c hc => ?_
  have h := List.all_eq_true.mp h1 c hc
  rcases Bool.eq_false_or_eq_true (isCode c) with hi | hi
  · exact h2 c (List.mem_filter.mpr ⟨hc, hi⟩)
  · simpa [hi] using h
set_option maxRecDepth 65536 in
theorem w_c0 : (Jvm.Cond.code x code maxLocals ret).before args0 about1 = true := code_word (m := ⟨1, 1⟩) (meth := k1m1) (c := k1c1) (by decide +kernel) rfl rfl rfl (by decide +kernel)
set_option maxRecDepth 65536 in
theorem w_c1 : (Jvm.Cond.code ({ cls := "com/example/tideline/tideline/io/PositionsFileHashPinLaw", name := "fmix", desc := "(J)J" } : Jvm.MethodName) method_4_code (4 : Nat) (Option.some Jvm.ClassFile.FieldType.long)).before args0 about1 = true := code_word (m := ⟨1, 3⟩) (meth := k1m3) (c := k1c3) (by decide +kernel) rfl rfl rfl (by decide +kernel)
set_option maxRecDepth 65536 in
theorem w_c2 : (Jvm.Cond.code ({ cls := "com/example/tideline/tideline/io/PositionsFile", name := "hash", desc := "([B)J" } : Jvm.MethodName) prog_124_method_8_code (7 : Nat) (Option.some Jvm.ClassFile.FieldType.long)).before args0 about1 = true := code_word (m := ⟨2, 1⟩) (meth := k2m1) (c := k2c1) (by decide +kernel) rfl rfl rfl (by decide +kernel)
set_option maxRecDepth 65536 in
theorem w_c3 : (Jvm.Cond.code ({ cls := "com/example/tideline/tideline/io/PositionsFileHashPinLaw", name := "step", desc := "(JB)J" } : Jvm.MethodName) method_3_code (5 : Nat) (Option.some Jvm.ClassFile.FieldType.long)).before args0 about1 = true := code_word (m := ⟨1, 2⟩) (meth := k1m2) (c := k1c2) (by decide +kernel) rfl rfl rfl (by decide +kernel)
def codes1 : List Jvm.Cond := [Jvm.Cond.code x code maxLocals ret, Jvm.Cond.code ({ cls := "com/example/tideline/tideline/io/PositionsFileHashPinLaw", name := "fmix", desc := "(J)J" } : Jvm.MethodName) method_4_code (4 : Nat) (Option.some Jvm.ClassFile.FieldType.long), Jvm.Cond.code ({ cls := "com/example/tideline/tideline/io/PositionsFile", name := "hash", desc := "([B)J" } : Jvm.MethodName) prog_124_method_8_code (7 : Nat) (Option.some Jvm.ClassFile.FieldType.long), Jvm.Cond.code ({ cls := "com/example/tideline/tideline/io/PositionsFileHashPinLaw", name := "step", desc := "(JB)J" } : Jvm.MethodName) method_3_code (5 : Nat) (Option.some Jvm.ClassFile.FieldType.long)]
set_option maxRecDepth 65536 in
theorem codes_eq : words1.filter isCode = codes1 := rfl
theorem w_codes : ∀ c ∈ words1.filter isCode, c.before args0 about1 = true := by
  rw [codes_eq]
  intro c hc
  simp only [codes1, List.mem_cons, List.not_mem_nil, or_false] at hc
  rcases hc with rfl | rfl | rfl | rfl
  · exact w_c0
  · exact w_c1
  · exact w_c2
  · exact w_c3
set_option maxRecDepth 65536 in
theorem w_t1 : words1.all (fun c => isCode c || c.before args0 about1) = true := by decide +kernel
theorem w_tables : (allAtoms (Jvm.Cond.code x code maxLocals ret :: tables_1)).before args0 about1 = true := by
  rw [allAtoms_all]
  show words1.all (fun c => c.before args0 about1) = true
  refine all_split ?_ w_codes
  rw [w_t1]
set_option maxRecDepth 65536 in
theorem w_case : (Jvm.Cond.and given_1 narrow_1).before args0 about1 = true := by decide +kernel
theorem w_applies : (headSpec (Jvm.Cond.code x code maxLocals ret :: tables_1) room_1).applies x e0.platform about1 = true :=
  (Spec.applies_iff w_frames).mpr ⟨w_running, w_runnable, w_alone, w_named, w_hears, w_ripe, w_room, w_tables⟩
theorem atStart : AtStart classFile x code maxLocals ret World_1 tables_1 room_1 Calls_1 rest_1 Pre_1 launch0 p0 e0 about1 theMethod args0 below0 :=
  ⟨lists_1, trivial, launch0.admits_env _ _ _, launch0.least_env, fairChoices_fair.cas, fairChoices_fair.clock, w_frames, w_args, w_heap, w_applies, trivial, trivial, w_case⟩
end start1
theorem witness_1 : WitnessClaimed_1 := ⟨start1.p0, start1.e0, start1.about1, start1.theMethod, start1.args0, start1.below0, start1.atStart⟩
end Jvm.Pilot.@@N@@
