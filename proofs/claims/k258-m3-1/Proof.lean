import JvmDerived
import JvmDerived.Pilot.@@N@@Statement
import JvmDerived.Pilot.@@N@@Code
set_option linter.unusedVariables false
set_option linter.unusedSimpArgs false
namespace Jvm.Pilot.@@N@@
open Jvm Jvm.ClassFile Sem Op Lib Jvm.Free Jvm.Stand Jvm.LawKit Jvm.RoadKit Bundle Jvm.Pilot.@@N@@.Jvm.D
section OwnKit
variable {p : Program} {l : Launch} {e : Env} {R : Room} {s : State} {m : MethodId} {args : Array Value} {below : List Frame} {meth : Method} {c : Code} {T : State} {cells slots : Nat} {P : State → Outcome → Prop}
variable {Z : State} {a0 : Array Value} {h h0 : Heap} {n0 : Nat} {own nm : String} {bytes : ByteArray} {maxL : Nat} {ret : Option FieldType}
variable {pc pc' : Nat} {Ls : Array Slot} {st : List Value}
/-- from the state U the run comes to an end that P allows -/
def own_Go (p : Program) (e : Env) (below : List Frame) (U : State) (P : State → Outcome → Prop) : Prop := ∃ a o, Steps p.tables e below U a ∧ P a o
theorem own_by {U U' : State} (q : ∀ t, Steps p.tables e below U' t → Steps p.tables e below U t) (G : own_Go p e below U' P) : own_Go p e below U P := by
  obtain ⟨a, o, h1, h2⟩ := G
  exact ⟨a, o, q a h1, h2⟩
/-- what stays the same in one body -/
def own_B (p : Program) (s : State) (m : MethodId) (meth : Method) (c : Code) (Z : State) (own nm : String) (bytes : ByteArray) (maxL : Nat) (ret : Option FieldType) : Prop :=
  p.tables.exec = Jvm.exec ∧ Z.Warmed39 s.vm ∧ c.maxLocals = maxL ∧ s.vm.findClass own = some m.cls ∧ meth.sig.returnType = ret ∧ meth.locks = false ∧ meth.name = nm ∧ c.code = bytes
/-- where the run stands: the state T, its heap h; nothing below n0 has been written -/
def own_S (p : Program) (l : Launch) (e : Env) (R : Room) (s : State) (m : MethodId) (args : Array Value) (below : List Frame) (meth : Method) (c : Code) (n0 : Nat) (T : State) (h : Heap) (cells slots : Nat) : Prop :=
  ∃ locs, Stand p l e R s m args below meth c T locs cells slots ∧ T.heap = h ∧ Fr n0 locs
/-- what a body owes at its end -/
def own_P (s : State) (below : List Frame) (n0 : Nat) (Q : Option Value → Heap → Prop) (k n : Nat) (a : State) (o : Outcome) : Prop :=
  a.status = .running ∧ Ended a below o ∧ ∃ v L, o = .returned v ∧ (Fr n0 L ∧ Q v a.heap) ∧ FrameEnd s o a L k n
theorem own_iload (B : own_B p s m meth c Z own nm bytes maxL ret) (X : own_S p l e R s m args below meth c n0 T h cells slots) {k : Nat} {v : Int32} (d : decode bytes pc = .ok (.iload k, 2)) (hp : pc + 2 = pc') (hl : Ls[k]? = some (.val (.int v)))
    (G : own_Go p e below (T.setTop (mkF m pc' Ls (.int v :: st))) P) : own_Go p e below (T.setTop (mkF m pc Ls (st))) P := by
  obtain ⟨locs, X, -, -⟩ := X
  subst hp
  exact own_by (fun _ => XS.iload X.here B.1 rfl (hb B.2.2.2.2.2.2.2 d) hl) G
theorem own_iloadN (B : own_B p s m meth c Z own nm bytes maxL ret) (X : own_S p l e R s m args below meth c n0 T h cells slots) {k : Fin 4} {v : Int32} (d : decode bytes pc = .ok (.iload_n k, 1)) (hp : pc + 1 = pc') (hl : Ls[k.val]? = some (.val (.int v)))
    (G : own_Go p e below (T.setTop (mkF m pc' Ls (.int v :: st))) P) : own_Go p e below (T.setTop (mkF m pc Ls (st))) P := by
  obtain ⟨locs, X, -, -⟩ := X
  subst hp
  exact own_by (fun _ => XS.iloadN X.here B.1 rfl (hb B.2.2.2.2.2.2.2 d) hl) G
theorem own_lloadN (B : own_B p s m meth c Z own nm bytes maxL ret) (X : own_S p l e R s m args below meth c n0 T h cells slots) {k : Fin 4} {v : Int64} (d : decode bytes pc = .ok (.lload_n k, 1)) (hp : pc + 1 = pc') (hl : Ls[k.val]? = some (.val (.long v)))
    (G : own_Go p e below (T.setTop (mkF m pc' Ls (.long v :: st))) P) : own_Go p e below (T.setTop (mkF m pc Ls (st))) P := by
  obtain ⟨locs, X, -, -⟩ := X
  subst hp
  exact own_by (fun _ => XS.lloadN X.here B.1 rfl (hb B.2.2.2.2.2.2.2 d) hl) G
theorem own_aload (B : own_B p s m meth c Z own nm bytes maxL ret) (X : own_S p l e R s m args below meth c n0 T h cells slots) {k : Nat} {v : Value} (d : decode bytes pc = .ok (.aload k, 2)) (hp : pc + 2 = pc') (hl : Ls[k]? = some (.val v)) (hv : v.isRef = true)
    (G : own_Go p e below (T.setTop (mkF m pc' Ls (v :: st))) P) : own_Go p e below (T.setTop (mkF m pc Ls (st))) P := by
  obtain ⟨locs, X, -, -⟩ := X
  subst hp
  exact own_by (fun _ => XS.aload X.here B.1 rfl (hb B.2.2.2.2.2.2.2 d) hl hv) G
theorem own_aloadN (B : own_B p s m meth c Z own nm bytes maxL ret) (X : own_S p l e R s m args below meth c n0 T h cells slots) {k : Fin 4} {v : Value} (d : decode bytes pc = .ok (.aload_n k, 1)) (hp : pc + 1 = pc') (hl : Ls[k.val]? = some (.val v)) (hv : v.isRef = true)
    (G : own_Go p e below (T.setTop (mkF m pc' Ls (v :: st))) P) : own_Go p e below (T.setTop (mkF m pc Ls (st))) P := by
  obtain ⟨locs, X, -, -⟩ := X
  subst hp
  exact own_by (fun _ => XS.aloadN X.here B.1 rfl (hb B.2.2.2.2.2.2.2 d) hl hv) G
theorem own_istore (B : own_B p s m meth c Z own nm bytes maxL ret) (X : own_S p l e R s m args below meth c n0 T h cells slots) {k : Nat} {v : Int32} {Ls' : Array Slot} (d : decode bytes pc = .ok (.istore k, 2)) (hp : pc + 2 = pc') (hl : storeLocals Ls k (.int v) = some Ls')
    (G : own_Go p e below (T.setTop (mkF m pc' Ls' st)) P) : own_Go p e below (T.setTop (mkF m pc Ls (.int v :: st))) P := by
  obtain ⟨locs, X, -, -⟩ := X
  subst hp
  exact own_by (fun _ => XS.istore X.here B.1 rfl (hb B.2.2.2.2.2.2.2 d) rfl hl) G
theorem own_istoreN (B : own_B p s m meth c Z own nm bytes maxL ret) (X : own_S p l e R s m args below meth c n0 T h cells slots) {k : Fin 4} {v : Int32} {Ls' : Array Slot} (d : decode bytes pc = .ok (.istore_n k, 1)) (hp : pc + 1 = pc') (hl : storeLocals Ls k.val (.int v) = some Ls')
    (G : own_Go p e below (T.setTop (mkF m pc' Ls' st)) P) : own_Go p e below (T.setTop (mkF m pc Ls (.int v :: st))) P := by
  obtain ⟨locs, X, -, -⟩ := X
  subst hp
  exact own_by (fun _ => XS.istoreN X.here B.1 rfl (hb B.2.2.2.2.2.2.2 d) rfl hl) G
theorem own_lstoreN (B : own_B p s m meth c Z own nm bytes maxL ret) (X : own_S p l e R s m args below meth c n0 T h cells slots) {k : Fin 4} {v : Int64} {Ls' : Array Slot} (d : decode bytes pc = .ok (.lstore_n k, 1)) (hp : pc + 1 = pc') (hl : storeLocals Ls k.val (.long v) = some Ls')
    (G : own_Go p e below (T.setTop (mkF m pc' Ls' st)) P) : own_Go p e below (T.setTop (mkF m pc Ls (.long v :: st))) P := by
  obtain ⟨locs, X, -, -⟩ := X
  subst hp
  exact own_by (fun _ => XS.lstoreN X.here B.1 rfl (hb B.2.2.2.2.2.2.2 d) rfl hl) G
theorem own_astore (B : own_B p s m meth c Z own nm bytes maxL ret) (X : own_S p l e R s m args below meth c n0 T h cells slots) {k : Nat} {v : Value} {Ls' : Array Slot} (d : decode bytes pc = .ok (.astore k, 2)) (hp : pc + 2 = pc') (hv : v.isRef = true) (hl : storeLocals Ls k (v) = some Ls')
    (G : own_Go p e below (T.setTop (mkF m pc' Ls' st)) P) : own_Go p e below (T.setTop (mkF m pc Ls (v :: st))) P := by
  obtain ⟨locs, X, -, -⟩ := X
  subst hp
  exact own_by (fun _ => XS.astore X.here B.1 rfl (hb B.2.2.2.2.2.2.2 d) rfl hv hl) G
theorem own_astoreN (B : own_B p s m meth c Z own nm bytes maxL ret) (X : own_S p l e R s m args below meth c n0 T h cells slots) {k : Fin 4} {v : Value} {Ls' : Array Slot} (d : decode bytes pc = .ok (.astore_n k, 1)) (hp : pc + 1 = pc') (hv : v.isRef = true) (hl : storeLocals Ls k.val (v) = some Ls')
    (G : own_Go p e below (T.setTop (mkF m pc' Ls' st)) P) : own_Go p e below (T.setTop (mkF m pc Ls (v :: st))) P := by
  obtain ⟨locs, X, -, -⟩ := X
  subst hp
  exact own_by (fun _ => XS.astoreN X.here B.1 rfl (hb B.2.2.2.2.2.2.2 d) rfl hv hl) G
theorem own_iconst (B : own_B p s m meth c Z own nm bytes maxL ret) (X : own_S p l e R s m args below meth c n0 T h cells slots) {i : Int} {z : Int32} (d : decode bytes pc = .ok (.iconst i, 1)) (hp : pc + 1 = pc') (hz : Int32.ofInt i = z)
    (G : own_Go p e below (T.setTop (mkF m pc' Ls (.int z :: st))) P) : own_Go p e below (T.setTop (mkF m pc Ls (st))) P := by
  obtain ⟨locs, X, -, -⟩ := X
  subst hp
  subst hz
  exact own_by (fun _ => XS.iconst X.here B.1 rfl (hb B.2.2.2.2.2.2.2 d)) G
theorem own_ldcI (B : own_B p s m meth c Z own nm bytes maxL ret) (X : own_S p l e R s m args below meth c n0 T h cells slots) {i : Nat} {z : Int32} (w : (Cond.constant own i z).before a0 Z = true) (d : decode bytes pc = .ok (.ldc i, 2)) (hp : pc + 2 = pc') 
    (G : own_Go p e below (T.setTop (mkF m pc' Ls (.int z :: st))) P) : own_Go p e below (T.setTop (mkF m pc Ls (st))) P := by
  obtain ⟨locs, X, -, -⟩ := X
  subst hp
  exact own_by (fun _ => X.ldcInt B.1 B.2.2.2.1 (mvT B.2.1 w) (g := mkF m pc Ls st) rfl (hb B.2.2.2.2.2.2.2 d) _) G
theorem own_ldc2J (B : own_B p s m meth c Z own nm bytes maxL ret) (X : own_S p l e R s m args below meth c n0 T h cells slots) {i : Nat} {z : Int64} (w : (Cond.constantLong own i z).before a0 Z = true) (d : decode bytes pc = .ok (.ldc2_w i, 3)) (hp : pc + 3 = pc') 
    (G : own_Go p e below (T.setTop (mkF m pc' Ls (.long z :: st))) P) : own_Go p e below (T.setTop (mkF m pc Ls (st))) P := by
  obtain ⟨locs, X, -, -⟩ := X
  subst hp
  exact own_by (fun _ => X.ldc2Long B.1 B.2.2.2.1 (mvT B.2.1 w) (g := mkF m pc Ls st) rfl (hb B.2.2.2.2.2.2.2 d) _) G
theorem own_iadd (B : own_B p s m meth c Z own nm bytes maxL ret) (X : own_S p l e R s m args below meth c n0 T h cells slots) {x y z : Int32} (d : decode bytes pc = .ok (.iadd, 1)) (hp : pc + 1 = pc') (hz : x + y = z)
    (G : own_Go p e below (T.setTop (mkF m pc' Ls (.int z :: st))) P) : own_Go p e below (T.setTop (mkF m pc Ls (.int y :: .int x :: st))) P := by
  obtain ⟨locs, X, -, -⟩ := X
  subst hp
  subst hz
  exact own_by (fun _ => XS.iadd X.here B.1 rfl (hb B.2.2.2.2.2.2.2 d) rfl) G
theorem own_imul (B : own_B p s m meth c Z own nm bytes maxL ret) (X : own_S p l e R s m args below meth c n0 T h cells slots) {x y z : Int32} (d : decode bytes pc = .ok (.imul, 1)) (hp : pc + 1 = pc') (hz : x * y = z)
    (G : own_Go p e below (T.setTop (mkF m pc' Ls (.int z :: st))) P) : own_Go p e below (T.setTop (mkF m pc Ls (.int y :: .int x :: st))) P := by
  obtain ⟨locs, X, -, -⟩ := X
  subst hp
  subst hz
  exact own_by (fun _ => XS.imul X.here B.1 rfl (hb B.2.2.2.2.2.2.2 d) rfl) G
theorem own_iand (B : own_B p s m meth c Z own nm bytes maxL ret) (X : own_S p l e R s m args below meth c n0 T h cells slots) {x y z : Int32} (d : decode bytes pc = .ok (.iand, 1)) (hp : pc + 1 = pc') (hz : x &&& y = z)
    (G : own_Go p e below (T.setTop (mkF m pc' Ls (.int z :: st))) P) : own_Go p e below (T.setTop (mkF m pc Ls (.int y :: .int x :: st))) P := by
  obtain ⟨locs, X, -, -⟩ := X
  subst hp
  subst hz
  exact own_by (fun _ => XS.iand X.here B.1 rfl (hb B.2.2.2.2.2.2.2 d) rfl) G
theorem own_iushr (B : own_B p s m meth c Z own nm bytes maxL ret) (X : own_S p l e R s m args below meth c n0 T h cells slots) {x y z : Int32} (d : decode bytes pc = .ok (.iushr, 1)) (hp : pc + 1 = pc') (hz : (x.toUInt32 >>> (y &&& 31).toUInt32).toInt32 = z)
    (G : own_Go p e below (T.setTop (mkF m pc' Ls (.int z :: st))) P) : own_Go p e below (T.setTop (mkF m pc Ls (.int y :: .int x :: st))) P := by
  obtain ⟨locs, X, -, -⟩ := X
  subst hp
  subst hz
  exact own_by (fun _ => XS.iushr X.here B.1 rfl (hb B.2.2.2.2.2.2.2 d) rfl) G
theorem own_ladd (B : own_B p s m meth c Z own nm bytes maxL ret) (X : own_S p l e R s m args below meth c n0 T h cells slots) {x y z : Int64} (d : decode bytes pc = .ok (.ladd, 1)) (hp : pc + 1 = pc') (hz : x + y = z)
    (G : own_Go p e below (T.setTop (mkF m pc' Ls (.long z :: st))) P) : own_Go p e below (T.setTop (mkF m pc Ls (.long y :: .long x :: st))) P := by
  obtain ⟨locs, X, -, -⟩ := X
  subst hp
  subst hz
  exact own_by (fun _ => XS.ladd X.here B.1 rfl (hb B.2.2.2.2.2.2.2 d) rfl) G
theorem own_land (B : own_B p s m meth c Z own nm bytes maxL ret) (X : own_S p l e R s m args below meth c n0 T h cells slots) {x y z : Int64} (d : decode bytes pc = .ok (.land, 1)) (hp : pc + 1 = pc') (hz : x &&& y = z)
    (G : own_Go p e below (T.setTop (mkF m pc' Ls (.long z :: st))) P) : own_Go p e below (T.setTop (mkF m pc Ls (.long y :: .long x :: st))) P := by
  obtain ⟨locs, X, -, -⟩ := X
  subst hp
  subst hz
  exact own_by (fun _ => XS.land X.here B.1 rfl (hb B.2.2.2.2.2.2.2 d) rfl) G
theorem own_lcmp (B : own_B p s m meth c Z own nm bytes maxL ret) (X : own_S p l e R s m args below meth c n0 T h cells slots) {x y : Int64} {z : Int32} (d : decode bytes pc = .ok (.lcmp, 1)) (hp : pc + 1 = pc') (hz : lcmpW x y = z)
    (G : own_Go p e below (T.setTop (mkF m pc' Ls (.int z :: st))) P) : own_Go p e below (T.setTop (mkF m pc Ls (.long y :: .long x :: st))) P := by
  obtain ⟨locs, X, -, -⟩ := X
  subst hp
  subst hz
  exact own_by (fun _ => XS.lcmp X.here B.1 rfl (hb B.2.2.2.2.2.2.2 d) rfl) G
theorem own_irem (B : own_B p s m meth c Z own nm bytes maxL ret) (X : own_S p l e R s m args below meth c n0 T h cells slots) {x y z : Int32} (d : decode bytes pc = .ok (.irem, 1)) (hp : pc + 1 = pc') (hy : y ≠ 0) (hz : x % y = z)
    (G : own_Go p e below (T.setTop (mkF m pc' Ls (.int z :: st))) P) : own_Go p e below (T.setTop (mkF m pc Ls (.int y :: .int x :: st))) P := by
  obtain ⟨locs, X, -, -⟩ := X
  subst hp
  subst hz
  exact own_by (fun _ => iremM X B.1 rfl (hb B.2.2.2.2.2.2.2 d) rfl hy) G
theorem own_i2l (B : own_B p s m meth c Z own nm bytes maxL ret) (X : own_S p l e R s m args below meth c n0 T h cells slots) {x : Int32} {z : Int64} (d : decode bytes pc = .ok (.i2l, 1)) (hp : pc + 1 = pc') (hz : x.toInt64 = z)
    (G : own_Go p e below (T.setTop (mkF m pc' Ls (.long z :: st))) P) : own_Go p e below (T.setTop (mkF m pc Ls (.int x :: st))) P := by
  obtain ⟨locs, X, -, -⟩ := X
  subst hp
  subst hz
  exact own_by (fun _ => XS.i2l X.here B.1 rfl (hb B.2.2.2.2.2.2.2 d) rfl) G
theorem own_l2i (B : own_B p s m meth c Z own nm bytes maxL ret) (X : own_S p l e R s m args below meth c n0 T h cells slots) {x : Int64} {z : Int32} (d : decode bytes pc = .ok (.l2i, 1)) (hp : pc + 1 = pc') (hz : x.toInt32 = z)
    (G : own_Go p e below (T.setTop (mkF m pc' Ls (.int z :: st))) P) : own_Go p e below (T.setTop (mkF m pc Ls (.long x :: st))) P := by
  obtain ⟨locs, X, -, -⟩ := X
  subst hp
  subst hz
  exact own_by (fun _ => XS.l2i X.here B.1 rfl (hb B.2.2.2.2.2.2.2 d) rfl) G
theorem own_dup (B : own_B p s m meth c Z own nm bytes maxL ret) (X : own_S p l e R s m args below meth c n0 T h cells slots) {v : Value} (d : decode bytes pc = .ok (.dup, 1)) (hp : pc + 1 = pc') (hv : v.category = 1)
    (G : own_Go p e below (T.setTop (mkF m pc' Ls (v :: v :: st))) P) : own_Go p e below (T.setTop (mkF m pc Ls (v :: st))) P := by
  obtain ⟨locs, X, -, -⟩ := X
  subst hp
  exact own_by (fun _ => XS.dup X.here B.1 rfl (hb B.2.2.2.2.2.2.2 d) rfl hv) G
theorem own_dup_x1 (B : own_B p s m meth c Z own nm bytes maxL ret) (X : own_S p l e R s m args below meth c n0 T h cells slots) {v w : Value} (d : decode bytes pc = .ok (.dup_x1, 1)) (hp : pc + 1 = pc') (hv : v.category = 1) (hw : w.category = 1)
    (G : own_Go p e below (T.setTop (mkF m pc' Ls (v :: w :: v :: st))) P) : own_Go p e below (T.setTop (mkF m pc Ls (v :: w :: st))) P := by
  obtain ⟨locs, X, -, -⟩ := X
  subst hp
  exact own_by (fun _ => XS.dupX1 X.here B.1 rfl (hb B.2.2.2.2.2.2.2 d) rfl hv hw) G
theorem own_goto (B : own_B p s m meth c Z own nm bytes maxL ret) (X : own_S p l e R s m args below meth c n0 T h cells slots) {o : Int} (d : decode bytes pc = .ok (.goto o, 3)) (ho : 0 ≤ (pc : Int) + o) (hp : ((pc : Int) + o).toNat = pc')
    (G : own_Go p e below (T.setTop (mkF m pc' Ls st)) P) : own_Go p e below (T.setTop (mkF m pc Ls st)) P := by
  obtain ⟨locs, X, -, -⟩ := X
  exact own_by (fun _ => XS.goto X.here B.1 rfl (pc0 := pc) rfl (hb B.2.2.2.2.2.2.2 d) ho hp) G
theorem own_ifYes (B : own_B p s m meth c Z own nm bytes maxL ret) (X : own_S p l e R s m args below meth c n0 T h cells slots) {cd : ClassFile.Cond} {o : Int} {x : Int32} (d : decode bytes pc = .ok (.ifCond cd o, 3)) (hc : ifCond.holds cd x = true) (ho : 0 ≤ (pc : Int) + o) (hp : ((pc : Int) + o).toNat = pc')
    (G : own_Go p e below (T.setTop (mkF m pc' Ls st)) P) : own_Go p e below (T.setTop (mkF m pc Ls (.int x :: st))) P := by
  obtain ⟨locs, X, -, -⟩ := X
  exact own_by (fun _ => XS.ifYes X.here B.1 rfl (pc0 := pc) rfl (hb B.2.2.2.2.2.2.2 d) rfl hc ho hp) G
theorem own_ifNo (B : own_B p s m meth c Z own nm bytes maxL ret) (X : own_S p l e R s m args below meth c n0 T h cells slots) {cd : ClassFile.Cond} {o : Int} {x : Int32} (d : decode bytes pc = .ok (.ifCond cd o, 3)) (hc : ifCond.holds cd x = false) (hp : pc + 3 = pc')
    (G : own_Go p e below (T.setTop (mkF m pc' Ls st)) P) : own_Go p e below (T.setTop (mkF m pc Ls (.int x :: st))) P := by
  obtain ⟨locs, X, -, -⟩ := X
  subst hp
  exact own_by (fun _ => XS.ifNo X.here B.1 rfl (hb B.2.2.2.2.2.2.2 d) rfl hc) G
theorem own_icmpYes (B : own_B p s m meth c Z own nm bytes maxL ret) (X : own_S p l e R s m args below meth c n0 T h cells slots) {cd : ClassFile.Cond} {o : Int} {x y : Int32} (d : decode bytes pc = .ok (.if_icmp cd o, 3)) (hc : if_icmp.holds cd x y = true) (ho : 0 ≤ (pc : Int) + o) (hp : ((pc : Int) + o).toNat = pc')
    (G : own_Go p e below (T.setTop (mkF m pc' Ls st)) P) : own_Go p e below (T.setTop (mkF m pc Ls (.int y :: .int x :: st))) P := by
  obtain ⟨locs, X, -, -⟩ := X
  exact own_by (fun _ => XS.icmpYes X.here B.1 rfl (pc0 := pc) rfl (hb B.2.2.2.2.2.2.2 d) rfl hc ho hp) G
theorem own_icmpNo (B : own_B p s m meth c Z own nm bytes maxL ret) (X : own_S p l e R s m args below meth c n0 T h cells slots) {cd : ClassFile.Cond} {o : Int} {x y : Int32} (d : decode bytes pc = .ok (.if_icmp cd o, 3)) (hc : if_icmp.holds cd x y = false) (hp : pc + 3 = pc')
    (G : own_Go p e below (T.setTop (mkF m pc' Ls st)) P) : own_Go p e below (T.setTop (mkF m pc Ls (.int y :: .int x :: st))) P := by
  obtain ⟨locs, X, -, -⟩ := X
  subst hp
  exact own_by (fun _ => XS.icmpNo X.here B.1 rfl (hb B.2.2.2.2.2.2.2 d) rfl hc) G
theorem own_arraylength (B : own_B p s m meth c Z own nm bytes maxL ret) (X : own_S p l e R s m args below meth c n0 T h cells slots) {a : Addr} {k : ClassId} {z : Int32} {vs : List Value} {dv : Value} {ty : FieldType} (V : Arv Z h a k ty z vs dv) (d : decode bytes pc = .ok (.arraylength, 1)) (hp : pc + 1 = pc')
    (G : own_Go p e below (T.setTop (mkF m pc' Ls (.int z :: st))) P) : own_Go p e below (T.setTop (mkF m pc Ls (.ref a :: st))) P := by
  obtain ⟨locs, X, eT, -⟩ := X
  subst hp
  obtain ⟨cl, A, -, S, N, -, -⟩ := V
  refine own_by (fun t ht => ?_) G
  refine X.arraylength B.1 (by rw [eT]; exact A.1) (State.isArrayOf_alike B.2.1.alike A.2.1) (g := mkF m pc Ls (.ref a :: st)) rfl rfl (hb B.2.2.2.2.2.2.2 d) _ ?_
  rw [len_of S N]; exact ht
theorem own_iaload (B : own_B p s m meth c Z own nm bytes maxL ret) (X : own_S p l e R s m args below meth c n0 T h cells slots) {a : Addr} {k : ClassId} {z : Int32} {vs : List Value} {dv : Value} {j : Int32} {v : Value} (V : Arv Z h a k .int z vs dv) (hj : ¬ j < 0 ∧ j < z) (hv : vs.getD j.toNatClampNeg dv = v) (d : decode bytes pc = .ok (.iaload, 1)) (hp : pc + 1 = pc')
    (G : own_Go p e below (T.setTop (mkF m pc' Ls (v :: st))) P) : own_Go p e below (T.setTop (mkF m pc Ls (.int j :: .ref a :: st))) P := by
  obtain ⟨locs, X, eT, -⟩ := X
  subst hp
  obtain ⟨cl, A, -, S, N, H, -⟩ := V
  have hin := inb_of S hj
  exact own_by (fun t => X.iaload B.1 (j := j) (v := v) (by rw [eT]; exact A.1) (State.isArrayOf_alike B.2.1.alike A.2.1) A.2.2 hin (H.at hin hv) (g := mkF m pc Ls (.int j :: .ref a :: st)) rfl rfl (hb B.2.2.2.2.2.2.2 d) t) G
theorem own_iastore (B : own_B p s m meth c Z own nm bytes maxL ret) (X : own_S p l e R s m args below meth c n0 T h cells slots) {a : Addr} {k : ClassId} {z : Int32} {vs : List Value} {dv : Value} {j : Int32} {x x' : Int32} (V : Arv Z h a k .int z vs dv) (ge : n0 ≤ a) (hj : ¬ j < 0 ∧ j < z) (i : Nat) (hi : j.toNatClampNeg = i) (hl : i < vs.length) (hz : x = x') (d : decode bytes pc = .ok (.iastore, 1)) (hp : pc + 1 = pc')
    (G : ∀ T' h', own_S p l e R s m args below meth c n0 T' h' cells slots → Wr h h' a i (.int x') → Arv Z h' a k .int z (vs.set i (.int x')) dv → own_Go p e below (T'.setTop (mkF m pc' Ls st)) P) : own_Go p e below (T.setTop (mkF m pc Ls (.int x :: .int j :: .ref a :: st))) P := by
  obtain ⟨locs, X, eT, N0⟩ := X
  subst hp hi hz
  obtain ⟨cl, A, q, S, N, H, F⟩ := V
  have hin := inb_of S hj
  obtain ⟨T', h', X', e', W, st'⟩ := stI X B.1 B.2.1 eT A (j := j) hin (g := mkF m pc Ls (.int x :: .int j :: .ref a :: st)) rfl rfl (hb B.2.2.2.2.2.2.2 d)
  exact own_by st' (G T' h' ⟨_, X', e', Fr.snoc X' N0 ge⟩ W (Arv.set A q S N H F rfl W _ rfl hl))
theorem own_newarray (B : own_B p s m meth c Z own nm bytes maxL ret) (X : own_S p l e R s m args below meth c n0 T h cells slots) {aty : ArrayType} {t : FieldType} (w : (Cond.arrayClass t).before a0 Z = true) (d : decode bytes pc = .ok (.newarray aty, 2)) (hp : pc + 2 = pc') (hty : newarray.typeOf aty = t) {z : Int32} (hz : ¬ z < 0) (cap : Nat) (hcap : z.toNatClampNeg ≤ cap) (hbig : cap * 8 ≤ 536870912) {k' n' : Nat} (hk : cells + 1 = k') (hn : slots + cap = n') (hkR : k' ≤ R.cells) (hnR : n' ≤ R.slots) (ad : String) (had : "[" ++ (newarray.typeOf aty).toString = ad) (dv : Value) (hdv : defaultValue t = dv)
    (G : ∀ T' h' b k, own_S p l e R s m args below meth c n0 T' h' k' n' → b = h.size → Ext h h' → Arv Z h' b k t z [] dv → Exa Z h' b ad → own_Go p e below (T'.setTop (mkF m pc' Ls (.ref b :: st))) P) : own_Go p e below (T.setTop (mkF m pc Ls (.int z :: st))) P := by
  obtain ⟨locs, X, eT, N0⟩ := X
  subst hp hk hn hdv hty
  obtain ⟨T', h', kA, X', e', E, A, A', st'⟩ := newPE X B.1 B.2.1 w eT (g := mkF m pc Ls (.int z :: st)) rfl (hb B.2.2.2.2.2.2.2 d) rfl hz (cap := cap) hcap hbig hkR hnR had
  exact own_by st' (G T' h' _ kA ⟨_, X', e', N0⟩ rfl E (Arv.new A hz) A')
theorem own_new (B : own_B p s m meth c Z own nm bytes maxL ret) (X : own_S p l e R s m args below meth c n0 T h cells slots) {C : String} {i n : Nat} (w : (Cond.classLink own i C).before a0 Z = true) (wi : (Cond.instantiable C n).before a0 Z = true) (wz : (Cond.initialized C).before a0 Z = true) (d : decode bytes pc = .ok (.new i, 3)) (hp : pc + 3 = pc') {k' n' : Nat} (hk : cells + 1 = k') (hn : slots + n = n') (hkR : k' ≤ R.cells) (hnR : n' ≤ R.slots)
    (G : ∀ T' h' b, own_S p l e R s m args below meth c n0 T' h' k' n' → b = h.size → Ext h h' → Exa Z h' b C → (∀ {O f t : String} {ty : FieldType}, Laid Z a0 C O f t → parseFieldDescriptor t = some ty → Fld Z h' b O f t (defaultValue ty)) → own_Go p e below (T'.setTop (mkF m pc' Ls (.ref b :: st))) P) : own_Go p e below (T.setTop (mkF m pc Ls st)) P := by
  obtain ⟨locs, X, eT, N0⟩ := X
  subst hp hk hn
  obtain ⟨T', h', X', e', E, A, D, -, st'⟩ := newO X B.1 B.2.1 B.2.2.2.1 w wi wz eT (g := mkF m pc Ls st) rfl (hb B.2.2.2.2.2.2.2 d) hkR hnR
  exact own_by st' (G T' h' _ ⟨_, X', e', N0⟩ rfl E A D)
theorem own_objinit (B : own_B p s m meth c Z own nm bytes maxL ret) (X : own_S p l e R s m args below meth c n0 T h cells slots) {i : Nat} {a : Addr} (w1 : (Cond.methodLink own i Lib.objectInit).before a0 Z = true) (w2 : (Cond.instanceMethod Lib.objectInit).before a0 Z = true) (w3 : (Cond.code Lib.objectInit ⟨#[0xb1]⟩ 1 none).before a0 Z = true) (d : decode bytes pc = .ok (.invokespecial i, 3)) (hp : pc + 3 = pc') (hsz : Ls.size = maxL) (hf : 1 ≤ R.frames) (W : Nat) (hW : (st.map fun v => v.category).sum ≤ W) (hl : W + 12 ≤ R.locals)
    (G : ∀ T', own_S p l e R s m args below meth c n0 T' h cells slots → own_Go p e below (T'.setTop (mkF m pc' Ls st)) P) : own_Go p e below (T.setTop (mkF m pc Ls (.ref a :: st))) P := by
  obtain ⟨locs, X, eT, N0⟩ := X
  subst hp
  obtain ⟨T', X', e', st'⟩ := initO X B.1 B.2.1 B.2.2.2.1 w1 w2 w3 eT (g := mkF m pc Ls (.ref a :: st)) rfl (by rw [B.2.2.1]; exact hsz) rfl (hb B.2.2.2.2.2.2.2 d) hf (W := W) (by show 2 * 0 + _ ≤ _; omega) hl
  exact own_by st' (G T' ⟨_, X', e', N0⟩)
theorem own_getfield (B : own_B p s m meth c Z own nm bytes maxL ret) (X : own_S p l e R s m args below meth c n0 T h cells slots) {R0 O n t : String} {host : String} {i : Nat} {a : Addr} {v : Value} (w : (Cond.fieldLink own i R0 n t).before a0 Z = true ∨ (Cond.fieldLinkNest own i R0 n t host).before a0 Z = true) (via : Via Z R0 O n t) (F : Fld Z h a O n t v) (d : decode bytes pc = .ok (.getfield i, 3)) (hp : pc + 3 = pc')
    (G : ∀ T', own_S p l e R s m args below meth c n0 T' h cells slots → own_Go p e below (T'.setTop (mkF m pc' Ls (v :: st))) P) : own_Go p e below (T.setTop (mkF m pc Ls (.ref a :: st))) P := by
  obtain ⟨locs, X, eT, N0⟩ := X
  subst hp
  obtain ⟨T', X', e', st'⟩ := getF X B.1 B.2.1 B.2.2.2.1 w via eT F (g := mkF m pc Ls (.ref a :: st)) rfl rfl (hb B.2.2.2.2.2.2.2 d)
  exact own_by st' (G T' ⟨_, X', e', N0⟩)
theorem own_putfield (B : own_B p s m meth c Z own nm bytes maxL ret) (X : own_S p l e R s m args below meth c n0 T h cells slots) {R0 O n t C : String} {host : String} {i kk : Nat} {ty : FieldType} {a : Addr} {v old : Value} (w : (Cond.fieldLink own i R0 n t).before a0 Z = true ∨ (Cond.fieldLinkNest own i R0 n t host).before a0 Z = true) (via : Via Z R0 O n t) (F : Fld Z h a O n t old) (E : Exa Z h a C) (ge : n0 ≤ a) (L : (Cond.lays C O n t).before a0 Z = true ∨ ((Cond.laysFinal C O n t).before a0 Z = true ∧ own = O ∧ nm = "<init>")) (wi : (Cond.instantiable C kk).before a0 Z = true) (hty : parseFieldDescriptor t = some ty) (hn : narrow ty v = v) (hf : fits ty v = true) (d : decode bytes pc = .ok (.putfield i, 3)) (hp : pc + 3 = pc')
    (G : ∀ T' h', own_S p l e R s m args below meth c n0 T' h' cells slots → Wr h h' a (Jvm.RoadKit.slotOf Z O n t) v → Fld Z h' a O n t v → own_Go p e below (T'.setTop (mkF m pc' Ls st)) P) : own_Go p e below (T.setTop (mkF m pc Ls (v :: .ref a :: st))) P := by
  obtain ⟨locs, X, eT, N0⟩ := X
  subst hp
  obtain ⟨T', h', X', e', W, st'⟩ := putF X B.1 B.2.1 B.2.2.2.1 w via eT F E (L.imp id fun q => ⟨q.1, q.2.1, B.2.2.2.2.2.2.1.trans q.2.2⟩) wi hty hn hf (g := mkF m pc Ls (v :: .ref a :: st)) rfl rfl (hb B.2.2.2.2.2.2.2 d)
  exact own_by st' (G T' h' ⟨_, X', e', Fr.snoc X' N0 ge⟩ W (F.same W))
theorem own_arraycopy (B : own_B p s m meth c Z own nm bytes maxL ret) (X : own_S p l e R s m args below meth c n0 T h cells slots) {i : Nat} (w1 : (Cond.methodLink own i Jvm.Stand.acN).before a0 Z = true) (w2 : (Cond.native Jvm.Stand.acN).before a0 Z = true) (w3 : (Cond.static Jvm.Stand.acN).before a0 Z = true) (w4 : (Cond.initialized "java/lang/System").before a0 Z = true) {a b : Addr} {k k' : ClassId} {ty : FieldType} {z z' sp dp nn : Int32} {vs vd us rs : List Value} {dv dd : Value} (A : Arv Z h a k ty z vs dv) (A' : Arv Z h b k' ty z' vd dd) (hty : refKind ty = false) (ge : n0 ≤ b) (h1 : ¬ sp < 0) (h2 : ¬ dp < 0) (h3 : ¬ nn < 0) (h4 : sp.toNatClampNeg + nn.toNatClampNeg ≤ z.toNatClampNeg) (h5 : dp.toNatClampNeg + nn.toNatClampNeg ≤ z'.toNatClampNeg) (hus : us = (List.range nn.toNatClampNeg).map fun i => vs.getD (sp.toNatClampNeg + i) dv) (hl : dp.toNatClampNeg + nn.toNatClampNeg ≤ vd.length) (hrs : vd.take dp.toNatClampNeg ++ us ++ vd.drop (dp.toNatClampNeg + nn.toNatClampNeg) = rs) (d : decode bytes pc = .ok (.invokestatic i, 3)) (hp : pc + 3 = pc') (hsz : Ls.size = maxL) (hf : 1 ≤ R.frames) (W : Nat) (hW : (st.map fun v => v.category).sum ≤ W) (hlo : W + (nativeFrameWords "java/lang/System" "arraycopy" 5 + 11) ≤ R.locals)
    (G : ∀ T' h', own_S p l e R s m args below meth c n0 T' h' cells slots → Keep h h' [b] → Arv Z h' b k' ty z' rs dd → own_Go p e below (T'.setTop (mkF m pc' Ls st)) P) : own_Go p e below (T.setTop (mkF m pc Ls (.int nn :: .int dp :: .ref b :: .int sp :: .ref a :: st))) P := by
  obtain ⟨locs, X, eT, N0⟩ := X
  subst hp hrs
  obtain ⟨T', h', L, X', e', N', K, V, st'⟩ := cpA X B.1 B.2.1 B.2.2.2.1 w1 w2 w3 w4 eT A A' (Or.inl ⟨rfl, hty⟩) h1 h2 h3 h4 h5 hus hl N0 ge (g := mkF m pc Ls (.int nn :: .int dp :: .ref b :: .int sp :: .ref a :: st)) rfl (by rw [B.2.2.1]; exact hsz) rfl (hb B.2.2.2.2.2.2.2 d) hf (W := W) (by show 2 * 0 + _ ≤ _; omega) hlo
  exact own_by st' (G T' h' ⟨_, X', e', N'⟩ K V)
theorem own_retI (B : own_B p s m meth c Z own nm bytes maxL (some .int)) (X : own_S p l e R s m args below meth c n0 T h cells slots) {Q : Option Value → Heap → Prop} {k n : Nat} {z : Int32} (d : decode bytes pc = .ok (.ireturn, 1)) (hk : cells ≤ k) (hn : slots ≤ n) (hq : Q (some (.int z)) h) : own_Go p e below (T.setTop (mkF m pc Ls (.int z :: st))) (own_P s below n0 Q k n) := by
  obtain ⟨locs, X, eT, N0⟩ := X
  obtain ⟨fs, hr, hrun, hended, hW, hsame⟩ := X.leave (v := (some (.int z))) (fun h => by rw [B.2.2.2.2.1] at h; cases h) B.2.2.2.2.2.1
  exact ⟨_, _, retOut X B.1 B.2.2.2.2.1 rfl (Or.inl ⟨rfl, Or.inl rfl, _, rfl⟩) (hb B.2.2.2.2.2.2.2 d) hr, hrun, hended, _, _, rfl, ⟨N0, by show Q _ T.heap; rw [eT]; exact hq⟩, ⟨_, rfl⟩, hW, hsame.mono hk hn⟩
theorem own_retJ (B : own_B p s m meth c Z own nm bytes maxL (some .long)) (X : own_S p l e R s m args below meth c n0 T h cells slots) {Q : Option Value → Heap → Prop} {k n : Nat} {z : Int64} (d : decode bytes pc = .ok (.lreturn, 1)) (hk : cells ≤ k) (hn : slots ≤ n) (hq : Q (some (.long z)) h) : own_Go p e below (T.setTop (mkF m pc Ls (.long z :: st))) (own_P s below n0 Q k n) := by
  obtain ⟨locs, X, eT, N0⟩ := X
  obtain ⟨fs, hr, hrun, hended, hW, hsame⟩ := X.leave (v := (some (.long z))) (fun h => by rw [B.2.2.2.2.1] at h; cases h) B.2.2.2.2.2.1
  exact ⟨_, _, retOut X B.1 B.2.2.2.2.1 rfl (Or.inr (Or.inl ⟨rfl, rfl, _, rfl⟩)) (hb B.2.2.2.2.2.2.2 d) hr, hrun, hended, _, _, rfl, ⟨N0, by show Q _ T.heap; rw [eT]; exact hq⟩, ⟨_, rfl⟩, hW, hsame.mono hk hn⟩
theorem own_retN {t : FieldType} (B : own_B p s m meth c Z own nm bytes maxL (some t)) (X : own_S p l e R s m args below meth c n0 T h cells slots) {Q : Option Value → Heap → Prop} {k n : Nat} {z z' : Int32} (ht : t = .boolean ∨ t = .byte ∨ t = .char ∨ t = .short) (hz : nar t z = z') (d : decode bytes pc = .ok (.ireturn, 1)) (hk : cells ≤ k) (hn : slots ≤ n) (hq : Q (some (.int z')) h) : own_Go p e below (T.setTop (mkF m pc Ls (.int z :: st))) (own_P s below n0 Q k n) := by
  subst hz
  obtain ⟨locs, X, eT, N0⟩ := X
  obtain ⟨fs, hr, hrun, hended, hW, hsame⟩ := X.leave (v := (some (.int (nar t z)))) (fun h => by rw [B.2.2.2.2.1] at h; cases h) B.2.2.2.2.2.1
  exact ⟨_, _, retN X B.1 B.2.2.2.2.1 ht (hb B.2.2.2.2.2.2.2 d) hr, hrun, hended, _, _, rfl, ⟨N0, by show Q _ T.heap; rw [eT]; exact hq⟩, ⟨_, rfl⟩, hW, hsame.mono hk hn⟩
theorem own_retA {t : FieldType} (B : own_B p s m meth c Z own nm bytes maxL (some t)) (X : own_S p l e R s m args below meth c n0 T h cells slots) {Q : Option Value → Heap → Prop} {k n : Nat} {w : Value} (ht : t.isReference = true) (hw : w.isRef = true) (hnw : narrow t w = w) (d : decode bytes pc = .ok (.areturn, 1)) (hk : cells ≤ k) (hn : slots ≤ n) (hq : Q (some w) h) : own_Go p e below (T.setTop (mkF m pc Ls (w :: st))) (own_P s below n0 Q k n) := by
  obtain ⟨locs, X, eT, N0⟩ := X
  obtain ⟨fs, hr, hrun, hended, hW, hsame⟩ := X.leave (v := (some w)) (fun h => by rw [B.2.2.2.2.1] at h; cases h) B.2.2.2.2.2.1
  exact ⟨_, _, retOut X B.1 B.2.2.2.2.1 hnw (Or.inr (Or.inr (Or.inr (Or.inr ⟨rfl, ht, hw⟩)))) (hb B.2.2.2.2.2.2.2 d) hr, hrun, hended, _, _, rfl, ⟨N0, by show Q _ T.heap; rw [eT]; exact hq⟩, ⟨_, rfl⟩, hW, hsame.mono hk hn⟩
theorem own_ret (B : own_B p s m meth c Z own nm bytes maxL none) (X : own_S p l e R s m args below meth c n0 T h cells slots) {Q : Option Value → Heap → Prop} {k n : Nat} (d : decode bytes pc = .ok (.return_, 1)) (hk : cells ≤ k) (hn : slots ≤ n) (hq : Q none h) : own_Go p e below (T.setTop (mkF m pc Ls [])) (own_P s below n0 Q k n) := by
  obtain ⟨locs, X, eT, N0⟩ := X
  obtain ⟨fs, hr, hrun, hended, hW, hsame⟩ := X.leave (v := none) (fun _ => rfl) B.2.2.2.2.2.1
  exact ⟨_, _, X.returnOut B.1 B.2.2.2.2.1 (hb B.2.2.2.2.2.2.2 d) hr, hrun, hended, _, _, rfl, ⟨N0, by show Q _ T.heap; rw [eT]; exact hq⟩, ⟨_, rfl⟩, hW, hsame.mono hk hn⟩
theorem own_enter {y : MethodName} {rm : Room} {ws : List Jvm.Cond} {as' : Array Value} {Q : Option Value → Heap → Prop} {F : MethodId → JFrame} (hpl : plainFor y = true) (hF : ∀ m, entryFrame m as' maxL = F m)
    (body : ∀ p e s m below meth c s₁, own_B p s m meth c Z y.cls y.name bytes maxL ret → own_S p l e rm s m as' below meth c n0 s₁ h0 0 0 → own_Go p e below (s₁.setTop (F m)) (own_P s below n0 Q rm.cells rm.slots)) :
    MetFree l y (head1 (Jvm.Cond.code y bytes maxL ret :: ws) rm) (fun a U => a = as' ∧ Z.Warmed39 U.vm ∧ U.heap = h0) (fun _ _ _ _ _ => True) (fun _ U o U' => ∃ v L, o = .returned v ∧ (Fr n0 L ∧ Q v U'.heap) ∧ FrameEnd U o U' L rm.cells rm.slots) := by
  refine MetFree.of_bodySF hpl hisR ?_
  intro p e s m args below meth c s₁ Bd hml0 hP hK
  obtain ⟨rfl, hZ, hh⟩ := hP
  have e0 : s₁.heap = h0 := by rw [← hh, Bd.state]; rfl
  have nm := (name_of_methodNamed Bd.named Bd.method).1
  obtain ⟨a, o, h1, h2⟩ := body p e s m below meth c s₁ ⟨Bd.exec, hZ, hml0, findClass_of_methodNamed Bd.named, Bd.returns, Bd.notSynchronized, nm, Bd.bytes⟩ ⟨[], Stand.of_body Bd, e0, Fr.nil n0⟩
  exact ⟨a, o, castTop (hF m) h1, h2⟩
theorem own_callS (B : own_B p s m meth c Z own nm bytes maxL ret) (X : own_S p l e R s m args below meth c n0 T h cells slots) {i : Nat} {y : MethodName} {yb : ByteArray} {yl : Nat} {yr : Option FieldType} (w1 : (Cond.methodLink own i y).before a0 Z = true) (w2 : (Cond.static y).before a0 Z = true) (w3 : (Cond.initialized y.cls).before a0 Z = true) (w4 : (Cond.code y yb yl yr).before a0 Z = true) (hy : y.cls ≠ "java/lang/invoke/MethodHandle" ∧ y.cls ≠ "java/lang/invoke/VarHandle") {rm : Room} {Q : Option Value → Heap → Prop} (argsL rest : List Value)
    (hM : MetFree l y (head1 [Jvm.Cond.code y yb yl yr] rm) (fun b U => b = argsL.toArray ∧ Z.Warmed39 U.vm ∧ U.heap = h) (fun _ _ _ _ _ => True) (fun _ U o U' => ∃ v L, o = .returned v ∧ (Fr n0 L ∧ Q v U'.heap) ∧ FrameEnd U o U' L rm.cells rm.slots))
    (W : Nat) (hf : rm.frames + 1 ≤ R.frames) (hl : W + (yl + 11) + rm.locals ≤ R.locals) (hsz : Ls.size = maxL) {ps : List FieldType} {rt : Option FieldType} (hpd : parseMethodDescriptor y.desc = some ⟨ps, rt⟩) (hln : argsL.length = ps.length) (hst : st = argsL.reverse ++ rest) (hW : (rest.map fun v => v.category).sum ≤ W) (d : decode bytes pc = .ok (.invokestatic i, 3)) (hp : pc + 3 = pc') {k' n' : Nat} (hk : cells + rm.cells = k') (hn : slots + rm.slots = n') (hkR : k' ≤ R.cells) (hnR : n' ≤ R.slots)
    (G : ∀ T' v h', own_S p l e R s m args below meth c n0 T' h' k' n' → Q v h' → own_Go p e below (T'.setTop (mkF m pc' Ls (v.toList ++ rest))) P) : own_Go p e below (T.setTop (mkF m pc Ls st)) P := by
  obtain ⟨locs, X, eT, N0⟩ := X
  subst hp hk hn
  have bk := backOf (p := p) (e := e) (below := below) (args := args) (len := 3) (W := W) (Q := fun v h' L => Fr n0 L ∧ Q v h') hM B.2.1 w4 w3 hf hl
  obtain ⟨v, vm₁, ⟨T', L', k1, n1⟩, hW1, X', ⟨Lc, hQ, l1, y1, z1⟩, stp⟩ := Jvm.LawKit.callS X B.1 (y := y) B.2.2.2.1 (mvT B.2.1 w1) (mvT B.2.1 w2) (mvT B.2.1 w3) (mvT B.2.1 w4) hy bk (g := mkF m pc Ls st) rfl (by rw [B.2.2.1]; exact hsz) (argsL := argsL) (rest := rest) (lenOf hpd hln) hst (by show 2 * 0 + _ ≤ _; omega) (hb B.2.2.2.2.2.2.2 d) (fun _ _ => ⟨rfl, eT, hkR, hnR⟩)
  dsimp only [Pt.U, Pt.locs, Pt.cells, Pt.slots] at X' l1 y1 z1 stp hQ
  subst l1 y1 z1
  exact own_by stp (G T' v _ ⟨_, X', rfl, N0.app hQ.1⟩ hQ.2)
theorem own_callI (B : own_B p s m meth c Z own nm bytes maxL ret) (X : own_S p l e R s m args below meth c n0 T h cells slots) {i : Nat} {y : MethodName} {yb : ByteArray} {yl : Nat} {yr : Option FieldType} (hyn : y.name = "<init>") (hyr : yr = none) (w1 : (Cond.methodLink own i y).before a0 Z = true) (w2 : (Cond.instanceMethod y).before a0 Z = true) (w3 : (Cond.initialized y.cls).before a0 Z = true) (w4 : (Cond.code y yb yl yr).before a0 Z = true) (hy : y.cls ≠ "java/lang/invoke/MethodHandle" ∧ y.cls ≠ "java/lang/invoke/VarHandle") {rm : Room} {Q : Option Value → Heap → Prop} {a : Addr} (argsL rest : List Value)
    (hM : MetFree l y (head1 [Jvm.Cond.code y yb yl yr] rm) (fun b U => b = (Value.ref a :: argsL).toArray ∧ Z.Warmed39 U.vm ∧ U.heap = h) (fun _ _ _ _ _ => True) (fun _ U o U' => ∃ v L, o = .returned v ∧ (Fr n0 L ∧ Q v U'.heap) ∧ FrameEnd U o U' L rm.cells rm.slots))
    (W : Nat) (hf : rm.frames + 1 ≤ R.frames) (hl : W + (yl + 11) + rm.locals ≤ R.locals) (hsz : Ls.size = maxL) {ps : List FieldType} {rt : Option FieldType} (hpd : parseMethodDescriptor y.desc = some ⟨ps, rt⟩) (hln : argsL.length = ps.length) (hst : st = argsL.reverse ++ .ref a :: rest) (hW : (rest.map fun v => v.category).sum ≤ W) (d : decode bytes pc = .ok (.invokespecial i, 3)) (hp : pc + 3 = pc') {k' n' : Nat} (hk : cells + rm.cells = k') (hn : slots + rm.slots = n') (hkR : k' ≤ R.cells) (hnR : n' ≤ R.slots)
    (G : ∀ T' v h', own_S p l e R s m args below meth c n0 T' h' k' n' → Q v h' → own_Go p e below (T'.setTop (mkF m pc' Ls (v.toList ++ rest))) P) : own_Go p e below (T.setTop (mkF m pc Ls st)) P := by
  obtain ⟨locs, X, eT, N0⟩ := X
  subst hp hk hn
  have bk := backOf (p := p) (e := e) (below := below) (args := args) (len := 3) (W := W) (Q := fun v h' L => Fr n0 L ∧ Q v h') hM B.2.1 w4 w3 hf hl
  subst hyr
  obtain ⟨v, vm₁, ⟨T', L', k1, n1⟩, hW1, X', ⟨Lc, hQ, l1, y1, z1⟩, stp⟩ := X.specialBack B.1 (y := y) hyn B.2.2.2.1 (mvT B.2.1 w1) (mvT B.2.1 w2) (mvT B.2.1 w4) hy bk (g := mkF m pc Ls st) rfl (by rw [B.2.2.1]; exact hsz) (Steps.refl _) (a := a) (argsL := argsL) (rest := rest) (lenOf hpd hln) hst (by show 2 * 0 + _ ≤ _; omega) (hb B.2.2.2.2.2.2.2 d) (fun _ _ => ⟨rfl, eT, hkR, hnR⟩)
  dsimp only [Pt.U, Pt.locs, Pt.cells, Pt.slots] at X' l1 y1 z1 stp hQ
  subst l1 y1 z1
  exact own_by (fun _ k => stp.trans k) (G T' v _ ⟨_, X', rfl, N0.app hQ.1⟩ hQ.2)
theorem own_callV (B : own_B p s m meth c Z own nm bytes maxL ret) (X : own_S p l e R s m args below meth c n0 T h cells slots) {i : Nat} {a : Addr} {y : MethodName} {yb : ByteArray} {yl : Nat} {yr : Option FieldType} {C : String} (w1 : (Cond.methodLink own i y).before a0 Z = true) (w2 : (Cond.declares y).before a0 Z = true) (w5 : (Cond.selects C y y).before a0 Z = true) (w6 : (Cond.instanceMethod y).before a0 Z = true) (w3 : (Cond.initialized y.cls).before a0 Z = true) (w4 : (Cond.code y yb yl yr).before a0 Z = true) (E : Exa Z h a C) (hy : y.cls ≠ "java/lang/invoke/MethodHandle" ∧ y.cls ≠ "java/lang/invoke/VarHandle") {rm : Room} {Q : Option Value → Heap → Prop} (argsL rest : List Value)
    (hM : MetFree l y (head1 [Jvm.Cond.code y yb yl yr] rm) (fun b U => b = (Value.ref a :: argsL).toArray ∧ Z.Warmed39 U.vm ∧ U.heap = h) (fun _ _ _ _ _ => True) (fun _ U o U' => ∃ v L, o = .returned v ∧ (Fr n0 L ∧ Q v U'.heap) ∧ FrameEnd U o U' L rm.cells rm.slots))
    (W : Nat) (hf : rm.frames + 1 ≤ R.frames) (hl : W + (yl + 11) + rm.locals ≤ R.locals) (hsz : Ls.size = maxL) {ps : List FieldType} {rt : Option FieldType} (hpd : parseMethodDescriptor y.desc = some ⟨ps, rt⟩) (hln : argsL.length = ps.length) (hst : st = argsL.reverse ++ .ref a :: rest) (hW : (rest.map fun v => v.category).sum ≤ W) (d : decode bytes pc = .ok (.invokevirtual i, 3)) (hp : pc + 3 = pc') {k' n' : Nat} (hk : cells + rm.cells = k') (hn : slots + rm.slots = n') (hkR : k' ≤ R.cells) (hnR : n' ≤ R.slots)
    (G : ∀ T' v h', own_S p l e R s m args below meth c n0 T' h' k' n' → Q v h' → own_Go p e below (T'.setTop (mkF m pc' Ls (v.toList ++ rest))) P) : own_Go p e below (T.setTop (mkF m pc Ls st)) P := by
  obtain ⟨locs, X, eT, N0⟩ := X
  subst hp hk hn
  have bk := backOf (p := p) (e := e) (below := below) (args := args) (len := 3) (W := W) (Q := fun v h' L => Fr n0 L ∧ Q v h') hM B.2.1 w4 w3 hf hl
  obtain ⟨cq, kq, qa, qb, qc⟩ := isOf B.2.1 eT E
  obtain ⟨v, vm₁, ⟨T', L', k1, n1⟩, hW1, X', ⟨Lc, hQ, l1, y1, z1⟩, stp⟩ := X.virtualBack B.1 (y := y) (z := y) B.2.2.2.1 (mvT B.2.1 w1) (mvT B.2.1 w2) (notFace_of_selects (args := #[]) (mvT B.2.1 w5)) (mvT B.2.1 w5) (mvT B.2.1 w6) hy bk qa qc (g := mkF m pc Ls st) rfl (by rw [B.2.2.1]; exact hsz) (Steps.refl _) (argsL := argsL) (rest := rest) (lenOf hpd hln) hst (by show 2 * 0 + _ ≤ _; omega) (hb B.2.2.2.2.2.2.2 d) (fun _ _ => ⟨rfl, eT, hkR, hnR⟩)
  dsimp only [Pt.U, Pt.locs, Pt.cells, Pt.slots] at X' l1 y1 z1 stp hQ
  subst l1 y1 z1
  exact own_by (fun _ k => stp.trans k) (G T' v _ ⟨_, X', rfl, N0.app hQ.1⟩ hQ.2)
theorem own_sz {h1 : Heap} {ws : List Addr} {b : Addr} (K : Keep h0 h1 ws) (g : b = h1.size) : h0.size ≤ b := g ▸ K.1
theorem own_ne {h1 : Heap} {x b : Addr} (q : x < h1.size) (g : b = h1.size) : x ≠ b := fun u => by rw [u, g] at q; exact Nat.lt_irrefl _ q
theorem own_ne' {h1 : Heap} {x b : Addr} (q : x < h1.size) (g : h1.size ≤ b) : x ≠ b := Nat.ne_of_lt (Nat.lt_of_lt_of_le q g)
end OwnKit
section OwnNum
theorem own_add0 (x : Int32) : x + (0 : Int32) = x := Int32.toBitVec_inj.mp (by simp)
theorem own_w {a0 : Array Value} {Z : State} (hw : ∀ d ∈ tables_1, d.before a0 Z = true) (i : Nat) {d : Jvm.Cond} (hd : tables_1[i]? = some d) : d.before a0 Z = true := hw _ (List.mem_of_getElem? hd)
theorem own_lt {x y : Int32} (h : x < y) : x.toInt < y.toInt := Int32.lt_iff_toInt_lt.mp h
theorem own_nlt {x y : Int32} (h : ¬ x < y) : ¬ x.toInt < y.toInt := fun q => h (Int32.lt_iff_toInt_lt.mpr q)
theorem own_ltI {x y : Int32} (h : x.toInt < y.toInt) : x < y := Int32.lt_iff_toInt_lt.mpr h
theorem own_nltI {x y : Int32} (h : ¬ x.toInt < y.toInt) : ¬ x < y := fun q => h (Int32.lt_iff_toInt_lt.mp q)
theorem own_eqI {x y : Int32} (h : x.toInt = y.toInt) : x = y := Int32.toInt_inj.mp h
theorem own_ltIL {x y : Int64} (h : x.toInt < y.toInt) : x < y := Int64.lt_iff_toInt_lt.mpr h
theorem own_nltIL {x y : Int64} (h : ¬ x.toInt < y.toInt) : ¬ x < y := fun q => h (Int64.lt_iff_toInt_lt.mp q)
theorem own_o_iadd {x y z : Int32} (h : x + y = z) : (z.toInt - (x.toInt + y.toInt)) % 4294967296 = 0 := h ▸ c_iadd x y
theorem own_o_ladd {x y z : Int64} (h : x + y = z) : (z.toInt - (x.toInt + y.toInt)) % 18446744073709551616 = 0 := h ▸ c_ladd x y
theorem own_o_mask {x m z : Int32} (h : x &&& m = z) (k : Nat) (hk : k ≤ 31) (hm : m.toBitVec.toNat = 2 ^ k - 1) : z.toInt = x.toInt % (2 ^ k : Nat) := h ▸ c_mask x m k hk hm
theorem own_o_maskL {x m z : Int64} (h : x &&& m = z) (k : Nat) (hk : k ≤ 63) (hm : m.toBitVec.toNat = 2 ^ k - 1) : z.toInt = x.toInt % (2 ^ k : Nat) := h ▸ c_maskL x m k hk hm
theorem own_o_irem {x y z : Int32} (h : x % y = z) (d : Int) (hy : y.toInt = d) : (0 ≤ x.toInt → z.toInt = x.toInt % d) ∧ (x.toInt < 0 → z.toInt = -((-x.toInt) % d)) := h ▸ c_irem x y d hy
theorem own_o_i2l {x : Int32} {z : Int64} (h : x.toInt64 = z) : z.toInt = x.toInt := h ▸ c_i2l x
theorem own_o_l2i {x : Int64} {z : Int32} (h : x.toInt32 = z) : (z.toInt - x.toInt) % 4294967296 = 0 := h ▸ c_l2i x
theorem own_lcm {x y : Int64} {z : Int32} (h : lcmpW x y = z) {P : Int32 → Prop} (q : P (lcmpW x y)) : P z := h ▸ q
end OwnNum

theorem d1_0 : decode method_3_code 0 = .ok (.iload_n 0, 1) := by decide +kernel
theorem d1_1 : decode method_3_code 1 = .ok (.i2l, 1) := by decide +kernel
theorem d1_2 : decode method_3_code 2 = .ok (.iload_n 1, 1) := by decide +kernel
theorem d1_3 : decode method_3_code 3 = .ok (.i2l, 1) := by decide +kernel
theorem d1_4 : decode method_3_code 4 = .ok (.ldc2_w 30, 3) := by decide +kernel
theorem d1_7 : decode method_3_code 7 = .ok (.land, 1) := by decide +kernel
theorem d1_8 : decode method_3_code 8 = .ok (.ladd, 1) := by decide +kernel
theorem d1_9 : decode method_3_code 9 = .ok (.lstore_n 2, 1) := by decide +kernel
theorem d1_10 : decode method_3_code 10 = .ok (.lload_n 2, 1) := by decide +kernel
theorem d1_11 : decode method_3_code 11 = .ok (.ldc2_w 34, 3) := by decide +kernel
theorem d1_14 : decode method_3_code 14 = .ok (.invokestatic 36, 3) := by decide +kernel
theorem d2_0 : decode jdk_29_method_70_code 0 = .ok (.lload_n 0, 1) := by decide +kernel
theorem d2_1 : decode jdk_29_method_70_code 1 = .ok (.lload_n 2, 1) := by decide +kernel
theorem d2_2 : decode jdk_29_method_70_code 2 = .ok (.lcmp, 1) := by decide +kernel
theorem d2_3 : decode jdk_29_method_70_code 3 = .ok (.ifCond .gt 7, 3) := by decide +kernel
theorem d2_10 : decode jdk_29_method_70_code 10 = .ok (.lload_n 2, 1) := by decide +kernel
theorem d2_11 : decode jdk_29_method_70_code 11 = .ok (.lreturn, 1) := by decide +kernel
theorem d2_6 : decode jdk_29_method_70_code 6 = .ok (.lload_n 0, 1) := by decide +kernel
theorem d2_7 : decode jdk_29_method_70_code 7 = .ok (.goto 4, 3) := by decide +kernel
theorem pd_0 : parseMethodDescriptor "(JJ)J" = some ⟨[.long, .long], some .long⟩ := by decide +kernel
theorem d1_17 : decode method_3_code 17 = .ok (.l2i, 1) := by decide +kernel
theorem d1_18 : decode method_3_code 18 = .ok (.ireturn, 1) := by decide +kernel
theorem pn_0 : plainName "com/example/bagwise/bagwise/IntListFirstAtLeastPinLaw" = true := by first | (simp [plainName, overriddenIn]; done) | decide +kernel
theorem pd_1 : parseMethodDescriptor "(II)I" = some ⟨[.int, .int], some .int⟩ := by decide +kernel
theorem d3_0 : decode prog_20_method_2_code 0 = .ok (.aload_n 0, 1) := by decide +kernel
theorem d3_1 : decode prog_20_method_2_code 1 = .ok (.invokespecial 7, 3) := by decide +kernel
theorem d3_4 : decode prog_20_method_2_code 4 = .ok (.aload_n 0, 1) := by decide +kernel
theorem d3_5 : decode prog_20_method_2_code 5 = .ok (.iload_n 1, 1) := by decide +kernel
theorem d3_6 : decode prog_20_method_2_code 6 = .ok (.iconst 1, 1) := by decide +kernel
theorem d3_7 : decode prog_20_method_2_code 7 = .ok (.invokestatic 12, 3) := by decide +kernel
theorem d5_0 : decode jdk_29_method_65_code 0 = .ok (.iload_n 0, 1) := by decide +kernel
theorem d5_1 : decode jdk_29_method_65_code 1 = .ok (.iload_n 1, 1) := by decide +kernel
theorem d5_2 : decode jdk_29_method_65_code 2 = .ok (.if_icmp .lt 7, 3) := by decide +kernel
theorem d5_5 : decode jdk_29_method_65_code 5 = .ok (.iload_n 0, 1) := by decide +kernel
theorem d5_6 : decode jdk_29_method_65_code 6 = .ok (.goto 4, 3) := by decide +kernel
theorem d5_10 : decode jdk_29_method_65_code 10 = .ok (.ireturn, 1) := by decide +kernel
theorem d3_10 : decode prog_20_method_2_code 10 = .ok (.newarray .int, 2) := by decide +kernel
theorem d3_12 : decode prog_20_method_2_code 12 = .ok (.putfield 18, 3) := by decide +kernel
theorem d3_15 : decode prog_20_method_2_code 15 = .ok (.return_, 1) := by decide +kernel
theorem pn_1 : plainName "com/example/bagwise/bagwise/IntList" = true := by first | (simp [plainName, overriddenIn]; done) | decide +kernel
theorem pd_2 : parseMethodDescriptor "(I)V" = some ⟨[.int], none⟩ := by decide +kernel
theorem d6_0 : decode method_4_code 0 = .ok (.iload_n 0, 1) := by decide +kernel
theorem d6_1 : decode method_4_code 1 = .ok (.ifCond .eq 10, 3) := by decide +kernel
theorem d6_11 : decode method_4_code 11 = .ok (.iconst 0, 1) := by decide +kernel
theorem d6_12 : decode method_4_code 12 = .ok (.ireturn, 1) := by decide +kernel
theorem pd_3 : parseMethodDescriptor "(ZII)I" = some ⟨[.boolean, .int, .int], some .int⟩ := by decide +kernel
theorem d7_0 : decode prog_20_method_7_code 0 = .ok (.iconst 0, 1) := by decide +kernel
theorem d7_1 : decode prog_20_method_7_code 1 = .ok (.istore_n 2, 1) := by decide +kernel
theorem d7_2 : decode prog_20_method_7_code 2 = .ok (.aload_n 0, 1) := by decide +kernel
theorem d7_3 : decode prog_20_method_7_code 3 = .ok (.getfield 22, 3) := by decide +kernel
theorem d7_6 : decode prog_20_method_7_code 6 = .ok (.istore_n 3, 1) := by decide +kernel
theorem d7_7 : decode prog_20_method_7_code 7 = .ok (.iload_n 2, 1) := by decide +kernel
theorem d7_8 : decode prog_20_method_7_code 8 = .ok (.iload_n 3, 1) := by decide +kernel
theorem d7_9 : decode prog_20_method_7_code 9 = .ok (.if_icmp .ge 35, 3) := by decide +kernel
theorem d7_44 : decode prog_20_method_7_code 44 = .ok (.iload_n 2, 1) := by decide +kernel
theorem d7_45 : decode prog_20_method_7_code 45 = .ok (.ireturn, 1) := by decide +kernel
theorem pd_4 : parseMethodDescriptor "(I)I" = some ⟨[.int], some .int⟩ := by decide +kernel
theorem d8_0 : decode prog_20_method_3_code 0 = .ok (.aload_n 0, 1) := by decide +kernel
theorem d8_1 : decode prog_20_method_3_code 1 = .ok (.getfield 22, 3) := by decide +kernel
theorem d8_4 : decode prog_20_method_3_code 4 = .ok (.aload_n 0, 1) := by decide +kernel
theorem d8_5 : decode prog_20_method_3_code 5 = .ok (.getfield 18, 3) := by decide +kernel
theorem d8_8 : decode prog_20_method_3_code 8 = .ok (.arraylength, 1) := by decide +kernel
theorem d8_9 : decode prog_20_method_3_code 9 = .ok (.if_icmp .ne 20, 3) := by decide +kernel
theorem d8_29 : decode prog_20_method_3_code 29 = .ok (.aload_n 0, 1) := by decide +kernel
theorem d8_30 : decode prog_20_method_3_code 30 = .ok (.getfield 18, 3) := by decide +kernel
theorem d8_33 : decode prog_20_method_3_code 33 = .ok (.aload_n 0, 1) := by decide +kernel
theorem d8_34 : decode prog_20_method_3_code 34 = .ok (.dup, 1) := by decide +kernel
theorem d8_35 : decode prog_20_method_3_code 35 = .ok (.getfield 22, 3) := by decide +kernel
theorem d8_38 : decode prog_20_method_3_code 38 = .ok (.dup_x1, 1) := by decide +kernel
theorem d8_39 : decode prog_20_method_3_code 39 = .ok (.iconst 1, 1) := by decide +kernel
theorem d8_40 : decode prog_20_method_3_code 40 = .ok (.iadd, 1) := by decide +kernel
theorem d8_41 : decode prog_20_method_3_code 41 = .ok (.putfield 22, 3) := by decide +kernel
theorem d8_44 : decode prog_20_method_3_code 44 = .ok (.iload_n 1, 1) := by decide +kernel
theorem d8_45 : decode prog_20_method_3_code 45 = .ok (.iastore, 1) := by decide +kernel
theorem d8_46 : decode prog_20_method_3_code 46 = .ok (.return_, 1) := by decide +kernel
theorem d6_4 : decode method_4_code 4 = .ok (.iload_n 1, 1) := by decide +kernel
theorem d6_5 : decode method_4_code 5 = .ok (.iload_n 2, 1) := by decide +kernel
theorem d6_6 : decode method_4_code 6 = .ok (.if_icmp .ge 5, 3) := by decide +kernel
theorem d6_9 : decode method_4_code 9 = .ok (.iconst 1, 1) := by decide +kernel
theorem d6_10 : decode method_4_code 10 = .ok (.ireturn, 1) := by decide +kernel
theorem d7_12 : decode prog_20_method_7_code 12 = .ok (.iload_n 2, 1) := by decide +kernel
theorem d7_13 : decode prog_20_method_7_code 13 = .ok (.iload_n 3, 1) := by decide +kernel
theorem d7_14 : decode prog_20_method_7_code 14 = .ok (.iadd, 1) := by decide +kernel
theorem d7_15 : decode prog_20_method_7_code 15 = .ok (.iconst 1, 1) := by decide +kernel
theorem d7_16 : decode prog_20_method_7_code 16 = .ok (.iushr, 1) := by decide +kernel
theorem d7_17 : decode prog_20_method_7_code 17 = .ok (.istore 4, 2) := by decide +kernel
theorem d7_19 : decode prog_20_method_7_code 19 = .ok (.aload_n 0, 1) := by decide +kernel
theorem d7_20 : decode prog_20_method_7_code 20 = .ok (.getfield 18, 3) := by decide +kernel
theorem d7_23 : decode prog_20_method_7_code 23 = .ok (.iload 4, 2) := by decide +kernel
theorem d7_25 : decode prog_20_method_7_code 25 = .ok (.iaload, 1) := by decide +kernel
theorem d7_26 : decode prog_20_method_7_code 26 = .ok (.iload_n 1, 1) := by decide +kernel
theorem d7_27 : decode prog_20_method_7_code 27 = .ok (.if_icmp .ge 11, 3) := by decide +kernel
theorem d7_30 : decode prog_20_method_7_code 30 = .ok (.iload 4, 2) := by decide +kernel
theorem d7_32 : decode prog_20_method_7_code 32 = .ok (.iconst 1, 1) := by decide +kernel
theorem d7_33 : decode prog_20_method_7_code 33 = .ok (.iadd, 1) := by decide +kernel
theorem d7_34 : decode prog_20_method_7_code 34 = .ok (.istore_n 2, 1) := by decide +kernel
theorem d7_35 : decode prog_20_method_7_code 35 = .ok (.goto 6, 3) := by decide +kernel
theorem d7_41 : decode prog_20_method_7_code 41 = .ok (.goto (-34), 3) := by decide +kernel
theorem d7_38 : decode prog_20_method_7_code 38 = .ok (.iload 4, 2) := by decide +kernel
theorem d7_40 : decode prog_20_method_7_code 40 = .ok (.istore_n 3, 1) := by decide +kernel
theorem d8_12 : decode prog_20_method_3_code 12 = .ok (.aload_n 0, 1) := by decide +kernel
theorem d8_13 : decode prog_20_method_3_code 13 = .ok (.aload_n 0, 1) := by decide +kernel
theorem d8_14 : decode prog_20_method_3_code 14 = .ok (.getfield 18, 3) := by decide +kernel
theorem d8_17 : decode prog_20_method_3_code 17 = .ok (.aload_n 0, 1) := by decide +kernel
theorem d8_18 : decode prog_20_method_3_code 18 = .ok (.getfield 22, 3) := by decide +kernel
theorem d8_21 : decode prog_20_method_3_code 21 = .ok (.iconst 2, 1) := by decide +kernel
theorem d8_22 : decode prog_20_method_3_code 22 = .ok (.imul, 1) := by decide +kernel
theorem d8_23 : decode prog_20_method_3_code 23 = .ok (.invokestatic 26, 3) := by decide +kernel
theorem d9_0 : decode jdk_65_method_123_code 0 = .ok (.iload_n 1, 1) := by decide +kernel
theorem d9_1 : decode jdk_65_method_123_code 1 = .ok (.aload_n 0, 1) := by decide +kernel
theorem d9_2 : decode jdk_65_method_123_code 2 = .ok (.arraylength, 1) := by decide +kernel
theorem d9_3 : decode jdk_65_method_123_code 3 = .ok (.if_icmp .ne 11, 3) := by decide +kernel
theorem d9_14 : decode jdk_65_method_123_code 14 = .ok (.iload_n 1, 1) := by decide +kernel
theorem d9_15 : decode jdk_65_method_123_code 15 = .ok (.newarray .int, 2) := by decide +kernel
theorem d9_17 : decode jdk_65_method_123_code 17 = .ok (.astore_n 2, 1) := by decide +kernel
theorem d9_18 : decode jdk_65_method_123_code 18 = .ok (.aload_n 0, 1) := by decide +kernel
theorem d9_19 : decode jdk_65_method_123_code 19 = .ok (.iconst 0, 1) := by decide +kernel
theorem d9_20 : decode jdk_65_method_123_code 20 = .ok (.aload_n 2, 1) := by decide +kernel
theorem d9_21 : decode jdk_65_method_123_code 21 = .ok (.iconst 0, 1) := by decide +kernel
theorem d9_22 : decode jdk_65_method_123_code 22 = .ok (.aload_n 0, 1) := by decide +kernel
theorem d9_23 : decode jdk_65_method_123_code 23 = .ok (.arraylength, 1) := by decide +kernel
theorem d9_24 : decode jdk_65_method_123_code 24 = .ok (.iload_n 1, 1) := by decide +kernel
theorem d9_25 : decode jdk_65_method_123_code 25 = .ok (.invokestatic 304, 3) := by decide +kernel
theorem d10_0 : decode jdk_29_method_69_code 0 = .ok (.iload_n 0, 1) := by decide +kernel
theorem d10_1 : decode jdk_29_method_69_code 1 = .ok (.iload_n 1, 1) := by decide +kernel
theorem d10_2 : decode jdk_29_method_69_code 2 = .ok (.if_icmp .gt 7, 3) := by decide +kernel
theorem d10_5 : decode jdk_29_method_69_code 5 = .ok (.iload_n 0, 1) := by decide +kernel
theorem d10_6 : decode jdk_29_method_69_code 6 = .ok (.goto 4, 3) := by decide +kernel
theorem d10_10 : decode jdk_29_method_69_code 10 = .ok (.ireturn, 1) := by decide +kernel
theorem d9_28 : decode jdk_65_method_123_code 28 = .ok (.invokestatic 150, 3) := by decide +kernel
theorem d9_31 : decode jdk_65_method_123_code 31 = .ok (.aload_n 2, 1) := by decide +kernel
theorem d9_32 : decode jdk_65_method_123_code 32 = .ok (.areturn, 1) := by decide +kernel
theorem pn_2 : plainName "java/util/Arrays" = true := by first | (simp [plainName, overriddenIn]; done) | decide +kernel
theorem pd_5 : parseMethodDescriptor "([II)[I" = some ⟨[(.array .int), .int], some (.array .int)⟩ := by decide +kernel
theorem d8_26 : decode prog_20_method_3_code 26 = .ok (.putfield 18, 3) := by decide +kernel
def own_F_minJ (q0 : Int64) : Int64 := (if (2147483647 : Int64) < q0 then (2147483647 : Int64) else q0)
theorem o_own_F_minJ {q0 : Int64} {z : Int64} (h : own_F_minJ q0 = z) : (((2147483647 : Int64).toInt < q0.toInt) → z.toInt = (2147483647 : Int64).toInt) ∧ ((¬ ((2147483647 : Int64).toInt < q0.toInt)) → z.toInt = q0.toInt) := by
  subst h
  exact ⟨fun c1 => by rw [own_F_minJ, if_pos (own_ltIL c1)], fun c1 => by rw [own_F_minJ, if_neg (own_nltIL c1)]⟩
def Q_2 (Z : State) (q0 : Int64) (h0 : Heap) (n0 : Nat) (v : Option Value) (h : Heap) : Prop :=
  (∃ (yF : Int64), own_F_minJ q0 = yF ∧ v = some (.long yF) ∧ h0 = h)
set_option maxRecDepth 65536 in
set_option maxHeartbeats 40000000 in
theorem rm_2 (l : Launch) (Z : State) (a0 : Array Value) (hw : ∀ d ∈ tables_1, d.before a0 Z = true) (ws : List Jvm.Cond) (q0 : Int64) (h0 : Heap) (n0 : Nat) (Z0 : n0 ≤ h0.size)  :
    MetFree l (⟨"java/lang/Math", "min", "(JJ)J"⟩ : MethodName) (head1 (Jvm.Cond.code (⟨"java/lang/Math", "min", "(JJ)J"⟩ : MethodName) jdk_29_method_70_code 4 (some .long) :: ws) ({ frames := 0, cells := 0, slots := 0, locals := 0 } : Room)) (fun a U => a = #[(.long q0), (.long (2147483647 : Int64))] ∧ Z.Warmed39 U.vm ∧ U.heap = h0) (fun _ _ _ _ _ => True) (fun _ U o U' => ∃ v L, o = .returned v ∧ (Fr n0 L ∧ Q_2 Z q0 h0 n0 v U'.heap) ∧ FrameEnd U o U' L ({ frames := 0, cells := 0, slots := 0, locals := 0 } : Room).cells ({ frames := 0, cells := 0, slots := 0, locals := 0 } : Room).slots) := by
  refine own_enter (Q := Q_2 Z q0 h0 n0) (F := fun m => mkF m 0 #[.val (.long q0), .second, .val (.long (2147483647 : Int64)), .second] []) (Jvm.Free.JP.mathPlain rfl (by decide +kernel)) (fun m => by first | (simp [entryFrame, mkF, argsToLocals, Value.category]; done) | rfl) ?_
  intro p e s m below meth c s₁ B X0
  have K : Keep h0 h0 [] := Keep.refl h0 _
  refine own_lloadN (pc' := 1) B X0 d2_0 rfl rfl ?_
  refine own_lloadN (pc' := 2) B X0 d2_1 rfl rfl ?_
  obtain ⟨y1, hy1⟩ : ∃ z : Int32, lcmpW q0 (2147483647 : Int64) = z := ⟨_, rfl⟩
  refine own_lcmp (pc' := 3) B X0 d2_2 rfl hy1 ?_
  by_cases c2 : (2147483647 : Int64) < q0
  · refine own_ifYes (pc' := 10) B X0 d2_3 ((if0 _ _).trans (tlt (own_lcm (P := fun q => ((0 : Int32) < q)) hy1 ((lw_gt q0 (2147483647 : Int64)).mpr c2))).2.2.1) (by decide) rfl ?_
    refine own_lloadN (pc' := 11) B X0 d2_10 rfl rfl ?_
    exact own_retJ B X0 d2_11 (by decide) (by decide) ⟨(2147483647 : Int64), (by subst hy1; rw [own_F_minJ, if_pos c2]), rfl, rfl⟩
  · refine own_ifNo (pc' := 6) B X0 d2_3 ((if0 _ _).trans (flt (own_lcm (P := fun q => ¬ ((0 : Int32) < q)) hy1 (fun q => c2 ((lw_gt q0 (2147483647 : Int64)).mp q)))).2.2.1) rfl ?_
    refine own_lloadN (pc' := 7) B X0 d2_6 rfl rfl ?_
    refine own_goto (pc' := 11) B X0 d2_7 (by decide) rfl ?_
    exact own_retJ B X0 d2_11 (by decide) (by decide) ⟨q0, (by subst hy1; rw [own_F_minJ, if_neg c2]), rfl, rfl⟩
def Q_1 (Z : State) (p0 : Int32) (p1 : Int32) (h0 : Heap) (n0 : Nat) (v : Option Value) (h : Heap) : Prop :=
  (∃ (y1 : Int64) (y2 : Int64) (y3 : Int64) (y4 : Int64) (y6 : Int64) (y8 : Int32), p0.toInt64 = y1 ∧ p1.toInt64 = y2 ∧ y2 &&& (4294967295 : Int64) = y3 ∧ y1 + y3 = y4 ∧ own_F_minJ y4 = y6 ∧ y6.toInt32 = y8 ∧ v = some (.int y8) ∧ h0 = h)
set_option maxRecDepth 65536 in
set_option maxHeartbeats 40000000 in
theorem rm_1 (l : Launch) (Z : State) (a0 : Array Value) (hw : ∀ d ∈ tables_1, d.before a0 Z = true) (ws : List Jvm.Cond) (p0 : Int32) (p1 : Int32) (h0 : Heap) (n0 : Nat) (Z0 : n0 ≤ h0.size)  :
    MetFree l (⟨"com/example/bagwise/bagwise/IntListFirstAtLeastPinLaw", "next", "(II)I"⟩ : MethodName) (head1 (Jvm.Cond.code (⟨"com/example/bagwise/bagwise/IntListFirstAtLeastPinLaw", "next", "(II)I"⟩ : MethodName) method_3_code 4 (some .int) :: ws) ({ frames := 1, cells := 0, slots := 0, locals := 15 } : Room)) (fun a U => a = #[(.int p0), (.int p1)] ∧ Z.Warmed39 U.vm ∧ U.heap = h0) (fun _ _ _ _ _ => True) (fun _ U o U' => ∃ v L, o = .returned v ∧ (Fr n0 L ∧ Q_1 Z p0 p1 h0 n0 v U'.heap) ∧ FrameEnd U o U' L ({ frames := 1, cells := 0, slots := 0, locals := 15 } : Room).cells ({ frames := 1, cells := 0, slots := 0, locals := 15 } : Room).slots) := by
  refine own_enter (Q := Q_1 Z p0 p1 h0 n0) (F := fun m => mkF m 0 #[.val (.int p0), .val (.int p1), .unset, .unset] []) (plainFor_of_name pn_0) (fun m => by first | (simp [entryFrame, mkF, argsToLocals, Value.category]; done) | rfl) ?_
  intro p e s m below meth c s₁ B X0
  have K : Keep h0 h0 [] := Keep.refl h0 _
  refine own_iloadN (pc' := 1) B X0 d1_0 rfl rfl ?_
  obtain ⟨y1, hy1⟩ : ∃ z : Int64, p0.toInt64 = z := ⟨_, rfl⟩
  refine own_i2l (pc' := 2) B X0 d1_1 rfl hy1 ?_
  refine own_iloadN (pc' := 3) B X0 d1_2 rfl rfl ?_
  obtain ⟨y2, hy2⟩ : ∃ z : Int64, p1.toInt64 = z := ⟨_, rfl⟩
  refine own_i2l (pc' := 4) B X0 d1_3 rfl hy2 ?_
  refine own_ldc2J (pc' := 7) B X0 (own_w hw 5 rfl) d1_4 rfl ?_
  obtain ⟨y3, hy3⟩ : ∃ z : Int64, y2 &&& (4294967295 : Int64) = z := ⟨_, rfl⟩
  refine own_land (pc' := 8) B X0 d1_7 rfl hy3 ?_
  obtain ⟨y4, hy4⟩ : ∃ z : Int64, y1 + y3 = z := ⟨_, rfl⟩
  refine own_ladd (pc' := 9) B X0 d1_8 rfl hy4 ?_
  refine own_lstoreN (pc' := 10) B X0 (Ls' := #[.val (.int p0), .val (.int p1), .val (.long y4), .second]) d1_9 rfl rfl ?_
  refine own_lloadN (pc' := 11) B X0 d1_10 rfl rfl ?_
  refine own_ldc2J (pc' := 14) B X0 (own_w hw 6 rfl) d1_11 rfl ?_
  refine own_callS (pc' := 17) B X0 (own_w hw 7 rfl) (own_w hw 8 rfl) (own_w hw 9 rfl) (own_w hw 10 rfl) (by decide) [(.long y4), (.long (2147483647 : Int64))] [] (rm_2 l Z a0 hw [] (y4) h0 n0 (Nat.le_trans Z0 K.1) ) 0 (by decide) (by decide) rfl pd_0 rfl rfl (Nat.le_of_eq rfl) d1_14 rfl (k' := 0) (n' := 0) rfl rfl (by decide) (by decide) ?_
  intro T5 v5 h5 X5 q5
  obtain ⟨y6, hy7, rfl, rfl⟩ := q5
  show own_Go p e below (T5.setTop (mkF m 17 #[.val (.int p0), .val (.int p1), .val (.long y4), .second] [(.long y6)])) _
  obtain ⟨y8, hy8⟩ : ∃ z : Int32, y6.toInt32 = z := ⟨_, rfl⟩
  refine own_l2i (pc' := 18) B X5 d1_17 rfl hy8 ?_
  exact own_retI B X5 d1_18 (by decide) (by decide) (⟨y1, y2, y3, y4, y6, y8, hy1, hy2, hy3, hy4, hy7, hy8, rfl, rfl⟩)
def Q_4 (Z : State)  (h0 : Heap) (n0 : Nat) (v : Option Value) (h : Heap) : Prop :=
  (v = some (.int (1 : Int32)) ∧ h0 = h)
set_option maxRecDepth 65536 in
set_option maxHeartbeats 40000000 in
theorem rm_4 (l : Launch) (Z : State) (a0 : Array Value) (hw : ∀ d ∈ tables_1, d.before a0 Z = true) (ws : List Jvm.Cond)  (h0 : Heap) (n0 : Nat) (Z0 : n0 ≤ h0.size)  :
    MetFree l (⟨"java/lang/Math", "max", "(II)I"⟩ : MethodName) (head1 (Jvm.Cond.code (⟨"java/lang/Math", "max", "(II)I"⟩ : MethodName) jdk_29_method_65_code 2 (some .int) :: ws) ({ frames := 0, cells := 0, slots := 0, locals := 0 } : Room)) (fun a U => a = #[(.int (1 : Int32)), (.int (1 : Int32))] ∧ Z.Warmed39 U.vm ∧ U.heap = h0) (fun _ _ _ _ _ => True) (fun _ U o U' => ∃ v L, o = .returned v ∧ (Fr n0 L ∧ Q_4 Z  h0 n0 v U'.heap) ∧ FrameEnd U o U' L ({ frames := 0, cells := 0, slots := 0, locals := 0 } : Room).cells ({ frames := 0, cells := 0, slots := 0, locals := 0 } : Room).slots) := by
  refine own_enter (Q := Q_4 Z  h0 n0) (F := fun m => mkF m 0 #[.val (.int (1 : Int32)), .val (.int (1 : Int32))] []) (Jvm.Free.JP.mathPlain rfl (by decide +kernel)) (fun m => by first | (simp [entryFrame, mkF, argsToLocals, Value.category]; done) | rfl) ?_
  intro p e s m below meth c s₁ B X0
  have K : Keep h0 h0 [] := Keep.refl h0 _
  refine own_iloadN (pc' := 1) B X0 d5_0 rfl rfl ?_
  refine own_iloadN (pc' := 2) B X0 d5_1 rfl rfl ?_
  refine own_icmpNo (pc' := 5) B X0 d5_2 (flt (by decide : ¬ ((1 : Int32) < (1 : Int32)))).1 rfl ?_
  refine own_iloadN (pc' := 6) B X0 d5_5 rfl rfl ?_
  refine own_goto (pc' := 10) B X0 d5_6 (by decide) rfl ?_
  exact own_retI B X0 d5_10 (by decide) (by decide) (⟨rfl, rfl⟩)
def Q_3 (Z : State) (w0 : Addr) (h0 : Heap) (n0 : Nat) (v : Option Value) (h : Heap) : Prop :=
  (∃ (b3 : Addr) (kb3 : ClassId), v = none ∧ Keep h0 h [w0] ∧ h0.size ≤ b3 ∧ Exa Z h w0 "com/example/bagwise/bagwise/IntList" ∧ Fld Z h w0 "com/example/bagwise/bagwise/IntList" "values" "[I" (.ref b3) ∧ Fld Z h w0 "com/example/bagwise/bagwise/IntList" "size" "I" (.int (0 : Int32)) ∧ Exa Z h b3 "[I" ∧ Arv Z h b3 kb3 .int (1 : Int32) [(.int (0 : Int32))] (.int (0 : Int32)))
set_option maxRecDepth 65536 in
set_option maxHeartbeats 40000000 in
theorem rm_3 (l : Launch) (Z : State) (a0 : Array Value) (hw : ∀ d ∈ tables_1, d.before a0 Z = true) (ws : List Jvm.Cond) (w0 : Addr) (h0 : Heap) (n0 : Nat) (Z0 : n0 ≤ h0.size) (E_w0 : Exa Z h0 w0 "com/example/bagwise/bagwise/IntList") (F_w0_values : Fld Z h0 w0 "com/example/bagwise/bagwise/IntList" "values" "[I" .null) (F_w0_size : Fld Z h0 w0 "com/example/bagwise/bagwise/IntList" "size" "I" (.int (0 : Int32))) (g_w0 : n0 ≤ w0) :
    MetFree l (⟨"com/example/bagwise/bagwise/IntList", "<init>", "(I)V"⟩ : MethodName) (head1 (Jvm.Cond.code (⟨"com/example/bagwise/bagwise/IntList", "<init>", "(I)V"⟩ : MethodName) prog_20_method_2_code 2 none :: ws) ({ frames := 1, cells := 1, slots := 1, locals := 14 } : Room)) (fun a U => a = #[(.ref w0), (.int (1 : Int32))] ∧ Z.Warmed39 U.vm ∧ U.heap = h0) (fun _ _ _ _ _ => True) (fun _ U o U' => ∃ v L, o = .returned v ∧ (Fr n0 L ∧ Q_3 Z w0 h0 n0 v U'.heap) ∧ FrameEnd U o U' L ({ frames := 1, cells := 1, slots := 1, locals := 14 } : Room).cells ({ frames := 1, cells := 1, slots := 1, locals := 14 } : Room).slots) := by
  refine own_enter (Q := Q_3 Z w0 h0 n0) (F := fun m => mkF m 0 #[.val (.ref w0), .val (.int (1 : Int32))] []) (plainFor_of_name pn_1) (fun m => by first | (simp [entryFrame, mkF, argsToLocals, Value.category]; done) | rfl) ?_
  intro p e s m below meth c s₁ B X0
  have K : Keep h0 h0 [w0] := Keep.refl h0 _
  refine own_aloadN (pc' := 1) B X0 d3_0 rfl rfl rfl ?_
  refine own_objinit (pc' := 4) B X0 (own_w hw 17 rfl) (own_w hw 18 rfl) (own_w hw 19 rfl) d3_1 rfl rfl (by decide) 0 (Nat.le_of_eq rfl) (by decide) ?_
  intro T1 X1
  refine own_aloadN (pc' := 5) B X1 d3_4 rfl rfl rfl ?_
  refine own_iloadN (pc' := 6) B X1 d3_5 rfl rfl ?_
  refine own_iconst (pc' := 7) B X1 (z := (1 : Int32)) d3_6 rfl rfl ?_
  refine own_callS (pc' := 10) B X1 (own_w hw 20 rfl) (own_w hw 21 rfl) (own_w hw 9 rfl) (own_w hw 22 rfl) (by decide) [(.int (1 : Int32)), (.int (1 : Int32))] [(.ref w0)] (rm_4 l Z a0 hw []  h0 n0 (Nat.le_trans Z0 K.1) ) 1 (by decide) (by decide) rfl pd_1 rfl rfl (Nat.le_of_eq rfl) d3_7 rfl (k' := 0) (n' := 0) rfl rfl (by decide) (by decide) ?_
  intro T2 v2 h2 X2 q2
  obtain ⟨rfl, rfl⟩ := q2
  show own_Go p e below (T2.setTop (mkF m 10 #[.val (.ref w0), .val (.int (1 : Int32))] [(.int (1 : Int32)), (.ref w0)])) _
  refine own_newarray (pc' := 12) B X2 (own_w hw 23 rfl) d3_10 rfl rfl (by decide) 1 (by decide) (by decide) (k' := 1) (n' := 1) rfl rfl (by decide) (by decide) "[I" (by decide) (.int (0 : Int32)) rfl ?_
  intro T3 h3 b3 kb3 X3 g3 E3 V_b3 E_b3
  have ne_w0_b3 : w0 ≠ b3 := own_ne E_w0.lt g3
  have sz_b3 : h0.size ≤ b3 := own_sz K g3
  have g_b3 : n0 ≤ b3 := Nat.le_trans Z0 sz_b3
  replace K := K.ext E3
  replace E_w0 := E_w0.ext E3
  replace F_w0_values := F_w0_values.ext E3
  replace F_w0_size := F_w0_size.ext E3
  replace V_b3 : Arv Z h3 b3 kb3 .int (1 : Int32) [(.int (0 : Int32))] (.int (0 : Int32)) := V_b3.pad (pad_rep [] (.int (0 : Int32)) 1)
  refine own_putfield (pc' := 15) B X3 (host := "") (Or.inl (own_w hw 24 rfl)) Via.refl F_w0_values E_w0 g_w0 (Or.inl (own_w hw 25 rfl)) (own_w hw 12 rfl) (ty := (.array .int)) (by decide) rfl rfl d3_12 rfl ?_
  intro T4 h4 X4 W4 F_w0_values
  replace E_w0 := E_w0.wr W4
  replace F_w0_size := F_w0_size.other W4 (Or.inr (slot_ne (Or.inl (own_w hw 35 rfl)) (Or.inl (own_w hw 25 rfl)) (by decide) (t := .int) (t' := (.array .int)) (by decide) (by decide)))
  replace E_b3 := E_b3.wr W4
  replace V_b3 := V_b3.other W4 (Ne.symm ne_w0_b3)
  replace K := K.wr W4 (Or.inl (List.mem_of_getElem? (i := 0) rfl))
  exact own_ret B X4 d3_15 (by decide) (by decide) (⟨b3, kb3, rfl, K, sz_b3, E_w0, F_w0_values, F_w0_size, E_b3, V_b3⟩)
def Q_5 (Z : State) (p0 : Int32) (p1 : Int32) (h0 : Heap) (n0 : Nat) (v : Option Value) (h : Heap) : Prop :=
  (v = some (.int (0 : Int32)) ∧ h0 = h)
set_option maxRecDepth 65536 in
set_option maxHeartbeats 40000000 in
theorem rm_5 (l : Launch) (Z : State) (a0 : Array Value) (hw : ∀ d ∈ tables_1, d.before a0 Z = true) (ws : List Jvm.Cond) (p0 : Int32) (p1 : Int32) (h0 : Heap) (n0 : Nat) (Z0 : n0 ≤ h0.size)  :
    MetFree l (⟨"com/example/bagwise/bagwise/IntListFirstAtLeastPinLaw", "below", "(ZII)I"⟩ : MethodName) (head1 (Jvm.Cond.code (⟨"com/example/bagwise/bagwise/IntListFirstAtLeastPinLaw", "below", "(ZII)I"⟩ : MethodName) method_4_code 3 (some .int) :: ws) ({ frames := 0, cells := 0, slots := 0, locals := 0 } : Room)) (fun a U => a = #[(.int (0 : Int32)), (.int p0), (.int p1)] ∧ Z.Warmed39 U.vm ∧ U.heap = h0) (fun _ _ _ _ _ => True) (fun _ U o U' => ∃ v L, o = .returned v ∧ (Fr n0 L ∧ Q_5 Z p0 p1 h0 n0 v U'.heap) ∧ FrameEnd U o U' L ({ frames := 0, cells := 0, slots := 0, locals := 0 } : Room).cells ({ frames := 0, cells := 0, slots := 0, locals := 0 } : Room).slots) := by
  refine own_enter (Q := Q_5 Z p0 p1 h0 n0) (F := fun m => mkF m 0 #[.val (.int (0 : Int32)), .val (.int p0), .val (.int p1)] []) (plainFor_of_name pn_0) (fun m => by first | (simp [entryFrame, mkF, argsToLocals, Value.category]; done) | rfl) ?_
  intro p e s m below meth c s₁ B X0
  have K : Keep h0 h0 [] := Keep.refl h0 _
  refine own_iloadN (pc' := 1) B X0 d6_0 rfl rfl ?_
  refine own_ifYes (pc' := 11) B X0 d6_1 ((if0 _ _).trans (teq (by decide : (0 : Int32) = (0 : Int32))).1) (by decide) rfl ?_
  refine own_iconst (pc' := 12) B X0 (z := (0 : Int32)) d6_11 rfl rfl ?_
  exact own_retI B X0 d6_12 (by decide) (by decide) (⟨rfl, rfl⟩)
def Q_6 (Z : State) (w0 : Addr) (w1 : Addr) (kw1 : ClassId) (p3 : Int32) (h0 : Heap) (n0 : Nat) (v : Option Value) (h : Heap) : Prop :=
  (v = some (.int (0 : Int32)) ∧ h0 = h)
set_option maxRecDepth 65536 in
set_option maxHeartbeats 40000000 in
theorem rm_6 (l : Launch) (Z : State) (a0 : Array Value) (hw : ∀ d ∈ tables_1, d.before a0 Z = true) (ws : List Jvm.Cond) (w0 : Addr) (w1 : Addr) (kw1 : ClassId) (p3 : Int32) (h0 : Heap) (n0 : Nat) (Z0 : n0 ≤ h0.size) (E_w0 : Exa Z h0 w0 "com/example/bagwise/bagwise/IntList") (F_w0_values : Fld Z h0 w0 "com/example/bagwise/bagwise/IntList" "values" "[I" (.ref w1)) (F_w0_size : Fld Z h0 w0 "com/example/bagwise/bagwise/IntList" "size" "I" (.int (0 : Int32))) (g_w0 : n0 ≤ w0) (E_w1 : Exa Z h0 w1 "[I") (V_w1 : Arv Z h0 w1 kw1 .int (1 : Int32) [(.int (0 : Int32))] (.int (0 : Int32))) (g_w1 : n0 ≤ w1) (ne_w0_w1 : w0 ≠ w1) :
    MetFree l (⟨"com/example/bagwise/bagwise/IntList", "firstAtLeast", "(I)I"⟩ : MethodName) (head1 (Jvm.Cond.code (⟨"com/example/bagwise/bagwise/IntList", "firstAtLeast", "(I)I"⟩ : MethodName) prog_20_method_7_code 5 (some .int) :: ws) ({ frames := 0, cells := 0, slots := 0, locals := 0 } : Room)) (fun a U => a = #[(.ref w0), (.int p3)] ∧ Z.Warmed39 U.vm ∧ U.heap = h0) (fun _ _ _ _ _ => True) (fun _ U o U' => ∃ v L, o = .returned v ∧ (Fr n0 L ∧ Q_6 Z w0 w1 kw1 p3 h0 n0 v U'.heap) ∧ FrameEnd U o U' L ({ frames := 0, cells := 0, slots := 0, locals := 0 } : Room).cells ({ frames := 0, cells := 0, slots := 0, locals := 0 } : Room).slots) := by
  refine own_enter (Q := Q_6 Z w0 w1 kw1 p3 h0 n0) (F := fun m => mkF m 0 #[.val (.ref w0), .val (.int p3), .unset, .unset, .unset] []) (plainFor_of_name pn_1) (fun m => by first | (simp [entryFrame, mkF, argsToLocals, Value.category]; done) | rfl) ?_
  intro p e s m below meth c s₁ B X0
  have K : Keep h0 h0 [] := Keep.refl h0 _
  refine own_iconst (pc' := 1) B X0 (z := (0 : Int32)) d7_0 rfl rfl ?_
  refine own_istoreN (pc' := 2) B X0 (Ls' := #[.val (.ref w0), .val (.int p3), .val (.int (0 : Int32)), .unset, .unset]) d7_1 rfl rfl ?_
  refine own_aloadN (pc' := 3) B X0 d7_2 rfl rfl rfl ?_
  refine own_getfield (pc' := 6) B X0 (host := "") (Or.inl (own_w hw 34 rfl)) Via.refl F_w0_size d7_3 rfl ?_
  intro T1 X1
  refine own_istoreN (pc' := 7) B X1 (Ls' := #[.val (.ref w0), .val (.int p3), .val (.int (0 : Int32)), .val (.int (0 : Int32)), .unset]) d7_6 rfl rfl ?_
  refine own_iloadN (pc' := 8) B X1 d7_7 rfl rfl ?_
  refine own_iloadN (pc' := 9) B X1 d7_8 rfl rfl ?_
  refine own_icmpYes (pc' := 44) B X1 d7_9 (flt (by decide : ¬ ((0 : Int32) < (0 : Int32)))).2.1 (by decide) rfl ?_
  refine own_iloadN (pc' := 45) B X1 d7_44 rfl rfl ?_
  exact own_retI B X1 d7_45 (by decide) (by decide) (⟨rfl, rfl⟩)
def Q_7 (Z : State) (w0 : Addr) (w1 : Addr) (kw1 : ClassId) (p3 : Int32) (h0 : Heap) (n0 : Nat) (v : Option Value) (h : Heap) : Prop :=
  (v = none ∧ Keep h0 h [w0, w1] ∧ Exa Z h w0 "com/example/bagwise/bagwise/IntList" ∧ Fld Z h w0 "com/example/bagwise/bagwise/IntList" "values" "[I" (.ref w1) ∧ Fld Z h w0 "com/example/bagwise/bagwise/IntList" "size" "I" (.int (1 : Int32)) ∧ Exa Z h w1 "[I" ∧ Arv Z h w1 kw1 .int (1 : Int32) [(.int p3)] (.int (0 : Int32)))
set_option maxRecDepth 65536 in
set_option maxHeartbeats 40000000 in
theorem rm_7 (l : Launch) (Z : State) (a0 : Array Value) (hw : ∀ d ∈ tables_1, d.before a0 Z = true) (ws : List Jvm.Cond) (w0 : Addr) (w1 : Addr) (kw1 : ClassId) (p3 : Int32) (h0 : Heap) (n0 : Nat) (Z0 : n0 ≤ h0.size) (E_w0 : Exa Z h0 w0 "com/example/bagwise/bagwise/IntList") (F_w0_values : Fld Z h0 w0 "com/example/bagwise/bagwise/IntList" "values" "[I" (.ref w1)) (F_w0_size : Fld Z h0 w0 "com/example/bagwise/bagwise/IntList" "size" "I" (.int (0 : Int32))) (g_w0 : n0 ≤ w0) (E_w1 : Exa Z h0 w1 "[I") (V_w1 : Arv Z h0 w1 kw1 .int (1 : Int32) [(.int (0 : Int32))] (.int (0 : Int32))) (g_w1 : n0 ≤ w1) (ne_w0_w1 : w0 ≠ w1) :
    MetFree l (⟨"com/example/bagwise/bagwise/IntList", "add", "(I)V"⟩ : MethodName) (head1 (Jvm.Cond.code (⟨"com/example/bagwise/bagwise/IntList", "add", "(I)V"⟩ : MethodName) prog_20_method_3_code 2 none :: ws) ({ frames := 0, cells := 0, slots := 0, locals := 0 } : Room)) (fun a U => a = #[(.ref w0), (.int p3)] ∧ Z.Warmed39 U.vm ∧ U.heap = h0) (fun _ _ _ _ _ => True) (fun _ U o U' => ∃ v L, o = .returned v ∧ (Fr n0 L ∧ Q_7 Z w0 w1 kw1 p3 h0 n0 v U'.heap) ∧ FrameEnd U o U' L ({ frames := 0, cells := 0, slots := 0, locals := 0 } : Room).cells ({ frames := 0, cells := 0, slots := 0, locals := 0 } : Room).slots) := by
  refine own_enter (Q := Q_7 Z w0 w1 kw1 p3 h0 n0) (F := fun m => mkF m 0 #[.val (.ref w0), .val (.int p3)] []) (plainFor_of_name pn_1) (fun m => by first | (simp [entryFrame, mkF, argsToLocals, Value.category]; done) | rfl) ?_
  intro p e s m below meth c s₁ B X0
  have K : Keep h0 h0 [w0, w1] := Keep.refl h0 _
  refine own_aloadN (pc' := 1) B X0 d8_0 rfl rfl rfl ?_
  refine own_getfield (pc' := 4) B X0 (host := "") (Or.inl (own_w hw 34 rfl)) Via.refl F_w0_size d8_1 rfl ?_
  intro T1 X1
  refine own_aloadN (pc' := 5) B X1 d8_4 rfl rfl rfl ?_
  refine own_getfield (pc' := 8) B X1 (host := "") (Or.inl (own_w hw 24 rfl)) Via.refl F_w0_values d8_5 rfl ?_
  intro T2 X2
  refine own_arraylength (pc' := 9) B X2 V_w1 d8_8 rfl ?_
  refine own_icmpYes (pc' := 29) B X2 d8_9 (feq (by decide : ¬ ((0 : Int32) = (1 : Int32)))).2 (by decide) rfl ?_
  refine own_aloadN (pc' := 30) B X2 d8_29 rfl rfl rfl ?_
  refine own_getfield (pc' := 33) B X2 (host := "") (Or.inl (own_w hw 24 rfl)) Via.refl F_w0_values d8_30 rfl ?_
  intro T3 X3
  refine own_aloadN (pc' := 34) B X3 d8_33 rfl rfl rfl ?_
  refine own_dup (pc' := 35) B X3 d8_34 rfl rfl ?_
  refine own_getfield (pc' := 38) B X3 (host := "") (Or.inl (own_w hw 34 rfl)) Via.refl F_w0_size d8_35 rfl ?_
  intro T4 X4
  refine own_dup_x1 (pc' := 39) B X4 d8_38 rfl rfl rfl ?_
  refine own_iconst (pc' := 40) B X4 (z := (1 : Int32)) d8_39 rfl rfl ?_
  refine own_iadd (pc' := 41) B X4 (z := (1 : Int32)) d8_40 rfl (by decide) ?_
  refine own_putfield (pc' := 44) B X4 (host := "") (Or.inl (own_w hw 34 rfl)) Via.refl F_w0_size E_w0 g_w0 (Or.inl (own_w hw 35 rfl)) (own_w hw 12 rfl) (ty := .int) (by decide) rfl rfl d8_41 rfl ?_
  intro T5 h5 X5 W5 F_w0_size
  replace E_w0 := E_w0.wr W5
  replace F_w0_values := F_w0_values.other W5 (Or.inr (slot_ne (Or.inl (own_w hw 25 rfl)) (Or.inl (own_w hw 35 rfl)) (by decide) (t := (.array .int)) (t' := .int) (by decide) (by decide)))
  replace E_w1 := E_w1.wr W5
  replace V_w1 := V_w1.other W5 (Ne.symm ne_w0_w1)
  replace K := K.wr W5 (Or.inl (List.mem_of_getElem? (i := 0) rfl))
  refine own_iloadN (pc' := 45) B X5 d8_44 rfl rfl ?_
  refine own_iastore (pc' := 46) B X5 (x' := p3) V_w1 g_w1 ⟨by decide, by decide⟩ 0 (by decide) (Nat.le_of_ble_eq_true rfl) rfl d8_45 rfl ?_
  intro T6 h6 X6 W6 V_w1
  replace V_w1 : Arv Z h6 w1 kw1 .int (1 : Int32) [(.int p3)] (.int (0 : Int32)) := V_w1
  replace E_w0 := E_w0.wr W6
  replace F_w0_values := F_w0_values.other W6 (Or.inl ne_w0_w1)
  replace F_w0_size := F_w0_size.other W6 (Or.inl ne_w0_w1)
  replace E_w1 := E_w1.wr W6
  replace K := K.wr W6 (Or.inl (List.mem_of_getElem? (i := 1) rfl))
  exact own_ret B X6 d8_46 (by decide) (by decide) (⟨rfl, K, E_w0, F_w0_values, F_w0_size, E_w1, V_w1⟩)
def own_F_below (p0 : Int32) (p1 : Int32) : Int32 := (if p0 < p1 then (1 : Int32) else (0 : Int32))
theorem o_own_F_below {p0 : Int32} {p1 : Int32} {z : Int32} (h : own_F_below p0 p1 = z) : ((p0.toInt < p1.toInt) → z.toInt = (1 : Int32).toInt) ∧ ((¬ (p0.toInt < p1.toInt)) → z.toInt = (0 : Int32).toInt) := by
  subst h
  exact ⟨fun c0 => by rw [own_F_below, if_pos (own_ltI c0)], fun c0 => by rw [own_F_below, if_neg (own_nltI c0)]⟩
def Q_8 (Z : State) (p0 : Int32) (p1 : Int32) (h0 : Heap) (n0 : Nat) (v : Option Value) (h : Heap) : Prop :=
  (∃ (yF : Int32), own_F_below p0 p1 = yF ∧ v = some (.int yF) ∧ h0 = h)
set_option maxRecDepth 65536 in
set_option maxHeartbeats 40000000 in
theorem rm_8 (l : Launch) (Z : State) (a0 : Array Value) (hw : ∀ d ∈ tables_1, d.before a0 Z = true) (ws : List Jvm.Cond) (p0 : Int32) (p1 : Int32) (h0 : Heap) (n0 : Nat) (Z0 : n0 ≤ h0.size)  :
    MetFree l (⟨"com/example/bagwise/bagwise/IntListFirstAtLeastPinLaw", "below", "(ZII)I"⟩ : MethodName) (head1 (Jvm.Cond.code (⟨"com/example/bagwise/bagwise/IntListFirstAtLeastPinLaw", "below", "(ZII)I"⟩ : MethodName) method_4_code 3 (some .int) :: ws) ({ frames := 0, cells := 0, slots := 0, locals := 0 } : Room)) (fun a U => a = #[(.int (1 : Int32)), (.int p0), (.int p1)] ∧ Z.Warmed39 U.vm ∧ U.heap = h0) (fun _ _ _ _ _ => True) (fun _ U o U' => ∃ v L, o = .returned v ∧ (Fr n0 L ∧ Q_8 Z p0 p1 h0 n0 v U'.heap) ∧ FrameEnd U o U' L ({ frames := 0, cells := 0, slots := 0, locals := 0 } : Room).cells ({ frames := 0, cells := 0, slots := 0, locals := 0 } : Room).slots) := by
  refine own_enter (Q := Q_8 Z p0 p1 h0 n0) (F := fun m => mkF m 0 #[.val (.int (1 : Int32)), .val (.int p0), .val (.int p1)] []) (plainFor_of_name pn_0) (fun m => by first | (simp [entryFrame, mkF, argsToLocals, Value.category]; done) | rfl) ?_
  intro p e s m below meth c s₁ B X0
  have K : Keep h0 h0 [] := Keep.refl h0 _
  refine own_iloadN (pc' := 1) B X0 d6_0 rfl rfl ?_
  refine own_ifNo (pc' := 4) B X0 d6_1 ((if0 _ _).trans (feq (by decide : ¬ ((1 : Int32) = (0 : Int32)))).1) rfl ?_
  refine own_iloadN (pc' := 5) B X0 d6_4 rfl rfl ?_
  refine own_iloadN (pc' := 6) B X0 d6_5 rfl rfl ?_
  by_cases c1 : p0 < p1
  · refine own_icmpNo (pc' := 9) B X0 d6_6 (tlt c1).2.1 rfl ?_
    refine own_iconst (pc' := 10) B X0 (z := (1 : Int32)) d6_9 rfl rfl ?_
    exact own_retI B X0 d6_10 (by decide) (by decide) ⟨(1 : Int32), (by rw [own_F_below, if_pos c1]), rfl, rfl⟩
  · refine own_icmpYes (pc' := 11) B X0 d6_6 (flt c1).2.1 (by decide) rfl ?_
    refine own_iconst (pc' := 12) B X0 (z := (0 : Int32)) d6_11 rfl rfl ?_
    exact own_retI B X0 d6_12 (by decide) (by decide) ⟨(0 : Int32), (by rw [own_F_below, if_neg c1]), rfl, rfl⟩
def Q_9 (Z : State) (w0 : Addr) (w1 : Addr) (kw1 : ClassId) (p3 : Int32) (p4 : Int32) (h0 : Heap) (n0 : Nat) (v : Option Value) (h : Heap) : Prop :=
  (p3 < p4 ∧ v = some (.int (1 : Int32)) ∧ h0 = h) ∨
  (¬ (p3 < p4) ∧ v = some (.int (0 : Int32)) ∧ h0 = h)
set_option maxRecDepth 65536 in
set_option maxHeartbeats 40000000 in
theorem rm_9 (l : Launch) (Z : State) (a0 : Array Value) (hw : ∀ d ∈ tables_1, d.before a0 Z = true) (ws : List Jvm.Cond) (w0 : Addr) (w1 : Addr) (kw1 : ClassId) (p3 : Int32) (p4 : Int32) (h0 : Heap) (n0 : Nat) (Z0 : n0 ≤ h0.size) (E_w0 : Exa Z h0 w0 "com/example/bagwise/bagwise/IntList") (F_w0_values : Fld Z h0 w0 "com/example/bagwise/bagwise/IntList" "values" "[I" (.ref w1)) (F_w0_size : Fld Z h0 w0 "com/example/bagwise/bagwise/IntList" "size" "I" (.int (1 : Int32))) (g_w0 : n0 ≤ w0) (E_w1 : Exa Z h0 w1 "[I") (V_w1 : Arv Z h0 w1 kw1 .int (1 : Int32) [(.int p3)] (.int (0 : Int32))) (g_w1 : n0 ≤ w1) (ne_w0_w1 : w0 ≠ w1) :
    MetFree l (⟨"com/example/bagwise/bagwise/IntList", "firstAtLeast", "(I)I"⟩ : MethodName) (head1 (Jvm.Cond.code (⟨"com/example/bagwise/bagwise/IntList", "firstAtLeast", "(I)I"⟩ : MethodName) prog_20_method_7_code 5 (some .int) :: ws) ({ frames := 0, cells := 0, slots := 0, locals := 0 } : Room)) (fun a U => a = #[(.ref w0), (.int p4)] ∧ Z.Warmed39 U.vm ∧ U.heap = h0) (fun _ _ _ _ _ => True) (fun _ U o U' => ∃ v L, o = .returned v ∧ (Fr n0 L ∧ Q_9 Z w0 w1 kw1 p3 p4 h0 n0 v U'.heap) ∧ FrameEnd U o U' L ({ frames := 0, cells := 0, slots := 0, locals := 0 } : Room).cells ({ frames := 0, cells := 0, slots := 0, locals := 0 } : Room).slots) := by
  refine own_enter (Q := Q_9 Z w0 w1 kw1 p3 p4 h0 n0) (F := fun m => mkF m 0 #[.val (.ref w0), .val (.int p4), .unset, .unset, .unset] []) (plainFor_of_name pn_1) (fun m => by first | (simp [entryFrame, mkF, argsToLocals, Value.category]; done) | rfl) ?_
  intro p e s m below meth c s₁ B X0
  have K : Keep h0 h0 [] := Keep.refl h0 _
  refine own_iconst (pc' := 1) B X0 (z := (0 : Int32)) d7_0 rfl rfl ?_
  refine own_istoreN (pc' := 2) B X0 (Ls' := #[.val (.ref w0), .val (.int p4), .val (.int (0 : Int32)), .unset, .unset]) d7_1 rfl rfl ?_
  refine own_aloadN (pc' := 3) B X0 d7_2 rfl rfl rfl ?_
  refine own_getfield (pc' := 6) B X0 (host := "") (Or.inl (own_w hw 34 rfl)) Via.refl F_w0_size d7_3 rfl ?_
  intro T1 X1
  refine own_istoreN (pc' := 7) B X1 (Ls' := #[.val (.ref w0), .val (.int p4), .val (.int (0 : Int32)), .val (.int (1 : Int32)), .unset]) d7_6 rfl rfl ?_
  refine own_iloadN (pc' := 8) B X1 d7_7 rfl rfl ?_
  refine own_iloadN (pc' := 9) B X1 d7_8 rfl rfl ?_
  refine own_icmpNo (pc' := 12) B X1 d7_9 (tlt (by decide : (0 : Int32) < (1 : Int32))).2.1 rfl ?_
  refine own_iloadN (pc' := 13) B X1 d7_12 rfl rfl ?_
  refine own_iloadN (pc' := 14) B X1 d7_13 rfl rfl ?_
  refine own_iadd (pc' := 15) B X1 (z := (1 : Int32)) d7_14 rfl (by decide) ?_
  refine own_iconst (pc' := 16) B X1 (z := (1 : Int32)) d7_15 rfl rfl ?_
  refine own_iushr (pc' := 17) B X1 (z := (0 : Int32)) d7_16 rfl (by decide) ?_
  refine own_istore (pc' := 19) B X1 (Ls' := #[.val (.ref w0), .val (.int p4), .val (.int (0 : Int32)), .val (.int (1 : Int32)), .val (.int (0 : Int32))]) d7_17 rfl rfl ?_
  refine own_aloadN (pc' := 20) B X1 d7_19 rfl rfl rfl ?_
  refine own_getfield (pc' := 23) B X1 (host := "") (Or.inl (own_w hw 24 rfl)) Via.refl F_w0_values d7_20 rfl ?_
  intro T2 X2
  refine own_iload (pc' := 25) B X2 d7_23 rfl rfl ?_
  refine own_iaload (pc' := 26) B X2 V_w1 (v := (.int p3)) ⟨by decide, by decide⟩ rfl d7_25 rfl ?_
  refine own_iloadN (pc' := 27) B X2 d7_26 rfl rfl ?_
  by_cases c3 : p3 < p4
  · refine own_icmpNo (pc' := 30) B X2 d7_27 (tlt c3).2.1 rfl ?_
    refine own_iload (pc' := 32) B X2 d7_30 rfl rfl ?_
    refine own_iconst (pc' := 33) B X2 (z := (1 : Int32)) d7_32 rfl rfl ?_
    refine own_iadd (pc' := 34) B X2 (z := (1 : Int32)) d7_33 rfl (by decide) ?_
    refine own_istoreN (pc' := 35) B X2 (Ls' := #[.val (.ref w0), .val (.int p4), .val (.int (1 : Int32)), .val (.int (1 : Int32)), .val (.int (0 : Int32))]) d7_34 rfl rfl ?_
    refine own_goto (pc' := 41) B X2 d7_35 (by decide) rfl ?_
    refine own_goto (pc' := 7) B X2 d7_41 (by decide) rfl ?_
    refine own_iloadN (pc' := 8) B X2 d7_7 rfl rfl ?_
    refine own_iloadN (pc' := 9) B X2 d7_8 rfl rfl ?_
    refine own_icmpYes (pc' := 44) B X2 d7_9 (flt (by decide : ¬ ((1 : Int32) < (1 : Int32)))).2.1 (by decide) rfl ?_
    refine own_iloadN (pc' := 45) B X2 d7_44 rfl rfl ?_
    exact own_retI B X2 d7_45 (by decide) (by decide) (Or.inl ⟨c3, rfl, rfl⟩)
  · refine own_icmpYes (pc' := 38) B X2 d7_27 (flt c3).2.1 (by decide) rfl ?_
    refine own_iload (pc' := 40) B X2 d7_38 rfl rfl ?_
    refine own_istoreN (pc' := 41) B X2 (Ls' := #[.val (.ref w0), .val (.int p4), .val (.int (0 : Int32)), .val (.int (0 : Int32)), .val (.int (0 : Int32))]) d7_40 rfl rfl ?_
    refine own_goto (pc' := 7) B X2 d7_41 (by decide) rfl ?_
    refine own_iloadN (pc' := 8) B X2 d7_7 rfl rfl ?_
    refine own_iloadN (pc' := 9) B X2 d7_8 rfl rfl ?_
    refine own_icmpYes (pc' := 44) B X2 d7_9 (flt (by decide : ¬ ((0 : Int32) < (0 : Int32)))).2.1 (by decide) rfl ?_
    refine own_iloadN (pc' := 45) B X2 d7_44 rfl rfl ?_
    exact own_retI B X2 d7_45 (by decide) (by decide) (Or.inr (⟨c3, rfl, rfl⟩))
def Q_12 (Z : State)  (h0 : Heap) (n0 : Nat) (v : Option Value) (h : Heap) : Prop :=
  (v = some (.int (1 : Int32)) ∧ h0 = h)
set_option maxRecDepth 65536 in
set_option maxHeartbeats 40000000 in
theorem rm_12 (l : Launch) (Z : State) (a0 : Array Value) (hw : ∀ d ∈ tables_1, d.before a0 Z = true) (ws : List Jvm.Cond)  (h0 : Heap) (n0 : Nat) (Z0 : n0 ≤ h0.size)  :
    MetFree l (⟨"java/lang/Math", "min", "(II)I"⟩ : MethodName) (head1 (Jvm.Cond.code (⟨"java/lang/Math", "min", "(II)I"⟩ : MethodName) jdk_29_method_69_code 2 (some .int) :: ws) ({ frames := 0, cells := 0, slots := 0, locals := 0 } : Room)) (fun a U => a = #[(.int (1 : Int32)), (.int (2 : Int32))] ∧ Z.Warmed39 U.vm ∧ U.heap = h0) (fun _ _ _ _ _ => True) (fun _ U o U' => ∃ v L, o = .returned v ∧ (Fr n0 L ∧ Q_12 Z  h0 n0 v U'.heap) ∧ FrameEnd U o U' L ({ frames := 0, cells := 0, slots := 0, locals := 0 } : Room).cells ({ frames := 0, cells := 0, slots := 0, locals := 0 } : Room).slots) := by
  refine own_enter (Q := Q_12 Z  h0 n0) (F := fun m => mkF m 0 #[.val (.int (1 : Int32)), .val (.int (2 : Int32))] []) (Jvm.Free.JP.mathPlain rfl (by decide +kernel)) (fun m => by first | (simp [entryFrame, mkF, argsToLocals, Value.category]; done) | rfl) ?_
  intro p e s m below meth c s₁ B X0
  have K : Keep h0 h0 [] := Keep.refl h0 _
  refine own_iloadN (pc' := 1) B X0 d10_0 rfl rfl ?_
  refine own_iloadN (pc' := 2) B X0 d10_1 rfl rfl ?_
  refine own_icmpNo (pc' := 5) B X0 d10_2 (flt (by decide : ¬ ((2 : Int32) < (1 : Int32)))).2.2.1 rfl ?_
  refine own_iloadN (pc' := 6) B X0 d10_5 rfl rfl ?_
  refine own_goto (pc' := 10) B X0 d10_6 (by decide) rfl ?_
  exact own_retI B X0 d10_10 (by decide) (by decide) (⟨rfl, rfl⟩)
def Q_11 (Z : State) (w0 : Addr) (kw0 : ClassId) (p2 : Int32) (h0 : Heap) (n0 : Nat) (v : Option Value) (h : Heap) : Prop :=
  (∃ (b1 : Addr) (kb1 : ClassId), v = some (.ref b1) ∧ Keep h0 h [] ∧ h0.size ≤ b1 ∧ Exa Z h b1 "[I" ∧ Arv Z h b1 kb1 .int (2 : Int32) [(.int p2), (.int (0 : Int32))] (.int (0 : Int32)))
set_option maxRecDepth 65536 in
set_option maxHeartbeats 40000000 in
theorem rm_11 (l : Launch) (Z : State) (a0 : Array Value) (hw : ∀ d ∈ tables_1, d.before a0 Z = true) (ws : List Jvm.Cond) (w0 : Addr) (kw0 : ClassId) (p2 : Int32) (h0 : Heap) (n0 : Nat) (Z0 : n0 ≤ h0.size) (E_w0 : Exa Z h0 w0 "[I") (V_w0 : Arv Z h0 w0 kw0 .int (1 : Int32) [(.int p2)] (.int (0 : Int32))) (g_w0 : n0 ≤ w0) :
    MetFree l (⟨"java/util/Arrays", "copyOf", "([II)[I"⟩ : MethodName) (head1 (Jvm.Cond.code (⟨"java/util/Arrays", "copyOf", "([II)[I"⟩ : MethodName) jdk_65_method_123_code 3 (some (.array .int)) :: ws) ({ frames := 1, cells := 1, slots := 2, locals := 40 } : Room)) (fun a U => a = #[(.ref w0), (.int (2 : Int32))] ∧ Z.Warmed39 U.vm ∧ U.heap = h0) (fun _ _ _ _ _ => True) (fun _ U o U' => ∃ v L, o = .returned v ∧ (Fr n0 L ∧ Q_11 Z w0 kw0 p2 h0 n0 v U'.heap) ∧ FrameEnd U o U' L ({ frames := 1, cells := 1, slots := 2, locals := 40 } : Room).cells ({ frames := 1, cells := 1, slots := 2, locals := 40 } : Room).slots) := by
  refine own_enter (Q := Q_11 Z w0 kw0 p2 h0 n0) (F := fun m => mkF m 0 #[.val (.ref w0), .val (.int (2 : Int32)), .unset] []) (plainFor_of_name pn_2) (fun m => by first | (simp [entryFrame, mkF, argsToLocals, Value.category]; done) | rfl) ?_
  intro p e s m below meth c s₁ B X0
  have K : Keep h0 h0 [] := Keep.refl h0 _
  refine own_iloadN (pc' := 1) B X0 d9_0 rfl rfl ?_
  refine own_aloadN (pc' := 2) B X0 d9_1 rfl rfl rfl ?_
  refine own_arraylength (pc' := 3) B X0 V_w0 d9_2 rfl ?_
  refine own_icmpYes (pc' := 14) B X0 d9_3 (feq (by decide : ¬ ((2 : Int32) = (1 : Int32)))).2 (by decide) rfl ?_
  refine own_iloadN (pc' := 15) B X0 d9_14 rfl rfl ?_
  refine own_newarray (pc' := 17) B X0 (own_w hw 23 rfl) d9_15 rfl rfl (by decide) 2 (by decide) (by decide) (k' := 1) (n' := 2) rfl rfl (by decide) (by decide) "[I" (by decide) (.int (0 : Int32)) rfl ?_
  intro T1 h1 b1 kb1 X1 g1 E1 V_b1 E_b1
  have ne_w0_b1 : w0 ≠ b1 := own_ne E_w0.lt g1
  have sz_b1 : h0.size ≤ b1 := own_sz K g1
  have g_b1 : n0 ≤ b1 := Nat.le_trans Z0 sz_b1
  replace K := K.ext E1
  replace E_w0 := E_w0.ext E1
  replace V_w0 := V_w0.ext E1
  replace V_b1 : Arv Z h1 b1 kb1 .int (2 : Int32) [(.int (0 : Int32)), (.int (0 : Int32))] (.int (0 : Int32)) := V_b1.pad (pad_rep [] (.int (0 : Int32)) 2)
  refine own_astoreN (pc' := 18) B X1 (Ls' := #[.val (.ref w0), .val (.int (2 : Int32)), .val (.ref b1)]) d9_17 rfl rfl rfl ?_
  refine own_aloadN (pc' := 19) B X1 d9_18 rfl rfl rfl ?_
  refine own_iconst (pc' := 20) B X1 (z := (0 : Int32)) d9_19 rfl rfl ?_
  refine own_aloadN (pc' := 21) B X1 d9_20 rfl rfl rfl ?_
  refine own_iconst (pc' := 22) B X1 (z := (0 : Int32)) d9_21 rfl rfl ?_
  refine own_aloadN (pc' := 23) B X1 d9_22 rfl rfl rfl ?_
  refine own_arraylength (pc' := 24) B X1 V_w0 d9_23 rfl ?_
  refine own_iloadN (pc' := 25) B X1 d9_24 rfl rfl ?_
  refine own_callS (pc' := 28) B X1 (own_w hw 45 rfl) (own_w hw 46 rfl) (own_w hw 9 rfl) (own_w hw 47 rfl) (by decide) [(.int (1 : Int32)), (.int (2 : Int32))] [(.int (0 : Int32)), (.ref b1), (.int (0 : Int32)), (.ref w0)] (rm_12 l Z a0 hw []  h1 n0 (Nat.le_trans Z0 K.1) ) 4 (by decide) (by decide) rfl pd_1 rfl rfl (Nat.le_of_eq rfl) d9_25 rfl (k' := 1) (n' := 2) rfl rfl (by decide) (by decide) ?_
  intro T2 v2 h2 X2 q2
  obtain ⟨rfl, rfl⟩ := q2
  show own_Go p e below (T2.setTop (mkF m 28 #[.val (.ref w0), .val (.int (2 : Int32)), .val (.ref b1)] [(.int (1 : Int32)), (.int (0 : Int32)), (.ref b1), (.int (0 : Int32)), (.ref w0)])) _
  refine own_arraycopy (pc' := 31) B X2 (own_w hw 48 rfl) (own_w hw 51 rfl) (own_w hw 49 rfl) (own_w hw 50 rfl) V_w0 V_b1 rfl g_b1 (by decide) (by decide) (by decide) (by decide) (by decide) (us := [(.int p2)]) rfl (Nat.le_of_ble_eq_true rfl) (rs := [(.int p2), (.int (0 : Int32))]) rfl d9_28 rfl rfl (by decide) 0 (Nat.le_of_eq rfl) (by decide) ?_
  intro T3 h3 X3 K3 V_b1
  replace K := K.trans K3 (allS (Or.inr sz_b1) all0)
  replace E_w0 := E_w0.keep K3
  replace V_w0 := V_w0.keep K3 (ninS ne_w0_b1 nin0)
  replace E_b1 := E_b1.keep K3
  refine own_aloadN (pc' := 32) B X3 d9_31 rfl rfl rfl ?_
  exact own_retA B X3 (t := (.array .int)) rfl rfl rfl d9_32 (by decide) (by decide) (⟨b1, kb1, rfl, K, sz_b1, E_b1, V_b1⟩)
def Q_10 (Z : State) (w0 : Addr) (w1 : Addr) (kw1 : ClassId) (p3 : Int32) (p4 : Int32) (h0 : Heap) (n0 : Nat) (v : Option Value) (h : Heap) : Prop :=
  (∃ (b6 : Addr) (k7 : ClassId), v = none ∧ Keep h0 h [w0] ∧ h0.size ≤ b6 ∧ Exa Z h w0 "com/example/bagwise/bagwise/IntList" ∧ Fld Z h w0 "com/example/bagwise/bagwise/IntList" "values" "[I" (.ref b6) ∧ Fld Z h w0 "com/example/bagwise/bagwise/IntList" "size" "I" (.int (2 : Int32)) ∧ Exa Z h b6 "[I" ∧ Arv Z h b6 k7 .int (2 : Int32) [(.int p3), (.int p4)] (.int (0 : Int32)))
set_option maxRecDepth 65536 in
set_option maxHeartbeats 40000000 in
theorem rm_10 (l : Launch) (Z : State) (a0 : Array Value) (hw : ∀ d ∈ tables_1, d.before a0 Z = true) (ws : List Jvm.Cond) (w0 : Addr) (w1 : Addr) (kw1 : ClassId) (p3 : Int32) (p4 : Int32) (h0 : Heap) (n0 : Nat) (Z0 : n0 ≤ h0.size) (E_w0 : Exa Z h0 w0 "com/example/bagwise/bagwise/IntList") (F_w0_values : Fld Z h0 w0 "com/example/bagwise/bagwise/IntList" "values" "[I" (.ref w1)) (F_w0_size : Fld Z h0 w0 "com/example/bagwise/bagwise/IntList" "size" "I" (.int (1 : Int32))) (g_w0 : n0 ≤ w0) (E_w1 : Exa Z h0 w1 "[I") (V_w1 : Arv Z h0 w1 kw1 .int (1 : Int32) [(.int p3)] (.int (0 : Int32))) (g_w1 : n0 ≤ w1) (ne_w0_w1 : w0 ≠ w1) :
    MetFree l (⟨"com/example/bagwise/bagwise/IntList", "add", "(I)V"⟩ : MethodName) (head1 (Jvm.Cond.code (⟨"com/example/bagwise/bagwise/IntList", "add", "(I)V"⟩ : MethodName) prog_20_method_3_code 2 none :: ws) ({ frames := 2, cells := 1, slots := 2, locals := 55 } : Room)) (fun a U => a = #[(.ref w0), (.int p4)] ∧ Z.Warmed39 U.vm ∧ U.heap = h0) (fun _ _ _ _ _ => True) (fun _ U o U' => ∃ v L, o = .returned v ∧ (Fr n0 L ∧ Q_10 Z w0 w1 kw1 p3 p4 h0 n0 v U'.heap) ∧ FrameEnd U o U' L ({ frames := 2, cells := 1, slots := 2, locals := 55 } : Room).cells ({ frames := 2, cells := 1, slots := 2, locals := 55 } : Room).slots) := by
  refine own_enter (Q := Q_10 Z w0 w1 kw1 p3 p4 h0 n0) (F := fun m => mkF m 0 #[.val (.ref w0), .val (.int p4)] []) (plainFor_of_name pn_1) (fun m => by first | (simp [entryFrame, mkF, argsToLocals, Value.category]; done) | rfl) ?_
  intro p e s m below meth c s₁ B X0
  have K : Keep h0 h0 [w0] := Keep.refl h0 _
  refine own_aloadN (pc' := 1) B X0 d8_0 rfl rfl rfl ?_
  refine own_getfield (pc' := 4) B X0 (host := "") (Or.inl (own_w hw 34 rfl)) Via.refl F_w0_size d8_1 rfl ?_
  intro T1 X1
  refine own_aloadN (pc' := 5) B X1 d8_4 rfl rfl rfl ?_
  refine own_getfield (pc' := 8) B X1 (host := "") (Or.inl (own_w hw 24 rfl)) Via.refl F_w0_values d8_5 rfl ?_
  intro T2 X2
  refine own_arraylength (pc' := 9) B X2 V_w1 d8_8 rfl ?_
  refine own_icmpNo (pc' := 12) B X2 d8_9 (teq (by decide : (1 : Int32) = (1 : Int32))).2 rfl ?_
  refine own_aloadN (pc' := 13) B X2 d8_12 rfl rfl rfl ?_
  refine own_aloadN (pc' := 14) B X2 d8_13 rfl rfl rfl ?_
  refine own_getfield (pc' := 17) B X2 (host := "") (Or.inl (own_w hw 24 rfl)) Via.refl F_w0_values d8_14 rfl ?_
  intro T3 X3
  refine own_aloadN (pc' := 18) B X3 d8_17 rfl rfl rfl ?_
  refine own_getfield (pc' := 21) B X3 (host := "") (Or.inl (own_w hw 34 rfl)) Via.refl F_w0_size d8_18 rfl ?_
  intro T4 X4
  refine own_iconst (pc' := 22) B X4 (z := (2 : Int32)) d8_21 rfl rfl ?_
  refine own_imul (pc' := 23) B X4 (z := (2 : Int32)) d8_22 rfl (by decide) ?_
  refine own_callS (pc' := 26) B X4 (own_w hw 41 rfl) (own_w hw 42 rfl) (own_w hw 43 rfl) (own_w hw 44 rfl) (by decide) [(.ref w1), (.int (2 : Int32))] [(.ref w0)] (rm_11 l Z a0 hw [] w1 kw1 (p3) h0 n0 (Nat.le_trans Z0 K.1) E_w1 V_w1 g_w1) 1 (by decide) (by decide) rfl pd_5 rfl rfl (Nat.le_of_eq rfl) d8_23 rfl (k' := 1) (n' := 2) rfl rfl (by decide) (by decide) ?_
  intro T5 v5 h5 X5 q5
  have lt_w0 := E_w0.lt
  have lt_w1 := E_w1.lt
  obtain ⟨b6, k7, rfl, K5, z_b6, E_b6, V_b6⟩ := q5
  have ne_w0_b6 : w0 ≠ b6 := own_ne' lt_w0 z_b6
  have ne_w1_b6 : w1 ≠ b6 := own_ne' lt_w1 z_b6
  have sz_b6 : h0.size ≤ b6 := Nat.le_trans K.1 z_b6
  have g_b6 : n0 ≤ b6 := Nat.le_trans Z0 sz_b6
  replace K := K.trans K5 all0
  replace E_w0 := E_w0.keep K5
  replace F_w0_values := F_w0_values.keep K5 nin0
  replace F_w0_size := F_w0_size.keep K5 nin0
  replace E_w1 := E_w1.keep K5
  replace V_w1 := V_w1.keep K5 nin0
  show own_Go p e below (T5.setTop (mkF m 26 #[.val (.ref w0), .val (.int p4)] [(.ref b6), (.ref w0)])) _
  refine own_putfield (pc' := 29) B X5 (host := "") (Or.inl (own_w hw 24 rfl)) Via.refl F_w0_values E_w0 g_w0 (Or.inl (own_w hw 25 rfl)) (own_w hw 12 rfl) (ty := (.array .int)) (by decide) rfl rfl d8_26 rfl ?_
  intro T8 h8 X8 W8 F_w0_values
  replace E_w0 := E_w0.wr W8
  replace F_w0_size := F_w0_size.other W8 (Or.inr (slot_ne (Or.inl (own_w hw 35 rfl)) (Or.inl (own_w hw 25 rfl)) (by decide) (t := .int) (t' := (.array .int)) (by decide) (by decide)))
  replace E_w1 := E_w1.wr W8
  replace V_w1 := V_w1.other W8 (Ne.symm ne_w0_w1)
  replace E_b6 := E_b6.wr W8
  replace V_b6 := V_b6.other W8 (Ne.symm ne_w0_b6)
  replace K := K.wr W8 (Or.inl (List.mem_of_getElem? (i := 0) rfl))
  refine own_aloadN (pc' := 30) B X8 d8_29 rfl rfl rfl ?_
  refine own_getfield (pc' := 33) B X8 (host := "") (Or.inl (own_w hw 24 rfl)) Via.refl F_w0_values d8_30 rfl ?_
  intro T9 X9
  refine own_aloadN (pc' := 34) B X9 d8_33 rfl rfl rfl ?_
  refine own_dup (pc' := 35) B X9 d8_34 rfl rfl ?_
  refine own_getfield (pc' := 38) B X9 (host := "") (Or.inl (own_w hw 34 rfl)) Via.refl F_w0_size d8_35 rfl ?_
  intro T10 X10
  refine own_dup_x1 (pc' := 39) B X10 d8_38 rfl rfl rfl ?_
  refine own_iconst (pc' := 40) B X10 (z := (1 : Int32)) d8_39 rfl rfl ?_
  refine own_iadd (pc' := 41) B X10 (z := (2 : Int32)) d8_40 rfl (by decide) ?_
  refine own_putfield (pc' := 44) B X10 (host := "") (Or.inl (own_w hw 34 rfl)) Via.refl F_w0_size E_w0 g_w0 (Or.inl (own_w hw 35 rfl)) (own_w hw 12 rfl) (ty := .int) (by decide) rfl rfl d8_41 rfl ?_
  intro T11 h11 X11 W11 F_w0_size
  replace E_w0 := E_w0.wr W11
  replace F_w0_values := F_w0_values.other W11 (Or.inr (slot_ne (Or.inl (own_w hw 25 rfl)) (Or.inl (own_w hw 35 rfl)) (by decide) (t := (.array .int)) (t' := .int) (by decide) (by decide)))
  replace E_w1 := E_w1.wr W11
  replace V_w1 := V_w1.other W11 (Ne.symm ne_w0_w1)
  replace E_b6 := E_b6.wr W11
  replace V_b6 := V_b6.other W11 (Ne.symm ne_w0_b6)
  replace K := K.wr W11 (Or.inl (List.mem_of_getElem? (i := 0) rfl))
  refine own_iloadN (pc' := 45) B X11 d8_44 rfl rfl ?_
  refine own_iastore (pc' := 46) B X11 (x' := p4) V_b6 g_b6 ⟨by decide, by decide⟩ 1 (by decide) (Nat.le_of_ble_eq_true rfl) rfl d8_45 rfl ?_
  intro T12 h12 X12 W12 V_b6
  replace V_b6 : Arv Z h12 b6 k7 .int (2 : Int32) [(.int p3), (.int p4)] (.int (0 : Int32)) := V_b6
  replace E_w0 := E_w0.wr W12
  replace F_w0_values := F_w0_values.other W12 (Or.inl ne_w0_b6)
  replace F_w0_size := F_w0_size.other W12 (Or.inl ne_w0_b6)
  replace E_w1 := E_w1.wr W12
  replace V_w1 := V_w1.other W12 ne_w1_b6
  replace E_b6 := E_b6.wr W12
  replace K := K.wr W12 (Or.inr sz_b6)
  exact own_ret B X12 d8_46 (by decide) (by decide) (⟨b6, k7, rfl, K, sz_b6, E_w0, F_w0_values, F_w0_size, E_b6, V_b6⟩)
def Q_13 (Z : State) (w0 : Addr) (w1 : Addr) (kw1 : ClassId) (p3 : Int32) (p4 : Int32) (p5 : Int32) (h0 : Heap) (n0 : Nat) (v : Option Value) (h : Heap) : Prop :=
  (p4 < p5 ∧ v = some (.int (2 : Int32)) ∧ h0 = h) ∨
  (¬ (p4 < p5) ∧ p3 < p5 ∧ v = some (.int (1 : Int32)) ∧ h0 = h) ∨
  (¬ (p4 < p5) ∧ ¬ (p3 < p5) ∧ v = some (.int (0 : Int32)) ∧ h0 = h)
set_option maxRecDepth 65536 in
set_option maxHeartbeats 40000000 in
theorem rm_13 (l : Launch) (Z : State) (a0 : Array Value) (hw : ∀ d ∈ tables_1, d.before a0 Z = true) (ws : List Jvm.Cond) (w0 : Addr) (w1 : Addr) (kw1 : ClassId) (p3 : Int32) (p4 : Int32) (p5 : Int32) (h0 : Heap) (n0 : Nat) (Z0 : n0 ≤ h0.size) (E_w0 : Exa Z h0 w0 "com/example/bagwise/bagwise/IntList") (F_w0_values : Fld Z h0 w0 "com/example/bagwise/bagwise/IntList" "values" "[I" (.ref w1)) (F_w0_size : Fld Z h0 w0 "com/example/bagwise/bagwise/IntList" "size" "I" (.int (2 : Int32))) (g_w0 : n0 ≤ w0) (E_w1 : Exa Z h0 w1 "[I") (V_w1 : Arv Z h0 w1 kw1 .int (2 : Int32) [(.int p3), (.int p4)] (.int (0 : Int32))) (g_w1 : n0 ≤ w1) (ne_w0_w1 : w0 ≠ w1) :
    MetFree l (⟨"com/example/bagwise/bagwise/IntList", "firstAtLeast", "(I)I"⟩ : MethodName) (head1 (Jvm.Cond.code (⟨"com/example/bagwise/bagwise/IntList", "firstAtLeast", "(I)I"⟩ : MethodName) prog_20_method_7_code 5 (some .int) :: ws) ({ frames := 0, cells := 0, slots := 0, locals := 0 } : Room)) (fun a U => a = #[(.ref w0), (.int p5)] ∧ Z.Warmed39 U.vm ∧ U.heap = h0) (fun _ _ _ _ _ => True) (fun _ U o U' => ∃ v L, o = .returned v ∧ (Fr n0 L ∧ Q_13 Z w0 w1 kw1 p3 p4 p5 h0 n0 v U'.heap) ∧ FrameEnd U o U' L ({ frames := 0, cells := 0, slots := 0, locals := 0 } : Room).cells ({ frames := 0, cells := 0, slots := 0, locals := 0 } : Room).slots) := by
  refine own_enter (Q := Q_13 Z w0 w1 kw1 p3 p4 p5 h0 n0) (F := fun m => mkF m 0 #[.val (.ref w0), .val (.int p5), .unset, .unset, .unset] []) (plainFor_of_name pn_1) (fun m => by first | (simp [entryFrame, mkF, argsToLocals, Value.category]; done) | rfl) ?_
  intro p e s m below meth c s₁ B X0
  have K : Keep h0 h0 [] := Keep.refl h0 _
  refine own_iconst (pc' := 1) B X0 (z := (0 : Int32)) d7_0 rfl rfl ?_
  refine own_istoreN (pc' := 2) B X0 (Ls' := #[.val (.ref w0), .val (.int p5), .val (.int (0 : Int32)), .unset, .unset]) d7_1 rfl rfl ?_
  refine own_aloadN (pc' := 3) B X0 d7_2 rfl rfl rfl ?_
  refine own_getfield (pc' := 6) B X0 (host := "") (Or.inl (own_w hw 34 rfl)) Via.refl F_w0_size d7_3 rfl ?_
  intro T1 X1
  refine own_istoreN (pc' := 7) B X1 (Ls' := #[.val (.ref w0), .val (.int p5), .val (.int (0 : Int32)), .val (.int (2 : Int32)), .unset]) d7_6 rfl rfl ?_
  refine own_iloadN (pc' := 8) B X1 d7_7 rfl rfl ?_
  refine own_iloadN (pc' := 9) B X1 d7_8 rfl rfl ?_
  refine own_icmpNo (pc' := 12) B X1 d7_9 (tlt (by decide : (0 : Int32) < (2 : Int32))).2.1 rfl ?_
  refine own_iloadN (pc' := 13) B X1 d7_12 rfl rfl ?_
  refine own_iloadN (pc' := 14) B X1 d7_13 rfl rfl ?_
  refine own_iadd (pc' := 15) B X1 (z := (2 : Int32)) d7_14 rfl (by decide) ?_
  refine own_iconst (pc' := 16) B X1 (z := (1 : Int32)) d7_15 rfl rfl ?_
  refine own_iushr (pc' := 17) B X1 (z := (1 : Int32)) d7_16 rfl (by decide) ?_
  refine own_istore (pc' := 19) B X1 (Ls' := #[.val (.ref w0), .val (.int p5), .val (.int (0 : Int32)), .val (.int (2 : Int32)), .val (.int (1 : Int32))]) d7_17 rfl rfl ?_
  refine own_aloadN (pc' := 20) B X1 d7_19 rfl rfl rfl ?_
  refine own_getfield (pc' := 23) B X1 (host := "") (Or.inl (own_w hw 24 rfl)) Via.refl F_w0_values d7_20 rfl ?_
  intro T2 X2
  refine own_iload (pc' := 25) B X2 d7_23 rfl rfl ?_
  refine own_iaload (pc' := 26) B X2 V_w1 (v := (.int p4)) ⟨by decide, by decide⟩ rfl d7_25 rfl ?_
  refine own_iloadN (pc' := 27) B X2 d7_26 rfl rfl ?_
  by_cases c3 : p4 < p5
  · refine own_icmpNo (pc' := 30) B X2 d7_27 (tlt c3).2.1 rfl ?_
    refine own_iload (pc' := 32) B X2 d7_30 rfl rfl ?_
    refine own_iconst (pc' := 33) B X2 (z := (1 : Int32)) d7_32 rfl rfl ?_
    refine own_iadd (pc' := 34) B X2 (z := (2 : Int32)) d7_33 rfl (by decide) ?_
    refine own_istoreN (pc' := 35) B X2 (Ls' := #[.val (.ref w0), .val (.int p5), .val (.int (2 : Int32)), .val (.int (2 : Int32)), .val (.int (1 : Int32))]) d7_34 rfl rfl ?_
    refine own_goto (pc' := 41) B X2 d7_35 (by decide) rfl ?_
    refine own_goto (pc' := 7) B X2 d7_41 (by decide) rfl ?_
    refine own_iloadN (pc' := 8) B X2 d7_7 rfl rfl ?_
    refine own_iloadN (pc' := 9) B X2 d7_8 rfl rfl ?_
    refine own_icmpYes (pc' := 44) B X2 d7_9 (flt (by decide : ¬ ((2 : Int32) < (2 : Int32)))).2.1 (by decide) rfl ?_
    refine own_iloadN (pc' := 45) B X2 d7_44 rfl rfl ?_
    exact own_retI B X2 d7_45 (by decide) (by decide) (Or.inl ⟨c3, rfl, rfl⟩)
  · refine own_icmpYes (pc' := 38) B X2 d7_27 (flt c3).2.1 (by decide) rfl ?_
    refine own_iload (pc' := 40) B X2 d7_38 rfl rfl ?_
    refine own_istoreN (pc' := 41) B X2 (Ls' := #[.val (.ref w0), .val (.int p5), .val (.int (0 : Int32)), .val (.int (1 : Int32)), .val (.int (1 : Int32))]) d7_40 rfl rfl ?_
    refine own_goto (pc' := 7) B X2 d7_41 (by decide) rfl ?_
    refine own_iloadN (pc' := 8) B X2 d7_7 rfl rfl ?_
    refine own_iloadN (pc' := 9) B X2 d7_8 rfl rfl ?_
    refine own_icmpNo (pc' := 12) B X2 d7_9 (tlt (by decide : (0 : Int32) < (1 : Int32))).2.1 rfl ?_
    refine own_iloadN (pc' := 13) B X2 d7_12 rfl rfl ?_
    refine own_iloadN (pc' := 14) B X2 d7_13 rfl rfl ?_
    refine own_iadd (pc' := 15) B X2 (z := (1 : Int32)) d7_14 rfl (by decide) ?_
    refine own_iconst (pc' := 16) B X2 (z := (1 : Int32)) d7_15 rfl rfl ?_
    refine own_iushr (pc' := 17) B X2 (z := (0 : Int32)) d7_16 rfl (by decide) ?_
    refine own_istore (pc' := 19) B X2 (Ls' := #[.val (.ref w0), .val (.int p5), .val (.int (0 : Int32)), .val (.int (1 : Int32)), .val (.int (0 : Int32))]) d7_17 rfl rfl ?_
    refine own_aloadN (pc' := 20) B X2 d7_19 rfl rfl rfl ?_
    refine own_getfield (pc' := 23) B X2 (host := "") (Or.inl (own_w hw 24 rfl)) Via.refl F_w0_values d7_20 rfl ?_
    intro T4 X4
    refine own_iload (pc' := 25) B X4 d7_23 rfl rfl ?_
    refine own_iaload (pc' := 26) B X4 V_w1 (v := (.int p3)) ⟨by decide, by decide⟩ rfl d7_25 rfl ?_
    refine own_iloadN (pc' := 27) B X4 d7_26 rfl rfl ?_
    by_cases c5 : p3 < p5
    · refine own_icmpNo (pc' := 30) B X4 d7_27 (tlt c5).2.1 rfl ?_
      refine own_iload (pc' := 32) B X4 d7_30 rfl rfl ?_
      refine own_iconst (pc' := 33) B X4 (z := (1 : Int32)) d7_32 rfl rfl ?_
      refine own_iadd (pc' := 34) B X4 (z := (1 : Int32)) d7_33 rfl (by decide) ?_
      refine own_istoreN (pc' := 35) B X4 (Ls' := #[.val (.ref w0), .val (.int p5), .val (.int (1 : Int32)), .val (.int (1 : Int32)), .val (.int (0 : Int32))]) d7_34 rfl rfl ?_
      refine own_goto (pc' := 41) B X4 d7_35 (by decide) rfl ?_
      refine own_goto (pc' := 7) B X4 d7_41 (by decide) rfl ?_
      refine own_iloadN (pc' := 8) B X4 d7_7 rfl rfl ?_
      refine own_iloadN (pc' := 9) B X4 d7_8 rfl rfl ?_
      refine own_icmpYes (pc' := 44) B X4 d7_9 (flt (by decide : ¬ ((1 : Int32) < (1 : Int32)))).2.1 (by decide) rfl ?_
      refine own_iloadN (pc' := 45) B X4 d7_44 rfl rfl ?_
      exact own_retI B X4 d7_45 (by decide) (by decide) (Or.inr (Or.inl ⟨c3, c5, rfl, rfl⟩))
    · refine own_icmpYes (pc' := 38) B X4 d7_27 (flt c5).2.1 (by decide) rfl ?_
      refine own_iload (pc' := 40) B X4 d7_38 rfl rfl ?_
      refine own_istoreN (pc' := 41) B X4 (Ls' := #[.val (.ref w0), .val (.int p5), .val (.int (0 : Int32)), .val (.int (0 : Int32)), .val (.int (0 : Int32))]) d7_40 rfl rfl ?_
      refine own_goto (pc' := 7) B X4 d7_41 (by decide) rfl ?_
      refine own_iloadN (pc' := 8) B X4 d7_7 rfl rfl ?_
      refine own_iloadN (pc' := 9) B X4 d7_8 rfl rfl ?_
      refine own_icmpYes (pc' := 44) B X4 d7_9 (flt (by decide : ¬ ((0 : Int32) < (0 : Int32)))).2.1 (by decide) rfl ?_
      refine own_iloadN (pc' := 45) B X4 d7_44 rfl rfl ?_
      exact own_retI B X4 d7_45 (by decide) (by decide) (Or.inr (Or.inr (⟨c3, c5, rfl, rfl⟩)))
def Q_16 (Z : State)  (h0 : Heap) (n0 : Nat) (v : Option Value) (h : Heap) : Prop :=
  (v = some (.int (2 : Int32)) ∧ h0 = h)
set_option maxRecDepth 65536 in
set_option maxHeartbeats 40000000 in
theorem rm_16 (l : Launch) (Z : State) (a0 : Array Value) (hw : ∀ d ∈ tables_1, d.before a0 Z = true) (ws : List Jvm.Cond)  (h0 : Heap) (n0 : Nat) (Z0 : n0 ≤ h0.size)  :
    MetFree l (⟨"java/lang/Math", "min", "(II)I"⟩ : MethodName) (head1 (Jvm.Cond.code (⟨"java/lang/Math", "min", "(II)I"⟩ : MethodName) jdk_29_method_69_code 2 (some .int) :: ws) ({ frames := 0, cells := 0, slots := 0, locals := 0 } : Room)) (fun a U => a = #[(.int (2 : Int32)), (.int (4 : Int32))] ∧ Z.Warmed39 U.vm ∧ U.heap = h0) (fun _ _ _ _ _ => True) (fun _ U o U' => ∃ v L, o = .returned v ∧ (Fr n0 L ∧ Q_16 Z  h0 n0 v U'.heap) ∧ FrameEnd U o U' L ({ frames := 0, cells := 0, slots := 0, locals := 0 } : Room).cells ({ frames := 0, cells := 0, slots := 0, locals := 0 } : Room).slots) := by
  refine own_enter (Q := Q_16 Z  h0 n0) (F := fun m => mkF m 0 #[.val (.int (2 : Int32)), .val (.int (4 : Int32))] []) (Jvm.Free.JP.mathPlain rfl (by decide +kernel)) (fun m => by first | (simp [entryFrame, mkF, argsToLocals, Value.category]; done) | rfl) ?_
  intro p e s m below meth c s₁ B X0
  have K : Keep h0 h0 [] := Keep.refl h0 _
  refine own_iloadN (pc' := 1) B X0 d10_0 rfl rfl ?_
  refine own_iloadN (pc' := 2) B X0 d10_1 rfl rfl ?_
  refine own_icmpNo (pc' := 5) B X0 d10_2 (flt (by decide : ¬ ((4 : Int32) < (2 : Int32)))).2.2.1 rfl ?_
  refine own_iloadN (pc' := 6) B X0 d10_5 rfl rfl ?_
  refine own_goto (pc' := 10) B X0 d10_6 (by decide) rfl ?_
  exact own_retI B X0 d10_10 (by decide) (by decide) (⟨rfl, rfl⟩)
def Q_15 (Z : State) (w0 : Addr) (kw0 : ClassId) (p2 : Int32) (p3 : Int32) (h0 : Heap) (n0 : Nat) (v : Option Value) (h : Heap) : Prop :=
  (∃ (b1 : Addr) (kb1 : ClassId), v = some (.ref b1) ∧ Keep h0 h [] ∧ h0.size ≤ b1 ∧ Exa Z h b1 "[I" ∧ Arv Z h b1 kb1 .int (4 : Int32) [(.int p2), (.int p3), (.int (0 : Int32)), (.int (0 : Int32))] (.int (0 : Int32)))
set_option maxRecDepth 65536 in
set_option maxHeartbeats 40000000 in
theorem rm_15 (l : Launch) (Z : State) (a0 : Array Value) (hw : ∀ d ∈ tables_1, d.before a0 Z = true) (ws : List Jvm.Cond) (w0 : Addr) (kw0 : ClassId) (p2 : Int32) (p3 : Int32) (h0 : Heap) (n0 : Nat) (Z0 : n0 ≤ h0.size) (E_w0 : Exa Z h0 w0 "[I") (V_w0 : Arv Z h0 w0 kw0 .int (2 : Int32) [(.int p2), (.int p3)] (.int (0 : Int32))) (g_w0 : n0 ≤ w0) :
    MetFree l (⟨"java/util/Arrays", "copyOf", "([II)[I"⟩ : MethodName) (head1 (Jvm.Cond.code (⟨"java/util/Arrays", "copyOf", "([II)[I"⟩ : MethodName) jdk_65_method_123_code 3 (some (.array .int)) :: ws) ({ frames := 1, cells := 1, slots := 4, locals := 40 } : Room)) (fun a U => a = #[(.ref w0), (.int (4 : Int32))] ∧ Z.Warmed39 U.vm ∧ U.heap = h0) (fun _ _ _ _ _ => True) (fun _ U o U' => ∃ v L, o = .returned v ∧ (Fr n0 L ∧ Q_15 Z w0 kw0 p2 p3 h0 n0 v U'.heap) ∧ FrameEnd U o U' L ({ frames := 1, cells := 1, slots := 4, locals := 40 } : Room).cells ({ frames := 1, cells := 1, slots := 4, locals := 40 } : Room).slots) := by
  refine own_enter (Q := Q_15 Z w0 kw0 p2 p3 h0 n0) (F := fun m => mkF m 0 #[.val (.ref w0), .val (.int (4 : Int32)), .unset] []) (plainFor_of_name pn_2) (fun m => by first | (simp [entryFrame, mkF, argsToLocals, Value.category]; done) | rfl) ?_
  intro p e s m below meth c s₁ B X0
  have K : Keep h0 h0 [] := Keep.refl h0 _
  refine own_iloadN (pc' := 1) B X0 d9_0 rfl rfl ?_
  refine own_aloadN (pc' := 2) B X0 d9_1 rfl rfl rfl ?_
  refine own_arraylength (pc' := 3) B X0 V_w0 d9_2 rfl ?_
  refine own_icmpYes (pc' := 14) B X0 d9_3 (feq (by decide : ¬ ((4 : Int32) = (2 : Int32)))).2 (by decide) rfl ?_
  refine own_iloadN (pc' := 15) B X0 d9_14 rfl rfl ?_
  refine own_newarray (pc' := 17) B X0 (own_w hw 23 rfl) d9_15 rfl rfl (by decide) 4 (by decide) (by decide) (k' := 1) (n' := 4) rfl rfl (by decide) (by decide) "[I" (by decide) (.int (0 : Int32)) rfl ?_
  intro T1 h1 b1 kb1 X1 g1 E1 V_b1 E_b1
  have ne_w0_b1 : w0 ≠ b1 := own_ne E_w0.lt g1
  have sz_b1 : h0.size ≤ b1 := own_sz K g1
  have g_b1 : n0 ≤ b1 := Nat.le_trans Z0 sz_b1
  replace K := K.ext E1
  replace E_w0 := E_w0.ext E1
  replace V_w0 := V_w0.ext E1
  replace V_b1 : Arv Z h1 b1 kb1 .int (4 : Int32) [(.int (0 : Int32)), (.int (0 : Int32)), (.int (0 : Int32)), (.int (0 : Int32))] (.int (0 : Int32)) := V_b1.pad (pad_rep [] (.int (0 : Int32)) 4)
  refine own_astoreN (pc' := 18) B X1 (Ls' := #[.val (.ref w0), .val (.int (4 : Int32)), .val (.ref b1)]) d9_17 rfl rfl rfl ?_
  refine own_aloadN (pc' := 19) B X1 d9_18 rfl rfl rfl ?_
  refine own_iconst (pc' := 20) B X1 (z := (0 : Int32)) d9_19 rfl rfl ?_
  refine own_aloadN (pc' := 21) B X1 d9_20 rfl rfl rfl ?_
  refine own_iconst (pc' := 22) B X1 (z := (0 : Int32)) d9_21 rfl rfl ?_
  refine own_aloadN (pc' := 23) B X1 d9_22 rfl rfl rfl ?_
  refine own_arraylength (pc' := 24) B X1 V_w0 d9_23 rfl ?_
  refine own_iloadN (pc' := 25) B X1 d9_24 rfl rfl ?_
  refine own_callS (pc' := 28) B X1 (own_w hw 45 rfl) (own_w hw 46 rfl) (own_w hw 9 rfl) (own_w hw 47 rfl) (by decide) [(.int (2 : Int32)), (.int (4 : Int32))] [(.int (0 : Int32)), (.ref b1), (.int (0 : Int32)), (.ref w0)] (rm_16 l Z a0 hw []  h1 n0 (Nat.le_trans Z0 K.1) ) 4 (by decide) (by decide) rfl pd_1 rfl rfl (Nat.le_of_eq rfl) d9_25 rfl (k' := 1) (n' := 4) rfl rfl (by decide) (by decide) ?_
  intro T2 v2 h2 X2 q2
  obtain ⟨rfl, rfl⟩ := q2
  show own_Go p e below (T2.setTop (mkF m 28 #[.val (.ref w0), .val (.int (4 : Int32)), .val (.ref b1)] [(.int (2 : Int32)), (.int (0 : Int32)), (.ref b1), (.int (0 : Int32)), (.ref w0)])) _
  refine own_arraycopy (pc' := 31) B X2 (own_w hw 48 rfl) (own_w hw 51 rfl) (own_w hw 49 rfl) (own_w hw 50 rfl) V_w0 V_b1 rfl g_b1 (by decide) (by decide) (by decide) (by decide) (by decide) (us := [(.int p2), (.int p3)]) rfl (Nat.le_of_ble_eq_true rfl) (rs := [(.int p2), (.int p3), (.int (0 : Int32)), (.int (0 : Int32))]) rfl d9_28 rfl rfl (by decide) 0 (Nat.le_of_eq rfl) (by decide) ?_
  intro T3 h3 X3 K3 V_b1
  replace K := K.trans K3 (allS (Or.inr sz_b1) all0)
  replace E_w0 := E_w0.keep K3
  replace V_w0 := V_w0.keep K3 (ninS ne_w0_b1 nin0)
  replace E_b1 := E_b1.keep K3
  refine own_aloadN (pc' := 32) B X3 d9_31 rfl rfl rfl ?_
  exact own_retA B X3 (t := (.array .int)) rfl rfl rfl d9_32 (by decide) (by decide) (⟨b1, kb1, rfl, K, sz_b1, E_b1, V_b1⟩)
def Q_14 (Z : State) (w0 : Addr) (w1 : Addr) (kw1 : ClassId) (p3 : Int32) (p4 : Int32) (p5 : Int32) (h0 : Heap) (n0 : Nat) (v : Option Value) (h : Heap) : Prop :=
  (∃ (b6 : Addr) (k7 : ClassId), v = none ∧ Keep h0 h [w0] ∧ h0.size ≤ b6 ∧ Exa Z h w0 "com/example/bagwise/bagwise/IntList" ∧ Fld Z h w0 "com/example/bagwise/bagwise/IntList" "values" "[I" (.ref b6) ∧ Fld Z h w0 "com/example/bagwise/bagwise/IntList" "size" "I" (.int (3 : Int32)) ∧ Exa Z h b6 "[I" ∧ Arv Z h b6 k7 .int (4 : Int32) [(.int p3), (.int p4), (.int p5), (.int (0 : Int32))] (.int (0 : Int32)))
set_option maxRecDepth 65536 in
set_option maxHeartbeats 40000000 in
theorem rm_14 (l : Launch) (Z : State) (a0 : Array Value) (hw : ∀ d ∈ tables_1, d.before a0 Z = true) (ws : List Jvm.Cond) (w0 : Addr) (w1 : Addr) (kw1 : ClassId) (p3 : Int32) (p4 : Int32) (p5 : Int32) (h0 : Heap) (n0 : Nat) (Z0 : n0 ≤ h0.size) (E_w0 : Exa Z h0 w0 "com/example/bagwise/bagwise/IntList") (F_w0_values : Fld Z h0 w0 "com/example/bagwise/bagwise/IntList" "values" "[I" (.ref w1)) (F_w0_size : Fld Z h0 w0 "com/example/bagwise/bagwise/IntList" "size" "I" (.int (2 : Int32))) (g_w0 : n0 ≤ w0) (E_w1 : Exa Z h0 w1 "[I") (V_w1 : Arv Z h0 w1 kw1 .int (2 : Int32) [(.int p3), (.int p4)] (.int (0 : Int32))) (g_w1 : n0 ≤ w1) (ne_w0_w1 : w0 ≠ w1) :
    MetFree l (⟨"com/example/bagwise/bagwise/IntList", "add", "(I)V"⟩ : MethodName) (head1 (Jvm.Cond.code (⟨"com/example/bagwise/bagwise/IntList", "add", "(I)V"⟩ : MethodName) prog_20_method_3_code 2 none :: ws) ({ frames := 2, cells := 1, slots := 4, locals := 55 } : Room)) (fun a U => a = #[(.ref w0), (.int p5)] ∧ Z.Warmed39 U.vm ∧ U.heap = h0) (fun _ _ _ _ _ => True) (fun _ U o U' => ∃ v L, o = .returned v ∧ (Fr n0 L ∧ Q_14 Z w0 w1 kw1 p3 p4 p5 h0 n0 v U'.heap) ∧ FrameEnd U o U' L ({ frames := 2, cells := 1, slots := 4, locals := 55 } : Room).cells ({ frames := 2, cells := 1, slots := 4, locals := 55 } : Room).slots) := by
  refine own_enter (Q := Q_14 Z w0 w1 kw1 p3 p4 p5 h0 n0) (F := fun m => mkF m 0 #[.val (.ref w0), .val (.int p5)] []) (plainFor_of_name pn_1) (fun m => by first | (simp [entryFrame, mkF, argsToLocals, Value.category]; done) | rfl) ?_
  intro p e s m below meth c s₁ B X0
  have K : Keep h0 h0 [w0] := Keep.refl h0 _
  refine own_aloadN (pc' := 1) B X0 d8_0 rfl rfl rfl ?_
  refine own_getfield (pc' := 4) B X0 (host := "") (Or.inl (own_w hw 34 rfl)) Via.refl F_w0_size d8_1 rfl ?_
  intro T1 X1
  refine own_aloadN (pc' := 5) B X1 d8_4 rfl rfl rfl ?_
  refine own_getfield (pc' := 8) B X1 (host := "") (Or.inl (own_w hw 24 rfl)) Via.refl F_w0_values d8_5 rfl ?_
  intro T2 X2
  refine own_arraylength (pc' := 9) B X2 V_w1 d8_8 rfl ?_
  refine own_icmpNo (pc' := 12) B X2 d8_9 (teq (by decide : (2 : Int32) = (2 : Int32))).2 rfl ?_
  refine own_aloadN (pc' := 13) B X2 d8_12 rfl rfl rfl ?_
  refine own_aloadN (pc' := 14) B X2 d8_13 rfl rfl rfl ?_
  refine own_getfield (pc' := 17) B X2 (host := "") (Or.inl (own_w hw 24 rfl)) Via.refl F_w0_values d8_14 rfl ?_
  intro T3 X3
  refine own_aloadN (pc' := 18) B X3 d8_17 rfl rfl rfl ?_
  refine own_getfield (pc' := 21) B X3 (host := "") (Or.inl (own_w hw 34 rfl)) Via.refl F_w0_size d8_18 rfl ?_
  intro T4 X4
  refine own_iconst (pc' := 22) B X4 (z := (2 : Int32)) d8_21 rfl rfl ?_
  refine own_imul (pc' := 23) B X4 (z := (4 : Int32)) d8_22 rfl (by decide) ?_
  refine own_callS (pc' := 26) B X4 (own_w hw 41 rfl) (own_w hw 42 rfl) (own_w hw 43 rfl) (own_w hw 44 rfl) (by decide) [(.ref w1), (.int (4 : Int32))] [(.ref w0)] (rm_15 l Z a0 hw [] w1 kw1 (p3) (p4) h0 n0 (Nat.le_trans Z0 K.1) E_w1 V_w1 g_w1) 1 (by decide) (by decide) rfl pd_5 rfl rfl (Nat.le_of_eq rfl) d8_23 rfl (k' := 1) (n' := 4) rfl rfl (by decide) (by decide) ?_
  intro T5 v5 h5 X5 q5
  have lt_w0 := E_w0.lt
  have lt_w1 := E_w1.lt
  obtain ⟨b6, k7, rfl, K5, z_b6, E_b6, V_b6⟩ := q5
  have ne_w0_b6 : w0 ≠ b6 := own_ne' lt_w0 z_b6
  have ne_w1_b6 : w1 ≠ b6 := own_ne' lt_w1 z_b6
  have sz_b6 : h0.size ≤ b6 := Nat.le_trans K.1 z_b6
  have g_b6 : n0 ≤ b6 := Nat.le_trans Z0 sz_b6
  replace K := K.trans K5 all0
  replace E_w0 := E_w0.keep K5
  replace F_w0_values := F_w0_values.keep K5 nin0
  replace F_w0_size := F_w0_size.keep K5 nin0
  replace E_w1 := E_w1.keep K5
  replace V_w1 := V_w1.keep K5 nin0
  show own_Go p e below (T5.setTop (mkF m 26 #[.val (.ref w0), .val (.int p5)] [(.ref b6), (.ref w0)])) _
  refine own_putfield (pc' := 29) B X5 (host := "") (Or.inl (own_w hw 24 rfl)) Via.refl F_w0_values E_w0 g_w0 (Or.inl (own_w hw 25 rfl)) (own_w hw 12 rfl) (ty := (.array .int)) (by decide) rfl rfl d8_26 rfl ?_
  intro T8 h8 X8 W8 F_w0_values
  replace E_w0 := E_w0.wr W8
  replace F_w0_size := F_w0_size.other W8 (Or.inr (slot_ne (Or.inl (own_w hw 35 rfl)) (Or.inl (own_w hw 25 rfl)) (by decide) (t := .int) (t' := (.array .int)) (by decide) (by decide)))
  replace E_w1 := E_w1.wr W8
  replace V_w1 := V_w1.other W8 (Ne.symm ne_w0_w1)
  replace E_b6 := E_b6.wr W8
  replace V_b6 := V_b6.other W8 (Ne.symm ne_w0_b6)
  replace K := K.wr W8 (Or.inl (List.mem_of_getElem? (i := 0) rfl))
  refine own_aloadN (pc' := 30) B X8 d8_29 rfl rfl rfl ?_
  refine own_getfield (pc' := 33) B X8 (host := "") (Or.inl (own_w hw 24 rfl)) Via.refl F_w0_values d8_30 rfl ?_
  intro T9 X9
  refine own_aloadN (pc' := 34) B X9 d8_33 rfl rfl rfl ?_
  refine own_dup (pc' := 35) B X9 d8_34 rfl rfl ?_
  refine own_getfield (pc' := 38) B X9 (host := "") (Or.inl (own_w hw 34 rfl)) Via.refl F_w0_size d8_35 rfl ?_
  intro T10 X10
  refine own_dup_x1 (pc' := 39) B X10 d8_38 rfl rfl rfl ?_
  refine own_iconst (pc' := 40) B X10 (z := (1 : Int32)) d8_39 rfl rfl ?_
  refine own_iadd (pc' := 41) B X10 (z := (3 : Int32)) d8_40 rfl (by decide) ?_
  refine own_putfield (pc' := 44) B X10 (host := "") (Or.inl (own_w hw 34 rfl)) Via.refl F_w0_size E_w0 g_w0 (Or.inl (own_w hw 35 rfl)) (own_w hw 12 rfl) (ty := .int) (by decide) rfl rfl d8_41 rfl ?_
  intro T11 h11 X11 W11 F_w0_size
  replace E_w0 := E_w0.wr W11
  replace F_w0_values := F_w0_values.other W11 (Or.inr (slot_ne (Or.inl (own_w hw 25 rfl)) (Or.inl (own_w hw 35 rfl)) (by decide) (t := (.array .int)) (t' := .int) (by decide) (by decide)))
  replace E_w1 := E_w1.wr W11
  replace V_w1 := V_w1.other W11 (Ne.symm ne_w0_w1)
  replace E_b6 := E_b6.wr W11
  replace V_b6 := V_b6.other W11 (Ne.symm ne_w0_b6)
  replace K := K.wr W11 (Or.inl (List.mem_of_getElem? (i := 0) rfl))
  refine own_iloadN (pc' := 45) B X11 d8_44 rfl rfl ?_
  refine own_iastore (pc' := 46) B X11 (x' := p5) V_b6 g_b6 ⟨by decide, by decide⟩ 2 (by decide) (Nat.le_of_ble_eq_true rfl) rfl d8_45 rfl ?_
  intro T12 h12 X12 W12 V_b6
  replace V_b6 : Arv Z h12 b6 k7 .int (4 : Int32) [(.int p3), (.int p4), (.int p5), (.int (0 : Int32))] (.int (0 : Int32)) := V_b6
  replace E_w0 := E_w0.wr W12
  replace F_w0_values := F_w0_values.other W12 (Or.inl ne_w0_b6)
  replace F_w0_size := F_w0_size.other W12 (Or.inl ne_w0_b6)
  replace E_w1 := E_w1.wr W12
  replace V_w1 := V_w1.other W12 ne_w1_b6
  replace E_b6 := E_b6.wr W12
  replace K := K.wr W12 (Or.inr sz_b6)
  exact own_ret B X12 d8_46 (by decide) (by decide) (⟨b6, k7, rfl, K, sz_b6, E_w0, F_w0_values, F_w0_size, E_b6, V_b6⟩)
def Q_17 (Z : State) (w0 : Addr) (w1 : Addr) (kw1 : ClassId) (p3 : Int32) (p4 : Int32) (p5 : Int32) (p6 : Int32) (h0 : Heap) (n0 : Nat) (v : Option Value) (h : Heap) : Prop :=
  (p4 < p6 ∧ p5 < p6 ∧ v = some (.int (3 : Int32)) ∧ h0 = h) ∨
  (p4 < p6 ∧ ¬ (p5 < p6) ∧ v = some (.int (2 : Int32)) ∧ h0 = h) ∨
  (¬ (p4 < p6) ∧ p3 < p6 ∧ v = some (.int (1 : Int32)) ∧ h0 = h) ∨
  (¬ (p4 < p6) ∧ ¬ (p3 < p6) ∧ v = some (.int (0 : Int32)) ∧ h0 = h)
set_option maxRecDepth 65536 in
set_option maxHeartbeats 40000000 in
theorem rm_17 (l : Launch) (Z : State) (a0 : Array Value) (hw : ∀ d ∈ tables_1, d.before a0 Z = true) (ws : List Jvm.Cond) (w0 : Addr) (w1 : Addr) (kw1 : ClassId) (p3 : Int32) (p4 : Int32) (p5 : Int32) (p6 : Int32) (h0 : Heap) (n0 : Nat) (Z0 : n0 ≤ h0.size) (E_w0 : Exa Z h0 w0 "com/example/bagwise/bagwise/IntList") (F_w0_values : Fld Z h0 w0 "com/example/bagwise/bagwise/IntList" "values" "[I" (.ref w1)) (F_w0_size : Fld Z h0 w0 "com/example/bagwise/bagwise/IntList" "size" "I" (.int (3 : Int32))) (g_w0 : n0 ≤ w0) (E_w1 : Exa Z h0 w1 "[I") (V_w1 : Arv Z h0 w1 kw1 .int (4 : Int32) [(.int p3), (.int p4), (.int p5), (.int (0 : Int32))] (.int (0 : Int32))) (g_w1 : n0 ≤ w1) (ne_w0_w1 : w0 ≠ w1) :
    MetFree l (⟨"com/example/bagwise/bagwise/IntList", "firstAtLeast", "(I)I"⟩ : MethodName) (head1 (Jvm.Cond.code (⟨"com/example/bagwise/bagwise/IntList", "firstAtLeast", "(I)I"⟩ : MethodName) prog_20_method_7_code 5 (some .int) :: ws) ({ frames := 0, cells := 0, slots := 0, locals := 0 } : Room)) (fun a U => a = #[(.ref w0), (.int p6)] ∧ Z.Warmed39 U.vm ∧ U.heap = h0) (fun _ _ _ _ _ => True) (fun _ U o U' => ∃ v L, o = .returned v ∧ (Fr n0 L ∧ Q_17 Z w0 w1 kw1 p3 p4 p5 p6 h0 n0 v U'.heap) ∧ FrameEnd U o U' L ({ frames := 0, cells := 0, slots := 0, locals := 0 } : Room).cells ({ frames := 0, cells := 0, slots := 0, locals := 0 } : Room).slots) := by
  refine own_enter (Q := Q_17 Z w0 w1 kw1 p3 p4 p5 p6 h0 n0) (F := fun m => mkF m 0 #[.val (.ref w0), .val (.int p6), .unset, .unset, .unset] []) (plainFor_of_name pn_1) (fun m => by first | (simp [entryFrame, mkF, argsToLocals, Value.category]; done) | rfl) ?_
  intro p e s m below meth c s₁ B X0
  have K : Keep h0 h0 [] := Keep.refl h0 _
  refine own_iconst (pc' := 1) B X0 (z := (0 : Int32)) d7_0 rfl rfl ?_
  refine own_istoreN (pc' := 2) B X0 (Ls' := #[.val (.ref w0), .val (.int p6), .val (.int (0 : Int32)), .unset, .unset]) d7_1 rfl rfl ?_
  refine own_aloadN (pc' := 3) B X0 d7_2 rfl rfl rfl ?_
  refine own_getfield (pc' := 6) B X0 (host := "") (Or.inl (own_w hw 34 rfl)) Via.refl F_w0_size d7_3 rfl ?_
  intro T1 X1
  refine own_istoreN (pc' := 7) B X1 (Ls' := #[.val (.ref w0), .val (.int p6), .val (.int (0 : Int32)), .val (.int (3 : Int32)), .unset]) d7_6 rfl rfl ?_
  refine own_iloadN (pc' := 8) B X1 d7_7 rfl rfl ?_
  refine own_iloadN (pc' := 9) B X1 d7_8 rfl rfl ?_
  refine own_icmpNo (pc' := 12) B X1 d7_9 (tlt (by decide : (0 : Int32) < (3 : Int32))).2.1 rfl ?_
  refine own_iloadN (pc' := 13) B X1 d7_12 rfl rfl ?_
  refine own_iloadN (pc' := 14) B X1 d7_13 rfl rfl ?_
  refine own_iadd (pc' := 15) B X1 (z := (3 : Int32)) d7_14 rfl (by decide) ?_
  refine own_iconst (pc' := 16) B X1 (z := (1 : Int32)) d7_15 rfl rfl ?_
  refine own_iushr (pc' := 17) B X1 (z := (1 : Int32)) d7_16 rfl (by decide) ?_
  refine own_istore (pc' := 19) B X1 (Ls' := #[.val (.ref w0), .val (.int p6), .val (.int (0 : Int32)), .val (.int (3 : Int32)), .val (.int (1 : Int32))]) d7_17 rfl rfl ?_
  refine own_aloadN (pc' := 20) B X1 d7_19 rfl rfl rfl ?_
  refine own_getfield (pc' := 23) B X1 (host := "") (Or.inl (own_w hw 24 rfl)) Via.refl F_w0_values d7_20 rfl ?_
  intro T2 X2
  refine own_iload (pc' := 25) B X2 d7_23 rfl rfl ?_
  refine own_iaload (pc' := 26) B X2 V_w1 (v := (.int p4)) ⟨by decide, by decide⟩ rfl d7_25 rfl ?_
  refine own_iloadN (pc' := 27) B X2 d7_26 rfl rfl ?_
  by_cases c3 : p4 < p6
  · refine own_icmpNo (pc' := 30) B X2 d7_27 (tlt c3).2.1 rfl ?_
    refine own_iload (pc' := 32) B X2 d7_30 rfl rfl ?_
    refine own_iconst (pc' := 33) B X2 (z := (1 : Int32)) d7_32 rfl rfl ?_
    refine own_iadd (pc' := 34) B X2 (z := (2 : Int32)) d7_33 rfl (by decide) ?_
    refine own_istoreN (pc' := 35) B X2 (Ls' := #[.val (.ref w0), .val (.int p6), .val (.int (2 : Int32)), .val (.int (3 : Int32)), .val (.int (1 : Int32))]) d7_34 rfl rfl ?_
    refine own_goto (pc' := 41) B X2 d7_35 (by decide) rfl ?_
    refine own_goto (pc' := 7) B X2 d7_41 (by decide) rfl ?_
    refine own_iloadN (pc' := 8) B X2 d7_7 rfl rfl ?_
    refine own_iloadN (pc' := 9) B X2 d7_8 rfl rfl ?_
    refine own_icmpNo (pc' := 12) B X2 d7_9 (tlt (by decide : (2 : Int32) < (3 : Int32))).2.1 rfl ?_
    refine own_iloadN (pc' := 13) B X2 d7_12 rfl rfl ?_
    refine own_iloadN (pc' := 14) B X2 d7_13 rfl rfl ?_
    refine own_iadd (pc' := 15) B X2 (z := (5 : Int32)) d7_14 rfl (by decide) ?_
    refine own_iconst (pc' := 16) B X2 (z := (1 : Int32)) d7_15 rfl rfl ?_
    refine own_iushr (pc' := 17) B X2 (z := (2 : Int32)) d7_16 rfl (by decide) ?_
    refine own_istore (pc' := 19) B X2 (Ls' := #[.val (.ref w0), .val (.int p6), .val (.int (2 : Int32)), .val (.int (3 : Int32)), .val (.int (2 : Int32))]) d7_17 rfl rfl ?_
    refine own_aloadN (pc' := 20) B X2 d7_19 rfl rfl rfl ?_
    refine own_getfield (pc' := 23) B X2 (host := "") (Or.inl (own_w hw 24 rfl)) Via.refl F_w0_values d7_20 rfl ?_
    intro T4 X4
    refine own_iload (pc' := 25) B X4 d7_23 rfl rfl ?_
    refine own_iaload (pc' := 26) B X4 V_w1 (v := (.int p5)) ⟨by decide, by decide⟩ rfl d7_25 rfl ?_
    refine own_iloadN (pc' := 27) B X4 d7_26 rfl rfl ?_
    by_cases c5 : p5 < p6
    · refine own_icmpNo (pc' := 30) B X4 d7_27 (tlt c5).2.1 rfl ?_
      refine own_iload (pc' := 32) B X4 d7_30 rfl rfl ?_
      refine own_iconst (pc' := 33) B X4 (z := (1 : Int32)) d7_32 rfl rfl ?_
      refine own_iadd (pc' := 34) B X4 (z := (3 : Int32)) d7_33 rfl (by decide) ?_
      refine own_istoreN (pc' := 35) B X4 (Ls' := #[.val (.ref w0), .val (.int p6), .val (.int (3 : Int32)), .val (.int (3 : Int32)), .val (.int (2 : Int32))]) d7_34 rfl rfl ?_
      refine own_goto (pc' := 41) B X4 d7_35 (by decide) rfl ?_
      refine own_goto (pc' := 7) B X4 d7_41 (by decide) rfl ?_
      refine own_iloadN (pc' := 8) B X4 d7_7 rfl rfl ?_
      refine own_iloadN (pc' := 9) B X4 d7_8 rfl rfl ?_
      refine own_icmpYes (pc' := 44) B X4 d7_9 (flt (by decide : ¬ ((3 : Int32) < (3 : Int32)))).2.1 (by decide) rfl ?_
      refine own_iloadN (pc' := 45) B X4 d7_44 rfl rfl ?_
      exact own_retI B X4 d7_45 (by decide) (by decide) (Or.inl ⟨c3, c5, rfl, rfl⟩)
    · refine own_icmpYes (pc' := 38) B X4 d7_27 (flt c5).2.1 (by decide) rfl ?_
      refine own_iload (pc' := 40) B X4 d7_38 rfl rfl ?_
      refine own_istoreN (pc' := 41) B X4 (Ls' := #[.val (.ref w0), .val (.int p6), .val (.int (2 : Int32)), .val (.int (2 : Int32)), .val (.int (2 : Int32))]) d7_40 rfl rfl ?_
      refine own_goto (pc' := 7) B X4 d7_41 (by decide) rfl ?_
      refine own_iloadN (pc' := 8) B X4 d7_7 rfl rfl ?_
      refine own_iloadN (pc' := 9) B X4 d7_8 rfl rfl ?_
      refine own_icmpYes (pc' := 44) B X4 d7_9 (flt (by decide : ¬ ((2 : Int32) < (2 : Int32)))).2.1 (by decide) rfl ?_
      refine own_iloadN (pc' := 45) B X4 d7_44 rfl rfl ?_
      exact own_retI B X4 d7_45 (by decide) (by decide) (Or.inr (Or.inl ⟨c3, c5, rfl, rfl⟩))
  · refine own_icmpYes (pc' := 38) B X2 d7_27 (flt c3).2.1 (by decide) rfl ?_
    refine own_iload (pc' := 40) B X2 d7_38 rfl rfl ?_
    refine own_istoreN (pc' := 41) B X2 (Ls' := #[.val (.ref w0), .val (.int p6), .val (.int (0 : Int32)), .val (.int (1 : Int32)), .val (.int (1 : Int32))]) d7_40 rfl rfl ?_
    refine own_goto (pc' := 7) B X2 d7_41 (by decide) rfl ?_
    refine own_iloadN (pc' := 8) B X2 d7_7 rfl rfl ?_
    refine own_iloadN (pc' := 9) B X2 d7_8 rfl rfl ?_
    refine own_icmpNo (pc' := 12) B X2 d7_9 (tlt (by decide : (0 : Int32) < (1 : Int32))).2.1 rfl ?_
    refine own_iloadN (pc' := 13) B X2 d7_12 rfl rfl ?_
    refine own_iloadN (pc' := 14) B X2 d7_13 rfl rfl ?_
    refine own_iadd (pc' := 15) B X2 (z := (1 : Int32)) d7_14 rfl (by decide) ?_
    refine own_iconst (pc' := 16) B X2 (z := (1 : Int32)) d7_15 rfl rfl ?_
    refine own_iushr (pc' := 17) B X2 (z := (0 : Int32)) d7_16 rfl (by decide) ?_
    refine own_istore (pc' := 19) B X2 (Ls' := #[.val (.ref w0), .val (.int p6), .val (.int (0 : Int32)), .val (.int (1 : Int32)), .val (.int (0 : Int32))]) d7_17 rfl rfl ?_
    refine own_aloadN (pc' := 20) B X2 d7_19 rfl rfl rfl ?_
    refine own_getfield (pc' := 23) B X2 (host := "") (Or.inl (own_w hw 24 rfl)) Via.refl F_w0_values d7_20 rfl ?_
    intro T6 X6
    refine own_iload (pc' := 25) B X6 d7_23 rfl rfl ?_
    refine own_iaload (pc' := 26) B X6 V_w1 (v := (.int p3)) ⟨by decide, by decide⟩ rfl d7_25 rfl ?_
    refine own_iloadN (pc' := 27) B X6 d7_26 rfl rfl ?_
    by_cases c7 : p3 < p6
    · refine own_icmpNo (pc' := 30) B X6 d7_27 (tlt c7).2.1 rfl ?_
      refine own_iload (pc' := 32) B X6 d7_30 rfl rfl ?_
      refine own_iconst (pc' := 33) B X6 (z := (1 : Int32)) d7_32 rfl rfl ?_
      refine own_iadd (pc' := 34) B X6 (z := (1 : Int32)) d7_33 rfl (by decide) ?_
      refine own_istoreN (pc' := 35) B X6 (Ls' := #[.val (.ref w0), .val (.int p6), .val (.int (1 : Int32)), .val (.int (1 : Int32)), .val (.int (0 : Int32))]) d7_34 rfl rfl ?_
      refine own_goto (pc' := 41) B X6 d7_35 (by decide) rfl ?_
      refine own_goto (pc' := 7) B X6 d7_41 (by decide) rfl ?_
      refine own_iloadN (pc' := 8) B X6 d7_7 rfl rfl ?_
      refine own_iloadN (pc' := 9) B X6 d7_8 rfl rfl ?_
      refine own_icmpYes (pc' := 44) B X6 d7_9 (flt (by decide : ¬ ((1 : Int32) < (1 : Int32)))).2.1 (by decide) rfl ?_
      refine own_iloadN (pc' := 45) B X6 d7_44 rfl rfl ?_
      exact own_retI B X6 d7_45 (by decide) (by decide) (Or.inr (Or.inr (Or.inl ⟨c3, c7, rfl, rfl⟩)))
    · refine own_icmpYes (pc' := 38) B X6 d7_27 (flt c7).2.1 (by decide) rfl ?_
      refine own_iload (pc' := 40) B X6 d7_38 rfl rfl ?_
      refine own_istoreN (pc' := 41) B X6 (Ls' := #[.val (.ref w0), .val (.int p6), .val (.int (0 : Int32)), .val (.int (0 : Int32)), .val (.int (0 : Int32))]) d7_40 rfl rfl ?_
      refine own_goto (pc' := 7) B X6 d7_41 (by decide) rfl ?_
      refine own_iloadN (pc' := 8) B X6 d7_7 rfl rfl ?_
      refine own_iloadN (pc' := 9) B X6 d7_8 rfl rfl ?_
      refine own_icmpYes (pc' := 44) B X6 d7_9 (flt (by decide : ¬ ((0 : Int32) < (0 : Int32)))).2.1 (by decide) rfl ?_
      refine own_iloadN (pc' := 45) B X6 d7_44 rfl rfl ?_
      exact own_retI B X6 d7_45 (by decide) (by decide) (Or.inr (Or.inr (Or.inr (⟨c3, c7, rfl, rfl⟩))))
def Q_18 (Z : State) (w0 : Addr) (w1 : Addr) (kw1 : ClassId) (p3 : Int32) (p4 : Int32) (p5 : Int32) (p6 : Int32) (h0 : Heap) (n0 : Nat) (v : Option Value) (h : Heap) : Prop :=
  (v = none ∧ Keep h0 h [w0, w1] ∧ Exa Z h w0 "com/example/bagwise/bagwise/IntList" ∧ Fld Z h w0 "com/example/bagwise/bagwise/IntList" "values" "[I" (.ref w1) ∧ Fld Z h w0 "com/example/bagwise/bagwise/IntList" "size" "I" (.int (4 : Int32)) ∧ Exa Z h w1 "[I" ∧ Arv Z h w1 kw1 .int (4 : Int32) [(.int p3), (.int p4), (.int p5), (.int p6)] (.int (0 : Int32)))
set_option maxRecDepth 65536 in
set_option maxHeartbeats 40000000 in
theorem rm_18 (l : Launch) (Z : State) (a0 : Array Value) (hw : ∀ d ∈ tables_1, d.before a0 Z = true) (ws : List Jvm.Cond) (w0 : Addr) (w1 : Addr) (kw1 : ClassId) (p3 : Int32) (p4 : Int32) (p5 : Int32) (p6 : Int32) (h0 : Heap) (n0 : Nat) (Z0 : n0 ≤ h0.size) (E_w0 : Exa Z h0 w0 "com/example/bagwise/bagwise/IntList") (F_w0_values : Fld Z h0 w0 "com/example/bagwise/bagwise/IntList" "values" "[I" (.ref w1)) (F_w0_size : Fld Z h0 w0 "com/example/bagwise/bagwise/IntList" "size" "I" (.int (3 : Int32))) (g_w0 : n0 ≤ w0) (E_w1 : Exa Z h0 w1 "[I") (V_w1 : Arv Z h0 w1 kw1 .int (4 : Int32) [(.int p3), (.int p4), (.int p5), (.int (0 : Int32))] (.int (0 : Int32))) (g_w1 : n0 ≤ w1) (ne_w0_w1 : w0 ≠ w1) :
    MetFree l (⟨"com/example/bagwise/bagwise/IntList", "add", "(I)V"⟩ : MethodName) (head1 (Jvm.Cond.code (⟨"com/example/bagwise/bagwise/IntList", "add", "(I)V"⟩ : MethodName) prog_20_method_3_code 2 none :: ws) ({ frames := 0, cells := 0, slots := 0, locals := 0 } : Room)) (fun a U => a = #[(.ref w0), (.int p6)] ∧ Z.Warmed39 U.vm ∧ U.heap = h0) (fun _ _ _ _ _ => True) (fun _ U o U' => ∃ v L, o = .returned v ∧ (Fr n0 L ∧ Q_18 Z w0 w1 kw1 p3 p4 p5 p6 h0 n0 v U'.heap) ∧ FrameEnd U o U' L ({ frames := 0, cells := 0, slots := 0, locals := 0 } : Room).cells ({ frames := 0, cells := 0, slots := 0, locals := 0 } : Room).slots) := by
  refine own_enter (Q := Q_18 Z w0 w1 kw1 p3 p4 p5 p6 h0 n0) (F := fun m => mkF m 0 #[.val (.ref w0), .val (.int p6)] []) (plainFor_of_name pn_1) (fun m => by first | (simp [entryFrame, mkF, argsToLocals, Value.category]; done) | rfl) ?_
  intro p e s m below meth c s₁ B X0
  have K : Keep h0 h0 [w0, w1] := Keep.refl h0 _
  refine own_aloadN (pc' := 1) B X0 d8_0 rfl rfl rfl ?_
  refine own_getfield (pc' := 4) B X0 (host := "") (Or.inl (own_w hw 34 rfl)) Via.refl F_w0_size d8_1 rfl ?_
  intro T1 X1
  refine own_aloadN (pc' := 5) B X1 d8_4 rfl rfl rfl ?_
  refine own_getfield (pc' := 8) B X1 (host := "") (Or.inl (own_w hw 24 rfl)) Via.refl F_w0_values d8_5 rfl ?_
  intro T2 X2
  refine own_arraylength (pc' := 9) B X2 V_w1 d8_8 rfl ?_
  refine own_icmpYes (pc' := 29) B X2 d8_9 (feq (by decide : ¬ ((3 : Int32) = (4 : Int32)))).2 (by decide) rfl ?_
  refine own_aloadN (pc' := 30) B X2 d8_29 rfl rfl rfl ?_
  refine own_getfield (pc' := 33) B X2 (host := "") (Or.inl (own_w hw 24 rfl)) Via.refl F_w0_values d8_30 rfl ?_
  intro T3 X3
  refine own_aloadN (pc' := 34) B X3 d8_33 rfl rfl rfl ?_
  refine own_dup (pc' := 35) B X3 d8_34 rfl rfl ?_
  refine own_getfield (pc' := 38) B X3 (host := "") (Or.inl (own_w hw 34 rfl)) Via.refl F_w0_size d8_35 rfl ?_
  intro T4 X4
  refine own_dup_x1 (pc' := 39) B X4 d8_38 rfl rfl rfl ?_
  refine own_iconst (pc' := 40) B X4 (z := (1 : Int32)) d8_39 rfl rfl ?_
  refine own_iadd (pc' := 41) B X4 (z := (4 : Int32)) d8_40 rfl (by decide) ?_
  refine own_putfield (pc' := 44) B X4 (host := "") (Or.inl (own_w hw 34 rfl)) Via.refl F_w0_size E_w0 g_w0 (Or.inl (own_w hw 35 rfl)) (own_w hw 12 rfl) (ty := .int) (by decide) rfl rfl d8_41 rfl ?_
  intro T5 h5 X5 W5 F_w0_size
  replace E_w0 := E_w0.wr W5
  replace F_w0_values := F_w0_values.other W5 (Or.inr (slot_ne (Or.inl (own_w hw 25 rfl)) (Or.inl (own_w hw 35 rfl)) (by decide) (t := (.array .int)) (t' := .int) (by decide) (by decide)))
  replace E_w1 := E_w1.wr W5
  replace V_w1 := V_w1.other W5 (Ne.symm ne_w0_w1)
  replace K := K.wr W5 (Or.inl (List.mem_of_getElem? (i := 0) rfl))
  refine own_iloadN (pc' := 45) B X5 d8_44 rfl rfl ?_
  refine own_iastore (pc' := 46) B X5 (x' := p6) V_w1 g_w1 ⟨by decide, by decide⟩ 3 (by decide) (Nat.le_of_ble_eq_true rfl) rfl d8_45 rfl ?_
  intro T6 h6 X6 W6 V_w1
  replace V_w1 : Arv Z h6 w1 kw1 .int (4 : Int32) [(.int p3), (.int p4), (.int p5), (.int p6)] (.int (0 : Int32)) := V_w1
  replace E_w0 := E_w0.wr W6
  replace F_w0_values := F_w0_values.other W6 (Or.inl ne_w0_w1)
  replace F_w0_size := F_w0_size.other W6 (Or.inl ne_w0_w1)
  replace E_w1 := E_w1.wr W6
  replace K := K.wr W6 (Or.inl (List.mem_of_getElem? (i := 1) rfl))
  exact own_ret B X6 d8_46 (by decide) (by decide) (⟨rfl, K, E_w0, F_w0_values, F_w0_size, E_w1, V_w1⟩)
def Q_19 (Z : State) (w0 : Addr) (w1 : Addr) (kw1 : ClassId) (p3 : Int32) (p4 : Int32) (p5 : Int32) (p6 : Int32) (p7 : Int32) (h0 : Heap) (n0 : Nat) (v : Option Value) (h : Heap) : Prop :=
  (p5 < p7 ∧ p6 < p7 ∧ v = some (.int (4 : Int32)) ∧ h0 = h) ∨
  (p5 < p7 ∧ ¬ (p6 < p7) ∧ v = some (.int (3 : Int32)) ∧ h0 = h) ∨
  (¬ (p5 < p7) ∧ p4 < p7 ∧ v = some (.int (2 : Int32)) ∧ h0 = h) ∨
  (¬ (p5 < p7) ∧ ¬ (p4 < p7) ∧ p3 < p7 ∧ v = some (.int (1 : Int32)) ∧ h0 = h) ∨
  (¬ (p5 < p7) ∧ ¬ (p4 < p7) ∧ ¬ (p3 < p7) ∧ v = some (.int (0 : Int32)) ∧ h0 = h)
set_option maxRecDepth 65536 in
set_option maxHeartbeats 40000000 in
theorem rm_19 (l : Launch) (Z : State) (a0 : Array Value) (hw : ∀ d ∈ tables_1, d.before a0 Z = true) (ws : List Jvm.Cond) (w0 : Addr) (w1 : Addr) (kw1 : ClassId) (p3 : Int32) (p4 : Int32) (p5 : Int32) (p6 : Int32) (p7 : Int32) (h0 : Heap) (n0 : Nat) (Z0 : n0 ≤ h0.size) (E_w0 : Exa Z h0 w0 "com/example/bagwise/bagwise/IntList") (F_w0_values : Fld Z h0 w0 "com/example/bagwise/bagwise/IntList" "values" "[I" (.ref w1)) (F_w0_size : Fld Z h0 w0 "com/example/bagwise/bagwise/IntList" "size" "I" (.int (4 : Int32))) (g_w0 : n0 ≤ w0) (E_w1 : Exa Z h0 w1 "[I") (V_w1 : Arv Z h0 w1 kw1 .int (4 : Int32) [(.int p3), (.int p4), (.int p5), (.int p6)] (.int (0 : Int32))) (g_w1 : n0 ≤ w1) (ne_w0_w1 : w0 ≠ w1) :
    MetFree l (⟨"com/example/bagwise/bagwise/IntList", "firstAtLeast", "(I)I"⟩ : MethodName) (head1 (Jvm.Cond.code (⟨"com/example/bagwise/bagwise/IntList", "firstAtLeast", "(I)I"⟩ : MethodName) prog_20_method_7_code 5 (some .int) :: ws) ({ frames := 0, cells := 0, slots := 0, locals := 0 } : Room)) (fun a U => a = #[(.ref w0), (.int p7)] ∧ Z.Warmed39 U.vm ∧ U.heap = h0) (fun _ _ _ _ _ => True) (fun _ U o U' => ∃ v L, o = .returned v ∧ (Fr n0 L ∧ Q_19 Z w0 w1 kw1 p3 p4 p5 p6 p7 h0 n0 v U'.heap) ∧ FrameEnd U o U' L ({ frames := 0, cells := 0, slots := 0, locals := 0 } : Room).cells ({ frames := 0, cells := 0, slots := 0, locals := 0 } : Room).slots) := by
  refine own_enter (Q := Q_19 Z w0 w1 kw1 p3 p4 p5 p6 p7 h0 n0) (F := fun m => mkF m 0 #[.val (.ref w0), .val (.int p7), .unset, .unset, .unset] []) (plainFor_of_name pn_1) (fun m => by first | (simp [entryFrame, mkF, argsToLocals, Value.category]; done) | rfl) ?_
  intro p e s m below meth c s₁ B X0
  have K : Keep h0 h0 [] := Keep.refl h0 _
  refine own_iconst (pc' := 1) B X0 (z := (0 : Int32)) d7_0 rfl rfl ?_
  refine own_istoreN (pc' := 2) B X0 (Ls' := #[.val (.ref w0), .val (.int p7), .val (.int (0 : Int32)), .unset, .unset]) d7_1 rfl rfl ?_
  refine own_aloadN (pc' := 3) B X0 d7_2 rfl rfl rfl ?_
  refine own_getfield (pc' := 6) B X0 (host := "") (Or.inl (own_w hw 34 rfl)) Via.refl F_w0_size d7_3 rfl ?_
  intro T1 X1
  refine own_istoreN (pc' := 7) B X1 (Ls' := #[.val (.ref w0), .val (.int p7), .val (.int (0 : Int32)), .val (.int (4 : Int32)), .unset]) d7_6 rfl rfl ?_
  refine own_iloadN (pc' := 8) B X1 d7_7 rfl rfl ?_
  refine own_iloadN (pc' := 9) B X1 d7_8 rfl rfl ?_
  refine own_icmpNo (pc' := 12) B X1 d7_9 (tlt (by decide : (0 : Int32) < (4 : Int32))).2.1 rfl ?_
  refine own_iloadN (pc' := 13) B X1 d7_12 rfl rfl ?_
  refine own_iloadN (pc' := 14) B X1 d7_13 rfl rfl ?_
  refine own_iadd (pc' := 15) B X1 (z := (4 : Int32)) d7_14 rfl (by decide) ?_
  refine own_iconst (pc' := 16) B X1 (z := (1 : Int32)) d7_15 rfl rfl ?_
  refine own_iushr (pc' := 17) B X1 (z := (2 : Int32)) d7_16 rfl (by decide) ?_
  refine own_istore (pc' := 19) B X1 (Ls' := #[.val (.ref w0), .val (.int p7), .val (.int (0 : Int32)), .val (.int (4 : Int32)), .val (.int (2 : Int32))]) d7_17 rfl rfl ?_
  refine own_aloadN (pc' := 20) B X1 d7_19 rfl rfl rfl ?_
  refine own_getfield (pc' := 23) B X1 (host := "") (Or.inl (own_w hw 24 rfl)) Via.refl F_w0_values d7_20 rfl ?_
  intro T2 X2
  refine own_iload (pc' := 25) B X2 d7_23 rfl rfl ?_
  refine own_iaload (pc' := 26) B X2 V_w1 (v := (.int p5)) ⟨by decide, by decide⟩ rfl d7_25 rfl ?_
  refine own_iloadN (pc' := 27) B X2 d7_26 rfl rfl ?_
  by_cases c3 : p5 < p7
  · refine own_icmpNo (pc' := 30) B X2 d7_27 (tlt c3).2.1 rfl ?_
    refine own_iload (pc' := 32) B X2 d7_30 rfl rfl ?_
    refine own_iconst (pc' := 33) B X2 (z := (1 : Int32)) d7_32 rfl rfl ?_
    refine own_iadd (pc' := 34) B X2 (z := (3 : Int32)) d7_33 rfl (by decide) ?_
    refine own_istoreN (pc' := 35) B X2 (Ls' := #[.val (.ref w0), .val (.int p7), .val (.int (3 : Int32)), .val (.int (4 : Int32)), .val (.int (2 : Int32))]) d7_34 rfl rfl ?_
    refine own_goto (pc' := 41) B X2 d7_35 (by decide) rfl ?_
    refine own_goto (pc' := 7) B X2 d7_41 (by decide) rfl ?_
    refine own_iloadN (pc' := 8) B X2 d7_7 rfl rfl ?_
    refine own_iloadN (pc' := 9) B X2 d7_8 rfl rfl ?_
    refine own_icmpNo (pc' := 12) B X2 d7_9 (tlt (by decide : (3 : Int32) < (4 : Int32))).2.1 rfl ?_
    refine own_iloadN (pc' := 13) B X2 d7_12 rfl rfl ?_
    refine own_iloadN (pc' := 14) B X2 d7_13 rfl rfl ?_
    refine own_iadd (pc' := 15) B X2 (z := (7 : Int32)) d7_14 rfl (by decide) ?_
    refine own_iconst (pc' := 16) B X2 (z := (1 : Int32)) d7_15 rfl rfl ?_
    refine own_iushr (pc' := 17) B X2 (z := (3 : Int32)) d7_16 rfl (by decide) ?_
    refine own_istore (pc' := 19) B X2 (Ls' := #[.val (.ref w0), .val (.int p7), .val (.int (3 : Int32)), .val (.int (4 : Int32)), .val (.int (3 : Int32))]) d7_17 rfl rfl ?_
    refine own_aloadN (pc' := 20) B X2 d7_19 rfl rfl rfl ?_
    refine own_getfield (pc' := 23) B X2 (host := "") (Or.inl (own_w hw 24 rfl)) Via.refl F_w0_values d7_20 rfl ?_
    intro T4 X4
    refine own_iload (pc' := 25) B X4 d7_23 rfl rfl ?_
    refine own_iaload (pc' := 26) B X4 V_w1 (v := (.int p6)) ⟨by decide, by decide⟩ rfl d7_25 rfl ?_
    refine own_iloadN (pc' := 27) B X4 d7_26 rfl rfl ?_
    by_cases c5 : p6 < p7
    · refine own_icmpNo (pc' := 30) B X4 d7_27 (tlt c5).2.1 rfl ?_
      refine own_iload (pc' := 32) B X4 d7_30 rfl rfl ?_
      refine own_iconst (pc' := 33) B X4 (z := (1 : Int32)) d7_32 rfl rfl ?_
      refine own_iadd (pc' := 34) B X4 (z := (4 : Int32)) d7_33 rfl (by decide) ?_
      refine own_istoreN (pc' := 35) B X4 (Ls' := #[.val (.ref w0), .val (.int p7), .val (.int (4 : Int32)), .val (.int (4 : Int32)), .val (.int (3 : Int32))]) d7_34 rfl rfl ?_
      refine own_goto (pc' := 41) B X4 d7_35 (by decide) rfl ?_
      refine own_goto (pc' := 7) B X4 d7_41 (by decide) rfl ?_
      refine own_iloadN (pc' := 8) B X4 d7_7 rfl rfl ?_
      refine own_iloadN (pc' := 9) B X4 d7_8 rfl rfl ?_
      refine own_icmpYes (pc' := 44) B X4 d7_9 (flt (by decide : ¬ ((4 : Int32) < (4 : Int32)))).2.1 (by decide) rfl ?_
      refine own_iloadN (pc' := 45) B X4 d7_44 rfl rfl ?_
      exact own_retI B X4 d7_45 (by decide) (by decide) (Or.inl ⟨c3, c5, rfl, rfl⟩)
    · refine own_icmpYes (pc' := 38) B X4 d7_27 (flt c5).2.1 (by decide) rfl ?_
      refine own_iload (pc' := 40) B X4 d7_38 rfl rfl ?_
      refine own_istoreN (pc' := 41) B X4 (Ls' := #[.val (.ref w0), .val (.int p7), .val (.int (3 : Int32)), .val (.int (3 : Int32)), .val (.int (3 : Int32))]) d7_40 rfl rfl ?_
      refine own_goto (pc' := 7) B X4 d7_41 (by decide) rfl ?_
      refine own_iloadN (pc' := 8) B X4 d7_7 rfl rfl ?_
      refine own_iloadN (pc' := 9) B X4 d7_8 rfl rfl ?_
      refine own_icmpYes (pc' := 44) B X4 d7_9 (flt (by decide : ¬ ((3 : Int32) < (3 : Int32)))).2.1 (by decide) rfl ?_
      refine own_iloadN (pc' := 45) B X4 d7_44 rfl rfl ?_
      exact own_retI B X4 d7_45 (by decide) (by decide) (Or.inr (Or.inl ⟨c3, c5, rfl, rfl⟩))
  · refine own_icmpYes (pc' := 38) B X2 d7_27 (flt c3).2.1 (by decide) rfl ?_
    refine own_iload (pc' := 40) B X2 d7_38 rfl rfl ?_
    refine own_istoreN (pc' := 41) B X2 (Ls' := #[.val (.ref w0), .val (.int p7), .val (.int (0 : Int32)), .val (.int (2 : Int32)), .val (.int (2 : Int32))]) d7_40 rfl rfl ?_
    refine own_goto (pc' := 7) B X2 d7_41 (by decide) rfl ?_
    refine own_iloadN (pc' := 8) B X2 d7_7 rfl rfl ?_
    refine own_iloadN (pc' := 9) B X2 d7_8 rfl rfl ?_
    refine own_icmpNo (pc' := 12) B X2 d7_9 (tlt (by decide : (0 : Int32) < (2 : Int32))).2.1 rfl ?_
    refine own_iloadN (pc' := 13) B X2 d7_12 rfl rfl ?_
    refine own_iloadN (pc' := 14) B X2 d7_13 rfl rfl ?_
    refine own_iadd (pc' := 15) B X2 (z := (2 : Int32)) d7_14 rfl (by decide) ?_
    refine own_iconst (pc' := 16) B X2 (z := (1 : Int32)) d7_15 rfl rfl ?_
    refine own_iushr (pc' := 17) B X2 (z := (1 : Int32)) d7_16 rfl (by decide) ?_
    refine own_istore (pc' := 19) B X2 (Ls' := #[.val (.ref w0), .val (.int p7), .val (.int (0 : Int32)), .val (.int (2 : Int32)), .val (.int (1 : Int32))]) d7_17 rfl rfl ?_
    refine own_aloadN (pc' := 20) B X2 d7_19 rfl rfl rfl ?_
    refine own_getfield (pc' := 23) B X2 (host := "") (Or.inl (own_w hw 24 rfl)) Via.refl F_w0_values d7_20 rfl ?_
    intro T6 X6
    refine own_iload (pc' := 25) B X6 d7_23 rfl rfl ?_
    refine own_iaload (pc' := 26) B X6 V_w1 (v := (.int p4)) ⟨by decide, by decide⟩ rfl d7_25 rfl ?_
    refine own_iloadN (pc' := 27) B X6 d7_26 rfl rfl ?_
    by_cases c7 : p4 < p7
    · refine own_icmpNo (pc' := 30) B X6 d7_27 (tlt c7).2.1 rfl ?_
      refine own_iload (pc' := 32) B X6 d7_30 rfl rfl ?_
      refine own_iconst (pc' := 33) B X6 (z := (1 : Int32)) d7_32 rfl rfl ?_
      refine own_iadd (pc' := 34) B X6 (z := (2 : Int32)) d7_33 rfl (by decide) ?_
      refine own_istoreN (pc' := 35) B X6 (Ls' := #[.val (.ref w0), .val (.int p7), .val (.int (2 : Int32)), .val (.int (2 : Int32)), .val (.int (1 : Int32))]) d7_34 rfl rfl ?_
      refine own_goto (pc' := 41) B X6 d7_35 (by decide) rfl ?_
      refine own_goto (pc' := 7) B X6 d7_41 (by decide) rfl ?_
      refine own_iloadN (pc' := 8) B X6 d7_7 rfl rfl ?_
      refine own_iloadN (pc' := 9) B X6 d7_8 rfl rfl ?_
      refine own_icmpYes (pc' := 44) B X6 d7_9 (flt (by decide : ¬ ((2 : Int32) < (2 : Int32)))).2.1 (by decide) rfl ?_
      refine own_iloadN (pc' := 45) B X6 d7_44 rfl rfl ?_
      exact own_retI B X6 d7_45 (by decide) (by decide) (Or.inr (Or.inr (Or.inl ⟨c3, c7, rfl, rfl⟩)))
    · refine own_icmpYes (pc' := 38) B X6 d7_27 (flt c7).2.1 (by decide) rfl ?_
      refine own_iload (pc' := 40) B X6 d7_38 rfl rfl ?_
      refine own_istoreN (pc' := 41) B X6 (Ls' := #[.val (.ref w0), .val (.int p7), .val (.int (0 : Int32)), .val (.int (1 : Int32)), .val (.int (1 : Int32))]) d7_40 rfl rfl ?_
      refine own_goto (pc' := 7) B X6 d7_41 (by decide) rfl ?_
      refine own_iloadN (pc' := 8) B X6 d7_7 rfl rfl ?_
      refine own_iloadN (pc' := 9) B X6 d7_8 rfl rfl ?_
      refine own_icmpNo (pc' := 12) B X6 d7_9 (tlt (by decide : (0 : Int32) < (1 : Int32))).2.1 rfl ?_
      refine own_iloadN (pc' := 13) B X6 d7_12 rfl rfl ?_
      refine own_iloadN (pc' := 14) B X6 d7_13 rfl rfl ?_
      refine own_iadd (pc' := 15) B X6 (z := (1 : Int32)) d7_14 rfl (by decide) ?_
      refine own_iconst (pc' := 16) B X6 (z := (1 : Int32)) d7_15 rfl rfl ?_
      refine own_iushr (pc' := 17) B X6 (z := (0 : Int32)) d7_16 rfl (by decide) ?_
      refine own_istore (pc' := 19) B X6 (Ls' := #[.val (.ref w0), .val (.int p7), .val (.int (0 : Int32)), .val (.int (1 : Int32)), .val (.int (0 : Int32))]) d7_17 rfl rfl ?_
      refine own_aloadN (pc' := 20) B X6 d7_19 rfl rfl rfl ?_
      refine own_getfield (pc' := 23) B X6 (host := "") (Or.inl (own_w hw 24 rfl)) Via.refl F_w0_values d7_20 rfl ?_
      intro T8 X8
      refine own_iload (pc' := 25) B X8 d7_23 rfl rfl ?_
      refine own_iaload (pc' := 26) B X8 V_w1 (v := (.int p3)) ⟨by decide, by decide⟩ rfl d7_25 rfl ?_
      refine own_iloadN (pc' := 27) B X8 d7_26 rfl rfl ?_
      by_cases c9 : p3 < p7
      · refine own_icmpNo (pc' := 30) B X8 d7_27 (tlt c9).2.1 rfl ?_
        refine own_iload (pc' := 32) B X8 d7_30 rfl rfl ?_
        refine own_iconst (pc' := 33) B X8 (z := (1 : Int32)) d7_32 rfl rfl ?_
        refine own_iadd (pc' := 34) B X8 (z := (1 : Int32)) d7_33 rfl (by decide) ?_
        refine own_istoreN (pc' := 35) B X8 (Ls' := #[.val (.ref w0), .val (.int p7), .val (.int (1 : Int32)), .val (.int (1 : Int32)), .val (.int (0 : Int32))]) d7_34 rfl rfl ?_
        refine own_goto (pc' := 41) B X8 d7_35 (by decide) rfl ?_
        refine own_goto (pc' := 7) B X8 d7_41 (by decide) rfl ?_
        refine own_iloadN (pc' := 8) B X8 d7_7 rfl rfl ?_
        refine own_iloadN (pc' := 9) B X8 d7_8 rfl rfl ?_
        refine own_icmpYes (pc' := 44) B X8 d7_9 (flt (by decide : ¬ ((1 : Int32) < (1 : Int32)))).2.1 (by decide) rfl ?_
        refine own_iloadN (pc' := 45) B X8 d7_44 rfl rfl ?_
        exact own_retI B X8 d7_45 (by decide) (by decide) (Or.inr (Or.inr (Or.inr (Or.inl ⟨c3, c7, c9, rfl, rfl⟩))))
      · refine own_icmpYes (pc' := 38) B X8 d7_27 (flt c9).2.1 (by decide) rfl ?_
        refine own_iload (pc' := 40) B X8 d7_38 rfl rfl ?_
        refine own_istoreN (pc' := 41) B X8 (Ls' := #[.val (.ref w0), .val (.int p7), .val (.int (0 : Int32)), .val (.int (0 : Int32)), .val (.int (0 : Int32))]) d7_40 rfl rfl ?_
        refine own_goto (pc' := 7) B X8 d7_41 (by decide) rfl ?_
        refine own_iloadN (pc' := 8) B X8 d7_7 rfl rfl ?_
        refine own_iloadN (pc' := 9) B X8 d7_8 rfl rfl ?_
        refine own_icmpYes (pc' := 44) B X8 d7_9 (flt (by decide : ¬ ((0 : Int32) < (0 : Int32)))).2.1 (by decide) rfl ?_
        refine own_iloadN (pc' := 45) B X8 d7_44 rfl rfl ?_
        exact own_retI B X8 d7_45 (by decide) (by decide) (Or.inr (Or.inr (Or.inr (Or.inr (⟨c3, c7, c9, rfl, rfl⟩)))))
def Q_0 (Z : State) (i0 : Int32) (i1 : Int32) (i2 : Int32) (i3 : Int32) (i4 : Int32) (i5 : Int32) (h0 : Heap) (n0 : Nat) (v : Option Value) (h : Heap) : Prop :=
  (v = some (.int (1 : Int32)))
set_option maxRecDepth 65536 in
set_option maxHeartbeats 40000000 in
theorem rm_0 (l : Launch) (Z : State) (a0 : Array Value) (hw : ∀ d ∈ tables_1, d.before a0 Z = true) (ws : List Jvm.Cond) (i0 : Int32) (i1 : Int32) (i2 : Int32) (i3 : Int32) (i4 : Int32) (i5 : Int32) (h0 : Heap) (n0 : Nat) (Z0 : n0 ≤ h0.size)  :
    MetFree l x (head1 (Jvm.Cond.code x code maxLocals ret :: ws) room_1) (fun a U => a = #[(.int i0), (.int i1), (.int i2), (.int i3), (.int i4), (.int i5)] ∧ Z.Warmed39 U.vm ∧ U.heap = h0) (fun _ _ _ _ _ => True) (fun _ U o U' => ∃ v L, o = .returned v ∧ (Fr n0 L ∧ Q_0 Z i0 i1 i2 i3 i4 i5 h0 n0 v U'.heap) ∧ FrameEnd U o U' L room_1.cells room_1.slots) := by
  refine own_enter (Q := Q_0 Z i0 i1 i2 i3 i4 i5 h0 n0) (F := fun m => mkF m 0 #[.val (.int i0), .val (.int i1), .val (.int i2), .val (.int i3), .val (.int i4), .val (.int i5), .unset, .unset, .unset, .unset, .unset, .unset, .unset] []) (plainFor_of_name pn_0) (fun m => by first | (simp [entryFrame, mkF, argsToLocals, Value.category, maxLocals]; done) | rfl) ?_
  intro p e s m below meth c s₁ B X0
  have K : Keep h0 h0 [] := Keep.refl h0 _
  refine own_iloadN (pc' := 1) B X0 at_0 rfl rfl ?_
  refine own_ldcI (pc' := 3) B X0 (own_w hw 0 rfl) at_1 rfl ?_
  obtain ⟨y1, hy1⟩ : ∃ z : Int32, i0 &&& (2147483647 : Int32) = z := ⟨_, rfl⟩
  refine own_iand (pc' := 4) B X0 at_3 rfl hy1 ?_
  refine own_iconst (pc' := 5) B X0 (z := (5 : Int32)) at_4 rfl rfl ?_
  obtain ⟨y2, hy2⟩ : ∃ z : Int32, y1 % (5 : Int32) = z := ⟨_, rfl⟩
  refine own_irem (pc' := 6) B X0 at_5 rfl (by decide) hy2 ?_
  have z3 : y2.toInt = 0 ∨ y2.toInt = 1 ∨ y2.toInt = 2 ∨ y2.toInt = 3 ∨ y2.toInt = 4 := by
    have o0 := own_o_mask hy1 31 (by decide) (by decide)
    have o1 := own_o_irem hy2 5 (by decide)
    have o2 := rng32 i0
    have o3 := rng32 y1
    have o4 := rng32 y2
    have o5 : (2147483647 : Int32).toInt = 2147483647 := by decide
    have o6 : (5 : Int32).toInt = 5 := by decide
    omega
  rcases z3 with z3 | z3 | z3 | z3 | z3
  · obtain rfl : y2 = (0 : Int32) := Int32.toInt_inj.mp (z3.trans (by decide))
    refine own_istore (pc' := 8) B X0 (Ls' := #[.val (.int i0), .val (.int i1), .val (.int i2), .val (.int i3), .val (.int i4), .val (.int i5), .val (.int (0 : Int32)), .unset, .unset, .unset, .unset, .unset, .unset]) at_6 rfl rfl ?_
    refine own_iloadN (pc' := 9) B X0 at_8 rfl rfl ?_
    refine own_istore (pc' := 11) B X0 (Ls' := #[.val (.int i0), .val (.int i1), .val (.int i2), .val (.int i3), .val (.int i4), .val (.int i5), .val (.int (0 : Int32)), .val (.int i1), .unset, .unset, .unset, .unset, .unset]) at_9 rfl rfl ?_
    refine own_iload (pc' := 13) B X0 at_11 rfl rfl ?_
    refine own_iloadN (pc' := 14) B X0 at_13 rfl rfl ?_
    refine own_callS (pc' := 17) B X0 (own_w hw 1 rfl) (own_w hw 2 rfl) (own_w hw 3 rfl) (own_w hw 4 rfl) (by decide) [(.int i1), (.int i2)] [] (rm_1 l Z a0 hw [] (i1) (i2) h0 n0 (Nat.le_trans Z0 K.1) ) 0 (by decide) (by decide) rfl pd_1 rfl rfl (Nat.le_of_eq rfl) at_14 rfl (k' := 0) (n' := 0) rfl rfl (by decide) (by decide) ?_
    intro T4 v4 h4 X4 q4
    obtain ⟨y5, y6, y7, y8, y9, y10, hy11, hy12, hy13, hy14, hy15, hy16, rfl, rfl⟩ := q4
    show own_Go p e below (T4.setTop (mkF m 17 #[.val (.int i0), .val (.int i1), .val (.int i2), .val (.int i3), .val (.int i4), .val (.int i5), .val (.int (0 : Int32)), .val (.int i1), .unset, .unset, .unset, .unset, .unset] [(.int y10)])) _
    refine own_istore (pc' := 19) B X4 (Ls' := #[.val (.int i0), .val (.int i1), .val (.int i2), .val (.int i3), .val (.int i4), .val (.int i5), .val (.int (0 : Int32)), .val (.int i1), .val (.int y10), .unset, .unset, .unset, .unset]) at_17 rfl rfl ?_
    refine own_iload (pc' := 21) B X4 at_19 rfl rfl ?_
    refine own_iloadN (pc' := 22) B X4 at_21 rfl rfl ?_
    refine own_callS (pc' := 25) B X4 (own_w hw 1 rfl) (own_w hw 2 rfl) (own_w hw 3 rfl) (own_w hw 4 rfl) (by decide) [(.int y10), (.int i3)] [] (rm_1 l Z a0 hw [] (y10) (i3) h0 n0 (Nat.le_trans Z0 K.1) ) 0 (by decide) (by decide) rfl pd_1 rfl rfl (Nat.le_of_eq rfl) at_22 rfl (k' := 0) (n' := 0) rfl rfl (by decide) (by decide) ?_
    intro T17 v17 h17 X17 q17
    obtain ⟨y18, y19, y20, y21, y22, y23, hy24, hy25, hy26, hy27, hy28, hy29, rfl, rfl⟩ := q17
    show own_Go p e below (T17.setTop (mkF m 25 #[.val (.int i0), .val (.int i1), .val (.int i2), .val (.int i3), .val (.int i4), .val (.int i5), .val (.int (0 : Int32)), .val (.int i1), .val (.int y10), .unset, .unset, .unset, .unset] [(.int y23)])) _
    refine own_istore (pc' := 27) B X17 (Ls' := #[.val (.int i0), .val (.int i1), .val (.int i2), .val (.int i3), .val (.int i4), .val (.int i5), .val (.int (0 : Int32)), .val (.int i1), .val (.int y10), .val (.int y23), .unset, .unset, .unset]) at_25 rfl rfl ?_
    refine own_iload (pc' := 29) B X17 at_27 rfl rfl ?_
    refine own_iload (pc' := 31) B X17 at_29 rfl rfl ?_
    refine own_callS (pc' := 34) B X17 (own_w hw 1 rfl) (own_w hw 2 rfl) (own_w hw 3 rfl) (own_w hw 4 rfl) (by decide) [(.int y23), (.int i4)] [] (rm_1 l Z a0 hw [] (y23) (i4) h0 n0 (Nat.le_trans Z0 K.1) ) 0 (by decide) (by decide) rfl pd_1 rfl rfl (Nat.le_of_eq rfl) at_31 rfl (k' := 0) (n' := 0) rfl rfl (by decide) (by decide) ?_
    intro T30 v30 h30 X30 q30
    obtain ⟨y31, y32, y33, y34, y35, y36, hy37, hy38, hy39, hy40, hy41, hy42, rfl, rfl⟩ := q30
    show own_Go p e below (T30.setTop (mkF m 34 #[.val (.int i0), .val (.int i1), .val (.int i2), .val (.int i3), .val (.int i4), .val (.int i5), .val (.int (0 : Int32)), .val (.int i1), .val (.int y10), .val (.int y23), .unset, .unset, .unset] [(.int y36)])) _
    refine own_istore (pc' := 36) B X30 (Ls' := #[.val (.int i0), .val (.int i1), .val (.int i2), .val (.int i3), .val (.int i4), .val (.int i5), .val (.int (0 : Int32)), .val (.int i1), .val (.int y10), .val (.int y23), .val (.int y36), .unset, .unset]) at_34 rfl rfl ?_
    refine own_new (pc' := 39) B X30 (own_w hw 11 rfl) (own_w hw 12 rfl) (own_w hw 13 rfl) at_36 rfl (k' := 1) (n' := 2) rfl rfl (by decide) (by decide) ?_
    intro T43 h43 b43 X43 g43 E43 E_b43 D43
    have sz_b43 : h0.size ≤ b43 := own_sz K g43
    have g_b43 : n0 ≤ b43 := Nat.le_trans Z0 sz_b43
    replace K := K.ext E43
    have F_b43_values : Fld Z h43 b43 "com/example/bagwise/bagwise/IntList" "values" "[I" .null := D43 (Or.inl (own_w hw 25 rfl)) (ty := (.array .int)) (by decide)
    have F_b43_size : Fld Z h43 b43 "com/example/bagwise/bagwise/IntList" "size" "I" (.int (0 : Int32)) := D43 (Or.inl (own_w hw 35 rfl)) (ty := .int) (by decide)
    clear D43
    refine own_dup (pc' := 40) B X43 at_39 rfl rfl ?_
    refine own_iconst (pc' := 41) B X43 (z := (1 : Int32)) at_40 rfl rfl ?_
    refine own_callI (pc' := 44) B X43 rfl rfl (own_w hw 14 rfl) (own_w hw 15 rfl) (own_w hw 13 rfl) (own_w hw 16 rfl) (by decide) [(.int (1 : Int32))] [(.ref b43)] (rm_3 l Z a0 hw [] b43 h43 n0 (Nat.le_trans Z0 K.1) E_b43 F_b43_values F_b43_size g_b43) 1 (by decide) (by decide) rfl pd_2 rfl rfl (Nat.le_of_eq rfl) at_41 rfl (k' := 2) (n' := 3) rfl rfl (by decide) (by decide) ?_
    intro T44 v44 h44 X44 q44
    have lt_b43 := E_b43.lt
    obtain ⟨b45, k46, rfl, K44, z_b45, E_b43, F_b43_values, F_b43_size, E_b45, V_b45⟩ := q44
    have ne_b43_b45 : b43 ≠ b45 := own_ne' lt_b43 z_b45
    have sz_b45 : h0.size ≤ b45 := Nat.le_trans K.1 z_b45
    have g_b45 : n0 ≤ b45 := Nat.le_trans Z0 sz_b45
    replace K := K.trans K44 (allS (Or.inr sz_b43) all0)
    show own_Go p e below (T44.setTop (mkF m 44 #[.val (.int i0), .val (.int i1), .val (.int i2), .val (.int i3), .val (.int i4), .val (.int i5), .val (.int (0 : Int32)), .val (.int i1), .val (.int y10), .val (.int y23), .val (.int y36), .unset, .unset] [(.ref b43)])) _
    refine own_astore (pc' := 46) B X44 (Ls' := #[.val (.int i0), .val (.int i1), .val (.int i2), .val (.int i3), .val (.int i4), .val (.int i5), .val (.int (0 : Int32)), .val (.int i1), .val (.int y10), .val (.int y23), .val (.int y36), .val (.ref b43), .unset]) at_44 rfl rfl rfl ?_
    refine own_iload (pc' := 48) B X44 at_46 rfl rfl ?_
    refine own_ifYes (pc' := 58) B X44 at_48 ((if0 _ _).trans (flt (by decide : ¬ ((0 : Int32) < (0 : Int32)))).2.2.2) (by decide) rfl ?_
    refine own_iload (pc' := 60) B X44 at_58 rfl rfl ?_
    refine own_iconst (pc' := 61) B X44 (z := (1 : Int32)) at_60 rfl rfl ?_
    refine own_icmpYes (pc' := 71) B X44 at_61 (flt (by decide : ¬ ((1 : Int32) < (0 : Int32)))).2.2.2 (by decide) rfl ?_
    refine own_iload (pc' := 73) B X44 at_71 rfl rfl ?_
    refine own_iconst (pc' := 74) B X44 (z := (2 : Int32)) at_73 rfl rfl ?_
    refine own_icmpYes (pc' := 84) B X44 at_74 (flt (by decide : ¬ ((2 : Int32) < (0 : Int32)))).2.2.2 (by decide) rfl ?_
    refine own_iload (pc' := 86) B X44 at_84 rfl rfl ?_
    refine own_iconst (pc' := 87) B X44 (z := (3 : Int32)) at_86 rfl rfl ?_
    refine own_icmpYes (pc' := 97) B X44 at_87 (flt (by decide : ¬ ((3 : Int32) < (0 : Int32)))).2.2.2 (by decide) rfl ?_
    refine own_iload (pc' := 99) B X44 at_97 rfl rfl ?_
    refine own_ifYes (pc' := 106) B X44 at_99 ((if0 _ _).trans (flt (by decide : ¬ ((0 : Int32) < (0 : Int32)))).2.2.2) (by decide) rfl ?_
    refine own_iconst (pc' := 107) B X44 (z := (0 : Int32)) at_106 rfl rfl ?_
    refine own_iload (pc' := 109) B X44 at_107 rfl rfl ?_
    refine own_iload (pc' := 111) B X44 at_109 rfl rfl ?_
    refine own_callS (pc' := 114) B X44 (own_w hw 26 rfl) (own_w hw 27 rfl) (own_w hw 3 rfl) (own_w hw 28 rfl) (by decide) [(.int (0 : Int32)), (.int i1), (.int i5)] [] (rm_5 l Z a0 hw [] (i1) (i5) h44 n0 (Nat.le_trans Z0 K.1) ) 0 (by decide) (by decide) rfl pd_3 rfl rfl (Nat.le_of_eq rfl) at_111 rfl (k' := 2) (n' := 3) rfl rfl (by decide) (by decide) ?_
    intro T47 v47 h47 X47 q47
    obtain ⟨rfl, rfl⟩ := q47
    show own_Go p e below (T47.setTop (mkF m 114 #[.val (.int i0), .val (.int i1), .val (.int i2), .val (.int i3), .val (.int i4), .val (.int i5), .val (.int (0 : Int32)), .val (.int i1), .val (.int y10), .val (.int y23), .val (.int y36), .val (.ref b43), .unset] [(.int (0 : Int32))])) _
    refine own_iload (pc' := 116) B X47 at_114 rfl rfl ?_
    refine own_iconst (pc' := 117) B X47 (z := (1 : Int32)) at_116 rfl rfl ?_
    refine own_icmpYes (pc' := 124) B X47 at_117 (flt (by decide : ¬ ((1 : Int32) < (0 : Int32)))).2.2.2 (by decide) rfl ?_
    refine own_iconst (pc' := 125) B X47 (z := (0 : Int32)) at_124 rfl rfl ?_
    refine own_iload (pc' := 127) B X47 at_125 rfl rfl ?_
    refine own_iload (pc' := 129) B X47 at_127 rfl rfl ?_
    refine own_callS (pc' := 132) B X47 (own_w hw 26 rfl) (own_w hw 27 rfl) (own_w hw 3 rfl) (own_w hw 28 rfl) (by decide) [(.int (0 : Int32)), (.int y10), (.int i5)] [(.int (0 : Int32))] (rm_5 l Z a0 hw [] (y10) (i5) h44 n0 (Nat.le_trans Z0 K.1) ) 1 (by decide) (by decide) rfl pd_3 rfl rfl (Nat.le_of_eq rfl) at_129 rfl (k' := 2) (n' := 3) rfl rfl (by decide) (by decide) ?_
    intro T48 v48 h48 X48 q48
    obtain ⟨rfl, rfl⟩ := q48
    show own_Go p e below (T48.setTop (mkF m 132 #[.val (.int i0), .val (.int i1), .val (.int i2), .val (.int i3), .val (.int i4), .val (.int i5), .val (.int (0 : Int32)), .val (.int i1), .val (.int y10), .val (.int y23), .val (.int y36), .val (.ref b43), .unset] [(.int (0 : Int32)), (.int (0 : Int32))])) _
    refine own_iadd (pc' := 133) B X48 (z := (0 : Int32)) at_132 rfl (by decide) ?_
    refine own_iload (pc' := 135) B X48 at_133 rfl rfl ?_
    refine own_iconst (pc' := 136) B X48 (z := (2 : Int32)) at_135 rfl rfl ?_
    refine own_icmpYes (pc' := 143) B X48 at_136 (flt (by decide : ¬ ((2 : Int32) < (0 : Int32)))).2.2.2 (by decide) rfl ?_
    refine own_iconst (pc' := 144) B X48 (z := (0 : Int32)) at_143 rfl rfl ?_
    refine own_iload (pc' := 146) B X48 at_144 rfl rfl ?_
    refine own_iload (pc' := 148) B X48 at_146 rfl rfl ?_
    refine own_callS (pc' := 151) B X48 (own_w hw 26 rfl) (own_w hw 27 rfl) (own_w hw 3 rfl) (own_w hw 28 rfl) (by decide) [(.int (0 : Int32)), (.int y23), (.int i5)] [(.int (0 : Int32))] (rm_5 l Z a0 hw [] (y23) (i5) h44 n0 (Nat.le_trans Z0 K.1) ) 1 (by decide) (by decide) rfl pd_3 rfl rfl (Nat.le_of_eq rfl) at_148 rfl (k' := 2) (n' := 3) rfl rfl (by decide) (by decide) ?_
    intro T49 v49 h49 X49 q49
    obtain ⟨rfl, rfl⟩ := q49
    show own_Go p e below (T49.setTop (mkF m 151 #[.val (.int i0), .val (.int i1), .val (.int i2), .val (.int i3), .val (.int i4), .val (.int i5), .val (.int (0 : Int32)), .val (.int i1), .val (.int y10), .val (.int y23), .val (.int y36), .val (.ref b43), .unset] [(.int (0 : Int32)), (.int (0 : Int32))])) _
    refine own_iadd (pc' := 152) B X49 (z := (0 : Int32)) at_151 rfl (by decide) ?_
    refine own_iload (pc' := 154) B X49 at_152 rfl rfl ?_
    refine own_iconst (pc' := 155) B X49 (z := (3 : Int32)) at_154 rfl rfl ?_
    refine own_icmpYes (pc' := 162) B X49 at_155 (flt (by decide : ¬ ((3 : Int32) < (0 : Int32)))).2.2.2 (by decide) rfl ?_
    refine own_iconst (pc' := 163) B X49 (z := (0 : Int32)) at_162 rfl rfl ?_
    refine own_iload (pc' := 165) B X49 at_163 rfl rfl ?_
    refine own_iload (pc' := 167) B X49 at_165 rfl rfl ?_
    refine own_callS (pc' := 170) B X49 (own_w hw 26 rfl) (own_w hw 27 rfl) (own_w hw 3 rfl) (own_w hw 28 rfl) (by decide) [(.int (0 : Int32)), (.int y36), (.int i5)] [(.int (0 : Int32))] (rm_5 l Z a0 hw [] (y36) (i5) h44 n0 (Nat.le_trans Z0 K.1) ) 1 (by decide) (by decide) rfl pd_3 rfl rfl (Nat.le_of_eq rfl) at_167 rfl (k' := 2) (n' := 3) rfl rfl (by decide) (by decide) ?_
    intro T50 v50 h50 X50 q50
    obtain ⟨rfl, rfl⟩ := q50
    show own_Go p e below (T50.setTop (mkF m 170 #[.val (.int i0), .val (.int i1), .val (.int i2), .val (.int i3), .val (.int i4), .val (.int i5), .val (.int (0 : Int32)), .val (.int i1), .val (.int y10), .val (.int y23), .val (.int y36), .val (.ref b43), .unset] [(.int (0 : Int32)), (.int (0 : Int32))])) _
    refine own_iadd (pc' := 171) B X50 (z := (0 : Int32)) at_170 rfl (by decide) ?_
    refine own_istore (pc' := 173) B X50 (Ls' := #[.val (.int i0), .val (.int i1), .val (.int i2), .val (.int i3), .val (.int i4), .val (.int i5), .val (.int (0 : Int32)), .val (.int i1), .val (.int y10), .val (.int y23), .val (.int y36), .val (.ref b43), .val (.int (0 : Int32))]) at_171 rfl rfl ?_
    refine own_aload (pc' := 175) B X50 at_173 rfl rfl rfl ?_
    refine own_iload (pc' := 177) B X50 at_175 rfl rfl ?_
    refine own_callV (pc' := 180) B X50 (own_w hw 29 rfl) (own_w hw 30 rfl) (own_w hw 32 rfl) (own_w hw 31 rfl) (own_w hw 13 rfl) (own_w hw 33 rfl) E_b43 (by decide) [(.int i5)] [] (rm_6 l Z a0 hw [] b43 b45 k46 (i5) h44 n0 (Nat.le_trans Z0 K.1) E_b43 F_b43_values F_b43_size g_b43 E_b45 V_b45 g_b45 ne_b43_b45) 0 (by decide) (by decide) rfl pd_4 rfl rfl (Nat.le_of_eq rfl) at_177 rfl (k' := 2) (n' := 3) rfl rfl (by decide) (by decide) ?_
    intro T51 v51 h51 X51 q51
    obtain ⟨rfl, rfl⟩ := q51
    show own_Go p e below (T51.setTop (mkF m 180 #[.val (.int i0), .val (.int i1), .val (.int i2), .val (.int i3), .val (.int i4), .val (.int i5), .val (.int (0 : Int32)), .val (.int i1), .val (.int y10), .val (.int y23), .val (.int y36), .val (.ref b43), .val (.int (0 : Int32))] [(.int (0 : Int32))])) _
    refine own_iload (pc' := 182) B X51 at_180 rfl rfl ?_
    refine own_icmpNo (pc' := 185) B X51 at_182 (teq (by decide : (0 : Int32) = (0 : Int32))).2 rfl ?_
    refine own_iconst (pc' := 186) B X51 (z := (1 : Int32)) at_185 rfl rfl ?_
    refine own_goto (pc' := 190) B X51 at_186 (by decide) rfl ?_
    exact own_retN B X51 (t := .boolean) (z' := (1 : Int32)) (by simp) (by decide) at_190 (by decide) (by decide) rfl
  · obtain rfl : y2 = (1 : Int32) := Int32.toInt_inj.mp (z3.trans (by decide))
    refine own_istore (pc' := 8) B X0 (Ls' := #[.val (.int i0), .val (.int i1), .val (.int i2), .val (.int i3), .val (.int i4), .val (.int i5), .val (.int (1 : Int32)), .unset, .unset, .unset, .unset, .unset, .unset]) at_6 rfl rfl ?_
    refine own_iloadN (pc' := 9) B X0 at_8 rfl rfl ?_
    refine own_istore (pc' := 11) B X0 (Ls' := #[.val (.int i0), .val (.int i1), .val (.int i2), .val (.int i3), .val (.int i4), .val (.int i5), .val (.int (1 : Int32)), .val (.int i1), .unset, .unset, .unset, .unset, .unset]) at_9 rfl rfl ?_
    refine own_iload (pc' := 13) B X0 at_11 rfl rfl ?_
    refine own_iloadN (pc' := 14) B X0 at_13 rfl rfl ?_
    refine own_callS (pc' := 17) B X0 (own_w hw 1 rfl) (own_w hw 2 rfl) (own_w hw 3 rfl) (own_w hw 4 rfl) (by decide) [(.int i1), (.int i2)] [] (rm_1 l Z a0 hw [] (i1) (i2) h0 n0 (Nat.le_trans Z0 K.1) ) 0 (by decide) (by decide) rfl pd_1 rfl rfl (Nat.le_of_eq rfl) at_14 rfl (k' := 0) (n' := 0) rfl rfl (by decide) (by decide) ?_
    intro T52 v52 h52 X52 q52
    obtain ⟨y53, y54, y55, y56, y57, y58, hy59, hy60, hy61, hy62, hy63, hy64, rfl, rfl⟩ := q52
    show own_Go p e below (T52.setTop (mkF m 17 #[.val (.int i0), .val (.int i1), .val (.int i2), .val (.int i3), .val (.int i4), .val (.int i5), .val (.int (1 : Int32)), .val (.int i1), .unset, .unset, .unset, .unset, .unset] [(.int y58)])) _
    refine own_istore (pc' := 19) B X52 (Ls' := #[.val (.int i0), .val (.int i1), .val (.int i2), .val (.int i3), .val (.int i4), .val (.int i5), .val (.int (1 : Int32)), .val (.int i1), .val (.int y58), .unset, .unset, .unset, .unset]) at_17 rfl rfl ?_
    refine own_iload (pc' := 21) B X52 at_19 rfl rfl ?_
    refine own_iloadN (pc' := 22) B X52 at_21 rfl rfl ?_
    refine own_callS (pc' := 25) B X52 (own_w hw 1 rfl) (own_w hw 2 rfl) (own_w hw 3 rfl) (own_w hw 4 rfl) (by decide) [(.int y58), (.int i3)] [] (rm_1 l Z a0 hw [] (y58) (i3) h0 n0 (Nat.le_trans Z0 K.1) ) 0 (by decide) (by decide) rfl pd_1 rfl rfl (Nat.le_of_eq rfl) at_22 rfl (k' := 0) (n' := 0) rfl rfl (by decide) (by decide) ?_
    intro T65 v65 h65 X65 q65
    obtain ⟨y66, y67, y68, y69, y70, y71, hy72, hy73, hy74, hy75, hy76, hy77, rfl, rfl⟩ := q65
    show own_Go p e below (T65.setTop (mkF m 25 #[.val (.int i0), .val (.int i1), .val (.int i2), .val (.int i3), .val (.int i4), .val (.int i5), .val (.int (1 : Int32)), .val (.int i1), .val (.int y58), .unset, .unset, .unset, .unset] [(.int y71)])) _
    refine own_istore (pc' := 27) B X65 (Ls' := #[.val (.int i0), .val (.int i1), .val (.int i2), .val (.int i3), .val (.int i4), .val (.int i5), .val (.int (1 : Int32)), .val (.int i1), .val (.int y58), .val (.int y71), .unset, .unset, .unset]) at_25 rfl rfl ?_
    refine own_iload (pc' := 29) B X65 at_27 rfl rfl ?_
    refine own_iload (pc' := 31) B X65 at_29 rfl rfl ?_
    refine own_callS (pc' := 34) B X65 (own_w hw 1 rfl) (own_w hw 2 rfl) (own_w hw 3 rfl) (own_w hw 4 rfl) (by decide) [(.int y71), (.int i4)] [] (rm_1 l Z a0 hw [] (y71) (i4) h0 n0 (Nat.le_trans Z0 K.1) ) 0 (by decide) (by decide) rfl pd_1 rfl rfl (Nat.le_of_eq rfl) at_31 rfl (k' := 0) (n' := 0) rfl rfl (by decide) (by decide) ?_
    intro T78 v78 h78 X78 q78
    obtain ⟨y79, y80, y81, y82, y83, y84, hy85, hy86, hy87, hy88, hy89, hy90, rfl, rfl⟩ := q78
    show own_Go p e below (T78.setTop (mkF m 34 #[.val (.int i0), .val (.int i1), .val (.int i2), .val (.int i3), .val (.int i4), .val (.int i5), .val (.int (1 : Int32)), .val (.int i1), .val (.int y58), .val (.int y71), .unset, .unset, .unset] [(.int y84)])) _
    refine own_istore (pc' := 36) B X78 (Ls' := #[.val (.int i0), .val (.int i1), .val (.int i2), .val (.int i3), .val (.int i4), .val (.int i5), .val (.int (1 : Int32)), .val (.int i1), .val (.int y58), .val (.int y71), .val (.int y84), .unset, .unset]) at_34 rfl rfl ?_
    refine own_new (pc' := 39) B X78 (own_w hw 11 rfl) (own_w hw 12 rfl) (own_w hw 13 rfl) at_36 rfl (k' := 1) (n' := 2) rfl rfl (by decide) (by decide) ?_
    intro T91 h91 b91 X91 g91 E91 E_b91 D91
    have sz_b91 : h0.size ≤ b91 := own_sz K g91
    have g_b91 : n0 ≤ b91 := Nat.le_trans Z0 sz_b91
    replace K := K.ext E91
    have F_b91_values : Fld Z h91 b91 "com/example/bagwise/bagwise/IntList" "values" "[I" .null := D91 (Or.inl (own_w hw 25 rfl)) (ty := (.array .int)) (by decide)
    have F_b91_size : Fld Z h91 b91 "com/example/bagwise/bagwise/IntList" "size" "I" (.int (0 : Int32)) := D91 (Or.inl (own_w hw 35 rfl)) (ty := .int) (by decide)
    clear D91
    refine own_dup (pc' := 40) B X91 at_39 rfl rfl ?_
    refine own_iconst (pc' := 41) B X91 (z := (1 : Int32)) at_40 rfl rfl ?_
    refine own_callI (pc' := 44) B X91 rfl rfl (own_w hw 14 rfl) (own_w hw 15 rfl) (own_w hw 13 rfl) (own_w hw 16 rfl) (by decide) [(.int (1 : Int32))] [(.ref b91)] (rm_3 l Z a0 hw [] b91 h91 n0 (Nat.le_trans Z0 K.1) E_b91 F_b91_values F_b91_size g_b91) 1 (by decide) (by decide) rfl pd_2 rfl rfl (Nat.le_of_eq rfl) at_41 rfl (k' := 2) (n' := 3) rfl rfl (by decide) (by decide) ?_
    intro T92 v92 h92 X92 q92
    have lt_b91 := E_b91.lt
    obtain ⟨b93, k94, rfl, K92, z_b93, E_b91, F_b91_values, F_b91_size, E_b93, V_b93⟩ := q92
    have ne_b91_b93 : b91 ≠ b93 := own_ne' lt_b91 z_b93
    have sz_b93 : h0.size ≤ b93 := Nat.le_trans K.1 z_b93
    have g_b93 : n0 ≤ b93 := Nat.le_trans Z0 sz_b93
    replace K := K.trans K92 (allS (Or.inr sz_b91) all0)
    show own_Go p e below (T92.setTop (mkF m 44 #[.val (.int i0), .val (.int i1), .val (.int i2), .val (.int i3), .val (.int i4), .val (.int i5), .val (.int (1 : Int32)), .val (.int i1), .val (.int y58), .val (.int y71), .val (.int y84), .unset, .unset] [(.ref b91)])) _
    refine own_astore (pc' := 46) B X92 (Ls' := #[.val (.int i0), .val (.int i1), .val (.int i2), .val (.int i3), .val (.int i4), .val (.int i5), .val (.int (1 : Int32)), .val (.int i1), .val (.int y58), .val (.int y71), .val (.int y84), .val (.ref b91), .unset]) at_44 rfl rfl rfl ?_
    refine own_iload (pc' := 48) B X92 at_46 rfl rfl ?_
    refine own_ifNo (pc' := 51) B X92 at_48 ((if0 _ _).trans (tlt (by decide : (0 : Int32) < (1 : Int32))).2.2.2) rfl ?_
    refine own_aload (pc' := 53) B X92 at_51 rfl rfl rfl ?_
    refine own_iload (pc' := 55) B X92 at_53 rfl rfl ?_
    refine own_callV (pc' := 58) B X92 (own_w hw 36 rfl) (own_w hw 37 rfl) (own_w hw 39 rfl) (own_w hw 38 rfl) (own_w hw 13 rfl) (own_w hw 40 rfl) E_b91 (by decide) [(.int i1)] [] (rm_7 l Z a0 hw [] b91 b93 k94 (i1) h92 n0 (Nat.le_trans Z0 K.1) E_b91 F_b91_values F_b91_size g_b91 E_b93 V_b93 g_b93 ne_b91_b93) 0 (by decide) (by decide) rfl pd_2 rfl rfl (Nat.le_of_eq rfl) at_55 rfl (k' := 2) (n' := 3) rfl rfl (by decide) (by decide) ?_
    intro T95 v95 h95 X95 q95
    obtain ⟨rfl, K95, E_b91, F_b91_values, F_b91_size, E_b93, V_b93⟩ := q95
    replace K := K.trans K95 (allS (Or.inr sz_b91) (allS (Or.inr sz_b93) all0))
    show own_Go p e below (T95.setTop (mkF m 58 #[.val (.int i0), .val (.int i1), .val (.int i2), .val (.int i3), .val (.int i4), .val (.int i5), .val (.int (1 : Int32)), .val (.int i1), .val (.int y58), .val (.int y71), .val (.int y84), .val (.ref b91), .unset] [])) _
    refine own_iload (pc' := 60) B X95 at_58 rfl rfl ?_
    refine own_iconst (pc' := 61) B X95 (z := (1 : Int32)) at_60 rfl rfl ?_
    refine own_icmpYes (pc' := 71) B X95 at_61 (flt (by decide : ¬ ((1 : Int32) < (1 : Int32)))).2.2.2 (by decide) rfl ?_
    refine own_iload (pc' := 73) B X95 at_71 rfl rfl ?_
    refine own_iconst (pc' := 74) B X95 (z := (2 : Int32)) at_73 rfl rfl ?_
    refine own_icmpYes (pc' := 84) B X95 at_74 (flt (by decide : ¬ ((2 : Int32) < (1 : Int32)))).2.2.2 (by decide) rfl ?_
    refine own_iload (pc' := 86) B X95 at_84 rfl rfl ?_
    refine own_iconst (pc' := 87) B X95 (z := (3 : Int32)) at_86 rfl rfl ?_
    refine own_icmpYes (pc' := 97) B X95 at_87 (flt (by decide : ¬ ((3 : Int32) < (1 : Int32)))).2.2.2 (by decide) rfl ?_
    refine own_iload (pc' := 99) B X95 at_97 rfl rfl ?_
    refine own_ifNo (pc' := 102) B X95 at_99 ((if0 _ _).trans (tlt (by decide : (0 : Int32) < (1 : Int32))).2.2.2) rfl ?_
    refine own_iconst (pc' := 103) B X95 (z := (1 : Int32)) at_102 rfl rfl ?_
    refine own_goto (pc' := 107) B X95 at_103 (by decide) rfl ?_
    refine own_iload (pc' := 109) B X95 at_107 rfl rfl ?_
    refine own_iload (pc' := 111) B X95 at_109 rfl rfl ?_
    refine own_callS (pc' := 114) B X95 (own_w hw 26 rfl) (own_w hw 27 rfl) (own_w hw 3 rfl) (own_w hw 28 rfl) (by decide) [(.int (1 : Int32)), (.int i1), (.int i5)] [] (rm_8 l Z a0 hw [] (i1) (i5) h95 n0 (Nat.le_trans Z0 K.1) ) 0 (by decide) (by decide) rfl pd_3 rfl rfl (Nat.le_of_eq rfl) at_111 rfl (k' := 2) (n' := 3) rfl rfl (by decide) (by decide) ?_
    intro T96 v96 h96 X96 q96
    obtain ⟨y97, hy98, rfl, rfl⟩ := q96
    show own_Go p e below (T96.setTop (mkF m 114 #[.val (.int i0), .val (.int i1), .val (.int i2), .val (.int i3), .val (.int i4), .val (.int i5), .val (.int (1 : Int32)), .val (.int i1), .val (.int y58), .val (.int y71), .val (.int y84), .val (.ref b91), .unset] [(.int y97)])) _
    refine own_iload (pc' := 116) B X96 at_114 rfl rfl ?_
    refine own_iconst (pc' := 117) B X96 (z := (1 : Int32)) at_116 rfl rfl ?_
    refine own_icmpYes (pc' := 124) B X96 at_117 (flt (by decide : ¬ ((1 : Int32) < (1 : Int32)))).2.2.2 (by decide) rfl ?_
    refine own_iconst (pc' := 125) B X96 (z := (0 : Int32)) at_124 rfl rfl ?_
    refine own_iload (pc' := 127) B X96 at_125 rfl rfl ?_
    refine own_iload (pc' := 129) B X96 at_127 rfl rfl ?_
    refine own_callS (pc' := 132) B X96 (own_w hw 26 rfl) (own_w hw 27 rfl) (own_w hw 3 rfl) (own_w hw 28 rfl) (by decide) [(.int (0 : Int32)), (.int y58), (.int i5)] [(.int y97)] (rm_5 l Z a0 hw [] (y58) (i5) h95 n0 (Nat.le_trans Z0 K.1) ) 1 (by decide) (by decide) rfl pd_3 rfl rfl (Nat.le_of_eq rfl) at_129 rfl (k' := 2) (n' := 3) rfl rfl (by decide) (by decide) ?_
    intro T99 v99 h99 X99 q99
    obtain ⟨rfl, rfl⟩ := q99
    show own_Go p e below (T99.setTop (mkF m 132 #[.val (.int i0), .val (.int i1), .val (.int i2), .val (.int i3), .val (.int i4), .val (.int i5), .val (.int (1 : Int32)), .val (.int i1), .val (.int y58), .val (.int y71), .val (.int y84), .val (.ref b91), .unset] [(.int (0 : Int32)), (.int y97)])) _
    refine own_iadd (pc' := 133) B X99 at_132 rfl (own_add0 _) ?_
    refine own_iload (pc' := 135) B X99 at_133 rfl rfl ?_
    refine own_iconst (pc' := 136) B X99 (z := (2 : Int32)) at_135 rfl rfl ?_
    refine own_icmpYes (pc' := 143) B X99 at_136 (flt (by decide : ¬ ((2 : Int32) < (1 : Int32)))).2.2.2 (by decide) rfl ?_
    refine own_iconst (pc' := 144) B X99 (z := (0 : Int32)) at_143 rfl rfl ?_
    refine own_iload (pc' := 146) B X99 at_144 rfl rfl ?_
    refine own_iload (pc' := 148) B X99 at_146 rfl rfl ?_
    refine own_callS (pc' := 151) B X99 (own_w hw 26 rfl) (own_w hw 27 rfl) (own_w hw 3 rfl) (own_w hw 28 rfl) (by decide) [(.int (0 : Int32)), (.int y71), (.int i5)] [(.int y97)] (rm_5 l Z a0 hw [] (y71) (i5) h95 n0 (Nat.le_trans Z0 K.1) ) 1 (by decide) (by decide) rfl pd_3 rfl rfl (Nat.le_of_eq rfl) at_148 rfl (k' := 2) (n' := 3) rfl rfl (by decide) (by decide) ?_
    intro T100 v100 h100 X100 q100
    obtain ⟨rfl, rfl⟩ := q100
    show own_Go p e below (T100.setTop (mkF m 151 #[.val (.int i0), .val (.int i1), .val (.int i2), .val (.int i3), .val (.int i4), .val (.int i5), .val (.int (1 : Int32)), .val (.int i1), .val (.int y58), .val (.int y71), .val (.int y84), .val (.ref b91), .unset] [(.int (0 : Int32)), (.int y97)])) _
    refine own_iadd (pc' := 152) B X100 at_151 rfl (own_add0 _) ?_
    refine own_iload (pc' := 154) B X100 at_152 rfl rfl ?_
    refine own_iconst (pc' := 155) B X100 (z := (3 : Int32)) at_154 rfl rfl ?_
    refine own_icmpYes (pc' := 162) B X100 at_155 (flt (by decide : ¬ ((3 : Int32) < (1 : Int32)))).2.2.2 (by decide) rfl ?_
    refine own_iconst (pc' := 163) B X100 (z := (0 : Int32)) at_162 rfl rfl ?_
    refine own_iload (pc' := 165) B X100 at_163 rfl rfl ?_
    refine own_iload (pc' := 167) B X100 at_165 rfl rfl ?_
    refine own_callS (pc' := 170) B X100 (own_w hw 26 rfl) (own_w hw 27 rfl) (own_w hw 3 rfl) (own_w hw 28 rfl) (by decide) [(.int (0 : Int32)), (.int y84), (.int i5)] [(.int y97)] (rm_5 l Z a0 hw [] (y84) (i5) h95 n0 (Nat.le_trans Z0 K.1) ) 1 (by decide) (by decide) rfl pd_3 rfl rfl (Nat.le_of_eq rfl) at_167 rfl (k' := 2) (n' := 3) rfl rfl (by decide) (by decide) ?_
    intro T101 v101 h101 X101 q101
    obtain ⟨rfl, rfl⟩ := q101
    show own_Go p e below (T101.setTop (mkF m 170 #[.val (.int i0), .val (.int i1), .val (.int i2), .val (.int i3), .val (.int i4), .val (.int i5), .val (.int (1 : Int32)), .val (.int i1), .val (.int y58), .val (.int y71), .val (.int y84), .val (.ref b91), .unset] [(.int (0 : Int32)), (.int y97)])) _
    refine own_iadd (pc' := 171) B X101 at_170 rfl (own_add0 _) ?_
    refine own_istore (pc' := 173) B X101 (Ls' := #[.val (.int i0), .val (.int i1), .val (.int i2), .val (.int i3), .val (.int i4), .val (.int i5), .val (.int (1 : Int32)), .val (.int i1), .val (.int y58), .val (.int y71), .val (.int y84), .val (.ref b91), .val (.int y97)]) at_171 rfl rfl ?_
    refine own_aload (pc' := 175) B X101 at_173 rfl rfl rfl ?_
    refine own_iload (pc' := 177) B X101 at_175 rfl rfl ?_
    refine own_callV (pc' := 180) B X101 (own_w hw 29 rfl) (own_w hw 30 rfl) (own_w hw 32 rfl) (own_w hw 31 rfl) (own_w hw 13 rfl) (own_w hw 33 rfl) E_b91 (by decide) [(.int i5)] [] (rm_9 l Z a0 hw [] b91 b93 k94 (i1) (i5) h95 n0 (Nat.le_trans Z0 K.1) E_b91 F_b91_values F_b91_size g_b91 E_b93 V_b93 g_b93 ne_b91_b93) 0 (by decide) (by decide) rfl pd_4 rfl rfl (Nat.le_of_eq rfl) at_177 rfl (k' := 2) (n' := 3) rfl rfl (by decide) (by decide) ?_
    intro T102 v102 h102 X102 q102
    rcases q102 with ⟨c103, rfl, rfl⟩ | ⟨c104, rfl, rfl⟩
    · show own_Go p e below (T102.setTop (mkF m 180 #[.val (.int i0), .val (.int i1), .val (.int i2), .val (.int i3), .val (.int i4), .val (.int i5), .val (.int (1 : Int32)), .val (.int i1), .val (.int y58), .val (.int y71), .val (.int y84), .val (.ref b91), .val (.int y97)] [(.int (1 : Int32))])) _
      refine own_iload (pc' := 182) B X102 at_180 rfl rfl ?_
      have c105 : (1 : Int32) = y97 := by
        have o0 := o_own_F_below hy98
        have o1 := own_lt c103
        have o2 := rng32 i1
        have o3 := rng32 i5
        have o4 := rng32 y97
        have o5 : (1 : Int32).toInt = 1 := by decide
        have o6 : (0 : Int32).toInt = 0 := by decide
        refine own_eqI ?_
        omega
      refine own_icmpNo (pc' := 185) B X102 at_182 (teq c105).2 rfl ?_
      refine own_iconst (pc' := 186) B X102 (z := (1 : Int32)) at_185 rfl rfl ?_
      refine own_goto (pc' := 190) B X102 at_186 (by decide) rfl ?_
      exact own_retN B X102 (t := .boolean) (z' := (1 : Int32)) (by simp) (by decide) at_190 (by decide) (by decide) rfl
    · show own_Go p e below (T102.setTop (mkF m 180 #[.val (.int i0), .val (.int i1), .val (.int i2), .val (.int i3), .val (.int i4), .val (.int i5), .val (.int (1 : Int32)), .val (.int i1), .val (.int y58), .val (.int y71), .val (.int y84), .val (.ref b91), .val (.int y97)] [(.int (0 : Int32))])) _
      refine own_iload (pc' := 182) B X102 at_180 rfl rfl ?_
      have c106 : (0 : Int32) = y97 := by
        have o0 := o_own_F_below hy98
        have o1 := own_nlt c104
        have o2 := rng32 i1
        have o3 := rng32 i5
        have o4 := rng32 y97
        have o5 : (1 : Int32).toInt = 1 := by decide
        have o6 : (0 : Int32).toInt = 0 := by decide
        refine own_eqI ?_
        omega
      refine own_icmpNo (pc' := 185) B X102 at_182 (teq c106).2 rfl ?_
      refine own_iconst (pc' := 186) B X102 (z := (1 : Int32)) at_185 rfl rfl ?_
      refine own_goto (pc' := 190) B X102 at_186 (by decide) rfl ?_
      exact own_retN B X102 (t := .boolean) (z' := (1 : Int32)) (by simp) (by decide) at_190 (by decide) (by decide) rfl
  · obtain rfl : y2 = (2 : Int32) := Int32.toInt_inj.mp (z3.trans (by decide))
    refine own_istore (pc' := 8) B X0 (Ls' := #[.val (.int i0), .val (.int i1), .val (.int i2), .val (.int i3), .val (.int i4), .val (.int i5), .val (.int (2 : Int32)), .unset, .unset, .unset, .unset, .unset, .unset]) at_6 rfl rfl ?_
    refine own_iloadN (pc' := 9) B X0 at_8 rfl rfl ?_
    refine own_istore (pc' := 11) B X0 (Ls' := #[.val (.int i0), .val (.int i1), .val (.int i2), .val (.int i3), .val (.int i4), .val (.int i5), .val (.int (2 : Int32)), .val (.int i1), .unset, .unset, .unset, .unset, .unset]) at_9 rfl rfl ?_
    refine own_iload (pc' := 13) B X0 at_11 rfl rfl ?_
    refine own_iloadN (pc' := 14) B X0 at_13 rfl rfl ?_
    refine own_callS (pc' := 17) B X0 (own_w hw 1 rfl) (own_w hw 2 rfl) (own_w hw 3 rfl) (own_w hw 4 rfl) (by decide) [(.int i1), (.int i2)] [] (rm_1 l Z a0 hw [] (i1) (i2) h0 n0 (Nat.le_trans Z0 K.1) ) 0 (by decide) (by decide) rfl pd_1 rfl rfl (Nat.le_of_eq rfl) at_14 rfl (k' := 0) (n' := 0) rfl rfl (by decide) (by decide) ?_
    intro T107 v107 h107 X107 q107
    obtain ⟨y108, y109, y110, y111, y112, y113, hy114, hy115, hy116, hy117, hy118, hy119, rfl, rfl⟩ := q107
    show own_Go p e below (T107.setTop (mkF m 17 #[.val (.int i0), .val (.int i1), .val (.int i2), .val (.int i3), .val (.int i4), .val (.int i5), .val (.int (2 : Int32)), .val (.int i1), .unset, .unset, .unset, .unset, .unset] [(.int y113)])) _
    refine own_istore (pc' := 19) B X107 (Ls' := #[.val (.int i0), .val (.int i1), .val (.int i2), .val (.int i3), .val (.int i4), .val (.int i5), .val (.int (2 : Int32)), .val (.int i1), .val (.int y113), .unset, .unset, .unset, .unset]) at_17 rfl rfl ?_
    refine own_iload (pc' := 21) B X107 at_19 rfl rfl ?_
    refine own_iloadN (pc' := 22) B X107 at_21 rfl rfl ?_
    refine own_callS (pc' := 25) B X107 (own_w hw 1 rfl) (own_w hw 2 rfl) (own_w hw 3 rfl) (own_w hw 4 rfl) (by decide) [(.int y113), (.int i3)] [] (rm_1 l Z a0 hw [] (y113) (i3) h0 n0 (Nat.le_trans Z0 K.1) ) 0 (by decide) (by decide) rfl pd_1 rfl rfl (Nat.le_of_eq rfl) at_22 rfl (k' := 0) (n' := 0) rfl rfl (by decide) (by decide) ?_
    intro T120 v120 h120 X120 q120
    obtain ⟨y121, y122, y123, y124, y125, y126, hy127, hy128, hy129, hy130, hy131, hy132, rfl, rfl⟩ := q120
    show own_Go p e below (T120.setTop (mkF m 25 #[.val (.int i0), .val (.int i1), .val (.int i2), .val (.int i3), .val (.int i4), .val (.int i5), .val (.int (2 : Int32)), .val (.int i1), .val (.int y113), .unset, .unset, .unset, .unset] [(.int y126)])) _
    refine own_istore (pc' := 27) B X120 (Ls' := #[.val (.int i0), .val (.int i1), .val (.int i2), .val (.int i3), .val (.int i4), .val (.int i5), .val (.int (2 : Int32)), .val (.int i1), .val (.int y113), .val (.int y126), .unset, .unset, .unset]) at_25 rfl rfl ?_
    refine own_iload (pc' := 29) B X120 at_27 rfl rfl ?_
    refine own_iload (pc' := 31) B X120 at_29 rfl rfl ?_
    refine own_callS (pc' := 34) B X120 (own_w hw 1 rfl) (own_w hw 2 rfl) (own_w hw 3 rfl) (own_w hw 4 rfl) (by decide) [(.int y126), (.int i4)] [] (rm_1 l Z a0 hw [] (y126) (i4) h0 n0 (Nat.le_trans Z0 K.1) ) 0 (by decide) (by decide) rfl pd_1 rfl rfl (Nat.le_of_eq rfl) at_31 rfl (k' := 0) (n' := 0) rfl rfl (by decide) (by decide) ?_
    intro T133 v133 h133 X133 q133
    obtain ⟨y134, y135, y136, y137, y138, y139, hy140, hy141, hy142, hy143, hy144, hy145, rfl, rfl⟩ := q133
    show own_Go p e below (T133.setTop (mkF m 34 #[.val (.int i0), .val (.int i1), .val (.int i2), .val (.int i3), .val (.int i4), .val (.int i5), .val (.int (2 : Int32)), .val (.int i1), .val (.int y113), .val (.int y126), .unset, .unset, .unset] [(.int y139)])) _
    refine own_istore (pc' := 36) B X133 (Ls' := #[.val (.int i0), .val (.int i1), .val (.int i2), .val (.int i3), .val (.int i4), .val (.int i5), .val (.int (2 : Int32)), .val (.int i1), .val (.int y113), .val (.int y126), .val (.int y139), .unset, .unset]) at_34 rfl rfl ?_
    refine own_new (pc' := 39) B X133 (own_w hw 11 rfl) (own_w hw 12 rfl) (own_w hw 13 rfl) at_36 rfl (k' := 1) (n' := 2) rfl rfl (by decide) (by decide) ?_
    intro T146 h146 b146 X146 g146 E146 E_b146 D146
    have sz_b146 : h0.size ≤ b146 := own_sz K g146
    have g_b146 : n0 ≤ b146 := Nat.le_trans Z0 sz_b146
    replace K := K.ext E146
    have F_b146_values : Fld Z h146 b146 "com/example/bagwise/bagwise/IntList" "values" "[I" .null := D146 (Or.inl (own_w hw 25 rfl)) (ty := (.array .int)) (by decide)
    have F_b146_size : Fld Z h146 b146 "com/example/bagwise/bagwise/IntList" "size" "I" (.int (0 : Int32)) := D146 (Or.inl (own_w hw 35 rfl)) (ty := .int) (by decide)
    clear D146
    refine own_dup (pc' := 40) B X146 at_39 rfl rfl ?_
    refine own_iconst (pc' := 41) B X146 (z := (1 : Int32)) at_40 rfl rfl ?_
    refine own_callI (pc' := 44) B X146 rfl rfl (own_w hw 14 rfl) (own_w hw 15 rfl) (own_w hw 13 rfl) (own_w hw 16 rfl) (by decide) [(.int (1 : Int32))] [(.ref b146)] (rm_3 l Z a0 hw [] b146 h146 n0 (Nat.le_trans Z0 K.1) E_b146 F_b146_values F_b146_size g_b146) 1 (by decide) (by decide) rfl pd_2 rfl rfl (Nat.le_of_eq rfl) at_41 rfl (k' := 2) (n' := 3) rfl rfl (by decide) (by decide) ?_
    intro T147 v147 h147 X147 q147
    have lt_b146 := E_b146.lt
    obtain ⟨b148, k149, rfl, K147, z_b148, E_b146, F_b146_values, F_b146_size, E_b148, V_b148⟩ := q147
    have ne_b146_b148 : b146 ≠ b148 := own_ne' lt_b146 z_b148
    have sz_b148 : h0.size ≤ b148 := Nat.le_trans K.1 z_b148
    have g_b148 : n0 ≤ b148 := Nat.le_trans Z0 sz_b148
    replace K := K.trans K147 (allS (Or.inr sz_b146) all0)
    show own_Go p e below (T147.setTop (mkF m 44 #[.val (.int i0), .val (.int i1), .val (.int i2), .val (.int i3), .val (.int i4), .val (.int i5), .val (.int (2 : Int32)), .val (.int i1), .val (.int y113), .val (.int y126), .val (.int y139), .unset, .unset] [(.ref b146)])) _
    refine own_astore (pc' := 46) B X147 (Ls' := #[.val (.int i0), .val (.int i1), .val (.int i2), .val (.int i3), .val (.int i4), .val (.int i5), .val (.int (2 : Int32)), .val (.int i1), .val (.int y113), .val (.int y126), .val (.int y139), .val (.ref b146), .unset]) at_44 rfl rfl rfl ?_
    refine own_iload (pc' := 48) B X147 at_46 rfl rfl ?_
    refine own_ifNo (pc' := 51) B X147 at_48 ((if0 _ _).trans (tlt (by decide : (0 : Int32) < (2 : Int32))).2.2.2) rfl ?_
    refine own_aload (pc' := 53) B X147 at_51 rfl rfl rfl ?_
    refine own_iload (pc' := 55) B X147 at_53 rfl rfl ?_
    refine own_callV (pc' := 58) B X147 (own_w hw 36 rfl) (own_w hw 37 rfl) (own_w hw 39 rfl) (own_w hw 38 rfl) (own_w hw 13 rfl) (own_w hw 40 rfl) E_b146 (by decide) [(.int i1)] [] (rm_7 l Z a0 hw [] b146 b148 k149 (i1) h147 n0 (Nat.le_trans Z0 K.1) E_b146 F_b146_values F_b146_size g_b146 E_b148 V_b148 g_b148 ne_b146_b148) 0 (by decide) (by decide) rfl pd_2 rfl rfl (Nat.le_of_eq rfl) at_55 rfl (k' := 2) (n' := 3) rfl rfl (by decide) (by decide) ?_
    intro T150 v150 h150 X150 q150
    obtain ⟨rfl, K150, E_b146, F_b146_values, F_b146_size, E_b148, V_b148⟩ := q150
    replace K := K.trans K150 (allS (Or.inr sz_b146) (allS (Or.inr sz_b148) all0))
    show own_Go p e below (T150.setTop (mkF m 58 #[.val (.int i0), .val (.int i1), .val (.int i2), .val (.int i3), .val (.int i4), .val (.int i5), .val (.int (2 : Int32)), .val (.int i1), .val (.int y113), .val (.int y126), .val (.int y139), .val (.ref b146), .unset] [])) _
    refine own_iload (pc' := 60) B X150 at_58 rfl rfl ?_
    refine own_iconst (pc' := 61) B X150 (z := (1 : Int32)) at_60 rfl rfl ?_
    refine own_icmpNo (pc' := 64) B X150 at_61 (tlt (by decide : (1 : Int32) < (2 : Int32))).2.2.2 rfl ?_
    refine own_aload (pc' := 66) B X150 at_64 rfl rfl rfl ?_
    refine own_iload (pc' := 68) B X150 at_66 rfl rfl ?_
    refine own_callV (pc' := 71) B X150 (own_w hw 36 rfl) (own_w hw 37 rfl) (own_w hw 39 rfl) (own_w hw 38 rfl) (own_w hw 13 rfl) (own_w hw 40 rfl) E_b146 (by decide) [(.int y113)] [] (rm_10 l Z a0 hw [] b146 b148 k149 (i1) (y113) h150 n0 (Nat.le_trans Z0 K.1) E_b146 F_b146_values F_b146_size g_b146 E_b148 V_b148 g_b148 ne_b146_b148) 0 (by decide) (by decide) rfl pd_2 rfl rfl (Nat.le_of_eq rfl) at_68 rfl (k' := 3) (n' := 5) rfl rfl (by decide) (by decide) ?_
    intro T151 v151 h151 X151 q151
    have lt_b146 := E_b146.lt
    have lt_b148 := E_b148.lt
    obtain ⟨b152, k153, rfl, K151, z_b152, E_b146, F_b146_values, F_b146_size, E_b152, V_b152⟩ := q151
    have ne_b146_b152 : b146 ≠ b152 := own_ne' lt_b146 z_b152
    have ne_b148_b152 : b148 ≠ b152 := own_ne' lt_b148 z_b152
    have sz_b152 : h0.size ≤ b152 := Nat.le_trans K.1 z_b152
    have g_b152 : n0 ≤ b152 := Nat.le_trans Z0 sz_b152
    replace K := K.trans K151 (allS (Or.inr sz_b146) all0)
    replace E_b148 := E_b148.keep K151
    replace V_b148 := V_b148.keep K151 (ninS (Ne.symm ne_b146_b148) nin0)
    show own_Go p e below (T151.setTop (mkF m 71 #[.val (.int i0), .val (.int i1), .val (.int i2), .val (.int i3), .val (.int i4), .val (.int i5), .val (.int (2 : Int32)), .val (.int i1), .val (.int y113), .val (.int y126), .val (.int y139), .val (.ref b146), .unset] [])) _
    refine own_iload (pc' := 73) B X151 at_71 rfl rfl ?_
    refine own_iconst (pc' := 74) B X151 (z := (2 : Int32)) at_73 rfl rfl ?_
    refine own_icmpYes (pc' := 84) B X151 at_74 (flt (by decide : ¬ ((2 : Int32) < (2 : Int32)))).2.2.2 (by decide) rfl ?_
    refine own_iload (pc' := 86) B X151 at_84 rfl rfl ?_
    refine own_iconst (pc' := 87) B X151 (z := (3 : Int32)) at_86 rfl rfl ?_
    refine own_icmpYes (pc' := 97) B X151 at_87 (flt (by decide : ¬ ((3 : Int32) < (2 : Int32)))).2.2.2 (by decide) rfl ?_
    refine own_iload (pc' := 99) B X151 at_97 rfl rfl ?_
    refine own_ifNo (pc' := 102) B X151 at_99 ((if0 _ _).trans (tlt (by decide : (0 : Int32) < (2 : Int32))).2.2.2) rfl ?_
    refine own_iconst (pc' := 103) B X151 (z := (1 : Int32)) at_102 rfl rfl ?_
    refine own_goto (pc' := 107) B X151 at_103 (by decide) rfl ?_
    refine own_iload (pc' := 109) B X151 at_107 rfl rfl ?_
    refine own_iload (pc' := 111) B X151 at_109 rfl rfl ?_
    refine own_callS (pc' := 114) B X151 (own_w hw 26 rfl) (own_w hw 27 rfl) (own_w hw 3 rfl) (own_w hw 28 rfl) (by decide) [(.int (1 : Int32)), (.int i1), (.int i5)] [] (rm_8 l Z a0 hw [] (i1) (i5) h151 n0 (Nat.le_trans Z0 K.1) ) 0 (by decide) (by decide) rfl pd_3 rfl rfl (Nat.le_of_eq rfl) at_111 rfl (k' := 3) (n' := 5) rfl rfl (by decide) (by decide) ?_
    intro T154 v154 h154 X154 q154
    obtain ⟨y155, hy156, rfl, rfl⟩ := q154
    show own_Go p e below (T154.setTop (mkF m 114 #[.val (.int i0), .val (.int i1), .val (.int i2), .val (.int i3), .val (.int i4), .val (.int i5), .val (.int (2 : Int32)), .val (.int i1), .val (.int y113), .val (.int y126), .val (.int y139), .val (.ref b146), .unset] [(.int y155)])) _
    refine own_iload (pc' := 116) B X154 at_114 rfl rfl ?_
    refine own_iconst (pc' := 117) B X154 (z := (1 : Int32)) at_116 rfl rfl ?_
    refine own_icmpNo (pc' := 120) B X154 at_117 (tlt (by decide : (1 : Int32) < (2 : Int32))).2.2.2 rfl ?_
    refine own_iconst (pc' := 121) B X154 (z := (1 : Int32)) at_120 rfl rfl ?_
    refine own_goto (pc' := 125) B X154 at_121 (by decide) rfl ?_
    refine own_iload (pc' := 127) B X154 at_125 rfl rfl ?_
    refine own_iload (pc' := 129) B X154 at_127 rfl rfl ?_
    refine own_callS (pc' := 132) B X154 (own_w hw 26 rfl) (own_w hw 27 rfl) (own_w hw 3 rfl) (own_w hw 28 rfl) (by decide) [(.int (1 : Int32)), (.int y113), (.int i5)] [(.int y155)] (rm_8 l Z a0 hw [] (y113) (i5) h151 n0 (Nat.le_trans Z0 K.1) ) 1 (by decide) (by decide) rfl pd_3 rfl rfl (Nat.le_of_eq rfl) at_129 rfl (k' := 3) (n' := 5) rfl rfl (by decide) (by decide) ?_
    intro T157 v157 h157 X157 q157
    obtain ⟨y158, hy159, rfl, rfl⟩ := q157
    show own_Go p e below (T157.setTop (mkF m 132 #[.val (.int i0), .val (.int i1), .val (.int i2), .val (.int i3), .val (.int i4), .val (.int i5), .val (.int (2 : Int32)), .val (.int i1), .val (.int y113), .val (.int y126), .val (.int y139), .val (.ref b146), .unset] [(.int y158), (.int y155)])) _
    obtain ⟨y160, hy160⟩ : ∃ z : Int32, y155 + y158 = z := ⟨_, rfl⟩
    refine own_iadd (pc' := 133) B X157 at_132 rfl hy160 ?_
    refine own_iload (pc' := 135) B X157 at_133 rfl rfl ?_
    refine own_iconst (pc' := 136) B X157 (z := (2 : Int32)) at_135 rfl rfl ?_
    refine own_icmpYes (pc' := 143) B X157 at_136 (flt (by decide : ¬ ((2 : Int32) < (2 : Int32)))).2.2.2 (by decide) rfl ?_
    refine own_iconst (pc' := 144) B X157 (z := (0 : Int32)) at_143 rfl rfl ?_
    refine own_iload (pc' := 146) B X157 at_144 rfl rfl ?_
    refine own_iload (pc' := 148) B X157 at_146 rfl rfl ?_
    refine own_callS (pc' := 151) B X157 (own_w hw 26 rfl) (own_w hw 27 rfl) (own_w hw 3 rfl) (own_w hw 28 rfl) (by decide) [(.int (0 : Int32)), (.int y126), (.int i5)] [(.int y160)] (rm_5 l Z a0 hw [] (y126) (i5) h151 n0 (Nat.le_trans Z0 K.1) ) 1 (by decide) (by decide) rfl pd_3 rfl rfl (Nat.le_of_eq rfl) at_148 rfl (k' := 3) (n' := 5) rfl rfl (by decide) (by decide) ?_
    intro T161 v161 h161 X161 q161
    obtain ⟨rfl, rfl⟩ := q161
    show own_Go p e below (T161.setTop (mkF m 151 #[.val (.int i0), .val (.int i1), .val (.int i2), .val (.int i3), .val (.int i4), .val (.int i5), .val (.int (2 : Int32)), .val (.int i1), .val (.int y113), .val (.int y126), .val (.int y139), .val (.ref b146), .unset] [(.int (0 : Int32)), (.int y160)])) _
    refine own_iadd (pc' := 152) B X161 at_151 rfl (own_add0 _) ?_
    refine own_iload (pc' := 154) B X161 at_152 rfl rfl ?_
    refine own_iconst (pc' := 155) B X161 (z := (3 : Int32)) at_154 rfl rfl ?_
    refine own_icmpYes (pc' := 162) B X161 at_155 (flt (by decide : ¬ ((3 : Int32) < (2 : Int32)))).2.2.2 (by decide) rfl ?_
    refine own_iconst (pc' := 163) B X161 (z := (0 : Int32)) at_162 rfl rfl ?_
    refine own_iload (pc' := 165) B X161 at_163 rfl rfl ?_
    refine own_iload (pc' := 167) B X161 at_165 rfl rfl ?_
    refine own_callS (pc' := 170) B X161 (own_w hw 26 rfl) (own_w hw 27 rfl) (own_w hw 3 rfl) (own_w hw 28 rfl) (by decide) [(.int (0 : Int32)), (.int y139), (.int i5)] [(.int y160)] (rm_5 l Z a0 hw [] (y139) (i5) h151 n0 (Nat.le_trans Z0 K.1) ) 1 (by decide) (by decide) rfl pd_3 rfl rfl (Nat.le_of_eq rfl) at_167 rfl (k' := 3) (n' := 5) rfl rfl (by decide) (by decide) ?_
    intro T162 v162 h162 X162 q162
    obtain ⟨rfl, rfl⟩ := q162
    show own_Go p e below (T162.setTop (mkF m 170 #[.val (.int i0), .val (.int i1), .val (.int i2), .val (.int i3), .val (.int i4), .val (.int i5), .val (.int (2 : Int32)), .val (.int i1), .val (.int y113), .val (.int y126), .val (.int y139), .val (.ref b146), .unset] [(.int (0 : Int32)), (.int y160)])) _
    refine own_iadd (pc' := 171) B X162 at_170 rfl (own_add0 _) ?_
    refine own_istore (pc' := 173) B X162 (Ls' := #[.val (.int i0), .val (.int i1), .val (.int i2), .val (.int i3), .val (.int i4), .val (.int i5), .val (.int (2 : Int32)), .val (.int i1), .val (.int y113), .val (.int y126), .val (.int y139), .val (.ref b146), .val (.int y160)]) at_171 rfl rfl ?_
    refine own_aload (pc' := 175) B X162 at_173 rfl rfl rfl ?_
    refine own_iload (pc' := 177) B X162 at_175 rfl rfl ?_
    refine own_callV (pc' := 180) B X162 (own_w hw 29 rfl) (own_w hw 30 rfl) (own_w hw 32 rfl) (own_w hw 31 rfl) (own_w hw 13 rfl) (own_w hw 33 rfl) E_b146 (by decide) [(.int i5)] [] (rm_13 l Z a0 hw [] b146 b152 k153 (i1) (y113) (i5) h151 n0 (Nat.le_trans Z0 K.1) E_b146 F_b146_values F_b146_size g_b146 E_b152 V_b152 g_b152 ne_b146_b152) 0 (by decide) (by decide) rfl pd_4 rfl rfl (Nat.le_of_eq rfl) at_177 rfl (k' := 3) (n' := 5) rfl rfl (by decide) (by decide) ?_
    intro T163 v163 h163 X163 q163
    rcases q163 with ⟨c164, rfl, rfl⟩ | ⟨c165, c166, rfl, rfl⟩ | ⟨c167, c168, rfl, rfl⟩
    · show own_Go p e below (T163.setTop (mkF m 180 #[.val (.int i0), .val (.int i1), .val (.int i2), .val (.int i3), .val (.int i4), .val (.int i5), .val (.int (2 : Int32)), .val (.int i1), .val (.int y113), .val (.int y126), .val (.int y139), .val (.ref b146), .val (.int y160)] [(.int (2 : Int32))])) _
      refine own_iload (pc' := 182) B X163 at_180 rfl rfl ?_
      have c169 : (2 : Int32) = y160 := by
        have o0 := own_o_i2l hy114
        have o1 := own_o_i2l hy115
        have o2 := own_o_maskL hy116 32 (by decide) (by decide)
        have o3 := own_o_ladd hy117
        have o4 := o_own_F_minJ hy118
        have o5 := own_o_l2i hy119
        have o6 := o_own_F_below hy156
        have o7 := o_own_F_below hy159
        have o8 := own_o_iadd hy160
        have o9 := own_lt c164
        have o10 := rng32 i1
        have o11 := rng32 i2
        have o12 := rng32 i5
        have o13 := rng32 y113
        have o14 := rng32 y155
        have o15 := rng32 y158
        have o16 := rng32 y160
        have o17 := rng64 y108
        have o18 := rng64 y109
        have o19 := rng64 y110
        have o20 := rng64 y111
        have o21 := rng64 y112
        have o22 : (4294967295 : Int64).toInt = 4294967295 := by decide
        have o23 : (2147483647 : Int64).toInt = 2147483647 := by decide
        have o24 : (1 : Int32).toInt = 1 := by decide
        have o25 : (0 : Int32).toInt = 0 := by decide
        have o26 : (2 : Int32).toInt = 2 := by decide
        refine own_eqI ?_
        omega
      refine own_icmpNo (pc' := 185) B X163 at_182 (teq c169).2 rfl ?_
      refine own_iconst (pc' := 186) B X163 (z := (1 : Int32)) at_185 rfl rfl ?_
      refine own_goto (pc' := 190) B X163 at_186 (by decide) rfl ?_
      exact own_retN B X163 (t := .boolean) (z' := (1 : Int32)) (by simp) (by decide) at_190 (by decide) (by decide) rfl
    · show own_Go p e below (T163.setTop (mkF m 180 #[.val (.int i0), .val (.int i1), .val (.int i2), .val (.int i3), .val (.int i4), .val (.int i5), .val (.int (2 : Int32)), .val (.int i1), .val (.int y113), .val (.int y126), .val (.int y139), .val (.ref b146), .val (.int y160)] [(.int (1 : Int32))])) _
      refine own_iload (pc' := 182) B X163 at_180 rfl rfl ?_
      have c170 : (1 : Int32) = y160 := by
        have o0 := own_o_i2l hy114
        have o1 := own_o_i2l hy115
        have o2 := own_o_maskL hy116 32 (by decide) (by decide)
        have o3 := own_o_ladd hy117
        have o4 := o_own_F_minJ hy118
        have o5 := own_o_l2i hy119
        have o6 := o_own_F_below hy156
        have o7 := o_own_F_below hy159
        have o8 := own_o_iadd hy160
        have o9 := own_nlt c165
        have o10 := own_lt c166
        have o11 := rng32 i1
        have o12 := rng32 i2
        have o13 := rng32 i5
        have o14 := rng32 y113
        have o15 := rng32 y155
        have o16 := rng32 y158
        have o17 := rng32 y160
        have o18 := rng64 y108
        have o19 := rng64 y109
        have o20 := rng64 y110
        have o21 := rng64 y111
        have o22 := rng64 y112
        have o23 : (4294967295 : Int64).toInt = 4294967295 := by decide
        have o24 : (2147483647 : Int64).toInt = 2147483647 := by decide
        have o25 : (1 : Int32).toInt = 1 := by decide
        have o26 : (0 : Int32).toInt = 0 := by decide
        refine own_eqI ?_
        omega
      refine own_icmpNo (pc' := 185) B X163 at_182 (teq c170).2 rfl ?_
      refine own_iconst (pc' := 186) B X163 (z := (1 : Int32)) at_185 rfl rfl ?_
      refine own_goto (pc' := 190) B X163 at_186 (by decide) rfl ?_
      exact own_retN B X163 (t := .boolean) (z' := (1 : Int32)) (by simp) (by decide) at_190 (by decide) (by decide) rfl
    · show own_Go p e below (T163.setTop (mkF m 180 #[.val (.int i0), .val (.int i1), .val (.int i2), .val (.int i3), .val (.int i4), .val (.int i5), .val (.int (2 : Int32)), .val (.int i1), .val (.int y113), .val (.int y126), .val (.int y139), .val (.ref b146), .val (.int y160)] [(.int (0 : Int32))])) _
      refine own_iload (pc' := 182) B X163 at_180 rfl rfl ?_
      have c171 : (0 : Int32) = y160 := by
        have o0 := own_o_i2l hy114
        have o1 := own_o_i2l hy115
        have o2 := own_o_maskL hy116 32 (by decide) (by decide)
        have o3 := own_o_ladd hy117
        have o4 := o_own_F_minJ hy118
        have o5 := own_o_l2i hy119
        have o6 := o_own_F_below hy156
        have o7 := o_own_F_below hy159
        have o8 := own_o_iadd hy160
        have o9 := own_nlt c167
        have o10 := own_nlt c168
        have o11 := rng32 i1
        have o12 := rng32 i2
        have o13 := rng32 i5
        have o14 := rng32 y113
        have o15 := rng32 y155
        have o16 := rng32 y158
        have o17 := rng32 y160
        have o18 := rng64 y108
        have o19 := rng64 y109
        have o20 := rng64 y110
        have o21 := rng64 y111
        have o22 := rng64 y112
        have o23 : (4294967295 : Int64).toInt = 4294967295 := by decide
        have o24 : (2147483647 : Int64).toInt = 2147483647 := by decide
        have o25 : (1 : Int32).toInt = 1 := by decide
        have o26 : (0 : Int32).toInt = 0 := by decide
        refine own_eqI ?_
        omega
      refine own_icmpNo (pc' := 185) B X163 at_182 (teq c171).2 rfl ?_
      refine own_iconst (pc' := 186) B X163 (z := (1 : Int32)) at_185 rfl rfl ?_
      refine own_goto (pc' := 190) B X163 at_186 (by decide) rfl ?_
      exact own_retN B X163 (t := .boolean) (z' := (1 : Int32)) (by simp) (by decide) at_190 (by decide) (by decide) rfl
  · obtain rfl : y2 = (3 : Int32) := Int32.toInt_inj.mp (z3.trans (by decide))
    refine own_istore (pc' := 8) B X0 (Ls' := #[.val (.int i0), .val (.int i1), .val (.int i2), .val (.int i3), .val (.int i4), .val (.int i5), .val (.int (3 : Int32)), .unset, .unset, .unset, .unset, .unset, .unset]) at_6 rfl rfl ?_
    refine own_iloadN (pc' := 9) B X0 at_8 rfl rfl ?_
    refine own_istore (pc' := 11) B X0 (Ls' := #[.val (.int i0), .val (.int i1), .val (.int i2), .val (.int i3), .val (.int i4), .val (.int i5), .val (.int (3 : Int32)), .val (.int i1), .unset, .unset, .unset, .unset, .unset]) at_9 rfl rfl ?_
    refine own_iload (pc' := 13) B X0 at_11 rfl rfl ?_
    refine own_iloadN (pc' := 14) B X0 at_13 rfl rfl ?_
    refine own_callS (pc' := 17) B X0 (own_w hw 1 rfl) (own_w hw 2 rfl) (own_w hw 3 rfl) (own_w hw 4 rfl) (by decide) [(.int i1), (.int i2)] [] (rm_1 l Z a0 hw [] (i1) (i2) h0 n0 (Nat.le_trans Z0 K.1) ) 0 (by decide) (by decide) rfl pd_1 rfl rfl (Nat.le_of_eq rfl) at_14 rfl (k' := 0) (n' := 0) rfl rfl (by decide) (by decide) ?_
    intro T172 v172 h172 X172 q172
    obtain ⟨y173, y174, y175, y176, y177, y178, hy179, hy180, hy181, hy182, hy183, hy184, rfl, rfl⟩ := q172
    show own_Go p e below (T172.setTop (mkF m 17 #[.val (.int i0), .val (.int i1), .val (.int i2), .val (.int i3), .val (.int i4), .val (.int i5), .val (.int (3 : Int32)), .val (.int i1), .unset, .unset, .unset, .unset, .unset] [(.int y178)])) _
    refine own_istore (pc' := 19) B X172 (Ls' := #[.val (.int i0), .val (.int i1), .val (.int i2), .val (.int i3), .val (.int i4), .val (.int i5), .val (.int (3 : Int32)), .val (.int i1), .val (.int y178), .unset, .unset, .unset, .unset]) at_17 rfl rfl ?_
    refine own_iload (pc' := 21) B X172 at_19 rfl rfl ?_
    refine own_iloadN (pc' := 22) B X172 at_21 rfl rfl ?_
    refine own_callS (pc' := 25) B X172 (own_w hw 1 rfl) (own_w hw 2 rfl) (own_w hw 3 rfl) (own_w hw 4 rfl) (by decide) [(.int y178), (.int i3)] [] (rm_1 l Z a0 hw [] (y178) (i3) h0 n0 (Nat.le_trans Z0 K.1) ) 0 (by decide) (by decide) rfl pd_1 rfl rfl (Nat.le_of_eq rfl) at_22 rfl (k' := 0) (n' := 0) rfl rfl (by decide) (by decide) ?_
    intro T185 v185 h185 X185 q185
    obtain ⟨y186, y187, y188, y189, y190, y191, hy192, hy193, hy194, hy195, hy196, hy197, rfl, rfl⟩ := q185
    show own_Go p e below (T185.setTop (mkF m 25 #[.val (.int i0), .val (.int i1), .val (.int i2), .val (.int i3), .val (.int i4), .val (.int i5), .val (.int (3 : Int32)), .val (.int i1), .val (.int y178), .unset, .unset, .unset, .unset] [(.int y191)])) _
    refine own_istore (pc' := 27) B X185 (Ls' := #[.val (.int i0), .val (.int i1), .val (.int i2), .val (.int i3), .val (.int i4), .val (.int i5), .val (.int (3 : Int32)), .val (.int i1), .val (.int y178), .val (.int y191), .unset, .unset, .unset]) at_25 rfl rfl ?_
    refine own_iload (pc' := 29) B X185 at_27 rfl rfl ?_
    refine own_iload (pc' := 31) B X185 at_29 rfl rfl ?_
    refine own_callS (pc' := 34) B X185 (own_w hw 1 rfl) (own_w hw 2 rfl) (own_w hw 3 rfl) (own_w hw 4 rfl) (by decide) [(.int y191), (.int i4)] [] (rm_1 l Z a0 hw [] (y191) (i4) h0 n0 (Nat.le_trans Z0 K.1) ) 0 (by decide) (by decide) rfl pd_1 rfl rfl (Nat.le_of_eq rfl) at_31 rfl (k' := 0) (n' := 0) rfl rfl (by decide) (by decide) ?_
    intro T198 v198 h198 X198 q198
    obtain ⟨y199, y200, y201, y202, y203, y204, hy205, hy206, hy207, hy208, hy209, hy210, rfl, rfl⟩ := q198
    show own_Go p e below (T198.setTop (mkF m 34 #[.val (.int i0), .val (.int i1), .val (.int i2), .val (.int i3), .val (.int i4), .val (.int i5), .val (.int (3 : Int32)), .val (.int i1), .val (.int y178), .val (.int y191), .unset, .unset, .unset] [(.int y204)])) _
    refine own_istore (pc' := 36) B X198 (Ls' := #[.val (.int i0), .val (.int i1), .val (.int i2), .val (.int i3), .val (.int i4), .val (.int i5), .val (.int (3 : Int32)), .val (.int i1), .val (.int y178), .val (.int y191), .val (.int y204), .unset, .unset]) at_34 rfl rfl ?_
    refine own_new (pc' := 39) B X198 (own_w hw 11 rfl) (own_w hw 12 rfl) (own_w hw 13 rfl) at_36 rfl (k' := 1) (n' := 2) rfl rfl (by decide) (by decide) ?_
    intro T211 h211 b211 X211 g211 E211 E_b211 D211
    have sz_b211 : h0.size ≤ b211 := own_sz K g211
    have g_b211 : n0 ≤ b211 := Nat.le_trans Z0 sz_b211
    replace K := K.ext E211
    have F_b211_values : Fld Z h211 b211 "com/example/bagwise/bagwise/IntList" "values" "[I" .null := D211 (Or.inl (own_w hw 25 rfl)) (ty := (.array .int)) (by decide)
    have F_b211_size : Fld Z h211 b211 "com/example/bagwise/bagwise/IntList" "size" "I" (.int (0 : Int32)) := D211 (Or.inl (own_w hw 35 rfl)) (ty := .int) (by decide)
    clear D211
    refine own_dup (pc' := 40) B X211 at_39 rfl rfl ?_
    refine own_iconst (pc' := 41) B X211 (z := (1 : Int32)) at_40 rfl rfl ?_
    refine own_callI (pc' := 44) B X211 rfl rfl (own_w hw 14 rfl) (own_w hw 15 rfl) (own_w hw 13 rfl) (own_w hw 16 rfl) (by decide) [(.int (1 : Int32))] [(.ref b211)] (rm_3 l Z a0 hw [] b211 h211 n0 (Nat.le_trans Z0 K.1) E_b211 F_b211_values F_b211_size g_b211) 1 (by decide) (by decide) rfl pd_2 rfl rfl (Nat.le_of_eq rfl) at_41 rfl (k' := 2) (n' := 3) rfl rfl (by decide) (by decide) ?_
    intro T212 v212 h212 X212 q212
    have lt_b211 := E_b211.lt
    obtain ⟨b213, k214, rfl, K212, z_b213, E_b211, F_b211_values, F_b211_size, E_b213, V_b213⟩ := q212
    have ne_b211_b213 : b211 ≠ b213 := own_ne' lt_b211 z_b213
    have sz_b213 : h0.size ≤ b213 := Nat.le_trans K.1 z_b213
    have g_b213 : n0 ≤ b213 := Nat.le_trans Z0 sz_b213
    replace K := K.trans K212 (allS (Or.inr sz_b211) all0)
    show own_Go p e below (T212.setTop (mkF m 44 #[.val (.int i0), .val (.int i1), .val (.int i2), .val (.int i3), .val (.int i4), .val (.int i5), .val (.int (3 : Int32)), .val (.int i1), .val (.int y178), .val (.int y191), .val (.int y204), .unset, .unset] [(.ref b211)])) _
    refine own_astore (pc' := 46) B X212 (Ls' := #[.val (.int i0), .val (.int i1), .val (.int i2), .val (.int i3), .val (.int i4), .val (.int i5), .val (.int (3 : Int32)), .val (.int i1), .val (.int y178), .val (.int y191), .val (.int y204), .val (.ref b211), .unset]) at_44 rfl rfl rfl ?_
    refine own_iload (pc' := 48) B X212 at_46 rfl rfl ?_
    refine own_ifNo (pc' := 51) B X212 at_48 ((if0 _ _).trans (tlt (by decide : (0 : Int32) < (3 : Int32))).2.2.2) rfl ?_
    refine own_aload (pc' := 53) B X212 at_51 rfl rfl rfl ?_
    refine own_iload (pc' := 55) B X212 at_53 rfl rfl ?_
    refine own_callV (pc' := 58) B X212 (own_w hw 36 rfl) (own_w hw 37 rfl) (own_w hw 39 rfl) (own_w hw 38 rfl) (own_w hw 13 rfl) (own_w hw 40 rfl) E_b211 (by decide) [(.int i1)] [] (rm_7 l Z a0 hw [] b211 b213 k214 (i1) h212 n0 (Nat.le_trans Z0 K.1) E_b211 F_b211_values F_b211_size g_b211 E_b213 V_b213 g_b213 ne_b211_b213) 0 (by decide) (by decide) rfl pd_2 rfl rfl (Nat.le_of_eq rfl) at_55 rfl (k' := 2) (n' := 3) rfl rfl (by decide) (by decide) ?_
    intro T215 v215 h215 X215 q215
    obtain ⟨rfl, K215, E_b211, F_b211_values, F_b211_size, E_b213, V_b213⟩ := q215
    replace K := K.trans K215 (allS (Or.inr sz_b211) (allS (Or.inr sz_b213) all0))
    show own_Go p e below (T215.setTop (mkF m 58 #[.val (.int i0), .val (.int i1), .val (.int i2), .val (.int i3), .val (.int i4), .val (.int i5), .val (.int (3 : Int32)), .val (.int i1), .val (.int y178), .val (.int y191), .val (.int y204), .val (.ref b211), .unset] [])) _
    refine own_iload (pc' := 60) B X215 at_58 rfl rfl ?_
    refine own_iconst (pc' := 61) B X215 (z := (1 : Int32)) at_60 rfl rfl ?_
    refine own_icmpNo (pc' := 64) B X215 at_61 (tlt (by decide : (1 : Int32) < (3 : Int32))).2.2.2 rfl ?_
    refine own_aload (pc' := 66) B X215 at_64 rfl rfl rfl ?_
    refine own_iload (pc' := 68) B X215 at_66 rfl rfl ?_
    refine own_callV (pc' := 71) B X215 (own_w hw 36 rfl) (own_w hw 37 rfl) (own_w hw 39 rfl) (own_w hw 38 rfl) (own_w hw 13 rfl) (own_w hw 40 rfl) E_b211 (by decide) [(.int y178)] [] (rm_10 l Z a0 hw [] b211 b213 k214 (i1) (y178) h215 n0 (Nat.le_trans Z0 K.1) E_b211 F_b211_values F_b211_size g_b211 E_b213 V_b213 g_b213 ne_b211_b213) 0 (by decide) (by decide) rfl pd_2 rfl rfl (Nat.le_of_eq rfl) at_68 rfl (k' := 3) (n' := 5) rfl rfl (by decide) (by decide) ?_
    intro T216 v216 h216 X216 q216
    have lt_b211 := E_b211.lt
    have lt_b213 := E_b213.lt
    obtain ⟨b217, k218, rfl, K216, z_b217, E_b211, F_b211_values, F_b211_size, E_b217, V_b217⟩ := q216
    have ne_b211_b217 : b211 ≠ b217 := own_ne' lt_b211 z_b217
    have ne_b213_b217 : b213 ≠ b217 := own_ne' lt_b213 z_b217
    have sz_b217 : h0.size ≤ b217 := Nat.le_trans K.1 z_b217
    have g_b217 : n0 ≤ b217 := Nat.le_trans Z0 sz_b217
    replace K := K.trans K216 (allS (Or.inr sz_b211) all0)
    replace E_b213 := E_b213.keep K216
    replace V_b213 := V_b213.keep K216 (ninS (Ne.symm ne_b211_b213) nin0)
    show own_Go p e below (T216.setTop (mkF m 71 #[.val (.int i0), .val (.int i1), .val (.int i2), .val (.int i3), .val (.int i4), .val (.int i5), .val (.int (3 : Int32)), .val (.int i1), .val (.int y178), .val (.int y191), .val (.int y204), .val (.ref b211), .unset] [])) _
    refine own_iload (pc' := 73) B X216 at_71 rfl rfl ?_
    refine own_iconst (pc' := 74) B X216 (z := (2 : Int32)) at_73 rfl rfl ?_
    refine own_icmpNo (pc' := 77) B X216 at_74 (tlt (by decide : (2 : Int32) < (3 : Int32))).2.2.2 rfl ?_
    refine own_aload (pc' := 79) B X216 at_77 rfl rfl rfl ?_
    refine own_iload (pc' := 81) B X216 at_79 rfl rfl ?_
    refine own_callV (pc' := 84) B X216 (own_w hw 36 rfl) (own_w hw 37 rfl) (own_w hw 39 rfl) (own_w hw 38 rfl) (own_w hw 13 rfl) (own_w hw 40 rfl) E_b211 (by decide) [(.int y191)] [] (rm_14 l Z a0 hw [] b211 b217 k218 (i1) (y178) (y191) h216 n0 (Nat.le_trans Z0 K.1) E_b211 F_b211_values F_b211_size g_b211 E_b217 V_b217 g_b217 ne_b211_b217) 0 (by decide) (by decide) rfl pd_2 rfl rfl (Nat.le_of_eq rfl) at_81 rfl (k' := 4) (n' := 9) rfl rfl (by decide) (by decide) ?_
    intro T219 v219 h219 X219 q219
    have lt_b211 := E_b211.lt
    have lt_b213 := E_b213.lt
    have lt_b217 := E_b217.lt
    obtain ⟨b220, k221, rfl, K219, z_b220, E_b211, F_b211_values, F_b211_size, E_b220, V_b220⟩ := q219
    have ne_b211_b220 : b211 ≠ b220 := own_ne' lt_b211 z_b220
    have ne_b213_b220 : b213 ≠ b220 := own_ne' lt_b213 z_b220
    have ne_b217_b220 : b217 ≠ b220 := own_ne' lt_b217 z_b220
    have sz_b220 : h0.size ≤ b220 := Nat.le_trans K.1 z_b220
    have g_b220 : n0 ≤ b220 := Nat.le_trans Z0 sz_b220
    replace K := K.trans K219 (allS (Or.inr sz_b211) all0)
    replace E_b213 := E_b213.keep K219
    replace V_b213 := V_b213.keep K219 (ninS (Ne.symm ne_b211_b213) nin0)
    replace E_b217 := E_b217.keep K219
    replace V_b217 := V_b217.keep K219 (ninS (Ne.symm ne_b211_b217) nin0)
    show own_Go p e below (T219.setTop (mkF m 84 #[.val (.int i0), .val (.int i1), .val (.int i2), .val (.int i3), .val (.int i4), .val (.int i5), .val (.int (3 : Int32)), .val (.int i1), .val (.int y178), .val (.int y191), .val (.int y204), .val (.ref b211), .unset] [])) _
    refine own_iload (pc' := 86) B X219 at_84 rfl rfl ?_
    refine own_iconst (pc' := 87) B X219 (z := (3 : Int32)) at_86 rfl rfl ?_
    refine own_icmpYes (pc' := 97) B X219 at_87 (flt (by decide : ¬ ((3 : Int32) < (3 : Int32)))).2.2.2 (by decide) rfl ?_
    refine own_iload (pc' := 99) B X219 at_97 rfl rfl ?_
    refine own_ifNo (pc' := 102) B X219 at_99 ((if0 _ _).trans (tlt (by decide : (0 : Int32) < (3 : Int32))).2.2.2) rfl ?_
    refine own_iconst (pc' := 103) B X219 (z := (1 : Int32)) at_102 rfl rfl ?_
    refine own_goto (pc' := 107) B X219 at_103 (by decide) rfl ?_
    refine own_iload (pc' := 109) B X219 at_107 rfl rfl ?_
    refine own_iload (pc' := 111) B X219 at_109 rfl rfl ?_
    refine own_callS (pc' := 114) B X219 (own_w hw 26 rfl) (own_w hw 27 rfl) (own_w hw 3 rfl) (own_w hw 28 rfl) (by decide) [(.int (1 : Int32)), (.int i1), (.int i5)] [] (rm_8 l Z a0 hw [] (i1) (i5) h219 n0 (Nat.le_trans Z0 K.1) ) 0 (by decide) (by decide) rfl pd_3 rfl rfl (Nat.le_of_eq rfl) at_111 rfl (k' := 4) (n' := 9) rfl rfl (by decide) (by decide) ?_
    intro T222 v222 h222 X222 q222
    obtain ⟨y223, hy224, rfl, rfl⟩ := q222
    show own_Go p e below (T222.setTop (mkF m 114 #[.val (.int i0), .val (.int i1), .val (.int i2), .val (.int i3), .val (.int i4), .val (.int i5), .val (.int (3 : Int32)), .val (.int i1), .val (.int y178), .val (.int y191), .val (.int y204), .val (.ref b211), .unset] [(.int y223)])) _
    refine own_iload (pc' := 116) B X222 at_114 rfl rfl ?_
    refine own_iconst (pc' := 117) B X222 (z := (1 : Int32)) at_116 rfl rfl ?_
    refine own_icmpNo (pc' := 120) B X222 at_117 (tlt (by decide : (1 : Int32) < (3 : Int32))).2.2.2 rfl ?_
    refine own_iconst (pc' := 121) B X222 (z := (1 : Int32)) at_120 rfl rfl ?_
    refine own_goto (pc' := 125) B X222 at_121 (by decide) rfl ?_
    refine own_iload (pc' := 127) B X222 at_125 rfl rfl ?_
    refine own_iload (pc' := 129) B X222 at_127 rfl rfl ?_
    refine own_callS (pc' := 132) B X222 (own_w hw 26 rfl) (own_w hw 27 rfl) (own_w hw 3 rfl) (own_w hw 28 rfl) (by decide) [(.int (1 : Int32)), (.int y178), (.int i5)] [(.int y223)] (rm_8 l Z a0 hw [] (y178) (i5) h219 n0 (Nat.le_trans Z0 K.1) ) 1 (by decide) (by decide) rfl pd_3 rfl rfl (Nat.le_of_eq rfl) at_129 rfl (k' := 4) (n' := 9) rfl rfl (by decide) (by decide) ?_
    intro T225 v225 h225 X225 q225
    obtain ⟨y226, hy227, rfl, rfl⟩ := q225
    show own_Go p e below (T225.setTop (mkF m 132 #[.val (.int i0), .val (.int i1), .val (.int i2), .val (.int i3), .val (.int i4), .val (.int i5), .val (.int (3 : Int32)), .val (.int i1), .val (.int y178), .val (.int y191), .val (.int y204), .val (.ref b211), .unset] [(.int y226), (.int y223)])) _
    obtain ⟨y228, hy228⟩ : ∃ z : Int32, y223 + y226 = z := ⟨_, rfl⟩
    refine own_iadd (pc' := 133) B X225 at_132 rfl hy228 ?_
    refine own_iload (pc' := 135) B X225 at_133 rfl rfl ?_
    refine own_iconst (pc' := 136) B X225 (z := (2 : Int32)) at_135 rfl rfl ?_
    refine own_icmpNo (pc' := 139) B X225 at_136 (tlt (by decide : (2 : Int32) < (3 : Int32))).2.2.2 rfl ?_
    refine own_iconst (pc' := 140) B X225 (z := (1 : Int32)) at_139 rfl rfl ?_
    refine own_goto (pc' := 144) B X225 at_140 (by decide) rfl ?_
    refine own_iload (pc' := 146) B X225 at_144 rfl rfl ?_
    refine own_iload (pc' := 148) B X225 at_146 rfl rfl ?_
    refine own_callS (pc' := 151) B X225 (own_w hw 26 rfl) (own_w hw 27 rfl) (own_w hw 3 rfl) (own_w hw 28 rfl) (by decide) [(.int (1 : Int32)), (.int y191), (.int i5)] [(.int y228)] (rm_8 l Z a0 hw [] (y191) (i5) h219 n0 (Nat.le_trans Z0 K.1) ) 1 (by decide) (by decide) rfl pd_3 rfl rfl (Nat.le_of_eq rfl) at_148 rfl (k' := 4) (n' := 9) rfl rfl (by decide) (by decide) ?_
    intro T229 v229 h229 X229 q229
    obtain ⟨y230, hy231, rfl, rfl⟩ := q229
    show own_Go p e below (T229.setTop (mkF m 151 #[.val (.int i0), .val (.int i1), .val (.int i2), .val (.int i3), .val (.int i4), .val (.int i5), .val (.int (3 : Int32)), .val (.int i1), .val (.int y178), .val (.int y191), .val (.int y204), .val (.ref b211), .unset] [(.int y230), (.int y228)])) _
    obtain ⟨y232, hy232⟩ : ∃ z : Int32, y228 + y230 = z := ⟨_, rfl⟩
    refine own_iadd (pc' := 152) B X229 at_151 rfl hy232 ?_
    refine own_iload (pc' := 154) B X229 at_152 rfl rfl ?_
    refine own_iconst (pc' := 155) B X229 (z := (3 : Int32)) at_154 rfl rfl ?_
    refine own_icmpYes (pc' := 162) B X229 at_155 (flt (by decide : ¬ ((3 : Int32) < (3 : Int32)))).2.2.2 (by decide) rfl ?_
    refine own_iconst (pc' := 163) B X229 (z := (0 : Int32)) at_162 rfl rfl ?_
    refine own_iload (pc' := 165) B X229 at_163 rfl rfl ?_
    refine own_iload (pc' := 167) B X229 at_165 rfl rfl ?_
    refine own_callS (pc' := 170) B X229 (own_w hw 26 rfl) (own_w hw 27 rfl) (own_w hw 3 rfl) (own_w hw 28 rfl) (by decide) [(.int (0 : Int32)), (.int y204), (.int i5)] [(.int y232)] (rm_5 l Z a0 hw [] (y204) (i5) h219 n0 (Nat.le_trans Z0 K.1) ) 1 (by decide) (by decide) rfl pd_3 rfl rfl (Nat.le_of_eq rfl) at_167 rfl (k' := 4) (n' := 9) rfl rfl (by decide) (by decide) ?_
    intro T233 v233 h233 X233 q233
    obtain ⟨rfl, rfl⟩ := q233
    show own_Go p e below (T233.setTop (mkF m 170 #[.val (.int i0), .val (.int i1), .val (.int i2), .val (.int i3), .val (.int i4), .val (.int i5), .val (.int (3 : Int32)), .val (.int i1), .val (.int y178), .val (.int y191), .val (.int y204), .val (.ref b211), .unset] [(.int (0 : Int32)), (.int y232)])) _
    refine own_iadd (pc' := 171) B X233 at_170 rfl (own_add0 _) ?_
    refine own_istore (pc' := 173) B X233 (Ls' := #[.val (.int i0), .val (.int i1), .val (.int i2), .val (.int i3), .val (.int i4), .val (.int i5), .val (.int (3 : Int32)), .val (.int i1), .val (.int y178), .val (.int y191), .val (.int y204), .val (.ref b211), .val (.int y232)]) at_171 rfl rfl ?_
    refine own_aload (pc' := 175) B X233 at_173 rfl rfl rfl ?_
    refine own_iload (pc' := 177) B X233 at_175 rfl rfl ?_
    refine own_callV (pc' := 180) B X233 (own_w hw 29 rfl) (own_w hw 30 rfl) (own_w hw 32 rfl) (own_w hw 31 rfl) (own_w hw 13 rfl) (own_w hw 33 rfl) E_b211 (by decide) [(.int i5)] [] (rm_17 l Z a0 hw [] b211 b220 k221 (i1) (y178) (y191) (i5) h219 n0 (Nat.le_trans Z0 K.1) E_b211 F_b211_values F_b211_size g_b211 E_b220 V_b220 g_b220 ne_b211_b220) 0 (by decide) (by decide) rfl pd_4 rfl rfl (Nat.le_of_eq rfl) at_177 rfl (k' := 4) (n' := 9) rfl rfl (by decide) (by decide) ?_
    intro T234 v234 h234 X234 q234
    rcases q234 with ⟨c235, c236, rfl, rfl⟩ | ⟨c237, c238, rfl, rfl⟩ | ⟨c239, c240, rfl, rfl⟩ | ⟨c241, c242, rfl, rfl⟩
    · show own_Go p e below (T234.setTop (mkF m 180 #[.val (.int i0), .val (.int i1), .val (.int i2), .val (.int i3), .val (.int i4), .val (.int i5), .val (.int (3 : Int32)), .val (.int i1), .val (.int y178), .val (.int y191), .val (.int y204), .val (.ref b211), .val (.int y232)] [(.int (3 : Int32))])) _
      refine own_iload (pc' := 182) B X234 at_180 rfl rfl ?_
      have c243 : (3 : Int32) = y232 := by
        have o0 := own_o_i2l hy179
        have o1 := own_o_i2l hy180
        have o2 := own_o_maskL hy181 32 (by decide) (by decide)
        have o3 := own_o_ladd hy182
        have o4 := o_own_F_minJ hy183
        have o5 := own_o_l2i hy184
        have o6 := own_o_i2l hy192
        have o7 := own_o_i2l hy193
        have o8 := own_o_maskL hy194 32 (by decide) (by decide)
        have o9 := own_o_ladd hy195
        have o10 := o_own_F_minJ hy196
        have o11 := own_o_l2i hy197
        have o12 := o_own_F_below hy224
        have o13 := o_own_F_below hy227
        have o14 := own_o_iadd hy228
        have o15 := o_own_F_below hy231
        have o16 := own_o_iadd hy232
        have o17 := own_lt c235
        have o18 := own_lt c236
        have o19 := rng32 i1
        have o20 := rng32 i2
        have o21 := rng32 i3
        have o22 := rng32 i5
        have o23 := rng32 y178
        have o24 := rng32 y191
        have o25 := rng32 y223
        have o26 := rng32 y226
        have o27 := rng32 y228
        have o28 := rng32 y230
        have o29 := rng32 y232
        have o30 := rng64 y173
        have o31 := rng64 y174
        have o32 := rng64 y175
        have o33 := rng64 y176
        have o34 := rng64 y177
        have o35 := rng64 y186
        have o36 := rng64 y187
        have o37 := rng64 y188
        have o38 := rng64 y189
        have o39 := rng64 y190
        have o40 : (4294967295 : Int64).toInt = 4294967295 := by decide
        have o41 : (2147483647 : Int64).toInt = 2147483647 := by decide
        have o42 : (1 : Int32).toInt = 1 := by decide
        have o43 : (0 : Int32).toInt = 0 := by decide
        have o44 : (3 : Int32).toInt = 3 := by decide
        refine own_eqI ?_
        omega
      refine own_icmpNo (pc' := 185) B X234 at_182 (teq c243).2 rfl ?_
      refine own_iconst (pc' := 186) B X234 (z := (1 : Int32)) at_185 rfl rfl ?_
      refine own_goto (pc' := 190) B X234 at_186 (by decide) rfl ?_
      exact own_retN B X234 (t := .boolean) (z' := (1 : Int32)) (by simp) (by decide) at_190 (by decide) (by decide) rfl
    · show own_Go p e below (T234.setTop (mkF m 180 #[.val (.int i0), .val (.int i1), .val (.int i2), .val (.int i3), .val (.int i4), .val (.int i5), .val (.int (3 : Int32)), .val (.int i1), .val (.int y178), .val (.int y191), .val (.int y204), .val (.ref b211), .val (.int y232)] [(.int (2 : Int32))])) _
      refine own_iload (pc' := 182) B X234 at_180 rfl rfl ?_
      have c244 : (2 : Int32) = y232 := by
        have o0 := own_o_i2l hy179
        have o1 := own_o_i2l hy180
        have o2 := own_o_maskL hy181 32 (by decide) (by decide)
        have o3 := own_o_ladd hy182
        have o4 := o_own_F_minJ hy183
        have o5 := own_o_l2i hy184
        have o6 := own_o_i2l hy192
        have o7 := own_o_i2l hy193
        have o8 := own_o_maskL hy194 32 (by decide) (by decide)
        have o9 := own_o_ladd hy195
        have o10 := o_own_F_minJ hy196
        have o11 := own_o_l2i hy197
        have o12 := o_own_F_below hy224
        have o13 := o_own_F_below hy227
        have o14 := own_o_iadd hy228
        have o15 := o_own_F_below hy231
        have o16 := own_o_iadd hy232
        have o17 := own_lt c237
        have o18 := own_nlt c238
        have o19 := rng32 i1
        have o20 := rng32 i2
        have o21 := rng32 i3
        have o22 := rng32 i5
        have o23 := rng32 y178
        have o24 := rng32 y191
        have o25 := rng32 y223
        have o26 := rng32 y226
        have o27 := rng32 y228
        have o28 := rng32 y230
        have o29 := rng32 y232
        have o30 := rng64 y173
        have o31 := rng64 y174
        have o32 := rng64 y175
        have o33 := rng64 y176
        have o34 := rng64 y177
        have o35 := rng64 y186
        have o36 := rng64 y187
        have o37 := rng64 y188
        have o38 := rng64 y189
        have o39 := rng64 y190
        have o40 : (4294967295 : Int64).toInt = 4294967295 := by decide
        have o41 : (2147483647 : Int64).toInt = 2147483647 := by decide
        have o42 : (1 : Int32).toInt = 1 := by decide
        have o43 : (0 : Int32).toInt = 0 := by decide
        have o44 : (2 : Int32).toInt = 2 := by decide
        refine own_eqI ?_
        omega
      refine own_icmpNo (pc' := 185) B X234 at_182 (teq c244).2 rfl ?_
      refine own_iconst (pc' := 186) B X234 (z := (1 : Int32)) at_185 rfl rfl ?_
      refine own_goto (pc' := 190) B X234 at_186 (by decide) rfl ?_
      exact own_retN B X234 (t := .boolean) (z' := (1 : Int32)) (by simp) (by decide) at_190 (by decide) (by decide) rfl
    · show own_Go p e below (T234.setTop (mkF m 180 #[.val (.int i0), .val (.int i1), .val (.int i2), .val (.int i3), .val (.int i4), .val (.int i5), .val (.int (3 : Int32)), .val (.int i1), .val (.int y178), .val (.int y191), .val (.int y204), .val (.ref b211), .val (.int y232)] [(.int (1 : Int32))])) _
      refine own_iload (pc' := 182) B X234 at_180 rfl rfl ?_
      have c245 : (1 : Int32) = y232 := by
        have o0 := own_o_i2l hy179
        have o1 := own_o_i2l hy180
        have o2 := own_o_maskL hy181 32 (by decide) (by decide)
        have o3 := own_o_ladd hy182
        have o4 := o_own_F_minJ hy183
        have o5 := own_o_l2i hy184
        have o6 := own_o_i2l hy192
        have o7 := own_o_i2l hy193
        have o8 := own_o_maskL hy194 32 (by decide) (by decide)
        have o9 := own_o_ladd hy195
        have o10 := o_own_F_minJ hy196
        have o11 := own_o_l2i hy197
        have o12 := o_own_F_below hy224
        have o13 := o_own_F_below hy227
        have o14 := own_o_iadd hy228
        have o15 := o_own_F_below hy231
        have o16 := own_o_iadd hy232
        have o17 := own_nlt c239
        have o18 := own_lt c240
        have o19 := rng32 i1
        have o20 := rng32 i2
        have o21 := rng32 i3
        have o22 := rng32 i5
        have o23 := rng32 y178
        have o24 := rng32 y191
        have o25 := rng32 y223
        have o26 := rng32 y226
        have o27 := rng32 y228
        have o28 := rng32 y230
        have o29 := rng32 y232
        have o30 := rng64 y173
        have o31 := rng64 y174
        have o32 := rng64 y175
        have o33 := rng64 y176
        have o34 := rng64 y177
        have o35 := rng64 y186
        have o36 := rng64 y187
        have o37 := rng64 y188
        have o38 := rng64 y189
        have o39 := rng64 y190
        have o40 : (4294967295 : Int64).toInt = 4294967295 := by decide
        have o41 : (2147483647 : Int64).toInt = 2147483647 := by decide
        have o42 : (1 : Int32).toInt = 1 := by decide
        have o43 : (0 : Int32).toInt = 0 := by decide
        refine own_eqI ?_
        omega
      refine own_icmpNo (pc' := 185) B X234 at_182 (teq c245).2 rfl ?_
      refine own_iconst (pc' := 186) B X234 (z := (1 : Int32)) at_185 rfl rfl ?_
      refine own_goto (pc' := 190) B X234 at_186 (by decide) rfl ?_
      exact own_retN B X234 (t := .boolean) (z' := (1 : Int32)) (by simp) (by decide) at_190 (by decide) (by decide) rfl
    · show own_Go p e below (T234.setTop (mkF m 180 #[.val (.int i0), .val (.int i1), .val (.int i2), .val (.int i3), .val (.int i4), .val (.int i5), .val (.int (3 : Int32)), .val (.int i1), .val (.int y178), .val (.int y191), .val (.int y204), .val (.ref b211), .val (.int y232)] [(.int (0 : Int32))])) _
      refine own_iload (pc' := 182) B X234 at_180 rfl rfl ?_
      have c246 : (0 : Int32) = y232 := by
        have o0 := own_o_i2l hy179
        have o1 := own_o_i2l hy180
        have o2 := own_o_maskL hy181 32 (by decide) (by decide)
        have o3 := own_o_ladd hy182
        have o4 := o_own_F_minJ hy183
        have o5 := own_o_l2i hy184
        have o6 := own_o_i2l hy192
        have o7 := own_o_i2l hy193
        have o8 := own_o_maskL hy194 32 (by decide) (by decide)
        have o9 := own_o_ladd hy195
        have o10 := o_own_F_minJ hy196
        have o11 := own_o_l2i hy197
        have o12 := o_own_F_below hy224
        have o13 := o_own_F_below hy227
        have o14 := own_o_iadd hy228
        have o15 := o_own_F_below hy231
        have o16 := own_o_iadd hy232
        have o17 := own_nlt c241
        have o18 := own_nlt c242
        have o19 := rng32 i1
        have o20 := rng32 i2
        have o21 := rng32 i3
        have o22 := rng32 i5
        have o23 := rng32 y178
        have o24 := rng32 y191
        have o25 := rng32 y223
        have o26 := rng32 y226
        have o27 := rng32 y228
        have o28 := rng32 y230
        have o29 := rng32 y232
        have o30 := rng64 y173
        have o31 := rng64 y174
        have o32 := rng64 y175
        have o33 := rng64 y176
        have o34 := rng64 y177
        have o35 := rng64 y186
        have o36 := rng64 y187
        have o37 := rng64 y188
        have o38 := rng64 y189
        have o39 := rng64 y190
        have o40 : (4294967295 : Int64).toInt = 4294967295 := by decide
        have o41 : (2147483647 : Int64).toInt = 2147483647 := by decide
        have o42 : (1 : Int32).toInt = 1 := by decide
        have o43 : (0 : Int32).toInt = 0 := by decide
        refine own_eqI ?_
        omega
      refine own_icmpNo (pc' := 185) B X234 at_182 (teq c246).2 rfl ?_
      refine own_iconst (pc' := 186) B X234 (z := (1 : Int32)) at_185 rfl rfl ?_
      refine own_goto (pc' := 190) B X234 at_186 (by decide) rfl ?_
      exact own_retN B X234 (t := .boolean) (z' := (1 : Int32)) (by simp) (by decide) at_190 (by decide) (by decide) rfl
  · obtain rfl : y2 = (4 : Int32) := Int32.toInt_inj.mp (z3.trans (by decide))
    refine own_istore (pc' := 8) B X0 (Ls' := #[.val (.int i0), .val (.int i1), .val (.int i2), .val (.int i3), .val (.int i4), .val (.int i5), .val (.int (4 : Int32)), .unset, .unset, .unset, .unset, .unset, .unset]) at_6 rfl rfl ?_
    refine own_iloadN (pc' := 9) B X0 at_8 rfl rfl ?_
    refine own_istore (pc' := 11) B X0 (Ls' := #[.val (.int i0), .val (.int i1), .val (.int i2), .val (.int i3), .val (.int i4), .val (.int i5), .val (.int (4 : Int32)), .val (.int i1), .unset, .unset, .unset, .unset, .unset]) at_9 rfl rfl ?_
    refine own_iload (pc' := 13) B X0 at_11 rfl rfl ?_
    refine own_iloadN (pc' := 14) B X0 at_13 rfl rfl ?_
    refine own_callS (pc' := 17) B X0 (own_w hw 1 rfl) (own_w hw 2 rfl) (own_w hw 3 rfl) (own_w hw 4 rfl) (by decide) [(.int i1), (.int i2)] [] (rm_1 l Z a0 hw [] (i1) (i2) h0 n0 (Nat.le_trans Z0 K.1) ) 0 (by decide) (by decide) rfl pd_1 rfl rfl (Nat.le_of_eq rfl) at_14 rfl (k' := 0) (n' := 0) rfl rfl (by decide) (by decide) ?_
    intro T247 v247 h247 X247 q247
    obtain ⟨y248, y249, y250, y251, y252, y253, hy254, hy255, hy256, hy257, hy258, hy259, rfl, rfl⟩ := q247
    show own_Go p e below (T247.setTop (mkF m 17 #[.val (.int i0), .val (.int i1), .val (.int i2), .val (.int i3), .val (.int i4), .val (.int i5), .val (.int (4 : Int32)), .val (.int i1), .unset, .unset, .unset, .unset, .unset] [(.int y253)])) _
    refine own_istore (pc' := 19) B X247 (Ls' := #[.val (.int i0), .val (.int i1), .val (.int i2), .val (.int i3), .val (.int i4), .val (.int i5), .val (.int (4 : Int32)), .val (.int i1), .val (.int y253), .unset, .unset, .unset, .unset]) at_17 rfl rfl ?_
    refine own_iload (pc' := 21) B X247 at_19 rfl rfl ?_
    refine own_iloadN (pc' := 22) B X247 at_21 rfl rfl ?_
    refine own_callS (pc' := 25) B X247 (own_w hw 1 rfl) (own_w hw 2 rfl) (own_w hw 3 rfl) (own_w hw 4 rfl) (by decide) [(.int y253), (.int i3)] [] (rm_1 l Z a0 hw [] (y253) (i3) h0 n0 (Nat.le_trans Z0 K.1) ) 0 (by decide) (by decide) rfl pd_1 rfl rfl (Nat.le_of_eq rfl) at_22 rfl (k' := 0) (n' := 0) rfl rfl (by decide) (by decide) ?_
    intro T260 v260 h260 X260 q260
    obtain ⟨y261, y262, y263, y264, y265, y266, hy267, hy268, hy269, hy270, hy271, hy272, rfl, rfl⟩ := q260
    show own_Go p e below (T260.setTop (mkF m 25 #[.val (.int i0), .val (.int i1), .val (.int i2), .val (.int i3), .val (.int i4), .val (.int i5), .val (.int (4 : Int32)), .val (.int i1), .val (.int y253), .unset, .unset, .unset, .unset] [(.int y266)])) _
    refine own_istore (pc' := 27) B X260 (Ls' := #[.val (.int i0), .val (.int i1), .val (.int i2), .val (.int i3), .val (.int i4), .val (.int i5), .val (.int (4 : Int32)), .val (.int i1), .val (.int y253), .val (.int y266), .unset, .unset, .unset]) at_25 rfl rfl ?_
    refine own_iload (pc' := 29) B X260 at_27 rfl rfl ?_
    refine own_iload (pc' := 31) B X260 at_29 rfl rfl ?_
    refine own_callS (pc' := 34) B X260 (own_w hw 1 rfl) (own_w hw 2 rfl) (own_w hw 3 rfl) (own_w hw 4 rfl) (by decide) [(.int y266), (.int i4)] [] (rm_1 l Z a0 hw [] (y266) (i4) h0 n0 (Nat.le_trans Z0 K.1) ) 0 (by decide) (by decide) rfl pd_1 rfl rfl (Nat.le_of_eq rfl) at_31 rfl (k' := 0) (n' := 0) rfl rfl (by decide) (by decide) ?_
    intro T273 v273 h273 X273 q273
    obtain ⟨y274, y275, y276, y277, y278, y279, hy280, hy281, hy282, hy283, hy284, hy285, rfl, rfl⟩ := q273
    show own_Go p e below (T273.setTop (mkF m 34 #[.val (.int i0), .val (.int i1), .val (.int i2), .val (.int i3), .val (.int i4), .val (.int i5), .val (.int (4 : Int32)), .val (.int i1), .val (.int y253), .val (.int y266), .unset, .unset, .unset] [(.int y279)])) _
    refine own_istore (pc' := 36) B X273 (Ls' := #[.val (.int i0), .val (.int i1), .val (.int i2), .val (.int i3), .val (.int i4), .val (.int i5), .val (.int (4 : Int32)), .val (.int i1), .val (.int y253), .val (.int y266), .val (.int y279), .unset, .unset]) at_34 rfl rfl ?_
    refine own_new (pc' := 39) B X273 (own_w hw 11 rfl) (own_w hw 12 rfl) (own_w hw 13 rfl) at_36 rfl (k' := 1) (n' := 2) rfl rfl (by decide) (by decide) ?_
    intro T286 h286 b286 X286 g286 E286 E_b286 D286
    have sz_b286 : h0.size ≤ b286 := own_sz K g286
    have g_b286 : n0 ≤ b286 := Nat.le_trans Z0 sz_b286
    replace K := K.ext E286
    have F_b286_values : Fld Z h286 b286 "com/example/bagwise/bagwise/IntList" "values" "[I" .null := D286 (Or.inl (own_w hw 25 rfl)) (ty := (.array .int)) (by decide)
    have F_b286_size : Fld Z h286 b286 "com/example/bagwise/bagwise/IntList" "size" "I" (.int (0 : Int32)) := D286 (Or.inl (own_w hw 35 rfl)) (ty := .int) (by decide)
    clear D286
    refine own_dup (pc' := 40) B X286 at_39 rfl rfl ?_
    refine own_iconst (pc' := 41) B X286 (z := (1 : Int32)) at_40 rfl rfl ?_
    refine own_callI (pc' := 44) B X286 rfl rfl (own_w hw 14 rfl) (own_w hw 15 rfl) (own_w hw 13 rfl) (own_w hw 16 rfl) (by decide) [(.int (1 : Int32))] [(.ref b286)] (rm_3 l Z a0 hw [] b286 h286 n0 (Nat.le_trans Z0 K.1) E_b286 F_b286_values F_b286_size g_b286) 1 (by decide) (by decide) rfl pd_2 rfl rfl (Nat.le_of_eq rfl) at_41 rfl (k' := 2) (n' := 3) rfl rfl (by decide) (by decide) ?_
    intro T287 v287 h287 X287 q287
    have lt_b286 := E_b286.lt
    obtain ⟨b288, k289, rfl, K287, z_b288, E_b286, F_b286_values, F_b286_size, E_b288, V_b288⟩ := q287
    have ne_b286_b288 : b286 ≠ b288 := own_ne' lt_b286 z_b288
    have sz_b288 : h0.size ≤ b288 := Nat.le_trans K.1 z_b288
    have g_b288 : n0 ≤ b288 := Nat.le_trans Z0 sz_b288
    replace K := K.trans K287 (allS (Or.inr sz_b286) all0)
    show own_Go p e below (T287.setTop (mkF m 44 #[.val (.int i0), .val (.int i1), .val (.int i2), .val (.int i3), .val (.int i4), .val (.int i5), .val (.int (4 : Int32)), .val (.int i1), .val (.int y253), .val (.int y266), .val (.int y279), .unset, .unset] [(.ref b286)])) _
    refine own_astore (pc' := 46) B X287 (Ls' := #[.val (.int i0), .val (.int i1), .val (.int i2), .val (.int i3), .val (.int i4), .val (.int i5), .val (.int (4 : Int32)), .val (.int i1), .val (.int y253), .val (.int y266), .val (.int y279), .val (.ref b286), .unset]) at_44 rfl rfl rfl ?_
    refine own_iload (pc' := 48) B X287 at_46 rfl rfl ?_
    refine own_ifNo (pc' := 51) B X287 at_48 ((if0 _ _).trans (tlt (by decide : (0 : Int32) < (4 : Int32))).2.2.2) rfl ?_
    refine own_aload (pc' := 53) B X287 at_51 rfl rfl rfl ?_
    refine own_iload (pc' := 55) B X287 at_53 rfl rfl ?_
    refine own_callV (pc' := 58) B X287 (own_w hw 36 rfl) (own_w hw 37 rfl) (own_w hw 39 rfl) (own_w hw 38 rfl) (own_w hw 13 rfl) (own_w hw 40 rfl) E_b286 (by decide) [(.int i1)] [] (rm_7 l Z a0 hw [] b286 b288 k289 (i1) h287 n0 (Nat.le_trans Z0 K.1) E_b286 F_b286_values F_b286_size g_b286 E_b288 V_b288 g_b288 ne_b286_b288) 0 (by decide) (by decide) rfl pd_2 rfl rfl (Nat.le_of_eq rfl) at_55 rfl (k' := 2) (n' := 3) rfl rfl (by decide) (by decide) ?_
    intro T290 v290 h290 X290 q290
    obtain ⟨rfl, K290, E_b286, F_b286_values, F_b286_size, E_b288, V_b288⟩ := q290
    replace K := K.trans K290 (allS (Or.inr sz_b286) (allS (Or.inr sz_b288) all0))
    show own_Go p e below (T290.setTop (mkF m 58 #[.val (.int i0), .val (.int i1), .val (.int i2), .val (.int i3), .val (.int i4), .val (.int i5), .val (.int (4 : Int32)), .val (.int i1), .val (.int y253), .val (.int y266), .val (.int y279), .val (.ref b286), .unset] [])) _
    refine own_iload (pc' := 60) B X290 at_58 rfl rfl ?_
    refine own_iconst (pc' := 61) B X290 (z := (1 : Int32)) at_60 rfl rfl ?_
    refine own_icmpNo (pc' := 64) B X290 at_61 (tlt (by decide : (1 : Int32) < (4 : Int32))).2.2.2 rfl ?_
    refine own_aload (pc' := 66) B X290 at_64 rfl rfl rfl ?_
    refine own_iload (pc' := 68) B X290 at_66 rfl rfl ?_
    refine own_callV (pc' := 71) B X290 (own_w hw 36 rfl) (own_w hw 37 rfl) (own_w hw 39 rfl) (own_w hw 38 rfl) (own_w hw 13 rfl) (own_w hw 40 rfl) E_b286 (by decide) [(.int y253)] [] (rm_10 l Z a0 hw [] b286 b288 k289 (i1) (y253) h290 n0 (Nat.le_trans Z0 K.1) E_b286 F_b286_values F_b286_size g_b286 E_b288 V_b288 g_b288 ne_b286_b288) 0 (by decide) (by decide) rfl pd_2 rfl rfl (Nat.le_of_eq rfl) at_68 rfl (k' := 3) (n' := 5) rfl rfl (by decide) (by decide) ?_
    intro T291 v291 h291 X291 q291
    have lt_b286 := E_b286.lt
    have lt_b288 := E_b288.lt
    obtain ⟨b292, k293, rfl, K291, z_b292, E_b286, F_b286_values, F_b286_size, E_b292, V_b292⟩ := q291
    have ne_b286_b292 : b286 ≠ b292 := own_ne' lt_b286 z_b292
    have ne_b288_b292 : b288 ≠ b292 := own_ne' lt_b288 z_b292
    have sz_b292 : h0.size ≤ b292 := Nat.le_trans K.1 z_b292
    have g_b292 : n0 ≤ b292 := Nat.le_trans Z0 sz_b292
    replace K := K.trans K291 (allS (Or.inr sz_b286) all0)
    replace E_b288 := E_b288.keep K291
    replace V_b288 := V_b288.keep K291 (ninS (Ne.symm ne_b286_b288) nin0)
    show own_Go p e below (T291.setTop (mkF m 71 #[.val (.int i0), .val (.int i1), .val (.int i2), .val (.int i3), .val (.int i4), .val (.int i5), .val (.int (4 : Int32)), .val (.int i1), .val (.int y253), .val (.int y266), .val (.int y279), .val (.ref b286), .unset] [])) _
    refine own_iload (pc' := 73) B X291 at_71 rfl rfl ?_
    refine own_iconst (pc' := 74) B X291 (z := (2 : Int32)) at_73 rfl rfl ?_
    refine own_icmpNo (pc' := 77) B X291 at_74 (tlt (by decide : (2 : Int32) < (4 : Int32))).2.2.2 rfl ?_
    refine own_aload (pc' := 79) B X291 at_77 rfl rfl rfl ?_
    refine own_iload (pc' := 81) B X291 at_79 rfl rfl ?_
    refine own_callV (pc' := 84) B X291 (own_w hw 36 rfl) (own_w hw 37 rfl) (own_w hw 39 rfl) (own_w hw 38 rfl) (own_w hw 13 rfl) (own_w hw 40 rfl) E_b286 (by decide) [(.int y266)] [] (rm_14 l Z a0 hw [] b286 b292 k293 (i1) (y253) (y266) h291 n0 (Nat.le_trans Z0 K.1) E_b286 F_b286_values F_b286_size g_b286 E_b292 V_b292 g_b292 ne_b286_b292) 0 (by decide) (by decide) rfl pd_2 rfl rfl (Nat.le_of_eq rfl) at_81 rfl (k' := 4) (n' := 9) rfl rfl (by decide) (by decide) ?_
    intro T294 v294 h294 X294 q294
    have lt_b286 := E_b286.lt
    have lt_b288 := E_b288.lt
    have lt_b292 := E_b292.lt
    obtain ⟨b295, k296, rfl, K294, z_b295, E_b286, F_b286_values, F_b286_size, E_b295, V_b295⟩ := q294
    have ne_b286_b295 : b286 ≠ b295 := own_ne' lt_b286 z_b295
    have ne_b288_b295 : b288 ≠ b295 := own_ne' lt_b288 z_b295
    have ne_b292_b295 : b292 ≠ b295 := own_ne' lt_b292 z_b295
    have sz_b295 : h0.size ≤ b295 := Nat.le_trans K.1 z_b295
    have g_b295 : n0 ≤ b295 := Nat.le_trans Z0 sz_b295
    replace K := K.trans K294 (allS (Or.inr sz_b286) all0)
    replace E_b288 := E_b288.keep K294
    replace V_b288 := V_b288.keep K294 (ninS (Ne.symm ne_b286_b288) nin0)
    replace E_b292 := E_b292.keep K294
    replace V_b292 := V_b292.keep K294 (ninS (Ne.symm ne_b286_b292) nin0)
    show own_Go p e below (T294.setTop (mkF m 84 #[.val (.int i0), .val (.int i1), .val (.int i2), .val (.int i3), .val (.int i4), .val (.int i5), .val (.int (4 : Int32)), .val (.int i1), .val (.int y253), .val (.int y266), .val (.int y279), .val (.ref b286), .unset] [])) _
    refine own_iload (pc' := 86) B X294 at_84 rfl rfl ?_
    refine own_iconst (pc' := 87) B X294 (z := (3 : Int32)) at_86 rfl rfl ?_
    refine own_icmpNo (pc' := 90) B X294 at_87 (tlt (by decide : (3 : Int32) < (4 : Int32))).2.2.2 rfl ?_
    refine own_aload (pc' := 92) B X294 at_90 rfl rfl rfl ?_
    refine own_iload (pc' := 94) B X294 at_92 rfl rfl ?_
    refine own_callV (pc' := 97) B X294 (own_w hw 36 rfl) (own_w hw 37 rfl) (own_w hw 39 rfl) (own_w hw 38 rfl) (own_w hw 13 rfl) (own_w hw 40 rfl) E_b286 (by decide) [(.int y279)] [] (rm_18 l Z a0 hw [] b286 b295 k296 (i1) (y253) (y266) (y279) h294 n0 (Nat.le_trans Z0 K.1) E_b286 F_b286_values F_b286_size g_b286 E_b295 V_b295 g_b295 ne_b286_b295) 0 (by decide) (by decide) rfl pd_2 rfl rfl (Nat.le_of_eq rfl) at_94 rfl (k' := 4) (n' := 9) rfl rfl (by decide) (by decide) ?_
    intro T297 v297 h297 X297 q297
    obtain ⟨rfl, K297, E_b286, F_b286_values, F_b286_size, E_b295, V_b295⟩ := q297
    replace K := K.trans K297 (allS (Or.inr sz_b286) (allS (Or.inr sz_b295) all0))
    replace E_b288 := E_b288.keep K297
    replace V_b288 := V_b288.keep K297 (ninS (Ne.symm ne_b286_b288) (ninS ne_b288_b295 nin0))
    replace E_b292 := E_b292.keep K297
    replace V_b292 := V_b292.keep K297 (ninS (Ne.symm ne_b286_b292) (ninS ne_b292_b295 nin0))
    show own_Go p e below (T297.setTop (mkF m 97 #[.val (.int i0), .val (.int i1), .val (.int i2), .val (.int i3), .val (.int i4), .val (.int i5), .val (.int (4 : Int32)), .val (.int i1), .val (.int y253), .val (.int y266), .val (.int y279), .val (.ref b286), .unset] [])) _
    refine own_iload (pc' := 99) B X297 at_97 rfl rfl ?_
    refine own_ifNo (pc' := 102) B X297 at_99 ((if0 _ _).trans (tlt (by decide : (0 : Int32) < (4 : Int32))).2.2.2) rfl ?_
    refine own_iconst (pc' := 103) B X297 (z := (1 : Int32)) at_102 rfl rfl ?_
    refine own_goto (pc' := 107) B X297 at_103 (by decide) rfl ?_
    refine own_iload (pc' := 109) B X297 at_107 rfl rfl ?_
    refine own_iload (pc' := 111) B X297 at_109 rfl rfl ?_
    refine own_callS (pc' := 114) B X297 (own_w hw 26 rfl) (own_w hw 27 rfl) (own_w hw 3 rfl) (own_w hw 28 rfl) (by decide) [(.int (1 : Int32)), (.int i1), (.int i5)] [] (rm_8 l Z a0 hw [] (i1) (i5) h297 n0 (Nat.le_trans Z0 K.1) ) 0 (by decide) (by decide) rfl pd_3 rfl rfl (Nat.le_of_eq rfl) at_111 rfl (k' := 4) (n' := 9) rfl rfl (by decide) (by decide) ?_
    intro T298 v298 h298 X298 q298
    obtain ⟨y299, hy300, rfl, rfl⟩ := q298
    show own_Go p e below (T298.setTop (mkF m 114 #[.val (.int i0), .val (.int i1), .val (.int i2), .val (.int i3), .val (.int i4), .val (.int i5), .val (.int (4 : Int32)), .val (.int i1), .val (.int y253), .val (.int y266), .val (.int y279), .val (.ref b286), .unset] [(.int y299)])) _
    refine own_iload (pc' := 116) B X298 at_114 rfl rfl ?_
    refine own_iconst (pc' := 117) B X298 (z := (1 : Int32)) at_116 rfl rfl ?_
    refine own_icmpNo (pc' := 120) B X298 at_117 (tlt (by decide : (1 : Int32) < (4 : Int32))).2.2.2 rfl ?_
    refine own_iconst (pc' := 121) B X298 (z := (1 : Int32)) at_120 rfl rfl ?_
    refine own_goto (pc' := 125) B X298 at_121 (by decide) rfl ?_
    refine own_iload (pc' := 127) B X298 at_125 rfl rfl ?_
    refine own_iload (pc' := 129) B X298 at_127 rfl rfl ?_
    refine own_callS (pc' := 132) B X298 (own_w hw 26 rfl) (own_w hw 27 rfl) (own_w hw 3 rfl) (own_w hw 28 rfl) (by decide) [(.int (1 : Int32)), (.int y253), (.int i5)] [(.int y299)] (rm_8 l Z a0 hw [] (y253) (i5) h297 n0 (Nat.le_trans Z0 K.1) ) 1 (by decide) (by decide) rfl pd_3 rfl rfl (Nat.le_of_eq rfl) at_129 rfl (k' := 4) (n' := 9) rfl rfl (by decide) (by decide) ?_
    intro T301 v301 h301 X301 q301
    obtain ⟨y302, hy303, rfl, rfl⟩ := q301
    show own_Go p e below (T301.setTop (mkF m 132 #[.val (.int i0), .val (.int i1), .val (.int i2), .val (.int i3), .val (.int i4), .val (.int i5), .val (.int (4 : Int32)), .val (.int i1), .val (.int y253), .val (.int y266), .val (.int y279), .val (.ref b286), .unset] [(.int y302), (.int y299)])) _
    obtain ⟨y304, hy304⟩ : ∃ z : Int32, y299 + y302 = z := ⟨_, rfl⟩
    refine own_iadd (pc' := 133) B X301 at_132 rfl hy304 ?_
    refine own_iload (pc' := 135) B X301 at_133 rfl rfl ?_
    refine own_iconst (pc' := 136) B X301 (z := (2 : Int32)) at_135 rfl rfl ?_
    refine own_icmpNo (pc' := 139) B X301 at_136 (tlt (by decide : (2 : Int32) < (4 : Int32))).2.2.2 rfl ?_
    refine own_iconst (pc' := 140) B X301 (z := (1 : Int32)) at_139 rfl rfl ?_
    refine own_goto (pc' := 144) B X301 at_140 (by decide) rfl ?_
    refine own_iload (pc' := 146) B X301 at_144 rfl rfl ?_
    refine own_iload (pc' := 148) B X301 at_146 rfl rfl ?_
    refine own_callS (pc' := 151) B X301 (own_w hw 26 rfl) (own_w hw 27 rfl) (own_w hw 3 rfl) (own_w hw 28 rfl) (by decide) [(.int (1 : Int32)), (.int y266), (.int i5)] [(.int y304)] (rm_8 l Z a0 hw [] (y266) (i5) h297 n0 (Nat.le_trans Z0 K.1) ) 1 (by decide) (by decide) rfl pd_3 rfl rfl (Nat.le_of_eq rfl) at_148 rfl (k' := 4) (n' := 9) rfl rfl (by decide) (by decide) ?_
    intro T305 v305 h305 X305 q305
    obtain ⟨y306, hy307, rfl, rfl⟩ := q305
    show own_Go p e below (T305.setTop (mkF m 151 #[.val (.int i0), .val (.int i1), .val (.int i2), .val (.int i3), .val (.int i4), .val (.int i5), .val (.int (4 : Int32)), .val (.int i1), .val (.int y253), .val (.int y266), .val (.int y279), .val (.ref b286), .unset] [(.int y306), (.int y304)])) _
    obtain ⟨y308, hy308⟩ : ∃ z : Int32, y304 + y306 = z := ⟨_, rfl⟩
    refine own_iadd (pc' := 152) B X305 at_151 rfl hy308 ?_
    refine own_iload (pc' := 154) B X305 at_152 rfl rfl ?_
    refine own_iconst (pc' := 155) B X305 (z := (3 : Int32)) at_154 rfl rfl ?_
    refine own_icmpNo (pc' := 158) B X305 at_155 (tlt (by decide : (3 : Int32) < (4 : Int32))).2.2.2 rfl ?_
    refine own_iconst (pc' := 159) B X305 (z := (1 : Int32)) at_158 rfl rfl ?_
    refine own_goto (pc' := 163) B X305 at_159 (by decide) rfl ?_
    refine own_iload (pc' := 165) B X305 at_163 rfl rfl ?_
    refine own_iload (pc' := 167) B X305 at_165 rfl rfl ?_
    refine own_callS (pc' := 170) B X305 (own_w hw 26 rfl) (own_w hw 27 rfl) (own_w hw 3 rfl) (own_w hw 28 rfl) (by decide) [(.int (1 : Int32)), (.int y279), (.int i5)] [(.int y308)] (rm_8 l Z a0 hw [] (y279) (i5) h297 n0 (Nat.le_trans Z0 K.1) ) 1 (by decide) (by decide) rfl pd_3 rfl rfl (Nat.le_of_eq rfl) at_167 rfl (k' := 4) (n' := 9) rfl rfl (by decide) (by decide) ?_
    intro T309 v309 h309 X309 q309
    obtain ⟨y310, hy311, rfl, rfl⟩ := q309
    show own_Go p e below (T309.setTop (mkF m 170 #[.val (.int i0), .val (.int i1), .val (.int i2), .val (.int i3), .val (.int i4), .val (.int i5), .val (.int (4 : Int32)), .val (.int i1), .val (.int y253), .val (.int y266), .val (.int y279), .val (.ref b286), .unset] [(.int y310), (.int y308)])) _
    obtain ⟨y312, hy312⟩ : ∃ z : Int32, y308 + y310 = z := ⟨_, rfl⟩
    refine own_iadd (pc' := 171) B X309 at_170 rfl hy312 ?_
    refine own_istore (pc' := 173) B X309 (Ls' := #[.val (.int i0), .val (.int i1), .val (.int i2), .val (.int i3), .val (.int i4), .val (.int i5), .val (.int (4 : Int32)), .val (.int i1), .val (.int y253), .val (.int y266), .val (.int y279), .val (.ref b286), .val (.int y312)]) at_171 rfl rfl ?_
    refine own_aload (pc' := 175) B X309 at_173 rfl rfl rfl ?_
    refine own_iload (pc' := 177) B X309 at_175 rfl rfl ?_
    refine own_callV (pc' := 180) B X309 (own_w hw 29 rfl) (own_w hw 30 rfl) (own_w hw 32 rfl) (own_w hw 31 rfl) (own_w hw 13 rfl) (own_w hw 33 rfl) E_b286 (by decide) [(.int i5)] [] (rm_19 l Z a0 hw [] b286 b295 k296 (i1) (y253) (y266) (y279) (i5) h297 n0 (Nat.le_trans Z0 K.1) E_b286 F_b286_values F_b286_size g_b286 E_b295 V_b295 g_b295 ne_b286_b295) 0 (by decide) (by decide) rfl pd_4 rfl rfl (Nat.le_of_eq rfl) at_177 rfl (k' := 4) (n' := 9) rfl rfl (by decide) (by decide) ?_
    intro T313 v313 h313 X313 q313
    rcases q313 with ⟨c314, c315, rfl, rfl⟩ | ⟨c316, c317, rfl, rfl⟩ | ⟨c318, c319, rfl, rfl⟩ | ⟨c320, c321, c322, rfl, rfl⟩ | ⟨c323, c324, c325, rfl, rfl⟩
    · show own_Go p e below (T313.setTop (mkF m 180 #[.val (.int i0), .val (.int i1), .val (.int i2), .val (.int i3), .val (.int i4), .val (.int i5), .val (.int (4 : Int32)), .val (.int i1), .val (.int y253), .val (.int y266), .val (.int y279), .val (.ref b286), .val (.int y312)] [(.int (4 : Int32))])) _
      refine own_iload (pc' := 182) B X313 at_180 rfl rfl ?_
      have c326 : (4 : Int32) = y312 := by
        have o0 := own_o_i2l hy254
        have o1 := own_o_i2l hy255
        have o2 := own_o_maskL hy256 32 (by decide) (by decide)
        have o3 := own_o_ladd hy257
        have o4 := o_own_F_minJ hy258
        have o5 := own_o_l2i hy259
        have o6 := own_o_i2l hy267
        have o7 := own_o_i2l hy268
        have o8 := own_o_maskL hy269 32 (by decide) (by decide)
        have o9 := own_o_ladd hy270
        have o10 := o_own_F_minJ hy271
        have o11 := own_o_l2i hy272
        have o12 := own_o_i2l hy280
        have o13 := own_o_i2l hy281
        have o14 := own_o_maskL hy282 32 (by decide) (by decide)
        have o15 := own_o_ladd hy283
        have o16 := o_own_F_minJ hy284
        have o17 := own_o_l2i hy285
        have o18 := o_own_F_below hy300
        have o19 := o_own_F_below hy303
        have o20 := own_o_iadd hy304
        have o21 := o_own_F_below hy307
        have o22 := own_o_iadd hy308
        have o23 := o_own_F_below hy311
        have o24 := own_o_iadd hy312
        have o25 := own_lt c314
        have o26 := own_lt c315
        have o27 := rng32 i1
        have o28 := rng32 i2
        have o29 := rng32 i3
        have o30 := rng32 i4
        have o31 := rng32 i5
        have o32 := rng32 y253
        have o33 := rng32 y266
        have o34 := rng32 y279
        have o35 := rng32 y299
        have o36 := rng32 y302
        have o37 := rng32 y304
        have o38 := rng32 y306
        have o39 := rng32 y308
        have o40 := rng32 y310
        have o41 := rng32 y312
        have o42 := rng64 y248
        have o43 := rng64 y249
        have o44 := rng64 y250
        have o45 := rng64 y251
        have o46 := rng64 y252
        have o47 := rng64 y261
        have o48 := rng64 y262
        have o49 := rng64 y263
        have o50 := rng64 y264
        have o51 := rng64 y265
        have o52 := rng64 y274
        have o53 := rng64 y275
        have o54 := rng64 y276
        have o55 := rng64 y277
        have o56 := rng64 y278
        have o57 : (4294967295 : Int64).toInt = 4294967295 := by decide
        have o58 : (2147483647 : Int64).toInt = 2147483647 := by decide
        have o59 : (1 : Int32).toInt = 1 := by decide
        have o60 : (0 : Int32).toInt = 0 := by decide
        have o61 : (4 : Int32).toInt = 4 := by decide
        refine own_eqI ?_
        omega
      refine own_icmpNo (pc' := 185) B X313 at_182 (teq c326).2 rfl ?_
      refine own_iconst (pc' := 186) B X313 (z := (1 : Int32)) at_185 rfl rfl ?_
      refine own_goto (pc' := 190) B X313 at_186 (by decide) rfl ?_
      exact own_retN B X313 (t := .boolean) (z' := (1 : Int32)) (by simp) (by decide) at_190 (by decide) (by decide) rfl
    · show own_Go p e below (T313.setTop (mkF m 180 #[.val (.int i0), .val (.int i1), .val (.int i2), .val (.int i3), .val (.int i4), .val (.int i5), .val (.int (4 : Int32)), .val (.int i1), .val (.int y253), .val (.int y266), .val (.int y279), .val (.ref b286), .val (.int y312)] [(.int (3 : Int32))])) _
      refine own_iload (pc' := 182) B X313 at_180 rfl rfl ?_
      have c327 : (3 : Int32) = y312 := by
        have o0 := own_o_i2l hy254
        have o1 := own_o_i2l hy255
        have o2 := own_o_maskL hy256 32 (by decide) (by decide)
        have o3 := own_o_ladd hy257
        have o4 := o_own_F_minJ hy258
        have o5 := own_o_l2i hy259
        have o6 := own_o_i2l hy267
        have o7 := own_o_i2l hy268
        have o8 := own_o_maskL hy269 32 (by decide) (by decide)
        have o9 := own_o_ladd hy270
        have o10 := o_own_F_minJ hy271
        have o11 := own_o_l2i hy272
        have o12 := own_o_i2l hy280
        have o13 := own_o_i2l hy281
        have o14 := own_o_maskL hy282 32 (by decide) (by decide)
        have o15 := own_o_ladd hy283
        have o16 := o_own_F_minJ hy284
        have o17 := own_o_l2i hy285
        have o18 := o_own_F_below hy300
        have o19 := o_own_F_below hy303
        have o20 := own_o_iadd hy304
        have o21 := o_own_F_below hy307
        have o22 := own_o_iadd hy308
        have o23 := o_own_F_below hy311
        have o24 := own_o_iadd hy312
        have o25 := own_lt c316
        have o26 := own_nlt c317
        have o27 := rng32 i1
        have o28 := rng32 i2
        have o29 := rng32 i3
        have o30 := rng32 i4
        have o31 := rng32 i5
        have o32 := rng32 y253
        have o33 := rng32 y266
        have o34 := rng32 y279
        have o35 := rng32 y299
        have o36 := rng32 y302
        have o37 := rng32 y304
        have o38 := rng32 y306
        have o39 := rng32 y308
        have o40 := rng32 y310
        have o41 := rng32 y312
        have o42 := rng64 y248
        have o43 := rng64 y249
        have o44 := rng64 y250
        have o45 := rng64 y251
        have o46 := rng64 y252
        have o47 := rng64 y261
        have o48 := rng64 y262
        have o49 := rng64 y263
        have o50 := rng64 y264
        have o51 := rng64 y265
        have o52 := rng64 y274
        have o53 := rng64 y275
        have o54 := rng64 y276
        have o55 := rng64 y277
        have o56 := rng64 y278
        have o57 : (4294967295 : Int64).toInt = 4294967295 := by decide
        have o58 : (2147483647 : Int64).toInt = 2147483647 := by decide
        have o59 : (1 : Int32).toInt = 1 := by decide
        have o60 : (0 : Int32).toInt = 0 := by decide
        have o61 : (3 : Int32).toInt = 3 := by decide
        refine own_eqI ?_
        omega
      refine own_icmpNo (pc' := 185) B X313 at_182 (teq c327).2 rfl ?_
      refine own_iconst (pc' := 186) B X313 (z := (1 : Int32)) at_185 rfl rfl ?_
      refine own_goto (pc' := 190) B X313 at_186 (by decide) rfl ?_
      exact own_retN B X313 (t := .boolean) (z' := (1 : Int32)) (by simp) (by decide) at_190 (by decide) (by decide) rfl
    · show own_Go p e below (T313.setTop (mkF m 180 #[.val (.int i0), .val (.int i1), .val (.int i2), .val (.int i3), .val (.int i4), .val (.int i5), .val (.int (4 : Int32)), .val (.int i1), .val (.int y253), .val (.int y266), .val (.int y279), .val (.ref b286), .val (.int y312)] [(.int (2 : Int32))])) _
      refine own_iload (pc' := 182) B X313 at_180 rfl rfl ?_
      have c328 : (2 : Int32) = y312 := by
        have o0 := own_o_i2l hy254
        have o1 := own_o_i2l hy255
        have o2 := own_o_maskL hy256 32 (by decide) (by decide)
        have o3 := own_o_ladd hy257
        have o4 := o_own_F_minJ hy258
        have o5 := own_o_l2i hy259
        have o6 := own_o_i2l hy267
        have o7 := own_o_i2l hy268
        have o8 := own_o_maskL hy269 32 (by decide) (by decide)
        have o9 := own_o_ladd hy270
        have o10 := o_own_F_minJ hy271
        have o11 := own_o_l2i hy272
        have o12 := own_o_i2l hy280
        have o13 := own_o_i2l hy281
        have o14 := own_o_maskL hy282 32 (by decide) (by decide)
        have o15 := own_o_ladd hy283
        have o16 := o_own_F_minJ hy284
        have o17 := own_o_l2i hy285
        have o18 := o_own_F_below hy300
        have o19 := o_own_F_below hy303
        have o20 := own_o_iadd hy304
        have o21 := o_own_F_below hy307
        have o22 := own_o_iadd hy308
        have o23 := o_own_F_below hy311
        have o24 := own_o_iadd hy312
        have o25 := own_nlt c318
        have o26 := own_lt c319
        have o27 := rng32 i1
        have o28 := rng32 i2
        have o29 := rng32 i3
        have o30 := rng32 i4
        have o31 := rng32 i5
        have o32 := rng32 y253
        have o33 := rng32 y266
        have o34 := rng32 y279
        have o35 := rng32 y299
        have o36 := rng32 y302
        have o37 := rng32 y304
        have o38 := rng32 y306
        have o39 := rng32 y308
        have o40 := rng32 y310
        have o41 := rng32 y312
        have o42 := rng64 y248
        have o43 := rng64 y249
        have o44 := rng64 y250
        have o45 := rng64 y251
        have o46 := rng64 y252
        have o47 := rng64 y261
        have o48 := rng64 y262
        have o49 := rng64 y263
        have o50 := rng64 y264
        have o51 := rng64 y265
        have o52 := rng64 y274
        have o53 := rng64 y275
        have o54 := rng64 y276
        have o55 := rng64 y277
        have o56 := rng64 y278
        have o57 : (4294967295 : Int64).toInt = 4294967295 := by decide
        have o58 : (2147483647 : Int64).toInt = 2147483647 := by decide
        have o59 : (1 : Int32).toInt = 1 := by decide
        have o60 : (0 : Int32).toInt = 0 := by decide
        have o61 : (2 : Int32).toInt = 2 := by decide
        refine own_eqI ?_
        omega
      refine own_icmpNo (pc' := 185) B X313 at_182 (teq c328).2 rfl ?_
      refine own_iconst (pc' := 186) B X313 (z := (1 : Int32)) at_185 rfl rfl ?_
      refine own_goto (pc' := 190) B X313 at_186 (by decide) rfl ?_
      exact own_retN B X313 (t := .boolean) (z' := (1 : Int32)) (by simp) (by decide) at_190 (by decide) (by decide) rfl
    · show own_Go p e below (T313.setTop (mkF m 180 #[.val (.int i0), .val (.int i1), .val (.int i2), .val (.int i3), .val (.int i4), .val (.int i5), .val (.int (4 : Int32)), .val (.int i1), .val (.int y253), .val (.int y266), .val (.int y279), .val (.ref b286), .val (.int y312)] [(.int (1 : Int32))])) _
      refine own_iload (pc' := 182) B X313 at_180 rfl rfl ?_
      have c329 : (1 : Int32) = y312 := by
        have o0 := own_o_i2l hy254
        have o1 := own_o_i2l hy255
        have o2 := own_o_maskL hy256 32 (by decide) (by decide)
        have o3 := own_o_ladd hy257
        have o4 := o_own_F_minJ hy258
        have o5 := own_o_l2i hy259
        have o6 := own_o_i2l hy267
        have o7 := own_o_i2l hy268
        have o8 := own_o_maskL hy269 32 (by decide) (by decide)
        have o9 := own_o_ladd hy270
        have o10 := o_own_F_minJ hy271
        have o11 := own_o_l2i hy272
        have o12 := own_o_i2l hy280
        have o13 := own_o_i2l hy281
        have o14 := own_o_maskL hy282 32 (by decide) (by decide)
        have o15 := own_o_ladd hy283
        have o16 := o_own_F_minJ hy284
        have o17 := own_o_l2i hy285
        have o18 := o_own_F_below hy300
        have o19 := o_own_F_below hy303
        have o20 := own_o_iadd hy304
        have o21 := o_own_F_below hy307
        have o22 := own_o_iadd hy308
        have o23 := o_own_F_below hy311
        have o24 := own_o_iadd hy312
        have o25 := own_nlt c320
        have o26 := own_nlt c321
        have o27 := own_lt c322
        have o28 := rng32 i1
        have o29 := rng32 i2
        have o30 := rng32 i3
        have o31 := rng32 i4
        have o32 := rng32 i5
        have o33 := rng32 y253
        have o34 := rng32 y266
        have o35 := rng32 y279
        have o36 := rng32 y299
        have o37 := rng32 y302
        have o38 := rng32 y304
        have o39 := rng32 y306
        have o40 := rng32 y308
        have o41 := rng32 y310
        have o42 := rng32 y312
        have o43 := rng64 y248
        have o44 := rng64 y249
        have o45 := rng64 y250
        have o46 := rng64 y251
        have o47 := rng64 y252
        have o48 := rng64 y261
        have o49 := rng64 y262
        have o50 := rng64 y263
        have o51 := rng64 y264
        have o52 := rng64 y265
        have o53 := rng64 y274
        have o54 := rng64 y275
        have o55 := rng64 y276
        have o56 := rng64 y277
        have o57 := rng64 y278
        have o58 : (4294967295 : Int64).toInt = 4294967295 := by decide
        have o59 : (2147483647 : Int64).toInt = 2147483647 := by decide
        have o60 : (1 : Int32).toInt = 1 := by decide
        have o61 : (0 : Int32).toInt = 0 := by decide
        refine own_eqI ?_
        omega
      refine own_icmpNo (pc' := 185) B X313 at_182 (teq c329).2 rfl ?_
      refine own_iconst (pc' := 186) B X313 (z := (1 : Int32)) at_185 rfl rfl ?_
      refine own_goto (pc' := 190) B X313 at_186 (by decide) rfl ?_
      exact own_retN B X313 (t := .boolean) (z' := (1 : Int32)) (by simp) (by decide) at_190 (by decide) (by decide) rfl
    · show own_Go p e below (T313.setTop (mkF m 180 #[.val (.int i0), .val (.int i1), .val (.int i2), .val (.int i3), .val (.int i4), .val (.int i5), .val (.int (4 : Int32)), .val (.int i1), .val (.int y253), .val (.int y266), .val (.int y279), .val (.ref b286), .val (.int y312)] [(.int (0 : Int32))])) _
      refine own_iload (pc' := 182) B X313 at_180 rfl rfl ?_
      have c330 : (0 : Int32) = y312 := by
        have o0 := own_o_i2l hy254
        have o1 := own_o_i2l hy255
        have o2 := own_o_maskL hy256 32 (by decide) (by decide)
        have o3 := own_o_ladd hy257
        have o4 := o_own_F_minJ hy258
        have o5 := own_o_l2i hy259
        have o6 := own_o_i2l hy267
        have o7 := own_o_i2l hy268
        have o8 := own_o_maskL hy269 32 (by decide) (by decide)
        have o9 := own_o_ladd hy270
        have o10 := o_own_F_minJ hy271
        have o11 := own_o_l2i hy272
        have o12 := own_o_i2l hy280
        have o13 := own_o_i2l hy281
        have o14 := own_o_maskL hy282 32 (by decide) (by decide)
        have o15 := own_o_ladd hy283
        have o16 := o_own_F_minJ hy284
        have o17 := own_o_l2i hy285
        have o18 := o_own_F_below hy300
        have o19 := o_own_F_below hy303
        have o20 := own_o_iadd hy304
        have o21 := o_own_F_below hy307
        have o22 := own_o_iadd hy308
        have o23 := o_own_F_below hy311
        have o24 := own_o_iadd hy312
        have o25 := own_nlt c323
        have o26 := own_nlt c324
        have o27 := own_nlt c325
        have o28 := rng32 i1
        have o29 := rng32 i2
        have o30 := rng32 i3
        have o31 := rng32 i4
        have o32 := rng32 i5
        have o33 := rng32 y253
        have o34 := rng32 y266
        have o35 := rng32 y279
        have o36 := rng32 y299
        have o37 := rng32 y302
        have o38 := rng32 y304
        have o39 := rng32 y306
        have o40 := rng32 y308
        have o41 := rng32 y310
        have o42 := rng32 y312
        have o43 := rng64 y248
        have o44 := rng64 y249
        have o45 := rng64 y250
        have o46 := rng64 y251
        have o47 := rng64 y252
        have o48 := rng64 y261
        have o49 := rng64 y262
        have o50 := rng64 y263
        have o51 := rng64 y264
        have o52 := rng64 y265
        have o53 := rng64 y274
        have o54 := rng64 y275
        have o55 := rng64 y276
        have o56 := rng64 y277
        have o57 := rng64 y278
        have o58 : (4294967295 : Int64).toInt = 4294967295 := by decide
        have o59 : (2147483647 : Int64).toInt = 2147483647 := by decide
        have o60 : (1 : Int32).toInt = 1 := by decide
        have o61 : (0 : Int32).toInt = 0 := by decide
        refine own_eqI ?_
        omega
      refine own_icmpNo (pc' := 185) B X313 at_182 (teq c330).2 rfl ?_
      refine own_iconst (pc' := 186) B X313 (z := (1 : Int32)) at_185 rfl rfl ?_
      refine own_goto (pc' := 190) B X313 at_186 (by decide) rfl ?_
      exact own_retN B X313 (t := .boolean) (z' := (1 : Int32)) (by simp) (by decide) at_190 (by decide) (by decide) rfl
set_option maxRecDepth 65536 in
set_option maxHeartbeats 40000000 in
theorem comes_1 {Post : Tables → Env → Array Value → State → Outcome → State → Prop} (hpost : ∀ tb e args s v u, (limb_1_1.after args s (.returned v) u = true ∧ limb_1_2.after args s (.returned v) u = true ∧ True) → FrameEnd s (.returned v) u (Jvm.fieldLocs frame_1_writes args s ++ Jvm.arrayLocs frame_1_arrays args s ++ Jvm.staticLocs frame_1_statics s) 16 128 → Post tb e args s (.returned v) u) :
    ArmFor flags0 classFile x code maxLocals ret World_1 tables_1 room_1 Calls_1 rest_1 Pre_1 Post := by
  intro l hfl _ _ p e ha hc hk s m args below hf hA hF happ hP
  obtain ⟨hcalls, hrest, hpre⟩ := hP
  obtain ⟨-, -, -, hnamed, -, -, -, hat⟩ := (Spec.applies_iff hf).mp happ
  obtain ⟨hg, hn⟩ := and_e (Cond.before_iff.mp (show (Jvm.Cond.and given_1 narrow_1).before args s = true from hpre))
  obtain ⟨g1, g2⟩ := and_e hg
  obtain ⟨g3, g4⟩ := and_e g2
  obtain ⟨g5, g6⟩ := and_e g4
  obtain ⟨g7, g8⟩ := and_e g6
  obtain ⟨g9, g10⟩ := and_e g8
  obtain ⟨g11, g12⟩ := and_e g10
  obtain ⟨w0, w1, w2, w3, w4, w5, rfl⟩ : ∃ w0 w1 w2 w3 w4 w5 : Value, args = #[w0, w1, w2, w3, w4, w5] := by
    have hs : args.size = 6 := by simpa [Cond.value, given_1] using g1
    obtain ⟨L⟩ := args
    match L, hs with
    | [w0, w1, w2, w3, w4, w5], _ => exact ⟨w0, w1, w2, w3, w4, w5, rfl⟩
  have hw := fun d (hd : d ∈ tables_1) => atoms_spec (ws := Jvm.Cond.code x code maxLocals ret :: tables_1) hat d (List.mem_cons_of_mem _ hd)
  obtain ⟨i0, ei0⟩ := is_v g3
  obtain rfl : w0 = (.int i0) := Option.some.inj ei0
  obtain ⟨i1, ei1⟩ := is_v g5
  obtain rfl : w1 = (.int i1) := Option.some.inj ei1
  obtain ⟨i2, ei2⟩ := is_v g7
  obtain rfl : w2 = (.int i2) := Option.some.inj ei2
  obtain ⟨i3, ei3⟩ := is_v g9
  obtain rfl : w3 = (.int i3) := Option.some.inj ei3
  obtain ⟨i4, ei4⟩ := is_v g11
  obtain rfl : w4 = (.int i4) := Option.some.inj ei4
  obtain ⟨i5, ei5⟩ := is_v g12
  obtain rfl : w5 = (.int i5) := Option.some.inj ei5
  obtain ⟨n, o, h1, h2, h3, _, L, rfl, ⟨N, rfl⟩, hq⟩ := rm_0 l s _ hw tables_1 i0 i1 i2 i3 i4 i5 s.heap s.heap.size (Nat.le_refl _)  p e ha hc hk s m _ below hf ((Spec.applies_iff_loose hf).mp happ).1 ⟨rfl, State.Warmed39.refl s, rfl⟩ trivial
  refine ⟨n, _, h1, h2, h3, hpost _ _ _ _ _ _ ⟨Cond.after_iff.mpr rfl, Cond.after_iff.mpr (eq_i res_at (Term.int_eval (1)) rfl), trivial⟩ ⟨hq.1, hq.2.1, (hq.2.2.sift fun y hy => Or.inr (N y hy)).mono (by decide) (by decide)⟩⟩
theorem main_1_1 : Claimed_1_1 := comes_1 fun _ _ _ _ _ _ h hF => ⟨h.1, hF⟩
theorem main_1_2 : Claimed_1_2 := comes_1 fun _ _ _ _ _ _ h hF => ⟨h.2.1, hF⟩
end Jvm.Pilot.@@N@@
namespace Jvm.Pilot.@@N@@
open Jvm Jvm.ClassFile Sem Op Lib Jvm.Free Jvm.Stand Jvm.Pilot.@@N@@.Jvm.D
/-! MADE BY PROGRAM (witnessworld.py) out of the Statement's table words and the real class files: 12 classes; the members and pool entries that the words name. The judged class is class 1, her method 1. -/
namespace start1
open Jvm.ClassFile
def u (s : String) : CpInfo := .utf8 (stringToUtf16 s)
/-- a pool by its gaps: so many unusable entries, then the entry; so many at the end -/
def gap : Nat → List CpInfo → List CpInfo
  | 0, r => r
  | n + 1, r => .unusable :: gap n r
def poolList (es : List (Nat × CpInfo)) (last : Nat) : List CpInfo := es.foldr (fun e r => gap e.1 (e.2 :: r)) (gap last [])
def pool (es : List (Nat × CpInfo)) (last : Nat) : Array CpInfo := ⟨poolList es last⟩
def fileOf (pool : Array CpInfo) (this : Nat) (attrs : Array Attribute := #[]) (ms : Array MethodInfo := #[]) (fl : Nat := 33) (sup : Nat := 0) (ifs : Array Nat := #[]) (fds : Array FieldInfo := #[]) : ClassFile where
  minorVersion := 0
  majorVersion := 65
  constantPool := pool
  accessFlags := fl
  thisClass := this
  superClass := sup
  interfaces := ifs
  fields := fds
  methods := ms
  attributes := attrs
def plain (name : String) (sup : Option ClassId) : Class where
  name := name
  kind := .ordinary
  loader := none
  accessFlags := 33
  super := sup
  interfaces := #[]
  cf := none
  fields := #[]
  methods := #[]
  instanceTypes := #[]
  staticTypes := #[]
  resolved := #[]
  callSites := []
  init := .initialized
  statics := none
  mirror := none

def pool0 : Array CpInfo := pool [(5, u "<init>"), (0, u "()V"), (1, .class_ 10), (1, u "java/lang/Object")] 113

def k0c0 : Code := { maxStack := 0, maxLocals := 1, code := object_method_1_code, exceptionTable := #[], attributes := #[] }
def k0m0 : Method := { name := "<init>", desc := "()V", sig := { parameters := [], returnType := none }, accessFlags := 1, code := some k0c0 }
/-- java/lang/Object -/
def k0 : Class := { plain "java/lang/Object" none with
  accessFlags := 33
  interfaces := #[]
  cf := some (fileOf pool0 8 #[] #[{ accessFlags := 1, nameIndex := 5, descriptorIndex := 6, attributes := #[] }] 33 0 #[] #[])
  fields := #[]
  methods := #[k0m0]
  instanceTypes := #[]
  staticTypes := #[]
  resolved := Array.replicate 124 none
  statics := none }

def pool1 : Array CpInfo := pool [(2, .class_ 4), (1, u "java/lang/Object"), (0, u "<init>"), (0, u "()V"), (0, .integer 2147483647), (0, .methodref 9 10), (0, .class_ 11), (0, .nameAndType 12 13), (0, u "com/example/bagwise/bagwise/IntListFirstAtLeastPinLaw"), (0, u "next"), (0, u "(II)I"), (0, .class_ 15), (0, u "com/example/bagwise/bagwise/IntList"), (0, .methodref 14 17), (0, .nameAndType 5 18), (0, u "(I)V"), (0, .methodref 14 20), (0, .nameAndType 21 18), (0, u "add"), (0, .methodref 9 23), (0, .nameAndType 24 25), (0, u "below"), (0, u "(ZII)I"), (0, .methodref 14 27), (0, .nameAndType 28 29), (0, u "firstAtLeast"), (0, u "(I)I"), (0, .long 4294967295), (3, .long 2147483647), (1, .methodref 37 38), (0, .class_ 39), (0, .nameAndType 40 41), (0, u "java/lang/Math"), (0, u "min"), (0, u "(JJ)J"), (2, u "law"), (0, u "(IIIIII)Z")] 3

def k1m0 : Method := { name := "<init>", desc := "()V", sig := { parameters := [], returnType := none }, accessFlags := 1, code := none }
def k1c1 : Code := { maxStack := 4, maxLocals := 13, code := code, exceptionTable := #[], attributes := #[] }
def k1m1 : Method := { name := "law", desc := "(IIIIII)Z", sig := { parameters := [.int, .int, .int, .int, .int, .int], returnType := some .boolean }, accessFlags := 9, code := some k1c1 }
def k1c2 : Code := { maxStack := 6, maxLocals := 4, code := method_3_code, exceptionTable := #[], attributes := #[] }
def k1m2 : Method := { name := "next", desc := "(II)I", sig := { parameters := [.int, .int], returnType := some .int }, accessFlags := 10, code := some k1c2 }
def k1c3 : Code := { maxStack := 2, maxLocals := 3, code := method_4_code, exceptionTable := #[], attributes := #[] }
def k1m3 : Method := { name := "below", desc := "(ZII)I", sig := { parameters := [.boolean, .int, .int], returnType := some .int }, accessFlags := 10, code := some k1c3 }
/-- com/example/bagwise/bagwise/IntListFirstAtLeastPinLaw -/
def k1 : Class := { plain "com/example/bagwise/bagwise/IntListFirstAtLeastPinLaw" (some 0) with
  accessFlags := 49
  interfaces := #[]
  cf := some (fileOf pool1 9 #[] #[{ accessFlags := 1, nameIndex := 5, descriptorIndex := 6, attributes := #[] }, { accessFlags := 9, nameIndex := 44, descriptorIndex := 45, attributes := #[] }, { accessFlags := 10, nameIndex := 12, descriptorIndex := 13, attributes := #[] }, { accessFlags := 10, nameIndex := 24, descriptorIndex := 25, attributes := #[] }] 49 2 #[] #[])
  fields := #[]
  methods := #[k1m0, k1m1, k1m2, k1m3]
  instanceTypes := #[]
  staticTypes := #[]
  resolved := Array.replicate 49 none
  statics := none }

def pool2 : Array CpInfo := pool [(1, .class_ 2), (0, u "java/lang/Math"), (1, .class_ 6), (1, u "java/lang/Object"), (0, u "<init>"), (0, u "()V"), (89, .class_ 100), (1, u "java/lang/Math$RandomNumberGeneratorHolder"), (20, u "(JJ)J"), (50, u "negativeZeroFloatBits"), (0, u "J"), (2, u "negativeZeroDoubleBits"), (21, u "max"), (2, u "min"), (43, u "$assertionsDisabled"), (0, u "Z"), (88, u "(II)I"), (2, u "twoToTheDoubleScaleDown"), (0, u "D"), (4, u "twoToTheDoubleScaleUp"), (9, u "E"), (3, u "PI"), (2, u "TAU"), (2, u "DEGREES_TO_RADIANS"), (0, u "RADIANS_TO_DEGREES")] 94

def k2m0 : Method := { name := "<init>", desc := "()V", sig := { parameters := [], returnType := none }, accessFlags := 2, code := none }
def k2c1 : Code := { maxStack := 2, maxLocals := 2, code := jdk_29_method_65_code, exceptionTable := #[], attributes := #[] }
def k2m1 : Method := { name := "max", desc := "(II)I", sig := { parameters := [.int, .int], returnType := some .int }, accessFlags := 9, code := some k2c1 }
def k2c2 : Code := { maxStack := 2, maxLocals := 2, code := jdk_29_method_69_code, exceptionTable := #[], attributes := #[] }
def k2m2 : Method := { name := "min", desc := "(II)I", sig := { parameters := [.int, .int], returnType := some .int }, accessFlags := 9, code := some k2c2 }
def k2c3 : Code := { maxStack := 4, maxLocals := 4, code := jdk_29_method_70_code, exceptionTable := #[], attributes := #[] }
def k2m3 : Method := { name := "min", desc := "(JJ)J", sig := { parameters := [.long, .long], returnType := some .long }, accessFlags := 9, code := some k2c3 }
/-- java/lang/Math -/
def k2 : Class := { plain "java/lang/Math" (some 0) with
  accessFlags := 49
  interfaces := #[]
  cf := some (fileOf pool2 1 #[.nestMembers #[98]] #[{ accessFlags := 2, nameIndex := 7, descriptorIndex := 8, attributes := #[] }, { accessFlags := 9, nameIndex := 198, descriptorIndex := 335, attributes := #[] }, { accessFlags := 9, nameIndex := 201, descriptorIndex := 335, attributes := #[] }, { accessFlags := 9, nameIndex := 201, descriptorIndex := 121, attributes := #[] }] 49 4 #[] #[{ accessFlags := 25, nameIndex := 354, descriptorIndex := 339, attributes := #[] }, { accessFlags := 25, nameIndex := 358, descriptorIndex := 339, attributes := #[] }, { accessFlags := 25, nameIndex := 361, descriptorIndex := 339, attributes := #[] }, { accessFlags := 26, nameIndex := 364, descriptorIndex := 339, attributes := #[] }, { accessFlags := 26, nameIndex := 365, descriptorIndex := 339, attributes := #[] }, { accessFlags := 26, nameIndex := 172, descriptorIndex := 173, attributes := #[] }, { accessFlags := 26, nameIndex := 176, descriptorIndex := 173, attributes := #[] }, { accessFlags := 8, nameIndex := 344, descriptorIndex := 339, attributes := #[] }, { accessFlags := 8, nameIndex := 338, descriptorIndex := 339, attributes := #[] }, { accessFlags := 4120, nameIndex := 245, descriptorIndex := 246, attributes := #[] }])
  fields := #[{ name := "E", type := .double, accessFlags := 25, slot := 0, constantValue := 0 }, { name := "PI", type := .double, accessFlags := 25, slot := 1, constantValue := 0 }, { name := "TAU", type := .double, accessFlags := 25, slot := 2, constantValue := 0 }, { name := "DEGREES_TO_RADIANS", type := .double, accessFlags := 26, slot := 3, constantValue := 0 }, { name := "RADIANS_TO_DEGREES", type := .double, accessFlags := 26, slot := 4, constantValue := 0 }, { name := "negativeZeroFloatBits", type := .long, accessFlags := 26, slot := 5, constantValue := 0 }, { name := "negativeZeroDoubleBits", type := .long, accessFlags := 26, slot := 6, constantValue := 0 }, { name := "twoToTheDoubleScaleUp", type := .double, accessFlags := 8, slot := 7, constantValue := 0 }, { name := "twoToTheDoubleScaleDown", type := .double, accessFlags := 8, slot := 8, constantValue := 0 }, { name := "$assertionsDisabled", type := .boolean, accessFlags := 4120, slot := 9, constantValue := 0 }]
  methods := #[k2m0, k2m1, k2m2, k2m3]
  instanceTypes := #[]
  staticTypes := #[.double, .double, .double, .double, .double, .long, .long, .double, .double, .boolean]
  resolved := Array.replicate 460 none
  statics := none }

def pool3 : Array CpInfo := pool [(2, .class_ 4), (1, u "com/example/bagwise/bagwise/IntList"), (0, u "<init>"), (0, u "(I)V"), (0, .methodref 8 9), (0, .class_ 10), (0, .nameAndType 5 11), (0, u "java/lang/Object"), (0, u "()V"), (0, .methodref 13 14), (0, .class_ 15), (0, .nameAndType 16 17), (0, u "java/lang/Math"), (0, u "max"), (0, u "(II)I"), (0, .fieldref 2 19), (0, .nameAndType 20 21), (0, u "values"), (0, u "[I"), (0, .fieldref 2 23), (0, .nameAndType 24 25), (0, u "size"), (0, u "I"), (0, .methodref 27 28), (0, .class_ 29), (0, .nameAndType 30 31), (0, u "java/util/Arrays"), (0, u "copyOf"), (0, u "([II)[I"), (2, u "add"), (4, u "(I)I"), (0, u "firstAtLeast")] 4

def k3m0 : Method := { name := "<init>", desc := "()V", sig := { parameters := [], returnType := none }, accessFlags := 0, code := none }
def k3c1 : Code := { maxStack := 3, maxLocals := 2, code := prog_20_method_2_code, exceptionTable := #[], attributes := #[] }
def k3m1 : Method := { name := "<init>", desc := "(I)V", sig := { parameters := [.int], returnType := none }, accessFlags := 0, code := some k3c1 }
def k3c2 : Code := { maxStack := 5, maxLocals := 2, code := prog_20_method_3_code, exceptionTable := #[], attributes := #[] }
def k3m2 : Method := { name := "add", desc := "(I)V", sig := { parameters := [.int], returnType := none }, accessFlags := 0, code := some k3c2 }
def k3c3 : Code := { maxStack := 2, maxLocals := 5, code := prog_20_method_7_code, exceptionTable := #[], attributes := #[] }
def k3m3 : Method := { name := "firstAtLeast", desc := "(I)I", sig := { parameters := [.int], returnType := some .int }, accessFlags := 0, code := some k3c3 }
/-- com/example/bagwise/bagwise/IntList -/
def k3 : Class := { plain "com/example/bagwise/bagwise/IntList" (some 0) with
  accessFlags := 48
  interfaces := #[]
  cf := some (fileOf pool3 2 #[] #[{ accessFlags := 0, nameIndex := 5, descriptorIndex := 11, attributes := #[] }, { accessFlags := 0, nameIndex := 5, descriptorIndex := 6, attributes := #[] }, { accessFlags := 0, nameIndex := 34, descriptorIndex := 6, attributes := #[] }, { accessFlags := 0, nameIndex := 40, descriptorIndex := 39, attributes := #[] }] 48 8 #[] #[{ accessFlags := 2, nameIndex := 20, descriptorIndex := 21, attributes := #[] }, { accessFlags := 2, nameIndex := 24, descriptorIndex := 25, attributes := #[] }])
  fields := #[{ name := "values", type := (.array .int), accessFlags := 2, slot := 0, constantValue := 0 }, { name := "size", type := .int, accessFlags := 2, slot := 1, constantValue := 0 }]
  methods := #[k3m0, k3m1, k3m2, k3m3]
  instanceTypes := #[(.array .int), .int]
  staticTypes := #[]
  resolved := Array.replicate 45 none
  statics := none }

def pool4 : Array CpInfo := pool [(2, .class_ 4), (1, u "java/lang/Object"), (0, u "<init>"), (0, u "()V"), (7, .class_ 16), (1, u "java/util/Arrays"), (57, .class_ 76), (1, u "java/util/Arrays$NaturalOrder"), (36, .class_ 115), (1, u "java/util/Arrays$LegacyMergeSort"), (1, u "Z"), (32, .methodref 151 152), (0, .class_ 153), (0, .nameAndType 154 155), (0, u "java/lang/System"), (0, u "arraycopy"), (0, u "(Ljava/lang/Object;ILjava/lang/Object;II)V"), (146, u "copyOf"), (1, .methodref 305 306), (0, .class_ 307), (0, .nameAndType 308 309), (0, u "java/lang/Math"), (0, u "min"), (0, u "(II)I"), (65, .class_ 376), (0, u "java/util/Arrays$ArrayList"), (68, u "$assertionsDisabled"), (269, u "MIN_ARRAY_SORT_GRAN"), (0, u "I"), (2, u "INSERTIONSORT_THRESHOLD"), (151, u "([II)[I"), (103, .class_ 976), (0, u "java/util/Arrays$ArrayItr")] 52

def k4m0 : Method := { name := "<init>", desc := "()V", sig := { parameters := [], returnType := none }, accessFlags := 2, code := none }
def k4c1 : Code := { maxStack := 6, maxLocals := 3, code := jdk_65_method_123_code, exceptionTable := #[], attributes := #[] }
def k4m1 : Method := { name := "copyOf", desc := "([II)[I", sig := { parameters := [(.array .int), .int], returnType := some (.array .int) }, accessFlags := 9, code := some k4c1 }
/-- java/util/Arrays -/
def k4 : Class := { plain "java/util/Arrays" (some 0) with
  accessFlags := 49
  interfaces := #[]
  cf := some (fileOf pool4 14 #[.nestMembers #[975, 375, 113, 74]] #[{ accessFlags := 2, nameIndex := 5, descriptorIndex := 6, attributes := #[] }, { accessFlags := 9, nameIndex := 302, descriptorIndex := 871, attributes := #[] }] 49 2 #[] #[{ accessFlags := 26, nameIndex := 715, descriptorIndex := 716, attributes := #[] }, { accessFlags := 26, nameIndex := 719, descriptorIndex := 716, attributes := #[] }, { accessFlags := 4120, nameIndex := 445, descriptorIndex := 117, attributes := #[] }])
  fields := #[{ name := "MIN_ARRAY_SORT_GRAN", type := .int, accessFlags := 26, slot := 0, constantValue := 0 }, { name := "INSERTIONSORT_THRESHOLD", type := .int, accessFlags := 26, slot := 1, constantValue := 0 }, { name := "$assertionsDisabled", type := .boolean, accessFlags := 4120, slot := 2, constantValue := 0 }]
  methods := #[k4m0, k4m1]
  instanceTypes := #[]
  staticTypes := #[.int, .int, .boolean]
  resolved := Array.replicate 1029 none
  statics := none }

def pool5 : Array CpInfo := pool [(2, .class_ 4), (1, u "java/lang/Object"), (0, u "<init>"), (0, u "()V"), (1, .class_ 10), (1, u "java/lang/System"), (0, u "allowSecurityManager"), (0, u "I"), (16, u "cons"), (0, u "Ljava/io/Console;"), (77, .class_ 110), (1, u "java/lang/System$CallersHolder"), (43, u "initialErrStream"), (0, u "Ljava/io/PrintStream;"), (19, u "security"), (0, u "Ljava/lang/SecurityManager;"), (31, .class_ 209), (0, u "java/lang/System$1"), (7, u "props"), (0, u "Ljava/util/Properties;"), (2, u "lineSeparator"), (0, u "Ljava/lang/String;"), (96, .class_ 321), (1, u "java/lang/System$LoggerFinder"), (5, .class_ 328), (0, u "java/lang/System$Logger"), (67, u "err"), (2, u "out"), (91, u "notSupportedJnuEncoding"), (15, u "in"), (17, u "initialIn"), (0, u "Ljava/io/InputStream;"), (35, u "bootLayer"), (0, u "Ljava/lang/ModuleLayer;"), (99, .class_ 664), (0, u "java/lang/System$2"), (9, u "NEVER"), (2, u "MAYBE"), (49, u "arraycopy"), (0, u "(Ljava/lang/Object;ILjava/lang/Object;II)V"), (72, .class_ 802), (0, u "java/lang/System$Logger$Level")] 31

def k5m0 : Method := { name := "<init>", desc := "()V", sig := { parameters := [], returnType := none }, accessFlags := 2, code := none }
def k5m1 : Method := { name := "arraycopy", desc := "(Ljava/lang/Object;ILjava/lang/Object;II)V", sig := { parameters := [(.object "java/lang/Object"), .int, (.object "java/lang/Object"), .int, .int], returnType := none }, accessFlags := 265, code := none }
/-- java/lang/System -/
def k5 : Class := { plain "java/lang/System" (some 0) with
  accessFlags := 49
  interfaces := #[]
  cf := some (fileOf pool5 8 #[.nestMembers #[319, 327, 801, 108, 663, 208]] #[{ accessFlags := 2, nameIndex := 5, descriptorIndex := 6, attributes := #[] }, { accessFlags := 265, nameIndex := 727, descriptorIndex := 728, attributes := #[] }] 49 2 #[] #[{ accessFlags := 25, nameIndex := 507, descriptorIndex := 526, attributes := #[] }, { accessFlags := 25, nameIndex := 399, descriptorIndex := 155, attributes := #[] }, { accessFlags := 25, nameIndex := 396, descriptorIndex := 155, attributes := #[] }, { accessFlags := 10, nameIndex := 525, descriptorIndex := 526, attributes := #[] }, { accessFlags := 26, nameIndex := 674, descriptorIndex := 12, attributes := #[] }, { accessFlags := 26, nameIndex := 677, descriptorIndex := 12, attributes := #[] }, { accessFlags := 10, nameIndex := 11, descriptorIndex := 12, attributes := #[] }, { accessFlags := 74, nameIndex := 175, descriptorIndex := 176, attributes := #[] }, { accessFlags := 10, nameIndex := 491, descriptorIndex := 222, attributes := #[] }, { accessFlags := 74, nameIndex := 29, descriptorIndex := 30, attributes := #[] }, { accessFlags := 74, nameIndex := 154, descriptorIndex := 155, attributes := #[] }, { accessFlags := 10, nameIndex := 217, descriptorIndex := 218, attributes := #[] }, { accessFlags := 10, nameIndex := 221, descriptorIndex := 222, attributes := #[] }, { accessFlags := 8, nameIndex := 562, descriptorIndex := 563, attributes := #[] }])
  fields := #[{ name := "in", type := (.object "java/io/InputStream"), accessFlags := 25, slot := 0, constantValue := 0 }, { name := "out", type := (.object "java/io/PrintStream"), accessFlags := 25, slot := 1, constantValue := 0 }, { name := "err", type := (.object "java/io/PrintStream"), accessFlags := 25, slot := 2, constantValue := 0 }, { name := "initialIn", type := (.object "java/io/InputStream"), accessFlags := 10, slot := 3, constantValue := 0 }, { name := "NEVER", type := .int, accessFlags := 26, slot := 4, constantValue := 0 }, { name := "MAYBE", type := .int, accessFlags := 26, slot := 5, constantValue := 0 }, { name := "allowSecurityManager", type := .int, accessFlags := 10, slot := 6, constantValue := 0 }, { name := "security", type := (.object "java/lang/SecurityManager"), accessFlags := 74, slot := 7, constantValue := 0 }, { name := "notSupportedJnuEncoding", type := (.object "java/lang/String"), accessFlags := 10, slot := 8, constantValue := 0 }, { name := "cons", type := (.object "java/io/Console"), accessFlags := 74, slot := 9, constantValue := 0 }, { name := "initialErrStream", type := (.object "java/io/PrintStream"), accessFlags := 74, slot := 10, constantValue := 0 }, { name := "props", type := (.object "java/util/Properties"), accessFlags := 10, slot := 11, constantValue := 0 }, { name := "lineSeparator", type := (.object "java/lang/String"), accessFlags := 10, slot := 12, constantValue := 0 }, { name := "bootLayer", type := (.object "java/lang/ModuleLayer"), accessFlags := 8, slot := 13, constantValue := 0 }]
  methods := #[k5m0, k5m1]
  instanceTypes := #[]
  staticTypes := #[(.object "java/io/InputStream"), (.object "java/io/PrintStream"), (.object "java/io/PrintStream"), (.object "java/io/InputStream"), .int, .int, .int, (.object "java/lang/SecurityManager"), (.object "java/lang/String"), (.object "java/io/Console"), (.object "java/io/PrintStream"), (.object "java/util/Properties"), (.object "java/lang/String"), (.object "java/lang/ModuleLayer")]
  resolved := Array.replicate 834 none
  statics := none }

def pool6 : Array CpInfo := pool [(1, u "java/lang/Cloneable"), (0, .class_ 1), (0, u "java/lang/Object"), (0, .class_ 3)] 3

/-- java/lang/Cloneable -/
def k6 : Class := { plain "java/lang/Cloneable" (some 0) with
  accessFlags := 1537
  interfaces := #[]
  cf := some (fileOf pool6 2 #[] #[] 1537 4 #[] #[])
  fields := #[]
  methods := #[]
  instanceTypes := #[]
  staticTypes := #[]
  resolved := Array.replicate 8 none
  statics := none }

def pool7 : Array CpInfo := pool [(1, u "java/io/Serializable"), (0, .class_ 1), (0, u "java/lang/Object"), (0, .class_ 3)] 3

/-- java/io/Serializable -/
def k7 : Class := { plain "java/io/Serializable" (some 0) with
  accessFlags := 1537
  interfaces := #[]
  cf := some (fileOf pool7 2 #[] #[] 1537 4 #[] #[])
  fields := #[]
  methods := #[]
  instanceTypes := #[]
  staticTypes := #[]
  resolved := Array.replicate 8 none
  statics := none }

/-- the primitive byte -/
def k8 : Class := { plain "byte" none with kind := .primitive 'B', accessFlags := 0x411 }
/-- [B -/
def k9 : Class := { plain "[B" (some 0) with kind := .array 8 .byte, interfaces := #[6, 7], accessFlags := 1041 }

/-- the primitive int -/
def k10 : Class := { plain "int" none with kind := .primitive 'I', accessFlags := 0x411 }
/-- [I -/
def k11 : Class := { plain "[I" (some 0) with kind := .array 10 .int, interfaces := #[6, 7], accessFlags := 1041 }

def heap : Heap := #[]
def classes : Array Class := #[k0, k1, k2, k3, k4, k5, k6, k7, k8, k9, k10, k11]
def interned : List (Array UInt16 × Addr) := []
def slotsUsed : Nat := 0
def theMethod : MethodId := ⟨1, 1⟩
def args0 : Array Value := #[.int 3, .int 1, .int 2, .int 3, .int 4, .int 5]
def aboutOver (below : List Frame) : State where
  vm := { classes := classes, interned := interned.toArray }
  heap := heap
  slotsUsed := slotsUsed
  threads := #[{ frames := .invoking theMethod args0 :: below }]
def below0 : List Frame := [.native { method := ⟨0, 0⟩, args := #[] }]
def about1 : State := aboutOver below0
def p0 : Program := .bare "" "" ""
def e0 : Env := launch0.env 0 0 0
theorem w_frames : about1.frames = Frame.invoking theMethod args0 :: below0 := rfl
set_option maxRecDepth 65536 in
theorem w_args : argsFit about1.vm theMethod args0 = true := by decide +kernel
set_option maxRecDepth 65536 in
theorem w_heap : heapFits about1 = true := by decide +kernel
set_option maxRecDepth 65536 in
theorem w_runnable : about1.curStatus? = some .runnable := by decide +kernel
set_option maxRecDepth 65536 in
theorem w_alone : about1.alone = true := by decide +kernel
set_option maxRecDepth 65536 in
theorem w_named : about1.methodNamed? x = some theMethod := by decide +kernel
set_option maxRecDepth 65536 in
theorem w_hears : about1.hears theMethod below0 = true := by decide +kernel
set_option maxRecDepth 65536 in
theorem w_ripe : about1.ripe theMethod args0 below0 = true := by decide +kernel
theorem w_running : about1.status = .running := rfl
set_option maxRecDepth 65536 in
theorem w_room : about1.hasRoom e0.platform room_1 = true :=
  launch0.hasRoom_least _ room_1 (by decide +kernel) (by decide +kernel) (by decide +kernel) (by decide +kernel) (by decide +kernel) (by decide +kernel)
theorem allAtoms_all (ts : List Jvm.Cond) (a : Array Jvm.Value) (st : Jvm.State) : (allAtoms ts).before a st = ts.all (fun c => c.before a st) := by
  induction ts with
  | nil => rfl
  | cons c t ih =>
    show (Jvm.Cond.and c (allAtoms t)).before a st = _
    rw [Jvm.Cond.before_and, ih, List.all_cons]
def words1 : List Jvm.Cond := Jvm.Cond.code x code maxLocals ret :: tables_1
/-- a 'code' word, met by the world's own term for the bytes: nothing is compared byte by byte -/
theorem code_word {y : MethodName} {bytes : ByteArray} {mx : Nat} {rt : Option FieldType} {a : Array Value} {s : State} {m : MethodId} {meth : Method} {c : Code} (h1 : s.methodNamed? y = some m) (h2 : s.vm.method? m = some meth) (h3 : meth.code = some c) (h4 : c.code = bytes)
    (h5 : (c.maxLocals == mx && c.exceptionTable.isEmpty && decide (c.maxStack ≤ mostOperands) && decide (meth.sig.returnType = rt) && !meth.locks && decide (parseMethodDescriptor y.desc = some meth.sig)) = true) : (Jvm.Cond.code y bytes mx rt).before a s = true := by
  simp only [Bool.and_eq_true, beq_iff_eq, Bool.not_eq_true', decide_eq_true_eq] at h5
  obtain ⟨⟨⟨⟨⟨g1, g2⟩, g3⟩, g4⟩, g5⟩, g6⟩ := h5
  simp [Cond.before, Cond.holds, Cond.value, h1, h2, h3, h4, g1, g2, g3, g4, g5, g6]
def isCode : Jvm.Cond → Bool
  | .code _ _ _ _ => true
  | _ => false
theorem all_split {L : List Jvm.Cond} {P : Jvm.Cond → Bool} (h1 : L.all (fun c => isCode c || P c) = true) (h2 : ∀ c ∈ L.filter isCode, P c = true) : L.all P = true := by
  refine List.all_eq_true.mpr fun c hc => ?_
  have h := List.all_eq_true.mp h1 c hc
  rcases Bool.eq_false_or_eq_true (isCode c) with hi | hi
  · exact h2 c (List.mem_filter.mpr ⟨hc, hi⟩)
  · simpa [hi] using h
set_option maxRecDepth 65536 in
theorem w_c0 : (Jvm.Cond.code x code maxLocals ret).before args0 about1 = true := code_word (m := ⟨1, 1⟩) (meth := k1m1) (c := k1c1) (by decide +kernel) rfl rfl rfl (by decide +kernel)
set_option maxRecDepth 65536 in
theorem w_c1 : (Jvm.Cond.code ({ cls := "com/example/bagwise/bagwise/IntListFirstAtLeastPinLaw", name := "next", desc := "(II)I" } : Jvm.MethodName) method_3_code (4 : Nat) (Option.some Jvm.ClassFile.FieldType.int)).before args0 about1 = true := code_word (m := ⟨1, 2⟩) (meth := k1m2) (c := k1c2) (by decide +kernel) rfl rfl rfl (by decide +kernel)
set_option maxRecDepth 65536 in
theorem w_c2 : (Jvm.Cond.code ({ cls := "java/lang/Math", name := "min", desc := "(JJ)J" } : Jvm.MethodName) jdk_29_method_70_code (4 : Nat) (Option.some Jvm.ClassFile.FieldType.long)).before args0 about1 = true := code_word (m := ⟨2, 3⟩) (meth := k2m3) (c := k2c3) (by decide +kernel) rfl rfl rfl (by decide +kernel)
set_option maxRecDepth 65536 in
theorem w_c3 : (Jvm.Cond.code ({ cls := "com/example/bagwise/bagwise/IntList", name := "<init>", desc := "(I)V" } : Jvm.MethodName) prog_20_method_2_code (2 : Nat) (Option.none : Option Jvm.ClassFile.FieldType)).before args0 about1 = true := code_word (m := ⟨3, 1⟩) (meth := k3m1) (c := k3c1) (by decide +kernel) rfl rfl rfl (by decide +kernel)
set_option maxRecDepth 65536 in
theorem w_c4 : (Jvm.Cond.code ({ cls := "java/lang/Object", name := "<init>", desc := "()V" } : Jvm.MethodName) object_method_1_code (1 : Nat) (Option.none : Option Jvm.ClassFile.FieldType)).before args0 about1 = true := code_word (m := ⟨0, 0⟩) (meth := k0m0) (c := k0c0) (by decide +kernel) rfl rfl rfl (by decide +kernel)
set_option maxRecDepth 65536 in
theorem w_c5 : (Jvm.Cond.code ({ cls := "java/lang/Math", name := "max", desc := "(II)I" } : Jvm.MethodName) jdk_29_method_65_code (2 : Nat) (Option.some Jvm.ClassFile.FieldType.int)).before args0 about1 = true := code_word (m := ⟨2, 1⟩) (meth := k2m1) (c := k2c1) (by decide +kernel) rfl rfl rfl (by decide +kernel)
set_option maxRecDepth 65536 in
theorem w_c6 : (Jvm.Cond.code ({ cls := "com/example/bagwise/bagwise/IntListFirstAtLeastPinLaw", name := "below", desc := "(ZII)I" } : Jvm.MethodName) method_4_code (3 : Nat) (Option.some Jvm.ClassFile.FieldType.int)).before args0 about1 = true := code_word (m := ⟨1, 3⟩) (meth := k1m3) (c := k1c3) (by decide +kernel) rfl rfl rfl (by decide +kernel)
set_option maxRecDepth 65536 in
theorem w_c7 : (Jvm.Cond.code ({ cls := "com/example/bagwise/bagwise/IntList", name := "firstAtLeast", desc := "(I)I" } : Jvm.MethodName) prog_20_method_7_code (5 : Nat) (Option.some Jvm.ClassFile.FieldType.int)).before args0 about1 = true := code_word (m := ⟨3, 3⟩) (meth := k3m3) (c := k3c3) (by decide +kernel) rfl rfl rfl (by decide +kernel)
set_option maxRecDepth 65536 in
theorem w_c8 : (Jvm.Cond.code ({ cls := "com/example/bagwise/bagwise/IntList", name := "add", desc := "(I)V" } : Jvm.MethodName) prog_20_method_3_code (2 : Nat) (Option.none : Option Jvm.ClassFile.FieldType)).before args0 about1 = true := code_word (m := ⟨3, 2⟩) (meth := k3m2) (c := k3c2) (by decide +kernel) rfl rfl rfl (by decide +kernel)
set_option maxRecDepth 65536 in
theorem w_c9 : (Jvm.Cond.code ({ cls := "java/util/Arrays", name := "copyOf", desc := "([II)[I" } : Jvm.MethodName) jdk_65_method_123_code (3 : Nat) (Option.some (Jvm.ClassFile.FieldType.array Jvm.ClassFile.FieldType.int))).before args0 about1 = true := code_word (m := ⟨4, 1⟩) (meth := k4m1) (c := k4c1) (by decide +kernel) rfl rfl rfl (by decide +kernel)
set_option maxRecDepth 65536 in
theorem w_c10 : (Jvm.Cond.code ({ cls := "java/lang/Math", name := "min", desc := "(II)I" } : Jvm.MethodName) jdk_29_method_69_code (2 : Nat) (Option.some Jvm.ClassFile.FieldType.int)).before args0 about1 = true := code_word (m := ⟨2, 2⟩) (meth := k2m2) (c := k2c2) (by decide +kernel) rfl rfl rfl (by decide +kernel)
def codes1 : List Jvm.Cond := [Jvm.Cond.code x code maxLocals ret, Jvm.Cond.code ({ cls := "com/example/bagwise/bagwise/IntListFirstAtLeastPinLaw", name := "next", desc := "(II)I" } : Jvm.MethodName) method_3_code (4 : Nat) (Option.some Jvm.ClassFile.FieldType.int), Jvm.Cond.code ({ cls := "java/lang/Math", name := "min", desc := "(JJ)J" } : Jvm.MethodName) jdk_29_method_70_code (4 : Nat) (Option.some Jvm.ClassFile.FieldType.long), Jvm.Cond.code ({ cls := "com/example/bagwise/bagwise/IntList", name := "<init>", desc := "(I)V" } : Jvm.MethodName) prog_20_method_2_code (2 : Nat) (Option.none : Option Jvm.ClassFile.FieldType), Jvm.Cond.code ({ cls := "java/lang/Object", name := "<init>", desc := "()V" } : Jvm.MethodName) object_method_1_code (1 : Nat) (Option.none : Option Jvm.ClassFile.FieldType), Jvm.Cond.code ({ cls := "java/lang/Math", name := "max", desc := "(II)I" } : Jvm.MethodName) jdk_29_method_65_code (2 : Nat) (Option.some Jvm.ClassFile.FieldType.int), Jvm.Cond.code ({ cls := "com/example/bagwise/bagwise/IntListFirstAtLeastPinLaw", name := "below", desc := "(ZII)I" } : Jvm.MethodName) method_4_code (3 : Nat) (Option.some Jvm.ClassFile.FieldType.int), Jvm.Cond.code ({ cls := "com/example/bagwise/bagwise/IntList", name := "firstAtLeast", desc := "(I)I" } : Jvm.MethodName) prog_20_method_7_code (5 : Nat) (Option.some Jvm.ClassFile.FieldType.int), Jvm.Cond.code ({ cls := "com/example/bagwise/bagwise/IntList", name := "add", desc := "(I)V" } : Jvm.MethodName) prog_20_method_3_code (2 : Nat) (Option.none : Option Jvm.ClassFile.FieldType), Jvm.Cond.code ({ cls := "java/util/Arrays", name := "copyOf", desc := "([II)[I" } : Jvm.MethodName) jdk_65_method_123_code (3 : Nat) (Option.some (Jvm.ClassFile.FieldType.array Jvm.ClassFile.FieldType.int)), Jvm.Cond.code ({ cls := "java/lang/Math", name := "min", desc := "(II)I" } : Jvm.MethodName) jdk_29_method_69_code (2 : Nat) (Option.some Jvm.ClassFile.FieldType.int)]
set_option maxRecDepth 65536 in
theorem codes_eq : words1.filter isCode = codes1 := rfl
theorem w_codes : ∀ c ∈ words1.filter isCode, c.before args0 about1 = true := by
  rw [codes_eq]
  intro c hc
  simp only [codes1, List.mem_cons, List.not_mem_nil, or_false] at hc
  rcases hc with rfl | rfl | rfl | rfl | rfl | rfl | rfl | rfl | rfl | rfl | rfl
  · exact w_c0
  · exact w_c1
  · exact w_c2
  · exact w_c3
  · exact w_c4
  · exact w_c5
  · exact w_c6
  · exact w_c7
  · exact w_c8
  · exact w_c9
  · exact w_c10
set_option maxRecDepth 65536 in
theorem w_t1 : (words1.take 24).all (fun c => isCode c || c.before args0 about1) = true := by decide +kernel
set_option maxRecDepth 65536 in
theorem w_t2 : ((words1.drop 24).take 24).all (fun c => isCode c || c.before args0 about1) = true := by decide +kernel
set_option maxRecDepth 65536 in
theorem w_t3 : ((words1.drop 24).drop 24).all (fun c => isCode c || c.before args0 about1) = true := by decide +kernel
theorem w_tables : (allAtoms (Jvm.Cond.code x code maxLocals ret :: tables_1)).before args0 about1 = true := by
  rw [allAtoms_all]
  show words1.all (fun c => c.before args0 about1) = true
  refine all_split ?_ w_codes
  rw [← List.take_append_drop 24 words1, List.all_append, w_t1, ← List.take_append_drop 24 (words1.drop 24), List.all_append, w_t2, w_t3]
  rfl
set_option maxRecDepth 65536 in
theorem w_case : (Jvm.Cond.and given_1 narrow_1).before args0 about1 = true := by decide +kernel
theorem w_applies : (headSpec (Jvm.Cond.code x code maxLocals ret :: tables_1) room_1).applies x e0.platform about1 = true :=
  (Spec.applies_iff w_frames).mpr ⟨w_running, w_runnable, w_alone, w_named, w_hears, w_ripe, w_room, w_tables⟩
theorem atStart : AtStart classFile x code maxLocals ret World_1 tables_1 room_1 Calls_1 rest_1 Pre_1 launch0 p0 e0 about1 theMethod args0 below0 :=
  ⟨lists_1, trivial, launch0.admits_env _ _ _, launch0.least_env, fairChoices_fair.cas, fairChoices_fair.clock, w_frames, w_args, w_heap, w_applies, trivial, trivial, w_case⟩
end start1
theorem witness_1 : WitnessClaimed_1 := ⟨start1.p0, start1.e0, start1.about1, start1.theMethod, start1.args0, start1.below0, start1.atStart⟩
end Jvm.Pilot.@@N@@
