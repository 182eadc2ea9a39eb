import JvmDerived
import JvmDerived.Pilot.@@N@@Statement
import JvmDerived.Pilot.@@N@@Code
set_option linter.unusedVariables false
set_option linter.unusedSimpArgs false
namespace Jvm.Pilot.@@N@@
open Jvm Jvm.ClassFile Sem Op Lib Jvm.Free Jvm.Stand Jvm.LawKit Jvm.RoadKit Bundle Jvm.Pilot.@@N@@.Jvm.D
section OwnKit
variable {p : Program} {l : Launch} {e : Env} {R : Room} {s : State} {m : MethodId} {args : Array Value} {below : List Frame} {meth : Method} {c : Code} {T : State} {cells slots : Nat} {P : State → Outcome → Prop}
variable {Z : State} {a0 : Array Value} {h h0 : Heap} {n0 : Nat} {own nm : String} {bytes : ByteArray} {maxL : Nat} {ret : Option FieldType}
variable {pc pc' : Nat} {Ls : Array Slot} {st : List Value}
/-- from the state U the run comes to an end that P allows -/
def own_Go (p : Program) (e : Env) (below : List Frame) (U : State) (P : State → Outcome → Prop) : Prop := ∃ a o, Steps p.tables e below U a ∧ P a o
theorem own_by {U U' : State} (q : ∀ t, Steps p.tables e below U' t → Steps p.tables e below U t) (G : own_Go p e below U' P) : own_Go p e below U P := by
  obtain ⟨a, o, h1, h2⟩ := G
  exact ⟨a, o, q a h1, h2⟩
/-- what stays the same in one body -/
def own_B (p : Program) (s : State) (m : MethodId) (meth : Method) (c : Code) (Z : State) (own nm : String) (bytes : ByteArray) (maxL : Nat) (ret : Option FieldType) : Prop :=
  p.tables.exec = Jvm.exec ∧ Z.Warmed39 s.vm ∧ c.maxLocals = maxL ∧ s.vm.findClass own = some m.cls ∧ meth.sig.returnType = ret ∧ meth.locks = false ∧ meth.name = nm ∧ c.code = bytes
/-- where the run stands: the state T, its heap h; nothing below n0 has been written -/
def own_S (p : Program) (l : Launch) (e : Env) (R : Room) (s : State) (m : MethodId) (args : Array Value) (below : List Frame) (meth : Method) (c : Code) (n0 : Nat) (T : State) (h : Heap) (cells slots : Nat) : Prop :=
  ∃ locs, Stand p l e R s m args below meth c T locs cells slots ∧ T.heap = h ∧ Fr n0 locs
/-- what a body owes at its end -/
def own_P (s : State) (below : List Frame) (n0 : Nat) (Q : Option Value → Heap → Prop) (k n : Nat) (a : State) (o : Outcome) : Prop :=
  a.status = .running ∧ Ended a below o ∧ ∃ v L, o = .returned v ∧ (Fr n0 L ∧ Q v a.heap) ∧ FrameEnd s o a L k n
theorem own_iload (B : own_B p s m meth c Z own nm bytes maxL ret) (X : own_S p l e R s m args below meth c n0 T h cells slots) {k : Nat} {v : Int32} (d : decode bytes pc = .ok (.iload k, 2)) (hp : pc + 2 = pc') (hl : Ls[k]? = some (.val (.int v)))
    (G : own_Go p e below (T.setTop (mkF m pc' Ls (.int v :: st))) P) : own_Go p e below (T.setTop (mkF m pc Ls (st))) P := by
  obtain ⟨locs, X, -, -⟩ := X
  subst hp
  exact own_by (fun _ => XS.iload X.here B.1 rfl (hb B.2.2.2.2.2.2.2 d) hl) G
theorem own_iloadN (B : own_B p s m meth c Z own nm bytes maxL ret) (X : own_S p l e R s m args below meth c n0 T h cells slots) {k : Fin 4} {v : Int32} (d : decode bytes pc = .ok (.iload_n k, 1)) (hp : pc + 1 = pc') (hl : Ls[k.val]? = some (.val (.int v)))
    (G : own_Go p e below (T.setTop (mkF m pc' Ls (.int v :: st))) P) : own_Go p e below (T.setTop (mkF m pc Ls (st))) P := by
  obtain ⟨locs, X, -, -⟩ := X
  subst hp
  exact own_by (fun _ => XS.iloadN X.here B.1 rfl (hb B.2.2.2.2.2.2.2 d) hl) G
theorem own_lload (B : own_B p s m meth c Z own nm bytes maxL ret) (X : own_S p l e R s m args below meth c n0 T h cells slots) {k : Nat} {v : Int64} (d : decode bytes pc = .ok (.lload k, 2)) (hp : pc + 2 = pc') (hl : Ls[k]? = some (.val (.long v)))
    (G : own_Go p e below (T.setTop (mkF m pc' Ls (.long v :: st))) P) : own_Go p e below (T.setTop (mkF m pc Ls (st))) P := by
  obtain ⟨locs, X, -, -⟩ := X
  subst hp
  exact own_by (fun _ => XS.lload X.here B.1 rfl (hb B.2.2.2.2.2.2.2 d) hl) G
theorem own_lloadN (B : own_B p s m meth c Z own nm bytes maxL ret) (X : own_S p l e R s m args below meth c n0 T h cells slots) {k : Fin 4} {v : Int64} (d : decode bytes pc = .ok (.lload_n k, 1)) (hp : pc + 1 = pc') (hl : Ls[k.val]? = some (.val (.long v)))
    (G : own_Go p e below (T.setTop (mkF m pc' Ls (.long v :: st))) P) : own_Go p e below (T.setTop (mkF m pc Ls (st))) P := by
  obtain ⟨locs, X, -, -⟩ := X
  subst hp
  exact own_by (fun _ => XS.lloadN X.here B.1 rfl (hb B.2.2.2.2.2.2.2 d) hl) G
theorem own_aload (B : own_B p s m meth c Z own nm bytes maxL ret) (X : own_S p l e R s m args below meth c n0 T h cells slots) {k : Nat} {v : Value} (d : decode bytes pc = .ok (.aload k, 2)) (hp : pc + 2 = pc') (hl : Ls[k]? = some (.val v)) (hv : v.isRef = true)
    (G : own_Go p e below (T.setTop (mkF m pc' Ls (v :: st))) P) : own_Go p e below (T.setTop (mkF m pc Ls (st))) P := by
  obtain ⟨locs, X, -, -⟩ := X
  subst hp
  exact own_by (fun _ => XS.aload X.here B.1 rfl (hb B.2.2.2.2.2.2.2 d) hl hv) G
theorem own_aloadN (B : own_B p s m meth c Z own nm bytes maxL ret) (X : own_S p l e R s m args below meth c n0 T h cells slots) {k : Fin 4} {v : Value} (d : decode bytes pc = .ok (.aload_n k, 1)) (hp : pc + 1 = pc') (hl : Ls[k.val]? = some (.val v)) (hv : v.isRef = true)
    (G : own_Go p e below (T.setTop (mkF m pc' Ls (v :: st))) P) : own_Go p e below (T.setTop (mkF m pc Ls (st))) P := by
  obtain ⟨locs, X, -, -⟩ := X
  subst hp
  exact own_by (fun _ => XS.aloadN X.here B.1 rfl (hb B.2.2.2.2.2.2.2 d) hl hv) G
theorem own_istore (B : own_B p s m meth c Z own nm bytes maxL ret) (X : own_S p l e R s m args below meth c n0 T h cells slots) {k : Nat} {v : Int32} {Ls' : Array Slot} (d : decode bytes pc = .ok (.istore k, 2)) (hp : pc + 2 = pc') (hl : storeLocals Ls k (.int v) = some Ls')
    (G : own_Go p e below (T.setTop (mkF m pc' Ls' st)) P) : own_Go p e below (T.setTop (mkF m pc Ls (.int v :: st))) P := by
  obtain ⟨locs, X, -, -⟩ := X
  subst hp
  exact own_by (fun _ => XS.istore X.here B.1 rfl (hb B.2.2.2.2.2.2.2 d) rfl hl) G
theorem own_lstore (B : own_B p s m meth c Z own nm bytes maxL ret) (X : own_S p l e R s m args below meth c n0 T h cells slots) {k : Nat} {v : Int64} {Ls' : Array Slot} (d : decode bytes pc = .ok (.lstore k, 2)) (hp : pc + 2 = pc') (hl : storeLocals Ls k (.long v) = some Ls')
    (G : own_Go p e below (T.setTop (mkF m pc' Ls' st)) P) : own_Go p e below (T.setTop (mkF m pc Ls (.long v :: st))) P := by
  obtain ⟨locs, X, -, -⟩ := X
  subst hp
  exact own_by (fun _ => XS.lstore X.here B.1 rfl (hb B.2.2.2.2.2.2.2 d) rfl hl) G
theorem own_astore (B : own_B p s m meth c Z own nm bytes maxL ret) (X : own_S p l e R s m args below meth c n0 T h cells slots) {k : Nat} {v : Value} {Ls' : Array Slot} (d : decode bytes pc = .ok (.astore k, 2)) (hp : pc + 2 = pc') (hv : v.isRef = true) (hl : storeLocals Ls k (v) = some Ls')
    (G : own_Go p e below (T.setTop (mkF m pc' Ls' st)) P) : own_Go p e below (T.setTop (mkF m pc Ls (v :: st))) P := by
  obtain ⟨locs, X, -, -⟩ := X
  subst hp
  exact own_by (fun _ => XS.astore X.here B.1 rfl (hb B.2.2.2.2.2.2.2 d) rfl hv hl) G
theorem own_iconst (B : own_B p s m meth c Z own nm bytes maxL ret) (X : own_S p l e R s m args below meth c n0 T h cells slots) {i : Int} {z : Int32} (d : decode bytes pc = .ok (.iconst i, 1)) (hp : pc + 1 = pc') (hz : Int32.ofInt i = z)
    (G : own_Go p e below (T.setTop (mkF m pc' Ls (.int z :: st))) P) : own_Go p e below (T.setTop (mkF m pc Ls (st))) P := by
  obtain ⟨locs, X, -, -⟩ := X
  subst hp
  subst hz
  exact own_by (fun _ => XS.iconst X.here B.1 rfl (hb B.2.2.2.2.2.2.2 d)) G
theorem own_bipush (B : own_B p s m meth c Z own nm bytes maxL ret) (X : own_S p l e R s m args below meth c n0 T h cells slots) {i : Int} {z : Int32} (d : decode bytes pc = .ok (.bipush i, 2)) (hp : pc + 2 = pc') (hz : (Int8.ofInt i).toInt32 = z)
    (G : own_Go p e below (T.setTop (mkF m pc' Ls (.int z :: st))) P) : own_Go p e below (T.setTop (mkF m pc Ls (st))) P := by
  obtain ⟨locs, X, -, -⟩ := X
  subst hp
  subst hz
  exact own_by (fun _ => XS.bipush X.here B.1 rfl (hb B.2.2.2.2.2.2.2 d)) G
theorem own_sipush (B : own_B p s m meth c Z own nm bytes maxL ret) (X : own_S p l e R s m args below meth c n0 T h cells slots) {i : Int} {z : Int32} (d : decode bytes pc = .ok (.sipush i, 3)) (hp : pc + 3 = pc') (hz : (Int16.ofInt i).toInt32 = z)
    (G : own_Go p e below (T.setTop (mkF m pc' Ls (.int z :: st))) P) : own_Go p e below (T.setTop (mkF m pc Ls (st))) P := by
  obtain ⟨locs, X, -, -⟩ := X
  subst hp
  subst hz
  exact own_by (fun _ => XS.sipush X.here B.1 rfl (hb B.2.2.2.2.2.2.2 d)) G
theorem own_lconst (B : own_B p s m meth c Z own nm bytes maxL ret) (X : own_S p l e R s m args below meth c n0 T h cells slots) {k : Fin 2} {z : Int64} (d : decode bytes pc = .ok (.lconst k, 1)) (hp : pc + 1 = pc') (hz : Int64.ofNat k = z)
    (G : own_Go p e below (T.setTop (mkF m pc' Ls (.long z :: st))) P) : own_Go p e below (T.setTop (mkF m pc Ls (st))) P := by
  obtain ⟨locs, X, -, -⟩ := X
  subst hp
  subst hz
  exact own_by (fun _ => XS.lconst X.here B.1 rfl (hb B.2.2.2.2.2.2.2 d)) G
theorem own_iadd (B : own_B p s m meth c Z own nm bytes maxL ret) (X : own_S p l e R s m args below meth c n0 T h cells slots) {x y z : Int32} (d : decode bytes pc = .ok (.iadd, 1)) (hp : pc + 1 = pc') (hz : x + y = z)
    (G : own_Go p e below (T.setTop (mkF m pc' Ls (.int z :: st))) P) : own_Go p e below (T.setTop (mkF m pc Ls (.int y :: .int x :: st))) P := by
  obtain ⟨locs, X, -, -⟩ := X
  subst hp
  subst hz
  exact own_by (fun _ => XS.iadd X.here B.1 rfl (hb B.2.2.2.2.2.2.2 d) rfl) G
theorem own_isub (B : own_B p s m meth c Z own nm bytes maxL ret) (X : own_S p l e R s m args below meth c n0 T h cells slots) {x y z : Int32} (d : decode bytes pc = .ok (.isub, 1)) (hp : pc + 1 = pc') (hz : x - y = z)
    (G : own_Go p e below (T.setTop (mkF m pc' Ls (.int z :: st))) P) : own_Go p e below (T.setTop (mkF m pc Ls (.int y :: .int x :: st))) P := by
  obtain ⟨locs, X, -, -⟩ := X
  subst hp
  subst hz
  exact own_by (fun _ => XS.isub X.here B.1 rfl (hb B.2.2.2.2.2.2.2 d) rfl) G
theorem own_iand (B : own_B p s m meth c Z own nm bytes maxL ret) (X : own_S p l e R s m args below meth c n0 T h cells slots) {x y z : Int32} (d : decode bytes pc = .ok (.iand, 1)) (hp : pc + 1 = pc') (hz : x &&& y = z)
    (G : own_Go p e below (T.setTop (mkF m pc' Ls (.int z :: st))) P) : own_Go p e below (T.setTop (mkF m pc Ls (.int y :: .int x :: st))) P := by
  obtain ⟨locs, X, -, -⟩ := X
  subst hp
  subst hz
  exact own_by (fun _ => XS.iand X.here B.1 rfl (hb B.2.2.2.2.2.2.2 d) rfl) G
theorem own_iushr (B : own_B p s m meth c Z own nm bytes maxL ret) (X : own_S p l e R s m args below meth c n0 T h cells slots) {x y z : Int32} (d : decode bytes pc = .ok (.iushr, 1)) (hp : pc + 1 = pc') (hz : (x.toUInt32 >>> (y &&& 31).toUInt32).toInt32 = z)
    (G : own_Go p e below (T.setTop (mkF m pc' Ls (.int z :: st))) P) : own_Go p e below (T.setTop (mkF m pc Ls (.int y :: .int x :: st))) P := by
  obtain ⟨locs, X, -, -⟩ := X
  subst hp
  subst hz
  exact own_by (fun _ => XS.iushr X.here B.1 rfl (hb B.2.2.2.2.2.2.2 d) rfl) G
theorem own_land (B : own_B p s m meth c Z own nm bytes maxL ret) (X : own_S p l e R s m args below meth c n0 T h cells slots) {x y z : Int64} (d : decode bytes pc = .ok (.land, 1)) (hp : pc + 1 = pc') (hz : x &&& y = z)
    (G : own_Go p e below (T.setTop (mkF m pc' Ls (.long z :: st))) P) : own_Go p e below (T.setTop (mkF m pc Ls (.long y :: .long x :: st))) P := by
  obtain ⟨locs, X, -, -⟩ := X
  subst hp
  subst hz
  exact own_by (fun _ => XS.land X.here B.1 rfl (hb B.2.2.2.2.2.2.2 d) rfl) G
theorem own_lor (B : own_B p s m meth c Z own nm bytes maxL ret) (X : own_S p l e R s m args below meth c n0 T h cells slots) {x y z : Int64} (d : decode bytes pc = .ok (.lor, 1)) (hp : pc + 1 = pc') (hz : x ||| y = z)
    (G : own_Go p e below (T.setTop (mkF m pc' Ls (.long z :: st))) P) : own_Go p e below (T.setTop (mkF m pc Ls (.long y :: .long x :: st))) P := by
  obtain ⟨locs, X, -, -⟩ := X
  subst hp
  subst hz
  exact own_by (fun _ => XS.lor X.here B.1 rfl (hb B.2.2.2.2.2.2.2 d) rfl) G
theorem own_lshl (B : own_B p s m meth c Z own nm bytes maxL ret) (X : own_S p l e R s m args below meth c n0 T h cells slots) {x z : Int64} {y : Int32} (d : decode bytes pc = .ok (.lshl, 1)) (hp : pc + 1 = pc') (hz : x <<< (y &&& 0x3f).toInt64 = z)
    (G : own_Go p e below (T.setTop (mkF m pc' Ls (.long z :: st))) P) : own_Go p e below (T.setTop (mkF m pc Ls (.int y :: .long x :: st))) P := by
  obtain ⟨locs, X, -, -⟩ := X
  subst hp
  subst hz
  exact own_by (fun _ => XS.lshl X.here B.1 rfl (hb B.2.2.2.2.2.2.2 d) rfl) G
theorem own_lushr (B : own_B p s m meth c Z own nm bytes maxL ret) (X : own_S p l e R s m args below meth c n0 T h cells slots) {x z : Int64} {y : Int32} (d : decode bytes pc = .ok (.lushr, 1)) (hp : pc + 1 = pc') (hz : (x.toUInt64 >>> (y &&& 0x3f).toInt64.toUInt64).toInt64 = z)
    (G : own_Go p e below (T.setTop (mkF m pc' Ls (.long z :: st))) P) : own_Go p e below (T.setTop (mkF m pc Ls (.int y :: .long x :: st))) P := by
  obtain ⟨locs, X, -, -⟩ := X
  subst hp
  subst hz
  exact own_by (fun _ => XS.lushr X.here B.1 rfl (hb B.2.2.2.2.2.2.2 d) rfl) G
theorem own_lcmp (B : own_B p s m meth c Z own nm bytes maxL ret) (X : own_S p l e R s m args below meth c n0 T h cells slots) {x y : Int64} {z : Int32} (d : decode bytes pc = .ok (.lcmp, 1)) (hp : pc + 1 = pc') (hz : lcmpW x y = z)
    (G : own_Go p e below (T.setTop (mkF m pc' Ls (.int z :: st))) P) : own_Go p e below (T.setTop (mkF m pc Ls (.long y :: .long x :: st))) P := by
  obtain ⟨locs, X, -, -⟩ := X
  subst hp
  subst hz
  exact own_by (fun _ => XS.lcmp X.here B.1 rfl (hb B.2.2.2.2.2.2.2 d) rfl) G
theorem own_irem (B : own_B p s m meth c Z own nm bytes maxL ret) (X : own_S p l e R s m args below meth c n0 T h cells slots) {x y z : Int32} (d : decode bytes pc = .ok (.irem, 1)) (hp : pc + 1 = pc') (hy : y ≠ 0) (hz : x % y = z)
    (G : own_Go p e below (T.setTop (mkF m pc' Ls (.int z :: st))) P) : own_Go p e below (T.setTop (mkF m pc Ls (.int y :: .int x :: st))) P := by
  obtain ⟨locs, X, -, -⟩ := X
  subst hp
  subst hz
  exact own_by (fun _ => iremM X B.1 rfl (hb B.2.2.2.2.2.2.2 d) rfl hy) G
theorem own_dup (B : own_B p s m meth c Z own nm bytes maxL ret) (X : own_S p l e R s m args below meth c n0 T h cells slots) {v : Value} (d : decode bytes pc = .ok (.dup, 1)) (hp : pc + 1 = pc') (hv : v.category = 1)
    (G : own_Go p e below (T.setTop (mkF m pc' Ls (v :: v :: st))) P) : own_Go p e below (T.setTop (mkF m pc Ls (v :: st))) P := by
  obtain ⟨locs, X, -, -⟩ := X
  subst hp
  exact own_by (fun _ => XS.dup X.here B.1 rfl (hb B.2.2.2.2.2.2.2 d) rfl hv) G
theorem own_dup2 (B : own_B p s m meth c Z own nm bytes maxL ret) (X : own_S p l e R s m args below meth c n0 T h cells slots) {v w : Value} (d : decode bytes pc = .ok (.dup2, 1)) (hp : pc + 1 = pc') (hv : v.category = 1) (hw : w.category = 1)
    (G : own_Go p e below (T.setTop (mkF m pc' Ls (v :: w :: v :: w :: st))) P) : own_Go p e below (T.setTop (mkF m pc Ls (v :: w :: st))) P := by
  obtain ⟨locs, X, -, -⟩ := X
  subst hp
  refine own_by (fun t ht => ?_) G
  have hd := hb B.2.2.2.2.2.2.2 d
  have hx := B.1
  jvm_step X.here [X.here.top, hx, hd, hv, hw]
  exact ht
theorem own_goto (B : own_B p s m meth c Z own nm bytes maxL ret) (X : own_S p l e R s m args below meth c n0 T h cells slots) {o : Int} (d : decode bytes pc = .ok (.goto o, 3)) (ho : 0 ≤ (pc : Int) + o) (hp : ((pc : Int) + o).toNat = pc')
    (G : own_Go p e below (T.setTop (mkF m pc' Ls st)) P) : own_Go p e below (T.setTop (mkF m pc Ls st)) P := by
  obtain ⟨locs, X, -, -⟩ := X
  exact own_by (fun _ => XS.goto X.here B.1 rfl (pc0 := pc) rfl (hb B.2.2.2.2.2.2.2 d) ho hp) G
theorem own_ifYes (B : own_B p s m meth c Z own nm bytes maxL ret) (X : own_S p l e R s m args below meth c n0 T h cells slots) {cd : ClassFile.Cond} {o : Int} {x : Int32} (d : decode bytes pc = .ok (.ifCond cd o, 3)) (hc : ifCond.holds cd x = true) (ho : 0 ≤ (pc : Int) + o) (hp : ((pc : Int) + o).toNat = pc')
    (G : own_Go p e below (T.setTop (mkF m pc' Ls st)) P) : own_Go p e below (T.setTop (mkF m pc Ls (.int x :: st))) P := by
  obtain ⟨locs, X, -, -⟩ := X
  exact own_by (fun _ => XS.ifYes X.here B.1 rfl (pc0 := pc) rfl (hb B.2.2.2.2.2.2.2 d) rfl hc ho hp) G
theorem own_ifNo (B : own_B p s m meth c Z own nm bytes maxL ret) (X : own_S p l e R s m args below meth c n0 T h cells slots) {cd : ClassFile.Cond} {o : Int} {x : Int32} (d : decode bytes pc = .ok (.ifCond cd o, 3)) (hc : ifCond.holds cd x = false) (hp : pc + 3 = pc')
    (G : own_Go p e below (T.setTop (mkF m pc' Ls st)) P) : own_Go p e below (T.setTop (mkF m pc Ls (.int x :: st))) P := by
  obtain ⟨locs, X, -, -⟩ := X
  subst hp
  exact own_by (fun _ => XS.ifNo X.here B.1 rfl (hb B.2.2.2.2.2.2.2 d) rfl hc) G
theorem own_icmpYes (B : own_B p s m meth c Z own nm bytes maxL ret) (X : own_S p l e R s m args below meth c n0 T h cells slots) {cd : ClassFile.Cond} {o : Int} {x y : Int32} (d : decode bytes pc = .ok (.if_icmp cd o, 3)) (hc : if_icmp.holds cd x y = true) (ho : 0 ≤ (pc : Int) + o) (hp : ((pc : Int) + o).toNat = pc')
    (G : own_Go p e below (T.setTop (mkF m pc' Ls st)) P) : own_Go p e below (T.setTop (mkF m pc Ls (.int y :: .int x :: st))) P := by
  obtain ⟨locs, X, -, -⟩ := X
  exact own_by (fun _ => XS.icmpYes X.here B.1 rfl (pc0 := pc) rfl (hb B.2.2.2.2.2.2.2 d) rfl hc ho hp) G
theorem own_icmpNo (B : own_B p s m meth c Z own nm bytes maxL ret) (X : own_S p l e R s m args below meth c n0 T h cells slots) {cd : ClassFile.Cond} {o : Int} {x y : Int32} (d : decode bytes pc = .ok (.if_icmp cd o, 3)) (hc : if_icmp.holds cd x y = false) (hp : pc + 3 = pc')
    (G : own_Go p e below (T.setTop (mkF m pc' Ls st)) P) : own_Go p e below (T.setTop (mkF m pc Ls (.int y :: .int x :: st))) P := by
  obtain ⟨locs, X, -, -⟩ := X
  subst hp
  exact own_by (fun _ => XS.icmpNo X.here B.1 rfl (hb B.2.2.2.2.2.2.2 d) rfl hc) G
theorem own_laload (B : own_B p s m meth c Z own nm bytes maxL ret) (X : own_S p l e R s m args below meth c n0 T h cells slots) {a : Addr} {k : ClassId} {z : Int32} {vs : List Value} {dv : Value} {j : Int32} {v : Value} (V : Arv Z h a k .long z vs dv) (hj : ¬ j < 0 ∧ j < z) (hv : vs.getD j.toNatClampNeg dv = v) (d : decode bytes pc = .ok (.laload, 1)) (hp : pc + 1 = pc')
    (G : own_Go p e below (T.setTop (mkF m pc' Ls (v :: st))) P) : own_Go p e below (T.setTop (mkF m pc Ls (.int j :: .ref a :: st))) P := by
  obtain ⟨locs, X, eT, -⟩ := X
  subst hp
  obtain ⟨cl, A, -, S, N, H, -⟩ := V
  have hin := inb_of S hj
  exact own_by (fun t => X.laload B.1 (j := j) (v := v) (by rw [eT]; exact A.1) (State.isArrayOf_alike B.2.1.alike A.2.1) A.2.2 hin (H.at hin hv) (g := mkF m pc Ls (.int j :: .ref a :: st)) rfl rfl (hb B.2.2.2.2.2.2.2 d) t) G
theorem own_lastore (B : own_B p s m meth c Z own nm bytes maxL ret) (X : own_S p l e R s m args below meth c n0 T h cells slots) {a : Addr} {k : ClassId} {z : Int32} {vs : List Value} {dv : Value} {j : Int32} {x x' : Int64} (V : Arv Z h a k .long z vs dv) (ge : n0 ≤ a) (hj : ¬ j < 0 ∧ j < z) (i : Nat) (hi : j.toNatClampNeg = i) (hl : i < vs.length) (hz : x = x') (d : decode bytes pc = .ok (.lastore, 1)) (hp : pc + 1 = pc')
    (G : ∀ T' h', own_S p l e R s m args below meth c n0 T' h' cells slots → Wr h h' a i (.long x') → Arv Z h' a k .long z (vs.set i (.long x')) dv → own_Go p e below (T'.setTop (mkF m pc' Ls st)) P) : own_Go p e below (T.setTop (mkF m pc Ls (.long x :: .int j :: .ref a :: st))) P := by
  obtain ⟨locs, X, eT, N0⟩ := X
  subst hp hi hz
  obtain ⟨cl, A, q, S, N, H, F⟩ := V
  have hin := inb_of S hj
  obtain ⟨T', h', X', e', W, st'⟩ := stJ X B.1 B.2.1 eT A (j := j) hin (g := mkF m pc Ls (.long x :: .int j :: .ref a :: st)) rfl rfl (hb B.2.2.2.2.2.2.2 d)
  exact own_by st' (G T' h' ⟨_, X', e', Fr.snoc X' N0 ge⟩ W (Arv.set A q S N H F rfl W _ rfl hl))
theorem own_newarray (B : own_B p s m meth c Z own nm bytes maxL ret) (X : own_S p l e R s m args below meth c n0 T h cells slots) {aty : ArrayType} {t : FieldType} (w : (Cond.arrayClass t).before a0 Z = true) (d : decode bytes pc = .ok (.newarray aty, 2)) (hp : pc + 2 = pc') (hty : newarray.typeOf aty = t) {z : Int32} (hz : ¬ z < 0) (cap : Nat) (hcap : z.toNatClampNeg ≤ cap) (hbig : cap * 8 ≤ 536870912) {k' n' : Nat} (hk : cells + 1 = k') (hn : slots + cap = n') (hkR : k' ≤ R.cells) (hnR : n' ≤ R.slots) (ad : String) (had : "[" ++ (newarray.typeOf aty).toString = ad) (dv : Value) (hdv : defaultValue t = dv)
    (G : ∀ T' h' b k, own_S p l e R s m args below meth c n0 T' h' k' n' → b = h.size → Ext h h' → Arv Z h' b k t z [] dv → Exa Z h' b ad → own_Go p e below (T'.setTop (mkF m pc' Ls (.ref b :: st))) P) : own_Go p e below (T.setTop (mkF m pc Ls (.int z :: st))) P := by
  obtain ⟨locs, X, eT, N0⟩ := X
  subst hp hk hn hdv hty
  obtain ⟨T', h', kA, X', e', E, A, A', st'⟩ := newPE X B.1 B.2.1 w eT (g := mkF m pc Ls (.int z :: st)) rfl (hb B.2.2.2.2.2.2.2 d) rfl hz (cap := cap) hcap hbig hkR hnR had
  exact own_by st' (G T' h' _ kA ⟨_, X', e', N0⟩ rfl E (Arv.new A hz) A')
theorem own_retN {t : FieldType} (B : own_B p s m meth c Z own nm bytes maxL (some t)) (X : own_S p l e R s m args below meth c n0 T h cells slots) {Q : Option Value → Heap → Prop} {k n : Nat} {z z' : Int32} (ht : t = .boolean ∨ t = .byte ∨ t = .char ∨ t = .short) (hz : nar t z = z') (d : decode bytes pc = .ok (.ireturn, 1)) (hk : cells ≤ k) (hn : slots ≤ n) (hq : Q (some (.int z')) h) : own_Go p e below (T.setTop (mkF m pc Ls (.int z :: st))) (own_P s below n0 Q k n) := by
  subst hz
  obtain ⟨locs, X, eT, N0⟩ := X
  obtain ⟨fs, hr, hrun, hended, hW, hsame⟩ := X.leave (v := (some (.int (nar t z)))) (fun h => by rw [B.2.2.2.2.1] at h; cases h) B.2.2.2.2.2.1
  exact ⟨_, _, retN X B.1 B.2.2.2.2.1 ht (hb B.2.2.2.2.2.2.2 d) hr, hrun, hended, _, _, rfl, ⟨N0, by show Q _ T.heap; rw [eT]; exact hq⟩, ⟨_, rfl⟩, hW, hsame.mono hk hn⟩
theorem own_ret (B : own_B p s m meth c Z own nm bytes maxL none) (X : own_S p l e R s m args below meth c n0 T h cells slots) {Q : Option Value → Heap → Prop} {k n : Nat} (d : decode bytes pc = .ok (.return_, 1)) (hk : cells ≤ k) (hn : slots ≤ n) (hq : Q none h) : own_Go p e below (T.setTop (mkF m pc Ls [])) (own_P s below n0 Q k n) := by
  obtain ⟨locs, X, eT, N0⟩ := X
  obtain ⟨fs, hr, hrun, hended, hW, hsame⟩ := X.leave (v := none) (fun _ => rfl) B.2.2.2.2.2.1
  exact ⟨_, _, X.returnOut B.1 B.2.2.2.2.1 (hb B.2.2.2.2.2.2.2 d) hr, hrun, hended, _, _, rfl, ⟨N0, by show Q _ T.heap; rw [eT]; exact hq⟩, ⟨_, rfl⟩, hW, hsame.mono hk hn⟩
theorem own_enter {y : MethodName} {rm : Room} {ws : List Jvm.Cond} {as' : Array Value} {Q : Option Value → Heap → Prop} {F : MethodId → JFrame} (hpl : plainFor y = true) (hF : ∀ m, entryFrame m as' maxL = F m)
    (body : ∀ p e s m below meth c s₁, own_B p s m meth c Z y.cls y.name bytes maxL ret → own_S p l e rm s m as' below meth c n0 s₁ h0 0 0 → own_Go p e below (s₁.setTop (F m)) (own_P s below n0 Q rm.cells rm.slots)) :
    MetFree l y (head1 (Jvm.Cond.code y bytes maxL ret :: ws) rm) (fun a U => a = as' ∧ Z.Warmed39 U.vm ∧ U.heap = h0) (fun _ _ _ _ _ => True) (fun _ U o U' => ∃ v L, o = .returned v ∧ (Fr n0 L ∧ Q v U'.heap) ∧ FrameEnd U o U' L rm.cells rm.slots) := by
  refine MetFree.of_bodySF hpl hisR ?_
  intro p e s m args below meth c s₁ Bd hml0 hP hK
  obtain ⟨rfl, hZ, hh⟩ := hP
  have e0 : s₁.heap = h0 := by rw [← hh, Bd.state]; rfl
  have nm := (name_of_methodNamed Bd.named Bd.method).1
  obtain ⟨a, o, h1, h2⟩ := body p e s m below meth c s₁ ⟨Bd.exec, hZ, hml0, findClass_of_methodNamed Bd.named, Bd.returns, Bd.notSynchronized, nm, Bd.bytes⟩ ⟨[], Stand.of_body Bd, e0, Fr.nil n0⟩
  exact ⟨a, o, castTop (hF m) h1, h2⟩
theorem own_callS (B : own_B p s m meth c Z own nm bytes maxL ret) (X : own_S p l e R s m args below meth c n0 T h cells slots) {i : Nat} {y : MethodName} {yb : ByteArray} {yl : Nat} {yr : Option FieldType} (w1 : (Cond.methodLink own i y).before a0 Z = true) (w2 : (Cond.static y).before a0 Z = true) (w3 : (Cond.initialized y.cls).before a0 Z = true) (w4 : (Cond.code y yb yl yr).before a0 Z = true) (hy : y.cls ≠ "java/lang/invoke/MethodHandle" ∧ y.cls ≠ "java/lang/invoke/VarHandle") {rm : Room} {Q : Option Value → Heap → Prop} (argsL rest : List Value)
    (hM : MetFree l y (head1 [Jvm.Cond.code y yb yl yr] rm) (fun b U => b = argsL.toArray ∧ Z.Warmed39 U.vm ∧ U.heap = h) (fun _ _ _ _ _ => True) (fun _ U o U' => ∃ v L, o = .returned v ∧ (Fr n0 L ∧ Q v U'.heap) ∧ FrameEnd U o U' L rm.cells rm.slots))
    (W : Nat) (hf : rm.frames + 1 ≤ R.frames) (hl : W + (yl + 11) + rm.locals ≤ R.locals) (hsz : Ls.size = maxL) {ps : List FieldType} {rt : Option FieldType} (hpd : parseMethodDescriptor y.desc = some ⟨ps, rt⟩) (hln : argsL.length = ps.length) (hst : st = argsL.reverse ++ rest) (hW : (rest.map fun v => v.category).sum ≤ W) (d : decode bytes pc = .ok (.invokestatic i, 3)) (hp : pc + 3 = pc') {k' n' : Nat} (hk : cells + rm.cells = k') (hn : slots + rm.slots = n') (hkR : k' ≤ R.cells) (hnR : n' ≤ R.slots)
    (G : ∀ T' v h', own_S p l e R s m args below meth c n0 T' h' k' n' → Q v h' → own_Go p e below (T'.setTop (mkF m pc' Ls (v.toList ++ rest))) P) : own_Go p e below (T.setTop (mkF m pc Ls st)) P := by
  obtain ⟨locs, X, eT, N0⟩ := X
  subst hp hk hn
  have bk := backOf (p := p) (e := e) (below := below) (args := args) (len := 3) (W := W) (Q := fun v h' L => Fr n0 L ∧ Q v h') hM B.2.1 w4 w3 hf hl
  obtain ⟨v, vm₁, ⟨T', L', k1, n1⟩, hW1, X', ⟨Lc, hQ, l1, y1, z1⟩, stp⟩ := Jvm.LawKit.callS X B.1 (y := y) B.2.2.2.1 (mvT B.2.1 w1) (mvT B.2.1 w2) (mvT B.2.1 w3) (mvT B.2.1 w4) hy bk (g := mkF m pc Ls st) rfl (by rw [B.2.2.1]; exact hsz) (argsL := argsL) (rest := rest) (lenOf hpd hln) hst (by show 2 * 0 + _ ≤ _; omega) (hb B.2.2.2.2.2.2.2 d) (fun _ _ => ⟨rfl, eT, hkR, hnR⟩)
  dsimp only [Pt.U, Pt.locs, Pt.cells, Pt.slots] at X' l1 y1 z1 stp hQ
  subst l1 y1 z1
  exact own_by stp (G T' v _ ⟨_, X', rfl, N0.app hQ.1⟩ hQ.2)
theorem own_sz {h1 : Heap} {ws : List Addr} {b : Addr} (K : Keep h0 h1 ws) (g : b = h1.size) : h0.size ≤ b := g ▸ K.1
theorem own_ne {h1 : Heap} {x b : Addr} (q : x < h1.size) (g : b = h1.size) : x ≠ b := fun u => by rw [u, g] at q; exact Nat.lt_irrefl _ q
end OwnKit
section OwnNum
theorem own_w {a0 : Array Value} {Z : State} (hw : ∀ d ∈ tables_1, d.before a0 Z = true) (i : Nat) {d : Jvm.Cond} (hd : tables_1[i]? = some d) : d.before a0 Z = true := hw _ (List.mem_of_getElem? hd)
theorem own_nlt {x y : Int32} (h : ¬ x < y) : ¬ x.toInt < y.toInt := fun q => h (Int32.lt_iff_toInt_lt.mpr q)
theorem own_eq {x y : Int32} (h : x = y) : x.toInt = y.toInt := congrArg Int32.toInt h
theorem own_neq {x y : Int32} (h : ¬ x = y) : ¬ x.toInt = y.toInt := fun q => h (Int32.toInt_inj.mp q)
theorem own_eqL {x y : Int64} (h : x = y) : x.toInt = y.toInt := congrArg Int64.toInt h
theorem own_neqL {x y : Int64} (h : ¬ x = y) : ¬ x.toInt = y.toInt := fun q => h (Int64.toInt_inj.mp q)
theorem own_ltI {x y : Int32} (h : x.toInt < y.toInt) : x < y := Int32.lt_iff_toInt_lt.mpr h
theorem own_nltI {x y : Int32} (h : ¬ x.toInt < y.toInt) : ¬ x < y := fun q => h (Int32.lt_iff_toInt_lt.mp q)
theorem own_eqI {x y : Int32} (h : x.toInt = y.toInt) : x = y := Int32.toInt_inj.mp h
theorem own_o_iadd {x y z : Int32} (h : x + y = z) : (z.toInt - (x.toInt + y.toInt)) % 4294967296 = 0 := h ▸ c_iadd x y
theorem own_o_isub {x y z : Int32} (h : x - y = z) : (z.toInt - (x.toInt - y.toInt)) % 4294967296 = 0 := h ▸ c_isub x y
theorem own_o_mask {x m z : Int32} (h : x &&& m = z) (k : Nat) (hk : k ≤ 31) (hm : m.toBitVec.toNat = 2 ^ k - 1) : z.toInt = x.toInt % (2 ^ k : Nat) := h ▸ c_mask x m k hk hm
theorem own_o_maskL {x m z : Int64} (h : x &&& m = z) (k : Nat) (hk : k ≤ 63) (hm : m.toBitVec.toNat = 2 ^ k - 1) : z.toInt = x.toInt % (2 ^ k : Nat) := h ▸ c_maskL x m k hk hm
theorem own_o_irem {x y z : Int32} (h : x % y = z) (d : Int) (hy : y.toInt = d) : (0 ≤ x.toInt → z.toInt = x.toInt % d) ∧ (x.toInt < 0 → z.toInt = -((-x.toInt) % d)) := h ▸ c_irem x y d hy
theorem own_o_iushr {x q z : Int32} (h : (x.toUInt32 >>> (q &&& 31).toUInt32).toInt32 = z) (k : Nat) (hk : q.toBitVec.toNat % 32 = k) (h0 : 0 < k) : z.toInt = (x.toInt % 4294967296) / (2 ^ k : Nat) := h ▸ c_iushr x q k hk h0
theorem own_lcm {x y : Int64} {z : Int32} (h : lcmpW x y = z) {P : Int32 → Prop} (q : P (lcmpW x y)) : P z := h ▸ q
end OwnNum
/-- the n-th bit -/
def own_tb (x : Int64) (n : Nat) : Bool := x.toBitVec.getLsbD n
theorem own_shamt (k : Int32) (h0 : 0 ≤ k.toInt) (h1 : k.toInt < 64) : (k &&& 0x3f).toInt64.toBitVec.toNat = k.toInt.toNat ∧ (k &&& 0x3f).toInt64.toInt = k.toInt := by
  have e : (k &&& 0x3f) = k := by
    apply Int32.toBitVec_inj.mp
    apply BitVec.eq_of_toNat_eq
    have hk : k.toBitVec.toNat < 64 := by
      have : k.toInt = (k.toBitVec.toNat : Int) := by
        rw [Int32.toInt, BitVec.toInt_eq_toNat_cond] at *
        split at h0 <;> simp_all
        have := k.toBitVec.isLt; omega
      omega
    have : (k &&& 0x3f).toBitVec.toNat = k.toBitVec.toNat &&& 63 := by simp
    rw [this]
    have := Nat.and_two_pow_sub_one_eq_mod k.toBitVec.toNat 6
    simp only [Nat.reducePow, Nat.reduceSub] at this
    omega
  rw [e]
  have e2 : k.toInt64.toInt = k.toInt := Int32.toInt_toInt64 k
  refine ⟨?_, e2⟩
  have : k.toInt64.toInt = (k.toInt64.toBitVec.toNat : Int) := by
    have hh : 0 ≤ k.toInt64.toInt := by omega
    rw [Int64.toInt, BitVec.toInt_eq_toNat_cond] at *
    split at hh <;> simp_all
    have := k.toInt64.toBitVec.isLt; omega
  omega
theorem own_tb_ushr {x y : Int64} {k : Int32} (h : (x.toUInt64 >>> (k &&& 0x3f).toInt64.toUInt64).toInt64 = y) (h0 : 0 ≤ k.toInt) (h1 : k.toInt < 64) (n : Nat) : own_tb y n = own_tb x (k.toInt.toNat + n) := by
  subst h
  have e := (own_shamt k h0 h1).1
  unfold own_tb
  show ((x.toBitVec >>> ((k &&& 0x3f).toInt64.toBitVec % 64))).getLsbD n = _
  have e2 : ((k &&& 0x3f).toInt64.toBitVec % 64).toNat = k.toInt.toNat := by
    rw [BitVec.toNat_umod, e]; show _ % 64 = _; omega
  rw [BitVec.ushiftRight_eq', e2, BitVec.getLsbD_ushiftRight]
theorem own_tb_shl {x y : Int64} {k : Int32} (h : x <<< (k &&& 0x3f).toInt64 = y) (h0 : 0 ≤ k.toInt) (h1 : k.toInt < 64) (n : Nat) (hn : n < 64) : own_tb y n = (!decide (n < k.toInt.toNat) && own_tb x (n - k.toInt.toNat)) := by
  subst h
  have e := (own_shamt k h0 h1).1
  have e' := (own_shamt k h0 h1).2
  unfold own_tb
  have e2 : ((k &&& 0x3f).toInt64.toBitVec.smod 64).toNat = k.toInt.toNat := by
    generalize hq : (k &&& 0x3f).toInt64 = q at *
    have hs : (q.toBitVec.smod 64).toInt = k.toInt := by
      rw [BitVec.toInt_smod]
      show q.toInt.fmod 64 = _
      rw [e', Int.fmod_eq_emod_of_nonneg _ (by decide)]; omega
    have : (q.toBitVec.smod 64).toInt = ((q.toBitVec.smod 64).toNat : Int) := by
      have hh : 0 ≤ (q.toBitVec.smod 64).toInt := by omega
      rw [BitVec.toInt_eq_toNat_cond] at *
      split at hh <;> simp_all
      have := (q.toBitVec.smod 64).isLt; omega
    omega
  show (x.toBitVec <<< ((k &&& 0x3f).toInt64.toBitVec.smod 64)).getLsbD n = _
  rw [BitVec.shiftLeft_eq', e2, BitVec.getLsbD_shiftLeft]
  simp [hn]
theorem own_tb_or {x y z : Int64} (h : x ||| y = z) (n : Nat) : own_tb z n = (own_tb x n || own_tb y n) := by
  subst h; simp [own_tb]
theorem own_tb_far (x : Int64) (n : Nat) (h : 64 ≤ n) : own_tb x n = false := BitVec.getLsbD_of_ge _ _ h
theorem own_tb_zero {x : Int64} (h : x = 0) (n : Nat) : own_tb x n = false := by subst h; simp [own_tb]
theorem own_tb_one (y : Int64) : (y &&& (1 : Int64) = 0) ↔ own_tb y 0 = false := by
  unfold own_tb
  rw [← Int64.toBitVec_inj]
  constructor
  · intro h
    have := congrArg (fun b => BitVec.getLsbD b 0) h
    simpa using this
  · intro h
    ext i hi
    by_cases hi0 : i = 0
    · subst hi0; simpa [BitVec.getLsbD_eq_getElem] using h
    · simp [BitVec.getElem_one, hi0]
theorem own_bitF {x y z : Int64} {k : Int32} (h : (x.toUInt64 >>> (k &&& 0x3f).toInt64.toUInt64).toInt64 = y) (h' : y &&& (1 : Int64) = z) (h0 : 0 ≤ k.toInt) (h1 : k.toInt < 64) (hz : z = 0) : own_tb x k.toInt.toNat = false := by
  have := own_tb_ushr h h0 h1 0
  rw [Nat.add_zero] at this
  rw [← this]; exact (own_tb_one y).mp (h'.trans hz)
theorem own_bitT {x y z : Int64} {k : Int32} (h : (x.toUInt64 >>> (k &&& 0x3f).toInt64.toUInt64).toInt64 = y) (h' : y &&& (1 : Int64) = z) (h0 : 0 ≤ k.toInt) (h1 : k.toInt < 64) (hz : ¬ z = 0) : own_tb x k.toInt.toNat = true := by
  have := own_tb_ushr h h0 h1 0
  rw [Nat.add_zero] at this
  rw [← this]
  cases hq : own_tb y 0
  · exact absurd (h'.symm.trans ((own_tb_one y).mpr hq)) hz
  · rfl
theorem own_ltz {d : Int32} (h : d < (0 : Int32)) : d.toInt < 0 := Int32.lt_iff_toInt_lt.mp h
theorem own_nltz {d : Int32} (h : ¬ d < (0 : Int32)) : ¬ d.toInt < 0 := fun q => h (Int32.lt_iff_toInt_lt.mpr q)
theorem own_gez {d : Int32} (h : ¬ d < (0 : Int32)) : 0 ≤ d.toInt := Int.not_lt.mp (own_nltz h)
theorem own_lt64 {d : Int32} (h : d < (64 : Int32)) : d.toInt < 64 := Int32.lt_iff_toInt_lt.mp h
theorem own_nlt64 {d : Int32} (h : ¬ d < (64 : Int32)) : ¬ d.toInt < 64 := fun q => h (Int32.lt_iff_toInt_lt.mpr q)
theorem own_bitA {t x y bits : Int64} {sh qk d : Int32} (hS : 0 ≤ sh.toInt ∧ sh.toInt < 64) (hK : 0 ≤ qk.toInt ∧ qk.toInt < 64) (hd : d.toInt = 64 * 0 + qk.toInt - sh.toInt) (hy : bits <<< (sh &&& 0x3f).toInt64 = y) (hx : t ||| y = x) :
    own_tb x qk.toInt.toNat = (own_tb t qk.toInt.toNat || (!decide (d.toInt < 0) && own_tb bits d.toInt.toNat)) := by
  rw [own_tb_or hx, own_tb_shl hy hS.1 hS.2 _ (by omega)]
  by_cases h : d.toInt < 0
  · rw [decide_eq_true h, decide_eq_true (show qk.toInt.toNat < sh.toInt.toNat by omega)]; simp
  · rw [decide_eq_false h, decide_eq_false (show ¬ qk.toInt.toNat < sh.toInt.toNat by omega), show qk.toInt.toNat - sh.toInt.toNat = d.toInt.toNat by omega]
theorem own_bitB {t x y bits : Int64} {sh qk d m : Int32} (hS : 0 ≤ sh.toInt ∧ sh.toInt < 64) (hK : 0 ≤ qk.toInt ∧ qk.toInt < 64) (hd : d.toInt = 64 * 1 + qk.toInt - sh.toInt) (hm : (64 : Int32) - sh = m) (hs : ¬ sh = 0) (hy : (bits.toUInt64 >>> (m &&& 0x3f).toInt64.toUInt64).toInt64 = y) (hx : t ||| y = x) :
    own_tb x qk.toInt.toNat = (own_tb t qk.toInt.toNat || (decide (d.toInt < 64) && own_tb bits d.toInt.toNat)) := by
  have h1 : sh.toInt ≠ 0 := fun q => hs (Int32.toInt_inj.mp q)
  have h2 : m.toInt = 64 - sh.toInt := by
    subst hm; rw [Int32.toInt_sub]; show Int.bmod (64 - sh.toInt) _ = _
    rw [Int.bmod_eq_of_le] <;> omega
  rw [own_tb_or hx, own_tb_ushr hy (by omega) (by omega)]
  by_cases h : d.toInt < 64
  · rw [decide_eq_true h, show m.toInt.toNat + qk.toInt.toNat = d.toInt.toNat by omega]; simp
  · rw [decide_eq_false h, own_tb_far _ _ (show 64 ≤ m.toInt.toNat + qk.toInt.toNat by omega)]; simp
theorem own_bitC {y bits : Int64} {sh qk d m : Int32} (hS : 0 ≤ sh.toInt ∧ sh.toInt < 64) (hK : 0 ≤ qk.toInt ∧ qk.toInt < 64) (hd : d.toInt = 64 * 1 + qk.toInt - sh.toInt) (hm : (64 : Int32) - sh = m) (hs : ¬ sh = 0) (hy : (bits.toUInt64 >>> (m &&& 0x3f).toInt64.toUInt64).toInt64 = y) (hz : y = 0) (h : d.toInt < 64) : own_tb bits d.toInt.toNat = false := by
  have h1 : sh.toInt ≠ 0 := fun q => hs (Int32.toInt_inj.mp q)
  have h2 : m.toInt = 64 - sh.toInt := by
    subst hm; rw [Int32.toInt_sub]; show Int.bmod (64 - sh.toInt) _ = _
    rw [Int.bmod_eq_of_le] <;> omega
  have := own_tb_zero hz qk.toInt.toNat
  rw [own_tb_ushr hy (by omega) (by omega), show m.toInt.toNat + qk.toInt.toNat = d.toInt.toNat by omega] at this
  exact this
theorem own_dist {q pl d qk sh : Int32} {a b : Int} (h : q - pl = d) (h1 : pl.toInt = 64 * a + sh.toInt) (h2 : q.toInt = 64 * b + qk.toInt) (hS : 0 ≤ sh.toInt ∧ sh.toInt < 64) (hK : 0 ≤ qk.toInt ∧ qk.toInt < 64) (ha : 0 ≤ a ∧ a < 4) (hb : 0 ≤ b ∧ b < 4) {k : Int} (hk : b - a = k) : d.toInt = 64 * k + qk.toInt - sh.toInt := by
  subst h; rw [Int32.toInt_sub, Int.bmod_eq_of_le] <;> omega

theorem d1_0 : decode prog_165_method_5_code 0 = .ok (.iload_n 2, 1) := by decide +kernel
theorem d1_1 : decode prog_165_method_5_code 1 = .ok (.iload_n 1, 1) := by decide +kernel
theorem d1_2 : decode prog_165_method_5_code 2 = .ok (.isub, 1) := by decide +kernel
theorem d1_3 : decode prog_165_method_5_code 3 = .ok (.istore 5, 2) := by decide +kernel
theorem d1_5 : decode prog_165_method_5_code 5 = .ok (.iload 5, 2) := by decide +kernel
theorem d1_7 : decode prog_165_method_5_code 7 = .ok (.bipush 6, 2) := by decide +kernel
theorem d1_9 : decode prog_165_method_5_code 9 = .ok (.iushr, 1) := by decide +kernel
theorem d1_10 : decode prog_165_method_5_code 10 = .ok (.istore 6, 2) := by decide +kernel
theorem d1_12 : decode prog_165_method_5_code 12 = .ok (.iload 5, 2) := by decide +kernel
theorem d1_14 : decode prog_165_method_5_code 14 = .ok (.bipush 63, 2) := by decide +kernel
theorem d1_16 : decode prog_165_method_5_code 16 = .ok (.iand, 1) := by decide +kernel
theorem d1_17 : decode prog_165_method_5_code 17 = .ok (.istore 7, 2) := by decide +kernel
theorem d1_19 : decode prog_165_method_5_code 19 = .ok (.aload_n 0, 1) := by decide +kernel
theorem d1_20 : decode prog_165_method_5_code 20 = .ok (.iload 6, 2) := by decide +kernel
theorem d1_22 : decode prog_165_method_5_code 22 = .ok (.dup2, 1) := by decide +kernel
theorem d1_23 : decode prog_165_method_5_code 23 = .ok (.laload, 1) := by decide +kernel
theorem d1_24 : decode prog_165_method_5_code 24 = .ok (.lload_n 3, 1) := by decide +kernel
theorem d1_25 : decode prog_165_method_5_code 25 = .ok (.iload 7, 2) := by decide +kernel
theorem d1_27 : decode prog_165_method_5_code 27 = .ok (.lshl, 1) := by decide +kernel
theorem d1_28 : decode prog_165_method_5_code 28 = .ok (.lor, 1) := by decide +kernel
theorem d1_29 : decode prog_165_method_5_code 29 = .ok (.lastore, 1) := by decide +kernel
theorem d1_30 : decode prog_165_method_5_code 30 = .ok (.iload 7, 2) := by decide +kernel
theorem d1_32 : decode prog_165_method_5_code 32 = .ok (.ifCond .ne 7, 3) := by decide +kernel
theorem d1_35 : decode prog_165_method_5_code 35 = .ok (.lconst 0, 1) := by decide +kernel
theorem d1_36 : decode prog_165_method_5_code 36 = .ok (.goto 10, 3) := by decide +kernel
theorem d1_46 : decode prog_165_method_5_code 46 = .ok (.lstore 8, 2) := by decide +kernel
theorem d1_48 : decode prog_165_method_5_code 48 = .ok (.lload 8, 2) := by decide +kernel
theorem d1_50 : decode prog_165_method_5_code 50 = .ok (.lconst 0, 1) := by decide +kernel
theorem d1_51 : decode prog_165_method_5_code 51 = .ok (.lcmp, 1) := by decide +kernel
theorem d1_52 : decode prog_165_method_5_code 52 = .ok (.ifCond .eq 14, 3) := by decide +kernel
theorem d1_66 : decode prog_165_method_5_code 66 = .ok (.return_, 1) := by decide +kernel
theorem d1_39 : decode prog_165_method_5_code 39 = .ok (.lload_n 3, 1) := by decide +kernel
theorem d1_40 : decode prog_165_method_5_code 40 = .ok (.bipush 64, 2) := by decide +kernel
theorem d1_42 : decode prog_165_method_5_code 42 = .ok (.iload 7, 2) := by decide +kernel
theorem d1_44 : decode prog_165_method_5_code 44 = .ok (.isub, 1) := by decide +kernel
theorem d1_45 : decode prog_165_method_5_code 45 = .ok (.lushr, 1) := by decide +kernel
theorem d1_55 : decode prog_165_method_5_code 55 = .ok (.aload_n 0, 1) := by decide +kernel
theorem d1_56 : decode prog_165_method_5_code 56 = .ok (.iload 6, 2) := by decide +kernel
theorem d1_58 : decode prog_165_method_5_code 58 = .ok (.iconst 1, 1) := by decide +kernel
theorem d1_59 : decode prog_165_method_5_code 59 = .ok (.iadd, 1) := by decide +kernel
theorem d1_60 : decode prog_165_method_5_code 60 = .ok (.dup2, 1) := by decide +kernel
theorem d1_61 : decode prog_165_method_5_code 61 = .ok (.laload, 1) := by decide +kernel
theorem d1_62 : decode prog_165_method_5_code 62 = .ok (.lload 8, 2) := by decide +kernel
theorem d1_64 : decode prog_165_method_5_code 64 = .ok (.lor, 1) := by decide +kernel
theorem d1_65 : decode prog_165_method_5_code 65 = .ok (.lastore, 1) := by decide +kernel
theorem pn_0 : plainName "com/example/tideline/tideline/model/BitTable" = true := by first | (simp [plainName, overriddenIn]; done) | decide +kernel
theorem pd_0 : parseMethodDescriptor "([JIIJ)V" = some ⟨[(.array .long), .int, .int, .long], none⟩ := by decide +kernel
theorem d2_0 : decode method_2_code 0 = .ok (.aload_n 0, 1) := by decide +kernel
theorem d2_1 : decode method_2_code 1 = .ok (.iload_n 1, 1) := by decide +kernel
theorem d2_2 : decode method_2_code 2 = .ok (.bipush 6, 2) := by decide +kernel
theorem d2_4 : decode method_2_code 4 = .ok (.iushr, 1) := by decide +kernel
theorem d2_5 : decode method_2_code 5 = .ok (.laload, 1) := by decide +kernel
theorem d2_6 : decode method_2_code 6 = .ok (.iload_n 1, 1) := by decide +kernel
theorem d2_7 : decode method_2_code 7 = .ok (.bipush 63, 2) := by decide +kernel
theorem d2_9 : decode method_2_code 9 = .ok (.iand, 1) := by decide +kernel
theorem d2_10 : decode method_2_code 10 = .ok (.lushr, 1) := by decide +kernel
theorem d2_11 : decode method_2_code 11 = .ok (.lconst 1, 1) := by decide +kernel
theorem d2_12 : decode method_2_code 12 = .ok (.land, 1) := by decide +kernel
theorem d2_13 : decode method_2_code 13 = .ok (.lconst 0, 1) := by decide +kernel
theorem d2_14 : decode method_2_code 14 = .ok (.lcmp, 1) := by decide +kernel
theorem d2_15 : decode method_2_code 15 = .ok (.ifCond .eq 7, 3) := by decide +kernel
theorem d2_22 : decode method_2_code 22 = .ok (.iconst 0, 1) := by decide +kernel
theorem d2_23 : decode method_2_code 23 = .ok (.ireturn, 1) := by decide +kernel
theorem d2_18 : decode method_2_code 18 = .ok (.iconst 1, 1) := by decide +kernel
theorem d2_19 : decode method_2_code 19 = .ok (.goto 4, 3) := by decide +kernel
theorem pn_1 : plainName "com/example/tideline/tideline/model/BitTableOrPinLaw" = true := by first | (simp [plainName, overriddenIn]; done) | decide +kernel
theorem pd_1 : parseMethodDescriptor "([JI)Z" = some ⟨[(.array .long), .int], some .boolean⟩ := by decide +kernel
def Q_1 (Z : State) (w0 : Addr) (kw0 : ClassId) (q2 : Int64) (q3 : Int64) (q4 : Int64) (p5 : Int32) (p6 : Int32) (q7 : Int64) (p8 : Int32) (p9 : Int32) (h0 : Heap) (n0 : Nat) (v : Option Value) (h : Heap) : Prop :=
  (∃ (y1 : Int64) (y2 : Int64), q7 <<< (p9 &&& 0x3f).toInt64 = y1 ∧ q2 ||| y1 = y2 ∧ p9 = (0 : Int32) ∧ v = none ∧ Keep h0 h [w0] ∧ Exa Z h w0 "[J" ∧ Arv Z h w0 kw0 .long (3 : Int32) [(.long y2), (.long q3), (.long q4)] (.long (0 : Int64))) ∨
  (∃ (y1 : Int64) (y2 : Int64) (y5 : Int32) (y6 : Int64), q7 <<< (p9 &&& 0x3f).toInt64 = y1 ∧ q2 ||| y1 = y2 ∧ ¬ (p9 = (0 : Int32)) ∧ (64 : Int32) - p9 = y5 ∧ (q7.toUInt64 >>> (y5 &&& 0x3f).toInt64.toUInt64).toInt64 = y6 ∧ y6 = (0 : Int64) ∧ v = none ∧ Keep h0 h [w0] ∧ Exa Z h w0 "[J" ∧ Arv Z h w0 kw0 .long (3 : Int32) [(.long y2), (.long q3), (.long q4)] (.long (0 : Int64))) ∨
  (∃ (y1 : Int64) (y2 : Int64) (y5 : Int32) (y6 : Int64) (y9 : Int64), q7 <<< (p9 &&& 0x3f).toInt64 = y1 ∧ q2 ||| y1 = y2 ∧ ¬ (p9 = (0 : Int32)) ∧ (64 : Int32) - p9 = y5 ∧ (q7.toUInt64 >>> (y5 &&& 0x3f).toInt64.toUInt64).toInt64 = y6 ∧ ¬ (y6 = (0 : Int64)) ∧ q3 ||| y6 = y9 ∧ v = none ∧ Keep h0 h [w0] ∧ Exa Z h w0 "[J" ∧ Arv Z h w0 kw0 .long (3 : Int32) [(.long y2), (.long y9), (.long q4)] (.long (0 : Int64)))
set_option maxRecDepth 65536 in
set_option maxHeartbeats 40000000 in
theorem rm_1 (l : Launch) (Z : State) (a0 : Array Value) (hw : ∀ d ∈ tables_1, d.before a0 Z = true) (ws : List Jvm.Cond) (w0 : Addr) (kw0 : ClassId) (q2 : Int64) (q3 : Int64) (q4 : Int64) (p5 : Int32) (p6 : Int32) (q7 : Int64) (p8 : Int32) (p9 : Int32) (h0 : Heap) (n0 : Nat) (Z0 : n0 ≤ h0.size) (E_w0 : Exa Z h0 w0 "[J") (V_w0 : Arv Z h0 w0 kw0 .long (3 : Int32) [(.long q2), (.long q3), (.long q4)] (.long (0 : Int64))) (g_w0 : n0 ≤ w0) (hp0 : p6 - p5 = p8) (hp1 : p8 &&& (63 : Int32) = p9) (hp2 : (p8.toUInt32 >>> ((6 : Int32) &&& 31).toUInt32).toInt32 = (0 : Int32)) :
    MetFree l (⟨"com/example/tideline/tideline/model/BitTable", "or", "([JIIJ)V"⟩ : MethodName) (head1 (Jvm.Cond.code (⟨"com/example/tideline/tideline/model/BitTable", "or", "([JIIJ)V"⟩ : MethodName) prog_165_method_5_code 10 none :: ws) ({ frames := 0, cells := 0, slots := 0, locals := 0 } : Room)) (fun a U => a = #[(.ref w0), (.int p5), (.int p6), (.long q7)] ∧ Z.Warmed39 U.vm ∧ U.heap = h0) (fun _ _ _ _ _ => True) (fun _ U o U' => ∃ v L, o = .returned v ∧ (Fr n0 L ∧ Q_1 Z w0 kw0 q2 q3 q4 p5 p6 q7 p8 p9 h0 n0 v U'.heap) ∧ FrameEnd U o U' L ({ frames := 0, cells := 0, slots := 0, locals := 0 } : Room).cells ({ frames := 0, cells := 0, slots := 0, locals := 0 } : Room).slots) := by
  refine own_enter (Q := Q_1 Z w0 kw0 q2 q3 q4 p5 p6 q7 p8 p9 h0 n0) (F := fun m => mkF m 0 #[.val (.ref w0), .val (.int p5), .val (.int p6), .val (.long q7), .second, .unset, .unset, .unset, .unset, .unset] []) (plainFor_of_name pn_0) (fun m => by first | (simp [entryFrame, mkF, argsToLocals, Value.category]; done) | rfl) ?_
  intro p e s m below meth c s₁ B X0
  have K : Keep h0 h0 [w0] := Keep.refl h0 _
  refine own_iloadN (pc' := 1) B X0 d1_0 rfl rfl ?_
  refine own_iloadN (pc' := 2) B X0 d1_1 rfl rfl ?_
  refine own_isub (pc' := 3) B X0 d1_2 rfl hp0 ?_
  refine own_istore (pc' := 5) B X0 (Ls' := #[.val (.ref w0), .val (.int p5), .val (.int p6), .val (.long q7), .second, .val (.int p8), .unset, .unset, .unset, .unset]) d1_3 rfl rfl ?_
  refine own_iload (pc' := 7) B X0 d1_5 rfl rfl ?_
  refine own_bipush (pc' := 9) B X0 (z := (6 : Int32)) d1_7 rfl (by decide) ?_
  refine own_iushr (pc' := 10) B X0 d1_9 rfl hp2 ?_
  refine own_istore (pc' := 12) B X0 (Ls' := #[.val (.ref w0), .val (.int p5), .val (.int p6), .val (.long q7), .second, .val (.int p8), .val (.int (0 : Int32)), .unset, .unset, .unset]) d1_10 rfl rfl ?_
  refine own_iload (pc' := 14) B X0 d1_12 rfl rfl ?_
  refine own_bipush (pc' := 16) B X0 (z := (63 : Int32)) d1_14 rfl (by decide) ?_
  refine own_iand (pc' := 17) B X0 d1_16 rfl hp1 ?_
  refine own_istore (pc' := 19) B X0 (Ls' := #[.val (.ref w0), .val (.int p5), .val (.int p6), .val (.long q7), .second, .val (.int p8), .val (.int (0 : Int32)), .val (.int p9), .unset, .unset]) d1_17 rfl rfl ?_
  refine own_aloadN (pc' := 20) B X0 d1_19 rfl rfl rfl ?_
  refine own_iload (pc' := 22) B X0 d1_20 rfl rfl ?_
  refine own_dup2 (pc' := 23) B X0 d1_22 rfl rfl rfl ?_
  refine own_laload (pc' := 24) B X0 V_w0 (v := (.long q2)) ⟨by decide, by decide⟩ rfl d1_23 rfl ?_
  refine own_lloadN (pc' := 25) B X0 d1_24 rfl rfl ?_
  refine own_iload (pc' := 27) B X0 d1_25 rfl rfl ?_
  obtain ⟨y1, hy1⟩ : ∃ z : Int64, q7 <<< (p9 &&& 0x3f).toInt64 = z := ⟨_, rfl⟩
  refine own_lshl (pc' := 28) B X0 d1_27 rfl hy1 ?_
  obtain ⟨y2, hy2⟩ : ∃ z : Int64, q2 ||| y1 = z := ⟨_, rfl⟩
  refine own_lor (pc' := 29) B X0 d1_28 rfl hy2 ?_
  refine own_lastore (pc' := 30) B X0 (x' := y2) V_w0 g_w0 ⟨by decide, by decide⟩ 0 (by decide) (Nat.le_of_ble_eq_true rfl) rfl d1_29 rfl ?_
  intro T3 h3 X3 W3 V_w0
  replace V_w0 : Arv Z h3 w0 kw0 .long (3 : Int32) [(.long y2), (.long q3), (.long q4)] (.long (0 : Int64)) := V_w0
  replace E_w0 := E_w0.wr W3
  replace K := K.wr W3 (Or.inl (List.mem_of_getElem? (i := 0) rfl))
  refine own_iload (pc' := 32) B X3 d1_30 rfl rfl ?_
  by_cases c4 : p9 = (0 : Int32)
  · refine own_ifNo (pc' := 35) B X3 d1_32 ((if0 _ _).trans (teq c4).2) rfl ?_
    refine own_lconst (pc' := 36) B X3 (z := (0 : Int64)) d1_35 rfl (by decide) ?_
    refine own_goto (pc' := 46) B X3 d1_36 (by decide) rfl ?_
    refine own_lstore (pc' := 48) B X3 (Ls' := #[.val (.ref w0), .val (.int p5), .val (.int p6), .val (.long q7), .second, .val (.int p8), .val (.int (0 : Int32)), .val (.int p9), .val (.long (0 : Int64)), .second]) d1_46 rfl rfl ?_
    refine own_lload (pc' := 50) B X3 d1_48 rfl rfl ?_
    refine own_lconst (pc' := 51) B X3 (z := (0 : Int64)) d1_50 rfl (by decide) ?_
    refine own_lcmp (pc' := 52) B X3 (z := (0 : Int32)) d1_51 rfl (by decide) ?_
    refine own_ifYes (pc' := 66) B X3 d1_52 ((if0 _ _).trans (teq (by decide : (0 : Int32) = (0 : Int32))).1) (by decide) rfl ?_
    exact own_ret B X3 d1_66 (by decide) (by decide) (Or.inl ⟨y1, y2, hy1, hy2, c4, rfl, K, E_w0, V_w0⟩)
  · refine own_ifYes (pc' := 39) B X3 d1_32 ((if0 _ _).trans (feq c4).2) (by decide) rfl ?_
    refine own_lloadN (pc' := 40) B X3 d1_39 rfl rfl ?_
    refine own_bipush (pc' := 42) B X3 (z := (64 : Int32)) d1_40 rfl (by decide) ?_
    refine own_iload (pc' := 44) B X3 d1_42 rfl rfl ?_
    obtain ⟨y5, hy5⟩ : ∃ z : Int32, (64 : Int32) - p9 = z := ⟨_, rfl⟩
    refine own_isub (pc' := 45) B X3 d1_44 rfl hy5 ?_
    obtain ⟨y6, hy6⟩ : ∃ z : Int64, (q7.toUInt64 >>> (y5 &&& 0x3f).toInt64.toUInt64).toInt64 = z := ⟨_, rfl⟩
    refine own_lushr (pc' := 46) B X3 d1_45 rfl hy6 ?_
    refine own_lstore (pc' := 48) B X3 (Ls' := #[.val (.ref w0), .val (.int p5), .val (.int p6), .val (.long q7), .second, .val (.int p8), .val (.int (0 : Int32)), .val (.int p9), .val (.long y6), .second]) d1_46 rfl rfl ?_
    refine own_lload (pc' := 50) B X3 d1_48 rfl rfl ?_
    refine own_lconst (pc' := 51) B X3 (z := (0 : Int64)) d1_50 rfl (by decide) ?_
    obtain ⟨y7, hy7⟩ : ∃ z : Int32, lcmpW y6 (0 : Int64) = z := ⟨_, rfl⟩
    refine own_lcmp (pc' := 52) B X3 d1_51 rfl hy7 ?_
    by_cases c8 : y6 = (0 : Int64)
    · refine own_ifYes (pc' := 66) B X3 d1_52 ((if0 _ _).trans (teq (own_lcm (P := fun q => (q = (0 : Int32))) hy7 ((lw_eq y6 (0 : Int64)).mpr c8))).1) (by decide) rfl ?_
      exact own_ret B X3 d1_66 (by decide) (by decide) (Or.inr (Or.inl ⟨y1, y2, y5, y6, hy1, hy2, c4, hy5, hy6, c8, rfl, K, E_w0, V_w0⟩))
    · refine own_ifNo (pc' := 55) B X3 d1_52 ((if0 _ _).trans (feq (own_lcm (P := fun q => ¬ (q = (0 : Int32))) hy7 (fun q => c8 ((lw_eq y6 (0 : Int64)).mp q)))).1) rfl ?_
      refine own_aloadN (pc' := 56) B X3 d1_55 rfl rfl rfl ?_
      refine own_iload (pc' := 58) B X3 d1_56 rfl rfl ?_
      refine own_iconst (pc' := 59) B X3 (z := (1 : Int32)) d1_58 rfl rfl ?_
      refine own_iadd (pc' := 60) B X3 (z := (1 : Int32)) d1_59 rfl (by decide) ?_
      refine own_dup2 (pc' := 61) B X3 d1_60 rfl rfl rfl ?_
      refine own_laload (pc' := 62) B X3 V_w0 (v := (.long q3)) ⟨by decide, by decide⟩ rfl d1_61 rfl ?_
      refine own_lload (pc' := 64) B X3 d1_62 rfl rfl ?_
      obtain ⟨y9, hy9⟩ : ∃ z : Int64, q3 ||| y6 = z := ⟨_, rfl⟩
      refine own_lor (pc' := 65) B X3 d1_64 rfl hy9 ?_
      refine own_lastore (pc' := 66) B X3 (x' := y9) V_w0 g_w0 ⟨by decide, by decide⟩ 1 (by decide) (Nat.le_of_ble_eq_true rfl) rfl d1_65 rfl ?_
      intro T10 h10 X10 W10 V_w0
      replace V_w0 : Arv Z h10 w0 kw0 .long (3 : Int32) [(.long y2), (.long y9), (.long q4)] (.long (0 : Int64)) := V_w0
      replace E_w0 := E_w0.wr W10
      replace K := K.wr W10 (Or.inl (List.mem_of_getElem? (i := 0) rfl))
      exact own_ret B X10 d1_66 (by decide) (by decide) (Or.inr (Or.inr (⟨y1, y2, y5, y6, y9, hy1, hy2, c4, hy5, hy6, c8, hy9, rfl, K, E_w0, V_w0⟩)))
def Q_2 (Z : State) (w0 : Addr) (kw0 : ClassId) (q2 : Int64) (q3 : Int64) (q4 : Int64) (p5 : Int32) (p6 : Int32) (h0 : Heap) (n0 : Nat) (v : Option Value) (h : Heap) : Prop :=
  (∃ (y1 : Int64) (y2 : Int64), (q2.toUInt64 >>> (p6 &&& 0x3f).toInt64.toUInt64).toInt64 = y1 ∧ y1 &&& (1 : Int64) = y2 ∧ y2 = (0 : Int64) ∧ v = some (.int (0 : Int32)) ∧ h0 = h) ∨
  (∃ (y1 : Int64) (y2 : Int64), (q2.toUInt64 >>> (p6 &&& 0x3f).toInt64.toUInt64).toInt64 = y1 ∧ y1 &&& (1 : Int64) = y2 ∧ ¬ (y2 = (0 : Int64)) ∧ v = some (.int (1 : Int32)) ∧ h0 = h)
set_option maxRecDepth 65536 in
set_option maxHeartbeats 40000000 in
theorem rm_2 (l : Launch) (Z : State) (a0 : Array Value) (hw : ∀ d ∈ tables_1, d.before a0 Z = true) (ws : List Jvm.Cond) (w0 : Addr) (kw0 : ClassId) (q2 : Int64) (q3 : Int64) (q4 : Int64) (p5 : Int32) (p6 : Int32) (h0 : Heap) (n0 : Nat) (Z0 : n0 ≤ h0.size) (E_w0 : Exa Z h0 w0 "[J") (V_w0 : Arv Z h0 w0 kw0 .long (3 : Int32) [(.long q2), (.long q3), (.long q4)] (.long (0 : Int64))) (g_w0 : n0 ≤ w0) (hp0 : p5 &&& (63 : Int32) = p6) (hp1 : (p5.toUInt32 >>> ((6 : Int32) &&& 31).toUInt32).toInt32 = (0 : Int32)) :
    MetFree l (⟨"com/example/tideline/tideline/model/BitTableOrPinLaw", "bitOf", "([JI)Z"⟩ : MethodName) (head1 (Jvm.Cond.code (⟨"com/example/tideline/tideline/model/BitTableOrPinLaw", "bitOf", "([JI)Z"⟩ : MethodName) method_2_code 2 (some .boolean) :: ws) ({ frames := 0, cells := 0, slots := 0, locals := 0 } : Room)) (fun a U => a = #[(.ref w0), (.int p5)] ∧ Z.Warmed39 U.vm ∧ U.heap = h0) (fun _ _ _ _ _ => True) (fun _ U o U' => ∃ v L, o = .returned v ∧ (Fr n0 L ∧ Q_2 Z w0 kw0 q2 q3 q4 p5 p6 h0 n0 v U'.heap) ∧ FrameEnd U o U' L ({ frames := 0, cells := 0, slots := 0, locals := 0 } : Room).cells ({ frames := 0, cells := 0, slots := 0, locals := 0 } : Room).slots) := by
  refine own_enter (Q := Q_2 Z w0 kw0 q2 q3 q4 p5 p6 h0 n0) (F := fun m => mkF m 0 #[.val (.ref w0), .val (.int p5)] []) (plainFor_of_name pn_1) (fun m => by first | (simp [entryFrame, mkF, argsToLocals, Value.category]; done) | rfl) ?_
  intro p e s m below meth c s₁ B X0
  have K : Keep h0 h0 [] := Keep.refl h0 _
  refine own_aloadN (pc' := 1) B X0 d2_0 rfl rfl rfl ?_
  refine own_iloadN (pc' := 2) B X0 d2_1 rfl rfl ?_
  refine own_bipush (pc' := 4) B X0 (z := (6 : Int32)) d2_2 rfl (by decide) ?_
  refine own_iushr (pc' := 5) B X0 d2_4 rfl hp1 ?_
  refine own_laload (pc' := 6) B X0 V_w0 (v := (.long q2)) ⟨by decide, by decide⟩ rfl d2_5 rfl ?_
  refine own_iloadN (pc' := 7) B X0 d2_6 rfl rfl ?_
  refine own_bipush (pc' := 9) B X0 (z := (63 : Int32)) d2_7 rfl (by decide) ?_
  refine own_iand (pc' := 10) B X0 d2_9 rfl hp0 ?_
  obtain ⟨y1, hy1⟩ : ∃ z : Int64, (q2.toUInt64 >>> (p6 &&& 0x3f).toInt64.toUInt64).toInt64 = z := ⟨_, rfl⟩
  refine own_lushr (pc' := 11) B X0 d2_10 rfl hy1 ?_
  refine own_lconst (pc' := 12) B X0 (z := (1 : Int64)) d2_11 rfl (by decide) ?_
  obtain ⟨y2, hy2⟩ : ∃ z : Int64, y1 &&& (1 : Int64) = z := ⟨_, rfl⟩
  refine own_land (pc' := 13) B X0 d2_12 rfl hy2 ?_
  refine own_lconst (pc' := 14) B X0 (z := (0 : Int64)) d2_13 rfl (by decide) ?_
  obtain ⟨y3, hy3⟩ : ∃ z : Int32, lcmpW y2 (0 : Int64) = z := ⟨_, rfl⟩
  refine own_lcmp (pc' := 15) B X0 d2_14 rfl hy3 ?_
  by_cases c4 : y2 = (0 : Int64)
  · refine own_ifYes (pc' := 22) B X0 d2_15 ((if0 _ _).trans (teq (own_lcm (P := fun q => (q = (0 : Int32))) hy3 ((lw_eq y2 (0 : Int64)).mpr c4))).1) (by decide) rfl ?_
    refine own_iconst (pc' := 23) B X0 (z := (0 : Int32)) d2_22 rfl rfl ?_
    exact own_retN B X0 (t := .boolean) (z' := (0 : Int32)) (by simp) (by decide) d2_23 (by decide) (by decide) (Or.inl ⟨y1, y2, hy1, hy2, c4, rfl, rfl⟩)
  · refine own_ifNo (pc' := 18) B X0 d2_15 ((if0 _ _).trans (feq (own_lcm (P := fun q => ¬ (q = (0 : Int32))) hy3 (fun q => c4 ((lw_eq y2 (0 : Int64)).mp q)))).1) rfl ?_
    refine own_iconst (pc' := 19) B X0 (z := (1 : Int32)) d2_18 rfl rfl ?_
    refine own_goto (pc' := 23) B X0 d2_19 (by decide) rfl ?_
    exact own_retN B X0 (t := .boolean) (z' := (1 : Int32)) (by simp) (by decide) d2_23 (by decide) (by decide) (Or.inr (⟨y1, y2, hy1, hy2, c4, rfl, rfl⟩))
def Q_3 (Z : State) (w0 : Addr) (kw0 : ClassId) (q2 : Int64) (q3 : Int64) (q4 : Int64) (p5 : Int32) (p6 : Int32) (h0 : Heap) (n0 : Nat) (v : Option Value) (h : Heap) : Prop :=
  (∃ (y1 : Int64) (y2 : Int64), (q3.toUInt64 >>> (p6 &&& 0x3f).toInt64.toUInt64).toInt64 = y1 ∧ y1 &&& (1 : Int64) = y2 ∧ y2 = (0 : Int64) ∧ v = some (.int (0 : Int32)) ∧ h0 = h) ∨
  (∃ (y1 : Int64) (y2 : Int64), (q3.toUInt64 >>> (p6 &&& 0x3f).toInt64.toUInt64).toInt64 = y1 ∧ y1 &&& (1 : Int64) = y2 ∧ ¬ (y2 = (0 : Int64)) ∧ v = some (.int (1 : Int32)) ∧ h0 = h)
set_option maxRecDepth 65536 in
set_option maxHeartbeats 40000000 in
theorem rm_3 (l : Launch) (Z : State) (a0 : Array Value) (hw : ∀ d ∈ tables_1, d.before a0 Z = true) (ws : List Jvm.Cond) (w0 : Addr) (kw0 : ClassId) (q2 : Int64) (q3 : Int64) (q4 : Int64) (p5 : Int32) (p6 : Int32) (h0 : Heap) (n0 : Nat) (Z0 : n0 ≤ h0.size) (E_w0 : Exa Z h0 w0 "[J") (V_w0 : Arv Z h0 w0 kw0 .long (3 : Int32) [(.long q2), (.long q3), (.long q4)] (.long (0 : Int64))) (g_w0 : n0 ≤ w0) (hp0 : p5 &&& (63 : Int32) = p6) (hp1 : (p5.toUInt32 >>> ((6 : Int32) &&& 31).toUInt32).toInt32 = (1 : Int32)) :
    MetFree l (⟨"com/example/tideline/tideline/model/BitTableOrPinLaw", "bitOf", "([JI)Z"⟩ : MethodName) (head1 (Jvm.Cond.code (⟨"com/example/tideline/tideline/model/BitTableOrPinLaw", "bitOf", "([JI)Z"⟩ : MethodName) method_2_code 2 (some .boolean) :: ws) ({ frames := 0, cells := 0, slots := 0, locals := 0 } : Room)) (fun a U => a = #[(.ref w0), (.int p5)] ∧ Z.Warmed39 U.vm ∧ U.heap = h0) (fun _ _ _ _ _ => True) (fun _ U o U' => ∃ v L, o = .returned v ∧ (Fr n0 L ∧ Q_3 Z w0 kw0 q2 q3 q4 p5 p6 h0 n0 v U'.heap) ∧ FrameEnd U o U' L ({ frames := 0, cells := 0, slots := 0, locals := 0 } : Room).cells ({ frames := 0, cells := 0, slots := 0, locals := 0 } : Room).slots) := by
  refine own_enter (Q := Q_3 Z w0 kw0 q2 q3 q4 p5 p6 h0 n0) (F := fun m => mkF m 0 #[.val (.ref w0), .val (.int p5)] []) (plainFor_of_name pn_1) (fun m => by first | (simp [entryFrame, mkF, argsToLocals, Value.category]; done) | rfl) ?_
  intro p e s m below meth c s₁ B X0
  have K : Keep h0 h0 [] := Keep.refl h0 _
  refine own_aloadN (pc' := 1) B X0 d2_0 rfl rfl rfl ?_
  refine own_iloadN (pc' := 2) B X0 d2_1 rfl rfl ?_
  refine own_bipush (pc' := 4) B X0 (z := (6 : Int32)) d2_2 rfl (by decide) ?_
  refine own_iushr (pc' := 5) B X0 d2_4 rfl hp1 ?_
  refine own_laload (pc' := 6) B X0 V_w0 (v := (.long q3)) ⟨by decide, by decide⟩ rfl d2_5 rfl ?_
  refine own_iloadN (pc' := 7) B X0 d2_6 rfl rfl ?_
  refine own_bipush (pc' := 9) B X0 (z := (63 : Int32)) d2_7 rfl (by decide) ?_
  refine own_iand (pc' := 10) B X0 d2_9 rfl hp0 ?_
  obtain ⟨y1, hy1⟩ : ∃ z : Int64, (q3.toUInt64 >>> (p6 &&& 0x3f).toInt64.toUInt64).toInt64 = z := ⟨_, rfl⟩
  refine own_lushr (pc' := 11) B X0 d2_10 rfl hy1 ?_
  refine own_lconst (pc' := 12) B X0 (z := (1 : Int64)) d2_11 rfl (by decide) ?_
  obtain ⟨y2, hy2⟩ : ∃ z : Int64, y1 &&& (1 : Int64) = z := ⟨_, rfl⟩
  refine own_land (pc' := 13) B X0 d2_12 rfl hy2 ?_
  refine own_lconst (pc' := 14) B X0 (z := (0 : Int64)) d2_13 rfl (by decide) ?_
  obtain ⟨y3, hy3⟩ : ∃ z : Int32, lcmpW y2 (0 : Int64) = z := ⟨_, rfl⟩
  refine own_lcmp (pc' := 15) B X0 d2_14 rfl hy3 ?_
  by_cases c4 : y2 = (0 : Int64)
  · refine own_ifYes (pc' := 22) B X0 d2_15 ((if0 _ _).trans (teq (own_lcm (P := fun q => (q = (0 : Int32))) hy3 ((lw_eq y2 (0 : Int64)).mpr c4))).1) (by decide) rfl ?_
    refine own_iconst (pc' := 23) B X0 (z := (0 : Int32)) d2_22 rfl rfl ?_
    exact own_retN B X0 (t := .boolean) (z' := (0 : Int32)) (by simp) (by decide) d2_23 (by decide) (by decide) (Or.inl ⟨y1, y2, hy1, hy2, c4, rfl, rfl⟩)
  · refine own_ifNo (pc' := 18) B X0 d2_15 ((if0 _ _).trans (feq (own_lcm (P := fun q => ¬ (q = (0 : Int32))) hy3 (fun q => c4 ((lw_eq y2 (0 : Int64)).mp q)))).1) rfl ?_
    refine own_iconst (pc' := 19) B X0 (z := (1 : Int32)) d2_18 rfl rfl ?_
    refine own_goto (pc' := 23) B X0 d2_19 (by decide) rfl ?_
    exact own_retN B X0 (t := .boolean) (z' := (1 : Int32)) (by simp) (by decide) d2_23 (by decide) (by decide) (Or.inr (⟨y1, y2, hy1, hy2, c4, rfl, rfl⟩))
def Q_4 (Z : State) (w0 : Addr) (kw0 : ClassId) (q2 : Int64) (q3 : Int64) (q4 : Int64) (p5 : Int32) (p6 : Int32) (h0 : Heap) (n0 : Nat) (v : Option Value) (h : Heap) : Prop :=
  (∃ (y1 : Int64) (y2 : Int64), (q4.toUInt64 >>> (p6 &&& 0x3f).toInt64.toUInt64).toInt64 = y1 ∧ y1 &&& (1 : Int64) = y2 ∧ y2 = (0 : Int64) ∧ v = some (.int (0 : Int32)) ∧ h0 = h) ∨
  (∃ (y1 : Int64) (y2 : Int64), (q4.toUInt64 >>> (p6 &&& 0x3f).toInt64.toUInt64).toInt64 = y1 ∧ y1 &&& (1 : Int64) = y2 ∧ ¬ (y2 = (0 : Int64)) ∧ v = some (.int (1 : Int32)) ∧ h0 = h)
set_option maxRecDepth 65536 in
set_option maxHeartbeats 40000000 in
theorem rm_4 (l : Launch) (Z : State) (a0 : Array Value) (hw : ∀ d ∈ tables_1, d.before a0 Z = true) (ws : List Jvm.Cond) (w0 : Addr) (kw0 : ClassId) (q2 : Int64) (q3 : Int64) (q4 : Int64) (p5 : Int32) (p6 : Int32) (h0 : Heap) (n0 : Nat) (Z0 : n0 ≤ h0.size) (E_w0 : Exa Z h0 w0 "[J") (V_w0 : Arv Z h0 w0 kw0 .long (3 : Int32) [(.long q2), (.long q3), (.long q4)] (.long (0 : Int64))) (g_w0 : n0 ≤ w0) (hp0 : p5 &&& (63 : Int32) = p6) (hp1 : (p5.toUInt32 >>> ((6 : Int32) &&& 31).toUInt32).toInt32 = (2 : Int32)) :
    MetFree l (⟨"com/example/tideline/tideline/model/BitTableOrPinLaw", "bitOf", "([JI)Z"⟩ : MethodName) (head1 (Jvm.Cond.code (⟨"com/example/tideline/tideline/model/BitTableOrPinLaw", "bitOf", "([JI)Z"⟩ : MethodName) method_2_code 2 (some .boolean) :: ws) ({ frames := 0, cells := 0, slots := 0, locals := 0 } : Room)) (fun a U => a = #[(.ref w0), (.int p5)] ∧ Z.Warmed39 U.vm ∧ U.heap = h0) (fun _ _ _ _ _ => True) (fun _ U o U' => ∃ v L, o = .returned v ∧ (Fr n0 L ∧ Q_4 Z w0 kw0 q2 q3 q4 p5 p6 h0 n0 v U'.heap) ∧ FrameEnd U o U' L ({ frames := 0, cells := 0, slots := 0, locals := 0 } : Room).cells ({ frames := 0, cells := 0, slots := 0, locals := 0 } : Room).slots) := by
  refine own_enter (Q := Q_4 Z w0 kw0 q2 q3 q4 p5 p6 h0 n0) (F := fun m => mkF m 0 #[.val (.ref w0), .val (.int p5)] []) (plainFor_of_name pn_1) (fun m => by first | (simp [entryFrame, mkF, argsToLocals, Value.category]; done) | rfl) ?_
  intro p e s m below meth c s₁ B X0
  have K : Keep h0 h0 [] := Keep.refl h0 _
  refine own_aloadN (pc' := 1) B X0 d2_0 rfl rfl rfl ?_
  refine own_iloadN (pc' := 2) B X0 d2_1 rfl rfl ?_
  refine own_bipush (pc' := 4) B X0 (z := (6 : Int32)) d2_2 rfl (by decide) ?_
  refine own_iushr (pc' := 5) B X0 d2_4 rfl hp1 ?_
  refine own_laload (pc' := 6) B X0 V_w0 (v := (.long q4)) ⟨by decide, by decide⟩ rfl d2_5 rfl ?_
  refine own_iloadN (pc' := 7) B X0 d2_6 rfl rfl ?_
  refine own_bipush (pc' := 9) B X0 (z := (63 : Int32)) d2_7 rfl (by decide) ?_
  refine own_iand (pc' := 10) B X0 d2_9 rfl hp0 ?_
  obtain ⟨y1, hy1⟩ : ∃ z : Int64, (q4.toUInt64 >>> (p6 &&& 0x3f).toInt64.toUInt64).toInt64 = z := ⟨_, rfl⟩
  refine own_lushr (pc' := 11) B X0 d2_10 rfl hy1 ?_
  refine own_lconst (pc' := 12) B X0 (z := (1 : Int64)) d2_11 rfl (by decide) ?_
  obtain ⟨y2, hy2⟩ : ∃ z : Int64, y1 &&& (1 : Int64) = z := ⟨_, rfl⟩
  refine own_land (pc' := 13) B X0 d2_12 rfl hy2 ?_
  refine own_lconst (pc' := 14) B X0 (z := (0 : Int64)) d2_13 rfl (by decide) ?_
  obtain ⟨y3, hy3⟩ : ∃ z : Int32, lcmpW y2 (0 : Int64) = z := ⟨_, rfl⟩
  refine own_lcmp (pc' := 15) B X0 d2_14 rfl hy3 ?_
  by_cases c4 : y2 = (0 : Int64)
  · refine own_ifYes (pc' := 22) B X0 d2_15 ((if0 _ _).trans (teq (own_lcm (P := fun q => (q = (0 : Int32))) hy3 ((lw_eq y2 (0 : Int64)).mpr c4))).1) (by decide) rfl ?_
    refine own_iconst (pc' := 23) B X0 (z := (0 : Int32)) d2_22 rfl rfl ?_
    exact own_retN B X0 (t := .boolean) (z' := (0 : Int32)) (by simp) (by decide) d2_23 (by decide) (by decide) (Or.inl ⟨y1, y2, hy1, hy2, c4, rfl, rfl⟩)
  · refine own_ifNo (pc' := 18) B X0 d2_15 ((if0 _ _).trans (feq (own_lcm (P := fun q => ¬ (q = (0 : Int32))) hy3 (fun q => c4 ((lw_eq y2 (0 : Int64)).mp q)))).1) rfl ?_
    refine own_iconst (pc' := 19) B X0 (z := (1 : Int32)) d2_18 rfl rfl ?_
    refine own_goto (pc' := 23) B X0 d2_19 (by decide) rfl ?_
    exact own_retN B X0 (t := .boolean) (z' := (1 : Int32)) (by simp) (by decide) d2_23 (by decide) (by decide) (Or.inr (⟨y1, y2, hy1, hy2, c4, rfl, rfl⟩))
def Q_5 (Z : State) (w0 : Addr) (kw0 : ClassId) (q2 : Int64) (q3 : Int64) (q4 : Int64) (p5 : Int32) (p6 : Int32) (q7 : Int64) (p8 : Int32) (p9 : Int32) (h0 : Heap) (n0 : Nat) (v : Option Value) (h : Heap) : Prop :=
  (∃ (y1 : Int64) (y2 : Int64), q7 <<< (p9 &&& 0x3f).toInt64 = y1 ∧ q3 ||| y1 = y2 ∧ p9 = (0 : Int32) ∧ v = none ∧ Keep h0 h [w0] ∧ Exa Z h w0 "[J" ∧ Arv Z h w0 kw0 .long (3 : Int32) [(.long q2), (.long y2), (.long q4)] (.long (0 : Int64))) ∨
  (∃ (y1 : Int64) (y2 : Int64) (y5 : Int32) (y6 : Int64), q7 <<< (p9 &&& 0x3f).toInt64 = y1 ∧ q3 ||| y1 = y2 ∧ ¬ (p9 = (0 : Int32)) ∧ (64 : Int32) - p9 = y5 ∧ (q7.toUInt64 >>> (y5 &&& 0x3f).toInt64.toUInt64).toInt64 = y6 ∧ y6 = (0 : Int64) ∧ v = none ∧ Keep h0 h [w0] ∧ Exa Z h w0 "[J" ∧ Arv Z h w0 kw0 .long (3 : Int32) [(.long q2), (.long y2), (.long q4)] (.long (0 : Int64))) ∨
  (∃ (y1 : Int64) (y2 : Int64) (y5 : Int32) (y6 : Int64) (y9 : Int64), q7 <<< (p9 &&& 0x3f).toInt64 = y1 ∧ q3 ||| y1 = y2 ∧ ¬ (p9 = (0 : Int32)) ∧ (64 : Int32) - p9 = y5 ∧ (q7.toUInt64 >>> (y5 &&& 0x3f).toInt64.toUInt64).toInt64 = y6 ∧ ¬ (y6 = (0 : Int64)) ∧ q4 ||| y6 = y9 ∧ v = none ∧ Keep h0 h [w0] ∧ Exa Z h w0 "[J" ∧ Arv Z h w0 kw0 .long (3 : Int32) [(.long q2), (.long y2), (.long y9)] (.long (0 : Int64)))
set_option maxRecDepth 65536 in
set_option maxHeartbeats 40000000 in
theorem rm_5 (l : Launch) (Z : State) (a0 : Array Value) (hw : ∀ d ∈ tables_1, d.before a0 Z = true) (ws : List Jvm.Cond) (w0 : Addr) (kw0 : ClassId) (q2 : Int64) (q3 : Int64) (q4 : Int64) (p5 : Int32) (p6 : Int32) (q7 : Int64) (p8 : Int32) (p9 : Int32) (h0 : Heap) (n0 : Nat) (Z0 : n0 ≤ h0.size) (E_w0 : Exa Z h0 w0 "[J") (V_w0 : Arv Z h0 w0 kw0 .long (3 : Int32) [(.long q2), (.long q3), (.long q4)] (.long (0 : Int64))) (g_w0 : n0 ≤ w0) (hp0 : p6 - p5 = p8) (hp1 : p8 &&& (63 : Int32) = p9) (hp2 : (p8.toUInt32 >>> ((6 : Int32) &&& 31).toUInt32).toInt32 = (1 : Int32)) :
    MetFree l (⟨"com/example/tideline/tideline/model/BitTable", "or", "([JIIJ)V"⟩ : MethodName) (head1 (Jvm.Cond.code (⟨"com/example/tideline/tideline/model/BitTable", "or", "([JIIJ)V"⟩ : MethodName) prog_165_method_5_code 10 none :: ws) ({ frames := 0, cells := 0, slots := 0, locals := 0 } : Room)) (fun a U => a = #[(.ref w0), (.int p5), (.int p6), (.long q7)] ∧ Z.Warmed39 U.vm ∧ U.heap = h0) (fun _ _ _ _ _ => True) (fun _ U o U' => ∃ v L, o = .returned v ∧ (Fr n0 L ∧ Q_5 Z w0 kw0 q2 q3 q4 p5 p6 q7 p8 p9 h0 n0 v U'.heap) ∧ FrameEnd U o U' L ({ frames := 0, cells := 0, slots := 0, locals := 0 } : Room).cells ({ frames := 0, cells := 0, slots := 0, locals := 0 } : Room).slots) := by
  refine own_enter (Q := Q_5 Z w0 kw0 q2 q3 q4 p5 p6 q7 p8 p9 h0 n0) (F := fun m => mkF m 0 #[.val (.ref w0), .val (.int p5), .val (.int p6), .val (.long q7), .second, .unset, .unset, .unset, .unset, .unset] []) (plainFor_of_name pn_0) (fun m => by first | (simp [entryFrame, mkF, argsToLocals, Value.category]; done) | rfl) ?_
  intro p e s m below meth c s₁ B X0
  have K : Keep h0 h0 [w0] := Keep.refl h0 _
  refine own_iloadN (pc' := 1) B X0 d1_0 rfl rfl ?_
  refine own_iloadN (pc' := 2) B X0 d1_1 rfl rfl ?_
  refine own_isub (pc' := 3) B X0 d1_2 rfl hp0 ?_
  refine own_istore (pc' := 5) B X0 (Ls' := #[.val (.ref w0), .val (.int p5), .val (.int p6), .val (.long q7), .second, .val (.int p8), .unset, .unset, .unset, .unset]) d1_3 rfl rfl ?_
  refine own_iload (pc' := 7) B X0 d1_5 rfl rfl ?_
  refine own_bipush (pc' := 9) B X0 (z := (6 : Int32)) d1_7 rfl (by decide) ?_
  refine own_iushr (pc' := 10) B X0 d1_9 rfl hp2 ?_
  refine own_istore (pc' := 12) B X0 (Ls' := #[.val (.ref w0), .val (.int p5), .val (.int p6), .val (.long q7), .second, .val (.int p8), .val (.int (1 : Int32)), .unset, .unset, .unset]) d1_10 rfl rfl ?_
  refine own_iload (pc' := 14) B X0 d1_12 rfl rfl ?_
  refine own_bipush (pc' := 16) B X0 (z := (63 : Int32)) d1_14 rfl (by decide) ?_
  refine own_iand (pc' := 17) B X0 d1_16 rfl hp1 ?_
  refine own_istore (pc' := 19) B X0 (Ls' := #[.val (.ref w0), .val (.int p5), .val (.int p6), .val (.long q7), .second, .val (.int p8), .val (.int (1 : Int32)), .val (.int p9), .unset, .unset]) d1_17 rfl rfl ?_
  refine own_aloadN (pc' := 20) B X0 d1_19 rfl rfl rfl ?_
  refine own_iload (pc' := 22) B X0 d1_20 rfl rfl ?_
  refine own_dup2 (pc' := 23) B X0 d1_22 rfl rfl rfl ?_
  refine own_laload (pc' := 24) B X0 V_w0 (v := (.long q3)) ⟨by decide, by decide⟩ rfl d1_23 rfl ?_
  refine own_lloadN (pc' := 25) B X0 d1_24 rfl rfl ?_
  refine own_iload (pc' := 27) B X0 d1_25 rfl rfl ?_
  obtain ⟨y1, hy1⟩ : ∃ z : Int64, q7 <<< (p9 &&& 0x3f).toInt64 = z := ⟨_, rfl⟩
  refine own_lshl (pc' := 28) B X0 d1_27 rfl hy1 ?_
  obtain ⟨y2, hy2⟩ : ∃ z : Int64, q3 ||| y1 = z := ⟨_, rfl⟩
  refine own_lor (pc' := 29) B X0 d1_28 rfl hy2 ?_
  refine own_lastore (pc' := 30) B X0 (x' := y2) V_w0 g_w0 ⟨by decide, by decide⟩ 1 (by decide) (Nat.le_of_ble_eq_true rfl) rfl d1_29 rfl ?_
  intro T3 h3 X3 W3 V_w0
  replace V_w0 : Arv Z h3 w0 kw0 .long (3 : Int32) [(.long q2), (.long y2), (.long q4)] (.long (0 : Int64)) := V_w0
  replace E_w0 := E_w0.wr W3
  replace K := K.wr W3 (Or.inl (List.mem_of_getElem? (i := 0) rfl))
  refine own_iload (pc' := 32) B X3 d1_30 rfl rfl ?_
  by_cases c4 : p9 = (0 : Int32)
  · refine own_ifNo (pc' := 35) B X3 d1_32 ((if0 _ _).trans (teq c4).2) rfl ?_
    refine own_lconst (pc' := 36) B X3 (z := (0 : Int64)) d1_35 rfl (by decide) ?_
    refine own_goto (pc' := 46) B X3 d1_36 (by decide) rfl ?_
    refine own_lstore (pc' := 48) B X3 (Ls' := #[.val (.ref w0), .val (.int p5), .val (.int p6), .val (.long q7), .second, .val (.int p8), .val (.int (1 : Int32)), .val (.int p9), .val (.long (0 : Int64)), .second]) d1_46 rfl rfl ?_
    refine own_lload (pc' := 50) B X3 d1_48 rfl rfl ?_
    refine own_lconst (pc' := 51) B X3 (z := (0 : Int64)) d1_50 rfl (by decide) ?_
    refine own_lcmp (pc' := 52) B X3 (z := (0 : Int32)) d1_51 rfl (by decide) ?_
    refine own_ifYes (pc' := 66) B X3 d1_52 ((if0 _ _).trans (teq (by decide : (0 : Int32) = (0 : Int32))).1) (by decide) rfl ?_
    exact own_ret B X3 d1_66 (by decide) (by decide) (Or.inl ⟨y1, y2, hy1, hy2, c4, rfl, K, E_w0, V_w0⟩)
  · refine own_ifYes (pc' := 39) B X3 d1_32 ((if0 _ _).trans (feq c4).2) (by decide) rfl ?_
    refine own_lloadN (pc' := 40) B X3 d1_39 rfl rfl ?_
    refine own_bipush (pc' := 42) B X3 (z := (64 : Int32)) d1_40 rfl (by decide) ?_
    refine own_iload (pc' := 44) B X3 d1_42 rfl rfl ?_
    obtain ⟨y5, hy5⟩ : ∃ z : Int32, (64 : Int32) - p9 = z := ⟨_, rfl⟩
    refine own_isub (pc' := 45) B X3 d1_44 rfl hy5 ?_
    obtain ⟨y6, hy6⟩ : ∃ z : Int64, (q7.toUInt64 >>> (y5 &&& 0x3f).toInt64.toUInt64).toInt64 = z := ⟨_, rfl⟩
    refine own_lushr (pc' := 46) B X3 d1_45 rfl hy6 ?_
    refine own_lstore (pc' := 48) B X3 (Ls' := #[.val (.ref w0), .val (.int p5), .val (.int p6), .val (.long q7), .second, .val (.int p8), .val (.int (1 : Int32)), .val (.int p9), .val (.long y6), .second]) d1_46 rfl rfl ?_
    refine own_lload (pc' := 50) B X3 d1_48 rfl rfl ?_
    refine own_lconst (pc' := 51) B X3 (z := (0 : Int64)) d1_50 rfl (by decide) ?_
    obtain ⟨y7, hy7⟩ : ∃ z : Int32, lcmpW y6 (0 : Int64) = z := ⟨_, rfl⟩
    refine own_lcmp (pc' := 52) B X3 d1_51 rfl hy7 ?_
    by_cases c8 : y6 = (0 : Int64)
    · refine own_ifYes (pc' := 66) B X3 d1_52 ((if0 _ _).trans (teq (own_lcm (P := fun q => (q = (0 : Int32))) hy7 ((lw_eq y6 (0 : Int64)).mpr c8))).1) (by decide) rfl ?_
      exact own_ret B X3 d1_66 (by decide) (by decide) (Or.inr (Or.inl ⟨y1, y2, y5, y6, hy1, hy2, c4, hy5, hy6, c8, rfl, K, E_w0, V_w0⟩))
    · refine own_ifNo (pc' := 55) B X3 d1_52 ((if0 _ _).trans (feq (own_lcm (P := fun q => ¬ (q = (0 : Int32))) hy7 (fun q => c8 ((lw_eq y6 (0 : Int64)).mp q)))).1) rfl ?_
      refine own_aloadN (pc' := 56) B X3 d1_55 rfl rfl rfl ?_
      refine own_iload (pc' := 58) B X3 d1_56 rfl rfl ?_
      refine own_iconst (pc' := 59) B X3 (z := (1 : Int32)) d1_58 rfl rfl ?_
      refine own_iadd (pc' := 60) B X3 (z := (2 : Int32)) d1_59 rfl (by decide) ?_
      refine own_dup2 (pc' := 61) B X3 d1_60 rfl rfl rfl ?_
      refine own_laload (pc' := 62) B X3 V_w0 (v := (.long q4)) ⟨by decide, by decide⟩ rfl d1_61 rfl ?_
      refine own_lload (pc' := 64) B X3 d1_62 rfl rfl ?_
      obtain ⟨y9, hy9⟩ : ∃ z : Int64, q4 ||| y6 = z := ⟨_, rfl⟩
      refine own_lor (pc' := 65) B X3 d1_64 rfl hy9 ?_
      refine own_lastore (pc' := 66) B X3 (x' := y9) V_w0 g_w0 ⟨by decide, by decide⟩ 2 (by decide) (Nat.le_of_ble_eq_true rfl) rfl d1_65 rfl ?_
      intro T10 h10 X10 W10 V_w0
      replace V_w0 : Arv Z h10 w0 kw0 .long (3 : Int32) [(.long q2), (.long y2), (.long y9)] (.long (0 : Int64)) := V_w0
      replace E_w0 := E_w0.wr W10
      replace K := K.wr W10 (Or.inl (List.mem_of_getElem? (i := 0) rfl))
      exact own_ret B X10 d1_66 (by decide) (by decide) (Or.inr (Or.inr (⟨y1, y2, y5, y6, y9, hy1, hy2, c4, hy5, hy6, c8, hy9, rfl, K, E_w0, V_w0⟩)))
def Q_0 (Z : State) (i0 : Int32) (i1 : Int32) (i2 : Int64) (i3 : Int64) (i4 : Int64) (i5 : Int64) (h0 : Heap) (n0 : Nat) (v : Option Value) (h : Heap) : Prop :=
  (v = some (.int (1 : Int32)))
set_option maxRecDepth 65536 in
set_option maxHeartbeats 40000000 in
theorem rm_0 (l : Launch) (Z : State) (a0 : Array Value) (hw : ∀ d ∈ tables_1, d.before a0 Z = true) (ws : List Jvm.Cond) (i0 : Int32) (i1 : Int32) (i2 : Int64) (i3 : Int64) (i4 : Int64) (i5 : Int64) (h0 : Heap) (n0 : Nat) (Z0 : n0 ≤ h0.size)  :
    MetFree l x (head1 (Jvm.Cond.code x code maxLocals ret :: ws) room_1) (fun a U => a = #[(.int i0), (.int i1), (.long i2), (.long i3), (.long i4), (.long i5)] ∧ Z.Warmed39 U.vm ∧ U.heap = h0) (fun _ _ _ _ _ => True) (fun _ U o U' => ∃ v L, o = .returned v ∧ (Fr n0 L ∧ Q_0 Z i0 i1 i2 i3 i4 i5 h0 n0 v U'.heap) ∧ FrameEnd U o U' L room_1.cells room_1.slots) := by
  refine own_enter (Q := Q_0 Z i0 i1 i2 i3 i4 i5 h0 n0) (F := fun m => mkF m 0 #[.val (.int i0), .val (.int i1), .val (.long i2), .second, .val (.long i3), .second, .val (.long i4), .second, .val (.long i5), .second, .unset, .unset, .unset, .unset, .unset, .unset, .unset, .unset, .unset] []) (plainFor_of_name pn_1) (fun m => by first | (simp [entryFrame, mkF, argsToLocals, Value.category, maxLocals]; done) | rfl) ?_
  intro p e s m below meth c s₁ B X0
  have K : Keep h0 h0 [] := Keep.refl h0 _
  refine own_iloadN (pc' := 1) B X0 at_0 rfl rfl ?_
  refine own_bipush (pc' := 3) B X0 (z := (127 : Int32)) at_1 rfl (by decide) ?_
  obtain ⟨y1, hy1⟩ : ∃ z : Int32, i1 &&& (127 : Int32) = z := ⟨_, rfl⟩
  refine own_iand (pc' := 4) B X0 at_3 rfl hy1 ?_
  refine own_istore (pc' := 6) B X0 (Ls' := #[.val (.int i0), .val (.int i1), .val (.long i2), .second, .val (.long i3), .second, .val (.long i4), .second, .val (.long i5), .second, .val (.int y1), .unset, .unset, .unset, .unset, .unset, .unset, .unset, .unset]) at_4 rfl rfl ?_
  refine own_iloadN (pc' := 7) B X0 at_6 rfl rfl ?_
  refine own_bipush (pc' := 9) B X0 (z := (7 : Int32)) at_7 rfl (by decide) ?_
  obtain ⟨y2, hy2⟩ : ∃ z : Int32, (i1.toUInt32 >>> ((7 : Int32) &&& 31).toUInt32).toInt32 = z := ⟨_, rfl⟩
  refine own_iushr (pc' := 10) B X0 at_9 rfl hy2 ?_
  refine own_sipush (pc' := 13) B X0 (z := (192 : Int32)) at_10 rfl (by decide) ?_
  obtain ⟨y3, hy3⟩ : ∃ z : Int32, y2 % (192 : Int32) = z := ⟨_, rfl⟩
  refine own_irem (pc' := 14) B X0 at_13 rfl (by decide) hy3 ?_
  refine own_istore (pc' := 16) B X0 (Ls' := #[.val (.int i0), .val (.int i1), .val (.long i2), .second, .val (.long i3), .second, .val (.long i4), .second, .val (.long i5), .second, .val (.int y1), .val (.int y3), .unset, .unset, .unset, .unset, .unset, .unset, .unset]) at_14 rfl rfl ?_
  refine own_iloadN (pc' := 17) B X0 at_16 rfl rfl ?_
  refine own_iload (pc' := 19) B X0 at_17 rfl rfl ?_
  obtain ⟨y4, hy4⟩ : ∃ z : Int32, i0 + y1 = z := ⟨_, rfl⟩
  refine own_iadd (pc' := 20) B X0 at_19 rfl hy4 ?_
  refine own_istore (pc' := 22) B X0 (Ls' := #[.val (.int i0), .val (.int i1), .val (.long i2), .second, .val (.long i3), .second, .val (.long i4), .second, .val (.long i5), .second, .val (.int y1), .val (.int y3), .val (.int y4), .unset, .unset, .unset, .unset, .unset, .unset]) at_20 rfl rfl ?_
  refine own_iconst (pc' := 23) B X0 (z := (3 : Int32)) at_22 rfl rfl ?_
  refine own_newarray (pc' := 25) B X0 (own_w hw 0 rfl) at_23 rfl rfl (by decide) 3 (by decide) (by decide) (k' := 1) (n' := 3) rfl rfl (by decide) (by decide) "[J" (by decide) (.long (0 : Int64)) rfl ?_
  intro T5 h5 b5 kb5 X5 g5 E5 V_b5 E_b5
  have sz_b5 : h0.size ≤ b5 := own_sz K g5
  have g_b5 : n0 ≤ b5 := Nat.le_trans Z0 sz_b5
  replace K := K.ext E5
  replace V_b5 : Arv Z h5 b5 kb5 .long (3 : Int32) [(.long (0 : Int64)), (.long (0 : Int64)), (.long (0 : Int64))] (.long (0 : Int64)) := V_b5.pad (pad_rep [] (.long (0 : Int64)) 3)
  refine own_dup (pc' := 26) B X5 at_25 rfl rfl ?_
  refine own_iconst (pc' := 27) B X5 (z := (0 : Int32)) at_26 rfl rfl ?_
  refine own_lload (pc' := 29) B X5 at_27 rfl rfl ?_
  refine own_lastore (pc' := 30) B X5 (x' := i3) V_b5 g_b5 ⟨by decide, by decide⟩ 0 (by decide) (Nat.le_of_ble_eq_true rfl) rfl at_29 rfl ?_
  intro T6 h6 X6 W6 V_b5
  replace V_b5 : Arv Z h6 b5 kb5 .long (3 : Int32) [(.long i3), (.long (0 : Int64)), (.long (0 : Int64))] (.long (0 : Int64)) := V_b5
  replace E_b5 := E_b5.wr W6
  replace K := K.wr W6 (Or.inr sz_b5)
  refine own_dup (pc' := 31) B X6 at_30 rfl rfl ?_
  refine own_iconst (pc' := 32) B X6 (z := (1 : Int32)) at_31 rfl rfl ?_
  refine own_lload (pc' := 34) B X6 at_32 rfl rfl ?_
  refine own_lastore (pc' := 35) B X6 (x' := i4) V_b5 g_b5 ⟨by decide, by decide⟩ 1 (by decide) (Nat.le_of_ble_eq_true rfl) rfl at_34 rfl ?_
  intro T7 h7 X7 W7 V_b5
  replace V_b5 : Arv Z h7 b5 kb5 .long (3 : Int32) [(.long i3), (.long i4), (.long (0 : Int64))] (.long (0 : Int64)) := V_b5
  replace E_b5 := E_b5.wr W7
  replace K := K.wr W7 (Or.inr sz_b5)
  refine own_dup (pc' := 36) B X7 at_35 rfl rfl ?_
  refine own_iconst (pc' := 37) B X7 (z := (2 : Int32)) at_36 rfl rfl ?_
  refine own_lload (pc' := 39) B X7 at_37 rfl rfl ?_
  refine own_lastore (pc' := 40) B X7 (x' := i5) V_b5 g_b5 ⟨by decide, by decide⟩ 2 (by decide) (Nat.le_of_ble_eq_true rfl) rfl at_39 rfl ?_
  intro T8 h8 X8 W8 V_b5
  replace V_b5 : Arv Z h8 b5 kb5 .long (3 : Int32) [(.long i3), (.long i4), (.long i5)] (.long (0 : Int64)) := V_b5
  replace E_b5 := E_b5.wr W8
  replace K := K.wr W8 (Or.inr sz_b5)
  refine own_astore (pc' := 42) B X8 (Ls' := #[.val (.int i0), .val (.int i1), .val (.long i2), .second, .val (.long i3), .second, .val (.long i4), .second, .val (.long i5), .second, .val (.int y1), .val (.int y3), .val (.int y4), .val (.ref b5), .unset, .unset, .unset, .unset, .unset]) at_40 rfl rfl rfl ?_
  refine own_iconst (pc' := 43) B X8 (z := (3 : Int32)) at_42 rfl rfl ?_
  refine own_newarray (pc' := 45) B X8 (own_w hw 0 rfl) at_43 rfl rfl (by decide) 3 (by decide) (by decide) (k' := 2) (n' := 6) rfl rfl (by decide) (by decide) "[J" (by decide) (.long (0 : Int64)) rfl ?_
  intro T9 h9 b9 kb9 X9 g9 E9 V_b9 E_b9
  have ne_b5_b9 : b5 ≠ b9 := own_ne E_b5.lt g9
  have sz_b9 : h0.size ≤ b9 := own_sz K g9
  have g_b9 : n0 ≤ b9 := Nat.le_trans Z0 sz_b9
  replace K := K.ext E9
  replace E_b5 := E_b5.ext E9
  replace V_b5 := V_b5.ext E9
  replace V_b9 : Arv Z h9 b9 kb9 .long (3 : Int32) [(.long (0 : Int64)), (.long (0 : Int64)), (.long (0 : Int64))] (.long (0 : Int64)) := V_b9.pad (pad_rep [] (.long (0 : Int64)) 3)
  refine own_dup (pc' := 46) B X9 at_45 rfl rfl ?_
  refine own_iconst (pc' := 47) B X9 (z := (0 : Int32)) at_46 rfl rfl ?_
  refine own_lload (pc' := 49) B X9 at_47 rfl rfl ?_
  refine own_lastore (pc' := 50) B X9 (x' := i3) V_b9 g_b9 ⟨by decide, by decide⟩ 0 (by decide) (Nat.le_of_ble_eq_true rfl) rfl at_49 rfl ?_
  intro T10 h10 X10 W10 V_b9
  replace V_b9 : Arv Z h10 b9 kb9 .long (3 : Int32) [(.long i3), (.long (0 : Int64)), (.long (0 : Int64))] (.long (0 : Int64)) := V_b9
  replace E_b5 := E_b5.wr W10
  replace V_b5 := V_b5.other W10 ne_b5_b9
  replace E_b9 := E_b9.wr W10
  replace K := K.wr W10 (Or.inr sz_b9)
  refine own_dup (pc' := 51) B X10 at_50 rfl rfl ?_
  refine own_iconst (pc' := 52) B X10 (z := (1 : Int32)) at_51 rfl rfl ?_
  refine own_lload (pc' := 54) B X10 at_52 rfl rfl ?_
  refine own_lastore (pc' := 55) B X10 (x' := i4) V_b9 g_b9 ⟨by decide, by decide⟩ 1 (by decide) (Nat.le_of_ble_eq_true rfl) rfl at_54 rfl ?_
  intro T11 h11 X11 W11 V_b9
  replace V_b9 : Arv Z h11 b9 kb9 .long (3 : Int32) [(.long i3), (.long i4), (.long (0 : Int64))] (.long (0 : Int64)) := V_b9
  replace E_b5 := E_b5.wr W11
  replace V_b5 := V_b5.other W11 ne_b5_b9
  replace E_b9 := E_b9.wr W11
  replace K := K.wr W11 (Or.inr sz_b9)
  refine own_dup (pc' := 56) B X11 at_55 rfl rfl ?_
  refine own_iconst (pc' := 57) B X11 (z := (2 : Int32)) at_56 rfl rfl ?_
  refine own_lload (pc' := 59) B X11 at_57 rfl rfl ?_
  refine own_lastore (pc' := 60) B X11 (x' := i5) V_b9 g_b9 ⟨by decide, by decide⟩ 2 (by decide) (Nat.le_of_ble_eq_true rfl) rfl at_59 rfl ?_
  intro T12 h12 X12 W12 V_b9
  replace V_b9 : Arv Z h12 b9 kb9 .long (3 : Int32) [(.long i3), (.long i4), (.long i5)] (.long (0 : Int64)) := V_b9
  replace E_b5 := E_b5.wr W12
  replace V_b5 := V_b5.other W12 ne_b5_b9
  replace E_b9 := E_b9.wr W12
  replace K := K.wr W12 (Or.inr sz_b9)
  refine own_astore (pc' := 62) B X12 (Ls' := #[.val (.int i0), .val (.int i1), .val (.long i2), .second, .val (.long i3), .second, .val (.long i4), .second, .val (.long i5), .second, .val (.int y1), .val (.int y3), .val (.int y4), .val (.ref b5), .val (.ref b9), .unset, .unset, .unset, .unset]) at_60 rfl rfl rfl ?_
  obtain ⟨y13, hy13⟩ : ∃ z : Int32, y4 - i0 = z := ⟨_, rfl⟩
  obtain rfl : y1 = y13 := by
    have o0 := own_o_mask hy1 7 (by decide) (by decide)
    have o1 := own_o_iadd hy4
    have o2 := own_o_isub hy13
    have o3 := rng32 i0
    have o4 := rng32 i1
    have o5 := rng32 y1
    have o6 := rng32 y13
    have o7 := rng32 y4
    have o8 : (127 : Int32).toInt = 127 := by decide
    refine own_eqI ?_
    omega
  obtain ⟨y14, hy14⟩ : ∃ z : Int32, y1 &&& (63 : Int32) = z := ⟨_, rfl⟩
  obtain ⟨y15, hy15⟩ : ∃ z : Int32, (y1.toUInt32 >>> ((6 : Int32) &&& 31).toUInt32).toInt32 = z := ⟨_, rfl⟩
  obtain ⟨y16, hy16⟩ : ∃ z : Int32, y3 &&& (63 : Int32) = z := ⟨_, rfl⟩
  obtain ⟨y17, hy17⟩ : ∃ z : Int32, (y3.toUInt32 >>> ((6 : Int32) &&& 31).toUInt32).toInt32 = z := ⟨_, rfl⟩
  have z18 : y15.toInt = 0 ∨ y15.toInt = 1 := by
    have o0 := own_o_mask hy1 7 (by decide) (by decide)
    have o1 := own_o_iadd hy4
    have o2 := own_o_isub hy13
    have o3 := own_o_iushr hy15 6 (by decide) (by decide)
    have o4 := rng32 i0
    have o5 := rng32 i1
    have o6 := rng32 y1
    have o7 := rng32 y15
    have o8 := rng32 y4
    have o9 : (127 : Int32).toInt = 127 := by decide
    have o10 : (6 : Int32).toInt = 6 := by decide
    omega
  rcases z18 with z18 | z18
  · obtain rfl : y15 = (0 : Int32) := Int32.toInt_inj.mp (z18.trans (by decide))
    have z19 : y17.toInt = 0 ∨ y17.toInt = 1 ∨ y17.toInt = 2 := by
      have o0 := own_o_iushr hy2 7 (by decide) (by decide)
      have o1 := own_o_irem hy3 192 (by decide)
      have o2 := own_o_iushr hy17 6 (by decide) (by decide)
      have o3 := rng32 i1
      have o4 := rng32 y17
      have o5 := rng32 y2
      have o6 := rng32 y3
      have o7 : (7 : Int32).toInt = 7 := by decide
      have o8 : (192 : Int32).toInt = 192 := by decide
      have o9 : (6 : Int32).toInt = 6 := by decide
      omega
    rcases z19 with z19 | z19 | z19
    · obtain rfl : y17 = (0 : Int32) := Int32.toInt_inj.mp (z19.trans (by decide))
      refine own_aload (pc' := 64) B X12 at_62 rfl rfl rfl ?_
      have rs : 0 ≤ y14.toInt ∧ y14.toInt < 64 := by
        have o0 := own_o_mask hy1 7 (by decide) (by decide)
        have o1 := own_o_iushr hy2 7 (by decide) (by decide)
        have o2 := own_o_irem hy3 192 (by decide)
        have o3 := own_o_iadd hy4
        have o4 := own_o_isub hy13
        have o5 := own_o_mask hy14 6 (by decide) (by decide)
        have o6 := own_o_iushr hy15 6 (by decide) (by decide)
        have o7 := own_o_mask hy16 6 (by decide) (by decide)
        have o8 := own_o_iushr hy17 6 (by decide) (by decide)
        have o9 := rng32 i0
        have o10 := rng32 i1
        have o11 := rng32 y1
        have o12 := rng32 y14
        have o13 := rng32 y16
        have o14 := rng32 y2
        have o15 := rng32 y3
        have o16 := rng32 y4
        have o17 : (127 : Int32).toInt = 127 := by decide
        have o18 : (7 : Int32).toInt = 7 := by decide
        have o19 : (192 : Int32).toInt = 192 := by decide
        have o20 : (63 : Int32).toInt = 63 := by decide
        have o21 : (6 : Int32).toInt = 6 := by decide
        have o22 : (0 : Int32).toInt = 0 := by decide
        omega
      have rk : 0 ≤ y16.toInt ∧ y16.toInt < 64 := by
        have o0 := own_o_mask hy1 7 (by decide) (by decide)
        have o1 := own_o_iushr hy2 7 (by decide) (by decide)
        have o2 := own_o_irem hy3 192 (by decide)
        have o3 := own_o_iadd hy4
        have o4 := own_o_isub hy13
        have o5 := own_o_mask hy14 6 (by decide) (by decide)
        have o6 := own_o_iushr hy15 6 (by decide) (by decide)
        have o7 := own_o_mask hy16 6 (by decide) (by decide)
        have o8 := own_o_iushr hy17 6 (by decide) (by decide)
        have o9 := rng32 i0
        have o10 := rng32 i1
        have o11 := rng32 y1
        have o12 := rng32 y14
        have o13 := rng32 y16
        have o14 := rng32 y2
        have o15 := rng32 y3
        have o16 := rng32 y4
        have o17 : (127 : Int32).toInt = 127 := by decide
        have o18 : (7 : Int32).toInt = 7 := by decide
        have o19 : (192 : Int32).toInt = 192 := by decide
        have o20 : (63 : Int32).toInt = 63 := by decide
        have o21 : (6 : Int32).toInt = 6 := by decide
        have o22 : (0 : Int32).toInt = 0 := by decide
        omega
      have rp : y1.toInt = 64 * 0 + y14.toInt := by
        have o0 := own_o_mask hy1 7 (by decide) (by decide)
        have o1 := own_o_iushr hy2 7 (by decide) (by decide)
        have o2 := own_o_irem hy3 192 (by decide)
        have o3 := own_o_iadd hy4
        have o4 := own_o_isub hy13
        have o5 := own_o_mask hy14 6 (by decide) (by decide)
        have o6 := own_o_iushr hy15 6 (by decide) (by decide)
        have o7 := own_o_mask hy16 6 (by decide) (by decide)
        have o8 := own_o_iushr hy17 6 (by decide) (by decide)
        have o9 := rng32 i0
        have o10 := rng32 i1
        have o11 := rng32 y1
        have o12 := rng32 y14
        have o13 := rng32 y16
        have o14 := rng32 y2
        have o15 := rng32 y3
        have o16 := rng32 y4
        have o17 : (127 : Int32).toInt = 127 := by decide
        have o18 : (7 : Int32).toInt = 7 := by decide
        have o19 : (192 : Int32).toInt = 192 := by decide
        have o20 : (63 : Int32).toInt = 63 := by decide
        have o21 : (6 : Int32).toInt = 6 := by decide
        have o22 : (0 : Int32).toInt = 0 := by decide
        omega
      have rq : y3.toInt = 64 * 0 + y16.toInt := by
        have o0 := own_o_mask hy1 7 (by decide) (by decide)
        have o1 := own_o_iushr hy2 7 (by decide) (by decide)
        have o2 := own_o_irem hy3 192 (by decide)
        have o3 := own_o_iadd hy4
        have o4 := own_o_isub hy13
        have o5 := own_o_mask hy14 6 (by decide) (by decide)
        have o6 := own_o_iushr hy15 6 (by decide) (by decide)
        have o7 := own_o_mask hy16 6 (by decide) (by decide)
        have o8 := own_o_iushr hy17 6 (by decide) (by decide)
        have o9 := rng32 i0
        have o10 := rng32 i1
        have o11 := rng32 y1
        have o12 := rng32 y14
        have o13 := rng32 y16
        have o14 := rng32 y2
        have o15 := rng32 y3
        have o16 := rng32 y4
        have o17 : (127 : Int32).toInt = 127 := by decide
        have o18 : (7 : Int32).toInt = 7 := by decide
        have o19 : (192 : Int32).toInt = 192 := by decide
        have o20 : (63 : Int32).toInt = 63 := by decide
        have o21 : (6 : Int32).toInt = 6 := by decide
        have o22 : (0 : Int32).toInt = 0 := by decide
        omega
      refine own_iloadN (pc' := 65) B X12 at_64 rfl rfl ?_
      refine own_iload (pc' := 67) B X12 at_65 rfl rfl ?_
      refine own_lloadN (pc' := 68) B X12 at_67 rfl rfl ?_
      refine own_callS (pc' := 71) B X12 (own_w hw 1 rfl) (own_w hw 2 rfl) (own_w hw 3 rfl) (own_w hw 4 rfl) (by decide) [(.ref b5), (.int i0), (.int y4), (.long i2)] [] (rm_1 l Z a0 hw [] b5 kb5 (i3) (i4) (i5) (i0) (y4) (i2) (y1) (y14) h12 n0 (Nat.le_trans Z0 K.1) E_b5 V_b5 g_b5 hy13 hy14 hy15) 0 (by decide) (by decide) rfl pd_0 rfl rfl (Nat.le_of_eq rfl) at_68 rfl (k' := 2) (n' := 6) rfl rfl (by decide) (by decide) ?_
      intro T20 v20 h20 X20 q20
      rcases q20 with ⟨y21, y22, hy23, hy24, c25, rfl, K20, E_b5, V_b5⟩ | ⟨y26, y27, y28, y29, hy30, hy31, c32, hy33, hy34, c35, rfl, K20, E_b5, V_b5⟩ | ⟨y36, y37, y38, y39, y40, hy41, hy42, c43, hy44, hy45, c46, hy47, rfl, K20, E_b5, V_b5⟩
      · replace K := K.trans K20 (allS (Or.inr sz_b5) all0)
        replace E_b9 := E_b9.keep K20
        replace V_b9 := V_b9.keep K20 (ninS (Ne.symm ne_b5_b9) nin0)
        show own_Go p e below (T20.setTop (mkF m 71 #[.val (.int i0), .val (.int i1), .val (.long i2), .second, .val (.long i3), .second, .val (.long i4), .second, .val (.long i5), .second, .val (.int y1), .val (.int y3), .val (.int y4), .val (.ref b5), .val (.ref b9), .unset, .unset, .unset, .unset] [])) _
        refine own_aload (pc' := 73) B X20 at_71 rfl rfl rfl ?_
        refine own_iload (pc' := 75) B X20 at_73 rfl rfl ?_
        refine own_callS (pc' := 78) B X20 (own_w hw 5 rfl) (own_w hw 6 rfl) (own_w hw 7 rfl) (own_w hw 8 rfl) (by decide) [(.ref b9), (.int y3)] [] (rm_2 l Z a0 hw [] b9 kb9 (i3) (i4) (i5) (y3) (y16) h20 n0 (Nat.le_trans Z0 K.1) E_b9 V_b9 g_b9 hy16 hy17) 0 (by decide) (by decide) rfl pd_1 rfl rfl (Nat.le_of_eq rfl) at_75 rfl (k' := 2) (n' := 6) rfl rfl (by decide) (by decide) ?_
        intro T48 v48 h48 X48 q48
        rcases q48 with ⟨y49, y50, hy51, hy52, c53, rfl, rfl⟩ | ⟨y54, y55, hy56, hy57, c58, rfl, rfl⟩
        · show own_Go p e below (T48.setTop (mkF m 78 #[.val (.int i0), .val (.int i1), .val (.long i2), .second, .val (.long i3), .second, .val (.long i4), .second, .val (.long i5), .second, .val (.int y1), .val (.int y3), .val (.int y4), .val (.ref b5), .val (.ref b9), .unset, .unset, .unset, .unset] [(.int (0 : Int32))])) _
          refine own_istore (pc' := 80) B X48 (Ls' := #[.val (.int i0), .val (.int i1), .val (.long i2), .second, .val (.long i3), .second, .val (.long i4), .second, .val (.long i5), .second, .val (.int y1), .val (.int y3), .val (.int y4), .val (.ref b5), .val (.ref b9), .val (.int (0 : Int32)), .unset, .unset, .unset]) at_78 rfl rfl ?_
          refine own_iload (pc' := 82) B X48 at_80 rfl rfl ?_
          refine own_iload (pc' := 84) B X48 at_82 rfl rfl ?_
          obtain ⟨y59, hy59⟩ : ∃ z : Int32, y3 - y1 = z := ⟨_, rfl⟩
          refine own_isub (pc' := 85) B X48 at_84 rfl hy59 ?_
          refine own_istore (pc' := 87) B X48 (Ls' := #[.val (.int i0), .val (.int i1), .val (.long i2), .second, .val (.long i3), .second, .val (.long i4), .second, .val (.long i5), .second, .val (.int y1), .val (.int y3), .val (.int y4), .val (.ref b5), .val (.ref b9), .val (.int (0 : Int32)), .val (.int y59), .unset, .unset]) at_85 rfl rfl ?_
          have rd : y59.toInt = 64 * 0 + y16.toInt - y14.toInt := own_dist hy59 rp rq rs rk (by decide) (by decide) (by decide)
          refine own_iload (pc' := 89) B X48 at_87 rfl rfl ?_
          have c60 : ¬ (y59 < (0 : Int32)) := by
            have o0 := own_o_mask hy1 7 (by decide) (by decide)
            have o1 := own_o_iushr hy2 7 (by decide) (by decide)
            have o2 := own_o_irem hy3 192 (by decide)
            have o3 := own_o_iadd hy4
            have o4 := own_o_isub hy13
            have o5 := own_o_mask hy14 6 (by decide) (by decide)
            have o6 := own_o_iushr hy15 6 (by decide) (by decide)
            have o7 := own_o_mask hy16 6 (by decide) (by decide)
            have o8 := own_o_iushr hy17 6 (by decide) (by decide)
            have o9 := own_o_maskL hy52 1 (by decide) (by decide)
            have o10 := own_o_isub hy59
            have o11 := own_eq c25
            have o12 := own_eqL c53
            have o13 := rng32 i0
            have o14 := rng32 i1
            have o15 := rng32 y1
            have o16 := rng32 y14
            have o17 := rng32 y16
            have o18 := rng32 y2
            have o19 := rng32 y3
            have o20 := rng32 y4
            have o21 := rng32 y59
            have o22 := rng64 i3
            have o23 := rng64 y49
            have o24 := rng64 y50
            have o25 : (127 : Int32).toInt = 127 := by decide
            have o26 : (7 : Int32).toInt = 7 := by decide
            have o27 : (192 : Int32).toInt = 192 := by decide
            have o28 : (63 : Int32).toInt = 63 := by decide
            have o29 : (6 : Int32).toInt = 6 := by decide
            have o30 : (0 : Int32).toInt = 0 := by decide
            have o31 : (1 : Int64).toInt = 1 := by decide
            have o32 : (0 : Int64).toInt = 0 := by decide
            refine own_nltI ?_
            omega
          refine own_ifNo (pc' := 92) B X48 at_89 ((if0 _ _).trans (flt c60).1) rfl ?_
          refine own_iload (pc' := 94) B X48 at_92 rfl rfl ?_
          refine own_bipush (pc' := 96) B X48 (z := (64 : Int32)) at_94 rfl (by decide) ?_
          have c61 : y59 < (64 : Int32) := by
            have o0 := own_o_mask hy1 7 (by decide) (by decide)
            have o1 := own_o_iushr hy2 7 (by decide) (by decide)
            have o2 := own_o_irem hy3 192 (by decide)
            have o3 := own_o_iadd hy4
            have o4 := own_o_isub hy13
            have o5 := own_o_mask hy14 6 (by decide) (by decide)
            have o6 := own_o_iushr hy15 6 (by decide) (by decide)
            have o7 := own_o_mask hy16 6 (by decide) (by decide)
            have o8 := own_o_iushr hy17 6 (by decide) (by decide)
            have o9 := own_o_maskL hy52 1 (by decide) (by decide)
            have o10 := own_o_isub hy59
            have o11 := own_eq c25
            have o12 := own_eqL c53
            have o13 := own_nlt c60
            have o14 := rng32 i0
            have o15 := rng32 i1
            have o16 := rng32 y1
            have o17 := rng32 y14
            have o18 := rng32 y16
            have o19 := rng32 y2
            have o20 := rng32 y3
            have o21 := rng32 y4
            have o22 := rng32 y59
            have o23 := rng64 i3
            have o24 := rng64 y49
            have o25 := rng64 y50
            have o26 : (127 : Int32).toInt = 127 := by decide
            have o27 : (7 : Int32).toInt = 7 := by decide
            have o28 : (192 : Int32).toInt = 192 := by decide
            have o29 : (63 : Int32).toInt = 63 := by decide
            have o30 : (6 : Int32).toInt = 6 := by decide
            have o31 : (0 : Int32).toInt = 0 := by decide
            have o32 : (1 : Int64).toInt = 1 := by decide
            have o33 : (0 : Int64).toInt = 0 := by decide
            have o34 : (64 : Int32).toInt = 64 := by decide
            refine own_ltI ?_
            omega
          refine own_icmpNo (pc' := 99) B X48 at_96 (tlt c61).2.1 rfl ?_
          refine own_lloadN (pc' := 100) B X48 at_99 rfl rfl ?_
          refine own_iload (pc' := 102) B X48 at_100 rfl rfl ?_
          obtain ⟨y62, hy62⟩ : ∃ z : Int64, (i2.toUInt64 >>> (y59 &&& 0x3f).toInt64.toUInt64).toInt64 = z := ⟨_, rfl⟩
          refine own_lushr (pc' := 103) B X48 at_102 rfl hy62 ?_
          refine own_lconst (pc' := 104) B X48 (z := (1 : Int64)) at_103 rfl (by decide) ?_
          obtain ⟨y63, hy63⟩ : ∃ z : Int64, y62 &&& (1 : Int64) = z := ⟨_, rfl⟩
          refine own_land (pc' := 105) B X48 at_104 rfl hy63 ?_
          refine own_lconst (pc' := 106) B X48 (z := (0 : Int64)) at_105 rfl (by decide) ?_
          obtain ⟨y64, hy64⟩ : ∃ z : Int32, lcmpW y63 (0 : Int64) = z := ⟨_, rfl⟩
          refine own_lcmp (pc' := 107) B X48 at_106 rfl hy64 ?_
          by_cases c65 : y63 = (0 : Int64)
          · refine own_ifYes (pc' := 114) B X48 at_107 ((if0 _ _).trans (teq (own_lcm (P := fun q => (q = (0 : Int32))) hy64 ((lw_eq y63 (0 : Int64)).mpr c65))).1) (by decide) rfl ?_
            refine own_iconst (pc' := 115) B X48 (z := (0 : Int32)) at_114 rfl rfl ?_
            refine own_istore (pc' := 117) B X48 (Ls' := #[.val (.int i0), .val (.int i1), .val (.long i2), .second, .val (.long i3), .second, .val (.long i4), .second, .val (.long i5), .second, .val (.int y1), .val (.int y3), .val (.int y4), .val (.ref b5), .val (.ref b9), .val (.int (0 : Int32)), .val (.int y59), .val (.int (0 : Int32)), .unset]) at_115 rfl rfl ?_
            refine own_aload (pc' := 119) B X48 at_117 rfl rfl rfl ?_
            refine own_iload (pc' := 121) B X48 at_119 rfl rfl ?_
            refine own_callS (pc' := 124) B X48 (own_w hw 5 rfl) (own_w hw 6 rfl) (own_w hw 7 rfl) (own_w hw 8 rfl) (by decide) [(.ref b5), (.int y3)] [] (rm_2 l Z a0 hw [] b5 kb5 (y22) (i4) (i5) (y3) (y16) h20 n0 (Nat.le_trans Z0 K.1) E_b5 V_b5 g_b5 hy16 hy17) 0 (by decide) (by decide) rfl pd_1 rfl rfl (Nat.le_of_eq rfl) at_121 rfl (k' := 2) (n' := 6) rfl rfl (by decide) (by decide) ?_
            intro T66 v66 h66 X66 q66
            rcases q66 with ⟨y67, y68, hy69, hy70, c71, rfl, rfl⟩ | ⟨y72, y73, hy74, hy75, c76, rfl, rfl⟩
            · show own_Go p e below (T66.setTop (mkF m 124 #[.val (.int i0), .val (.int i1), .val (.long i2), .second, .val (.long i3), .second, .val (.long i4), .second, .val (.long i5), .second, .val (.int y1), .val (.int y3), .val (.int y4), .val (.ref b5), .val (.ref b9), .val (.int (0 : Int32)), .val (.int y59), .val (.int (0 : Int32)), .unset] [(.int (0 : Int32))])) _
              refine own_istore (pc' := 126) B X66 (Ls' := #[.val (.int i0), .val (.int i1), .val (.long i2), .second, .val (.long i3), .second, .val (.long i4), .second, .val (.long i5), .second, .val (.int y1), .val (.int y3), .val (.int y4), .val (.ref b5), .val (.ref b9), .val (.int (0 : Int32)), .val (.int y59), .val (.int (0 : Int32)), .val (.int (0 : Int32))]) at_124 rfl rfl ?_
              refine own_iload (pc' := 128) B X66 at_126 rfl rfl ?_
              refine own_iload (pc' := 130) B X66 at_128 rfl rfl ?_
              refine own_ifNo (pc' := 133) B X66 at_130 ((if0 _ _).trans (teq (by decide : (0 : Int32) = (0 : Int32))).2) rfl ?_
              refine own_iload (pc' := 135) B X66 at_133 rfl rfl ?_
              refine own_ifYes (pc' := 142) B X66 at_135 ((if0 _ _).trans (teq (by decide : (0 : Int32) = (0 : Int32))).1) (by decide) rfl ?_
              refine own_iconst (pc' := 143) B X66 (z := (0 : Int32)) at_142 rfl rfl ?_
              refine own_icmpNo (pc' := 146) B X66 at_143 (teq (by decide : (0 : Int32) = (0 : Int32))).2 rfl ?_
              refine own_iconst (pc' := 147) B X66 (z := (1 : Int32)) at_146 rfl rfl ?_
              refine own_goto (pc' := 151) B X66 at_147 (by decide) rfl ?_
              exact own_retN B X66 (t := .boolean) (z' := (1 : Int32)) (by simp) (by decide) at_151 (by decide) (by decide) rfl
            · exfalso
              have b0 := own_bitF hy51 hy52 rk.1 rk.2 c53
              have b1 := own_bitF hy62 hy63 (own_gez c60) (own_lt64 c61) c65
              have b2 := own_bitT hy74 hy75 rk.1 rk.2 c76
              rw [own_bitA rs rk rd hy23 hy24, decide_eq_false (own_nltz c60)] at b2
              revert b0 b1 b2
              generalize own_tb i3 y16.toInt.toNat = u0
              generalize own_tb i2 y59.toInt.toNat = u1
              revert u0 u1
              decide
          · refine own_ifNo (pc' := 110) B X48 at_107 ((if0 _ _).trans (feq (own_lcm (P := fun q => ¬ (q = (0 : Int32))) hy64 (fun q => c65 ((lw_eq y63 (0 : Int64)).mp q)))).1) rfl ?_
            refine own_iconst (pc' := 111) B X48 (z := (1 : Int32)) at_110 rfl rfl ?_
            refine own_goto (pc' := 115) B X48 at_111 (by decide) rfl ?_
            refine own_istore (pc' := 117) B X48 (Ls' := #[.val (.int i0), .val (.int i1), .val (.long i2), .second, .val (.long i3), .second, .val (.long i4), .second, .val (.long i5), .second, .val (.int y1), .val (.int y3), .val (.int y4), .val (.ref b5), .val (.ref b9), .val (.int (0 : Int32)), .val (.int y59), .val (.int (1 : Int32)), .unset]) at_115 rfl rfl ?_
            refine own_aload (pc' := 119) B X48 at_117 rfl rfl rfl ?_
            refine own_iload (pc' := 121) B X48 at_119 rfl rfl ?_
            refine own_callS (pc' := 124) B X48 (own_w hw 5 rfl) (own_w hw 6 rfl) (own_w hw 7 rfl) (own_w hw 8 rfl) (by decide) [(.ref b5), (.int y3)] [] (rm_2 l Z a0 hw [] b5 kb5 (y22) (i4) (i5) (y3) (y16) h20 n0 (Nat.le_trans Z0 K.1) E_b5 V_b5 g_b5 hy16 hy17) 0 (by decide) (by decide) rfl pd_1 rfl rfl (Nat.le_of_eq rfl) at_121 rfl (k' := 2) (n' := 6) rfl rfl (by decide) (by decide) ?_
            intro T77 v77 h77 X77 q77
            rcases q77 with ⟨y78, y79, hy80, hy81, c82, rfl, rfl⟩ | ⟨y83, y84, hy85, hy86, c87, rfl, rfl⟩
            · exfalso
              have b0 := own_bitF hy51 hy52 rk.1 rk.2 c53
              have b1 := own_bitT hy62 hy63 (own_gez c60) (own_lt64 c61) c65
              have b2 := own_bitF hy80 hy81 rk.1 rk.2 c82
              rw [own_bitA rs rk rd hy23 hy24, decide_eq_false (own_nltz c60)] at b2
              revert b0 b1 b2
              generalize own_tb i3 y16.toInt.toNat = u0
              generalize own_tb i2 y59.toInt.toNat = u1
              revert u0 u1
              decide
            · show own_Go p e below (T77.setTop (mkF m 124 #[.val (.int i0), .val (.int i1), .val (.long i2), .second, .val (.long i3), .second, .val (.long i4), .second, .val (.long i5), .second, .val (.int y1), .val (.int y3), .val (.int y4), .val (.ref b5), .val (.ref b9), .val (.int (0 : Int32)), .val (.int y59), .val (.int (1 : Int32)), .unset] [(.int (1 : Int32))])) _
              refine own_istore (pc' := 126) B X77 (Ls' := #[.val (.int i0), .val (.int i1), .val (.long i2), .second, .val (.long i3), .second, .val (.long i4), .second, .val (.long i5), .second, .val (.int y1), .val (.int y3), .val (.int y4), .val (.ref b5), .val (.ref b9), .val (.int (0 : Int32)), .val (.int y59), .val (.int (1 : Int32)), .val (.int (1 : Int32))]) at_124 rfl rfl ?_
              refine own_iload (pc' := 128) B X77 at_126 rfl rfl ?_
              refine own_iload (pc' := 130) B X77 at_128 rfl rfl ?_
              refine own_ifNo (pc' := 133) B X77 at_130 ((if0 _ _).trans (teq (by decide : (0 : Int32) = (0 : Int32))).2) rfl ?_
              refine own_iload (pc' := 135) B X77 at_133 rfl rfl ?_
              refine own_ifNo (pc' := 138) B X77 at_135 ((if0 _ _).trans (feq (by decide : ¬ ((1 : Int32) = (0 : Int32)))).1) rfl ?_
              refine own_iconst (pc' := 139) B X77 (z := (1 : Int32)) at_138 rfl rfl ?_
              refine own_goto (pc' := 143) B X77 at_139 (by decide) rfl ?_
              refine own_icmpNo (pc' := 146) B X77 at_143 (teq (by decide : (1 : Int32) = (1 : Int32))).2 rfl ?_
              refine own_iconst (pc' := 147) B X77 (z := (1 : Int32)) at_146 rfl rfl ?_
              refine own_goto (pc' := 151) B X77 at_147 (by decide) rfl ?_
              exact own_retN B X77 (t := .boolean) (z' := (1 : Int32)) (by simp) (by decide) at_151 (by decide) (by decide) rfl
        · show own_Go p e below (T48.setTop (mkF m 78 #[.val (.int i0), .val (.int i1), .val (.long i2), .second, .val (.long i3), .second, .val (.long i4), .second, .val (.long i5), .second, .val (.int y1), .val (.int y3), .val (.int y4), .val (.ref b5), .val (.ref b9), .unset, .unset, .unset, .unset] [(.int (1 : Int32))])) _
          refine own_istore (pc' := 80) B X48 (Ls' := #[.val (.int i0), .val (.int i1), .val (.long i2), .second, .val (.long i3), .second, .val (.long i4), .second, .val (.long i5), .second, .val (.int y1), .val (.int y3), .val (.int y4), .val (.ref b5), .val (.ref b9), .val (.int (1 : Int32)), .unset, .unset, .unset]) at_78 rfl rfl ?_
          refine own_iload (pc' := 82) B X48 at_80 rfl rfl ?_
          refine own_iload (pc' := 84) B X48 at_82 rfl rfl ?_
          obtain ⟨y88, hy88⟩ : ∃ z : Int32, y3 - y1 = z := ⟨_, rfl⟩
          refine own_isub (pc' := 85) B X48 at_84 rfl hy88 ?_
          refine own_istore (pc' := 87) B X48 (Ls' := #[.val (.int i0), .val (.int i1), .val (.long i2), .second, .val (.long i3), .second, .val (.long i4), .second, .val (.long i5), .second, .val (.int y1), .val (.int y3), .val (.int y4), .val (.ref b5), .val (.ref b9), .val (.int (1 : Int32)), .val (.int y88), .unset, .unset]) at_85 rfl rfl ?_
          have rd : y88.toInt = 64 * 0 + y16.toInt - y14.toInt := own_dist hy88 rp rq rs rk (by decide) (by decide) (by decide)
          refine own_iload (pc' := 89) B X48 at_87 rfl rfl ?_
          have c89 : ¬ (y88 < (0 : Int32)) := by
            have o0 := own_o_mask hy1 7 (by decide) (by decide)
            have o1 := own_o_iushr hy2 7 (by decide) (by decide)
            have o2 := own_o_irem hy3 192 (by decide)
            have o3 := own_o_iadd hy4
            have o4 := own_o_isub hy13
            have o5 := own_o_mask hy14 6 (by decide) (by decide)
            have o6 := own_o_iushr hy15 6 (by decide) (by decide)
            have o7 := own_o_mask hy16 6 (by decide) (by decide)
            have o8 := own_o_iushr hy17 6 (by decide) (by decide)
            have o9 := own_o_maskL hy57 1 (by decide) (by decide)
            have o10 := own_o_isub hy88
            have o11 := own_eq c25
            have o12 := own_neqL c58
            have o13 := rng32 i0
            have o14 := rng32 i1
            have o15 := rng32 y1
            have o16 := rng32 y14
            have o17 := rng32 y16
            have o18 := rng32 y2
            have o19 := rng32 y3
            have o20 := rng32 y4
            have o21 := rng32 y88
            have o22 := rng64 i3
            have o23 := rng64 y54
            have o24 := rng64 y55
            have o25 : (127 : Int32).toInt = 127 := by decide
            have o26 : (7 : Int32).toInt = 7 := by decide
            have o27 : (192 : Int32).toInt = 192 := by decide
            have o28 : (63 : Int32).toInt = 63 := by decide
            have o29 : (6 : Int32).toInt = 6 := by decide
            have o30 : (0 : Int32).toInt = 0 := by decide
            have o31 : (1 : Int64).toInt = 1 := by decide
            have o32 : (0 : Int64).toInt = 0 := by decide
            refine own_nltI ?_
            omega
          refine own_ifNo (pc' := 92) B X48 at_89 ((if0 _ _).trans (flt c89).1) rfl ?_
          refine own_iload (pc' := 94) B X48 at_92 rfl rfl ?_
          refine own_bipush (pc' := 96) B X48 (z := (64 : Int32)) at_94 rfl (by decide) ?_
          have c90 : y88 < (64 : Int32) := by
            have o0 := own_o_mask hy1 7 (by decide) (by decide)
            have o1 := own_o_iushr hy2 7 (by decide) (by decide)
            have o2 := own_o_irem hy3 192 (by decide)
            have o3 := own_o_iadd hy4
            have o4 := own_o_isub hy13
            have o5 := own_o_mask hy14 6 (by decide) (by decide)
            have o6 := own_o_iushr hy15 6 (by decide) (by decide)
            have o7 := own_o_mask hy16 6 (by decide) (by decide)
            have o8 := own_o_iushr hy17 6 (by decide) (by decide)
            have o9 := own_o_maskL hy57 1 (by decide) (by decide)
            have o10 := own_o_isub hy88
            have o11 := own_eq c25
            have o12 := own_neqL c58
            have o13 := own_nlt c89
            have o14 := rng32 i0
            have o15 := rng32 i1
            have o16 := rng32 y1
            have o17 := rng32 y14
            have o18 := rng32 y16
            have o19 := rng32 y2
            have o20 := rng32 y3
            have o21 := rng32 y4
            have o22 := rng32 y88
            have o23 := rng64 i3
            have o24 := rng64 y54
            have o25 := rng64 y55
            have o26 : (127 : Int32).toInt = 127 := by decide
            have o27 : (7 : Int32).toInt = 7 := by decide
            have o28 : (192 : Int32).toInt = 192 := by decide
            have o29 : (63 : Int32).toInt = 63 := by decide
            have o30 : (6 : Int32).toInt = 6 := by decide
            have o31 : (0 : Int32).toInt = 0 := by decide
            have o32 : (1 : Int64).toInt = 1 := by decide
            have o33 : (0 : Int64).toInt = 0 := by decide
            have o34 : (64 : Int32).toInt = 64 := by decide
            refine own_ltI ?_
            omega
          refine own_icmpNo (pc' := 99) B X48 at_96 (tlt c90).2.1 rfl ?_
          refine own_lloadN (pc' := 100) B X48 at_99 rfl rfl ?_
          refine own_iload (pc' := 102) B X48 at_100 rfl rfl ?_
          obtain ⟨y91, hy91⟩ : ∃ z : Int64, (i2.toUInt64 >>> (y88 &&& 0x3f).toInt64.toUInt64).toInt64 = z := ⟨_, rfl⟩
          refine own_lushr (pc' := 103) B X48 at_102 rfl hy91 ?_
          refine own_lconst (pc' := 104) B X48 (z := (1 : Int64)) at_103 rfl (by decide) ?_
          obtain ⟨y92, hy92⟩ : ∃ z : Int64, y91 &&& (1 : Int64) = z := ⟨_, rfl⟩
          refine own_land (pc' := 105) B X48 at_104 rfl hy92 ?_
          refine own_lconst (pc' := 106) B X48 (z := (0 : Int64)) at_105 rfl (by decide) ?_
          obtain ⟨y93, hy93⟩ : ∃ z : Int32, lcmpW y92 (0 : Int64) = z := ⟨_, rfl⟩
          refine own_lcmp (pc' := 107) B X48 at_106 rfl hy93 ?_
          by_cases c94 : y92 = (0 : Int64)
          · refine own_ifYes (pc' := 114) B X48 at_107 ((if0 _ _).trans (teq (own_lcm (P := fun q => (q = (0 : Int32))) hy93 ((lw_eq y92 (0 : Int64)).mpr c94))).1) (by decide) rfl ?_
            refine own_iconst (pc' := 115) B X48 (z := (0 : Int32)) at_114 rfl rfl ?_
            refine own_istore (pc' := 117) B X48 (Ls' := #[.val (.int i0), .val (.int i1), .val (.long i2), .second, .val (.long i3), .second, .val (.long i4), .second, .val (.long i5), .second, .val (.int y1), .val (.int y3), .val (.int y4), .val (.ref b5), .val (.ref b9), .val (.int (1 : Int32)), .val (.int y88), .val (.int (0 : Int32)), .unset]) at_115 rfl rfl ?_
            refine own_aload (pc' := 119) B X48 at_117 rfl rfl rfl ?_
            refine own_iload (pc' := 121) B X48 at_119 rfl rfl ?_
            refine own_callS (pc' := 124) B X48 (own_w hw 5 rfl) (own_w hw 6 rfl) (own_w hw 7 rfl) (own_w hw 8 rfl) (by decide) [(.ref b5), (.int y3)] [] (rm_2 l Z a0 hw [] b5 kb5 (y22) (i4) (i5) (y3) (y16) h20 n0 (Nat.le_trans Z0 K.1) E_b5 V_b5 g_b5 hy16 hy17) 0 (by decide) (by decide) rfl pd_1 rfl rfl (Nat.le_of_eq rfl) at_121 rfl (k' := 2) (n' := 6) rfl rfl (by decide) (by decide) ?_
            intro T95 v95 h95 X95 q95
            rcases q95 with ⟨y96, y97, hy98, hy99, c100, rfl, rfl⟩ | ⟨y101, y102, hy103, hy104, c105, rfl, rfl⟩
            · exfalso
              have b0 := own_bitT hy56 hy57 rk.1 rk.2 c58
              have b1 := own_bitF hy91 hy92 (own_gez c89) (own_lt64 c90) c94
              have b2 := own_bitF hy98 hy99 rk.1 rk.2 c100
              rw [own_bitA rs rk rd hy23 hy24, decide_eq_false (own_nltz c89)] at b2
              revert b0 b1 b2
              generalize own_tb i3 y16.toInt.toNat = u0
              generalize own_tb i2 y88.toInt.toNat = u1
              revert u0 u1
              decide
            · show own_Go p e below (T95.setTop (mkF m 124 #[.val (.int i0), .val (.int i1), .val (.long i2), .second, .val (.long i3), .second, .val (.long i4), .second, .val (.long i5), .second, .val (.int y1), .val (.int y3), .val (.int y4), .val (.ref b5), .val (.ref b9), .val (.int (1 : Int32)), .val (.int y88), .val (.int (0 : Int32)), .unset] [(.int (1 : Int32))])) _
              refine own_istore (pc' := 126) B X95 (Ls' := #[.val (.int i0), .val (.int i1), .val (.long i2), .second, .val (.long i3), .second, .val (.long i4), .second, .val (.long i5), .second, .val (.int y1), .val (.int y3), .val (.int y4), .val (.ref b5), .val (.ref b9), .val (.int (1 : Int32)), .val (.int y88), .val (.int (0 : Int32)), .val (.int (1 : Int32))]) at_124 rfl rfl ?_
              refine own_iload (pc' := 128) B X95 at_126 rfl rfl ?_
              refine own_iload (pc' := 130) B X95 at_128 rfl rfl ?_
              refine own_ifYes (pc' := 138) B X95 at_130 ((if0 _ _).trans (feq (by decide : ¬ ((1 : Int32) = (0 : Int32)))).2) (by decide) rfl ?_
              refine own_iconst (pc' := 139) B X95 (z := (1 : Int32)) at_138 rfl rfl ?_
              refine own_goto (pc' := 143) B X95 at_139 (by decide) rfl ?_
              refine own_icmpNo (pc' := 146) B X95 at_143 (teq (by decide : (1 : Int32) = (1 : Int32))).2 rfl ?_
              refine own_iconst (pc' := 147) B X95 (z := (1 : Int32)) at_146 rfl rfl ?_
              refine own_goto (pc' := 151) B X95 at_147 (by decide) rfl ?_
              exact own_retN B X95 (t := .boolean) (z' := (1 : Int32)) (by simp) (by decide) at_151 (by decide) (by decide) rfl
          · refine own_ifNo (pc' := 110) B X48 at_107 ((if0 _ _).trans (feq (own_lcm (P := fun q => ¬ (q = (0 : Int32))) hy93 (fun q => c94 ((lw_eq y92 (0 : Int64)).mp q)))).1) rfl ?_
            refine own_iconst (pc' := 111) B X48 (z := (1 : Int32)) at_110 rfl rfl ?_
            refine own_goto (pc' := 115) B X48 at_111 (by decide) rfl ?_
            refine own_istore (pc' := 117) B X48 (Ls' := #[.val (.int i0), .val (.int i1), .val (.long i2), .second, .val (.long i3), .second, .val (.long i4), .second, .val (.long i5), .second, .val (.int y1), .val (.int y3), .val (.int y4), .val (.ref b5), .val (.ref b9), .val (.int (1 : Int32)), .val (.int y88), .val (.int (1 : Int32)), .unset]) at_115 rfl rfl ?_
            refine own_aload (pc' := 119) B X48 at_117 rfl rfl rfl ?_
            refine own_iload (pc' := 121) B X48 at_119 rfl rfl ?_
            refine own_callS (pc' := 124) B X48 (own_w hw 5 rfl) (own_w hw 6 rfl) (own_w hw 7 rfl) (own_w hw 8 rfl) (by decide) [(.ref b5), (.int y3)] [] (rm_2 l Z a0 hw [] b5 kb5 (y22) (i4) (i5) (y3) (y16) h20 n0 (Nat.le_trans Z0 K.1) E_b5 V_b5 g_b5 hy16 hy17) 0 (by decide) (by decide) rfl pd_1 rfl rfl (Nat.le_of_eq rfl) at_121 rfl (k' := 2) (n' := 6) rfl rfl (by decide) (by decide) ?_
            intro T106 v106 h106 X106 q106
            rcases q106 with ⟨y107, y108, hy109, hy110, c111, rfl, rfl⟩ | ⟨y112, y113, hy114, hy115, c116, rfl, rfl⟩
            · exfalso
              have b0 := own_bitT hy56 hy57 rk.1 rk.2 c58
              have b1 := own_bitT hy91 hy92 (own_gez c89) (own_lt64 c90) c94
              have b2 := own_bitF hy109 hy110 rk.1 rk.2 c111
              rw [own_bitA rs rk rd hy23 hy24, decide_eq_false (own_nltz c89)] at b2
              revert b0 b1 b2
              generalize own_tb i3 y16.toInt.toNat = u0
              generalize own_tb i2 y88.toInt.toNat = u1
              revert u0 u1
              decide
            · show own_Go p e below (T106.setTop (mkF m 124 #[.val (.int i0), .val (.int i1), .val (.long i2), .second, .val (.long i3), .second, .val (.long i4), .second, .val (.long i5), .second, .val (.int y1), .val (.int y3), .val (.int y4), .val (.ref b5), .val (.ref b9), .val (.int (1 : Int32)), .val (.int y88), .val (.int (1 : Int32)), .unset] [(.int (1 : Int32))])) _
              refine own_istore (pc' := 126) B X106 (Ls' := #[.val (.int i0), .val (.int i1), .val (.long i2), .second, .val (.long i3), .second, .val (.long i4), .second, .val (.long i5), .second, .val (.int y1), .val (.int y3), .val (.int y4), .val (.ref b5), .val (.ref b9), .val (.int (1 : Int32)), .val (.int y88), .val (.int (1 : Int32)), .val (.int (1 : Int32))]) at_124 rfl rfl ?_
              refine own_iload (pc' := 128) B X106 at_126 rfl rfl ?_
              refine own_iload (pc' := 130) B X106 at_128 rfl rfl ?_
              refine own_ifYes (pc' := 138) B X106 at_130 ((if0 _ _).trans (feq (by decide : ¬ ((1 : Int32) = (0 : Int32)))).2) (by decide) rfl ?_
              refine own_iconst (pc' := 139) B X106 (z := (1 : Int32)) at_138 rfl rfl ?_
              refine own_goto (pc' := 143) B X106 at_139 (by decide) rfl ?_
              refine own_icmpNo (pc' := 146) B X106 at_143 (teq (by decide : (1 : Int32) = (1 : Int32))).2 rfl ?_
              refine own_iconst (pc' := 147) B X106 (z := (1 : Int32)) at_146 rfl rfl ?_
              refine own_goto (pc' := 151) B X106 at_147 (by decide) rfl ?_
              exact own_retN B X106 (t := .boolean) (z' := (1 : Int32)) (by simp) (by decide) at_151 (by decide) (by decide) rfl
      · replace K := K.trans K20 (allS (Or.inr sz_b5) all0)
        replace E_b9 := E_b9.keep K20
        replace V_b9 := V_b9.keep K20 (ninS (Ne.symm ne_b5_b9) nin0)
        show own_Go p e below (T20.setTop (mkF m 71 #[.val (.int i0), .val (.int i1), .val (.long i2), .second, .val (.long i3), .second, .val (.long i4), .second, .val (.long i5), .second, .val (.int y1), .val (.int y3), .val (.int y4), .val (.ref b5), .val (.ref b9), .unset, .unset, .unset, .unset] [])) _
        refine own_aload (pc' := 73) B X20 at_71 rfl rfl rfl ?_
        refine own_iload (pc' := 75) B X20 at_73 rfl rfl ?_
        refine own_callS (pc' := 78) B X20 (own_w hw 5 rfl) (own_w hw 6 rfl) (own_w hw 7 rfl) (own_w hw 8 rfl) (by decide) [(.ref b9), (.int y3)] [] (rm_2 l Z a0 hw [] b9 kb9 (i3) (i4) (i5) (y3) (y16) h20 n0 (Nat.le_trans Z0 K.1) E_b9 V_b9 g_b9 hy16 hy17) 0 (by decide) (by decide) rfl pd_1 rfl rfl (Nat.le_of_eq rfl) at_75 rfl (k' := 2) (n' := 6) rfl rfl (by decide) (by decide) ?_
        intro T117 v117 h117 X117 q117
        rcases q117 with ⟨y118, y119, hy120, hy121, c122, rfl, rfl⟩ | ⟨y123, y124, hy125, hy126, c127, rfl, rfl⟩
        · show own_Go p e below (T117.setTop (mkF m 78 #[.val (.int i0), .val (.int i1), .val (.long i2), .second, .val (.long i3), .second, .val (.long i4), .second, .val (.long i5), .second, .val (.int y1), .val (.int y3), .val (.int y4), .val (.ref b5), .val (.ref b9), .unset, .unset, .unset, .unset] [(.int (0 : Int32))])) _
          refine own_istore (pc' := 80) B X117 (Ls' := #[.val (.int i0), .val (.int i1), .val (.long i2), .second, .val (.long i3), .second, .val (.long i4), .second, .val (.long i5), .second, .val (.int y1), .val (.int y3), .val (.int y4), .val (.ref b5), .val (.ref b9), .val (.int (0 : Int32)), .unset, .unset, .unset]) at_78 rfl rfl ?_
          refine own_iload (pc' := 82) B X117 at_80 rfl rfl ?_
          refine own_iload (pc' := 84) B X117 at_82 rfl rfl ?_
          obtain ⟨y128, hy128⟩ : ∃ z : Int32, y3 - y1 = z := ⟨_, rfl⟩
          refine own_isub (pc' := 85) B X117 at_84 rfl hy128 ?_
          refine own_istore (pc' := 87) B X117 (Ls' := #[.val (.int i0), .val (.int i1), .val (.long i2), .second, .val (.long i3), .second, .val (.long i4), .second, .val (.long i5), .second, .val (.int y1), .val (.int y3), .val (.int y4), .val (.ref b5), .val (.ref b9), .val (.int (0 : Int32)), .val (.int y128), .unset, .unset]) at_85 rfl rfl ?_
          have rd : y128.toInt = 64 * 0 + y16.toInt - y14.toInt := own_dist hy128 rp rq rs rk (by decide) (by decide) (by decide)
          refine own_iload (pc' := 89) B X117 at_87 rfl rfl ?_
          by_cases c129 : y128 < (0 : Int32)
          · refine own_ifYes (pc' := 114) B X117 at_89 ((if0 _ _).trans (tlt c129).1) (by decide) rfl ?_
            refine own_iconst (pc' := 115) B X117 (z := (0 : Int32)) at_114 rfl rfl ?_
            refine own_istore (pc' := 117) B X117 (Ls' := #[.val (.int i0), .val (.int i1), .val (.long i2), .second, .val (.long i3), .second, .val (.long i4), .second, .val (.long i5), .second, .val (.int y1), .val (.int y3), .val (.int y4), .val (.ref b5), .val (.ref b9), .val (.int (0 : Int32)), .val (.int y128), .val (.int (0 : Int32)), .unset]) at_115 rfl rfl ?_
            refine own_aload (pc' := 119) B X117 at_117 rfl rfl rfl ?_
            refine own_iload (pc' := 121) B X117 at_119 rfl rfl ?_
            refine own_callS (pc' := 124) B X117 (own_w hw 5 rfl) (own_w hw 6 rfl) (own_w hw 7 rfl) (own_w hw 8 rfl) (by decide) [(.ref b5), (.int y3)] [] (rm_2 l Z a0 hw [] b5 kb5 (y27) (i4) (i5) (y3) (y16) h20 n0 (Nat.le_trans Z0 K.1) E_b5 V_b5 g_b5 hy16 hy17) 0 (by decide) (by decide) rfl pd_1 rfl rfl (Nat.le_of_eq rfl) at_121 rfl (k' := 2) (n' := 6) rfl rfl (by decide) (by decide) ?_
            intro T130 v130 h130 X130 q130
            rcases q130 with ⟨y131, y132, hy133, hy134, c135, rfl, rfl⟩ | ⟨y136, y137, hy138, hy139, c140, rfl, rfl⟩
            · show own_Go p e below (T130.setTop (mkF m 124 #[.val (.int i0), .val (.int i1), .val (.long i2), .second, .val (.long i3), .second, .val (.long i4), .second, .val (.long i5), .second, .val (.int y1), .val (.int y3), .val (.int y4), .val (.ref b5), .val (.ref b9), .val (.int (0 : Int32)), .val (.int y128), .val (.int (0 : Int32)), .unset] [(.int (0 : Int32))])) _
              refine own_istore (pc' := 126) B X130 (Ls' := #[.val (.int i0), .val (.int i1), .val (.long i2), .second, .val (.long i3), .second, .val (.long i4), .second, .val (.long i5), .second, .val (.int y1), .val (.int y3), .val (.int y4), .val (.ref b5), .val (.ref b9), .val (.int (0 : Int32)), .val (.int y128), .val (.int (0 : Int32)), .val (.int (0 : Int32))]) at_124 rfl rfl ?_
              refine own_iload (pc' := 128) B X130 at_126 rfl rfl ?_
              refine own_iload (pc' := 130) B X130 at_128 rfl rfl ?_
              refine own_ifNo (pc' := 133) B X130 at_130 ((if0 _ _).trans (teq (by decide : (0 : Int32) = (0 : Int32))).2) rfl ?_
              refine own_iload (pc' := 135) B X130 at_133 rfl rfl ?_
              refine own_ifYes (pc' := 142) B X130 at_135 ((if0 _ _).trans (teq (by decide : (0 : Int32) = (0 : Int32))).1) (by decide) rfl ?_
              refine own_iconst (pc' := 143) B X130 (z := (0 : Int32)) at_142 rfl rfl ?_
              refine own_icmpNo (pc' := 146) B X130 at_143 (teq (by decide : (0 : Int32) = (0 : Int32))).2 rfl ?_
              refine own_iconst (pc' := 147) B X130 (z := (1 : Int32)) at_146 rfl rfl ?_
              refine own_goto (pc' := 151) B X130 at_147 (by decide) rfl ?_
              exact own_retN B X130 (t := .boolean) (z' := (1 : Int32)) (by simp) (by decide) at_151 (by decide) (by decide) rfl
            · exfalso
              have b0 := own_bitF hy120 hy121 rk.1 rk.2 c122
              have b1 := own_bitT hy138 hy139 rk.1 rk.2 c140
              rw [own_bitA rs rk rd hy30 hy31, decide_eq_true (own_ltz c129)] at b1
              revert b0 b1
              generalize own_tb i3 y16.toInt.toNat = u0
              generalize own_tb i2 y128.toInt.toNat = u1
              revert u0 u1
              decide
          · refine own_ifNo (pc' := 92) B X117 at_89 ((if0 _ _).trans (flt c129).1) rfl ?_
            refine own_iload (pc' := 94) B X117 at_92 rfl rfl ?_
            refine own_bipush (pc' := 96) B X117 (z := (64 : Int32)) at_94 rfl (by decide) ?_
            have c141 : y128 < (64 : Int32) := by
              have o0 := own_o_mask hy1 7 (by decide) (by decide)
              have o1 := own_o_iushr hy2 7 (by decide) (by decide)
              have o2 := own_o_irem hy3 192 (by decide)
              have o3 := own_o_iadd hy4
              have o4 := own_o_isub hy13
              have o5 := own_o_mask hy14 6 (by decide) (by decide)
              have o6 := own_o_iushr hy15 6 (by decide) (by decide)
              have o7 := own_o_mask hy16 6 (by decide) (by decide)
              have o8 := own_o_iushr hy17 6 (by decide) (by decide)
              have o9 := own_o_isub hy33
              have o10 := own_o_maskL hy121 1 (by decide) (by decide)
              have o11 := own_o_isub hy128
              have o12 := own_neq c32
              have o13 := own_eqL c35
              have o14 := own_eqL c122
              have o15 := own_nlt c129
              have o16 := rng32 i0
              have o17 := rng32 i1
              have o18 := rng32 y1
              have o19 := rng32 y128
              have o20 := rng32 y14
              have o21 := rng32 y16
              have o22 := rng32 y2
              have o23 := rng32 y28
              have o24 := rng32 y3
              have o25 := rng32 y4
              have o26 := rng64 i2
              have o27 := rng64 i3
              have o28 := rng64 y118
              have o29 := rng64 y119
              have o30 := rng64 y29
              have o31 : (127 : Int32).toInt = 127 := by decide
              have o32 : (7 : Int32).toInt = 7 := by decide
              have o33 : (192 : Int32).toInt = 192 := by decide
              have o34 : (63 : Int32).toInt = 63 := by decide
              have o35 : (6 : Int32).toInt = 6 := by decide
              have o36 : (0 : Int32).toInt = 0 := by decide
              have o37 : (64 : Int32).toInt = 64 := by decide
              have o38 : (1 : Int64).toInt = 1 := by decide
              have o39 : (0 : Int64).toInt = 0 := by decide
              refine own_ltI ?_
              omega
            refine own_icmpNo (pc' := 99) B X117 at_96 (tlt c141).2.1 rfl ?_
            refine own_lloadN (pc' := 100) B X117 at_99 rfl rfl ?_
            refine own_iload (pc' := 102) B X117 at_100 rfl rfl ?_
            obtain ⟨y142, hy142⟩ : ∃ z : Int64, (i2.toUInt64 >>> (y128 &&& 0x3f).toInt64.toUInt64).toInt64 = z := ⟨_, rfl⟩
            refine own_lushr (pc' := 103) B X117 at_102 rfl hy142 ?_
            refine own_lconst (pc' := 104) B X117 (z := (1 : Int64)) at_103 rfl (by decide) ?_
            obtain ⟨y143, hy143⟩ : ∃ z : Int64, y142 &&& (1 : Int64) = z := ⟨_, rfl⟩
            refine own_land (pc' := 105) B X117 at_104 rfl hy143 ?_
            refine own_lconst (pc' := 106) B X117 (z := (0 : Int64)) at_105 rfl (by decide) ?_
            obtain ⟨y144, hy144⟩ : ∃ z : Int32, lcmpW y143 (0 : Int64) = z := ⟨_, rfl⟩
            refine own_lcmp (pc' := 107) B X117 at_106 rfl hy144 ?_
            by_cases c145 : y143 = (0 : Int64)
            · refine own_ifYes (pc' := 114) B X117 at_107 ((if0 _ _).trans (teq (own_lcm (P := fun q => (q = (0 : Int32))) hy144 ((lw_eq y143 (0 : Int64)).mpr c145))).1) (by decide) rfl ?_
              refine own_iconst (pc' := 115) B X117 (z := (0 : Int32)) at_114 rfl rfl ?_
              refine own_istore (pc' := 117) B X117 (Ls' := #[.val (.int i0), .val (.int i1), .val (.long i2), .second, .val (.long i3), .second, .val (.long i4), .second, .val (.long i5), .second, .val (.int y1), .val (.int y3), .val (.int y4), .val (.ref b5), .val (.ref b9), .val (.int (0 : Int32)), .val (.int y128), .val (.int (0 : Int32)), .unset]) at_115 rfl rfl ?_
              refine own_aload (pc' := 119) B X117 at_117 rfl rfl rfl ?_
              refine own_iload (pc' := 121) B X117 at_119 rfl rfl ?_
              refine own_callS (pc' := 124) B X117 (own_w hw 5 rfl) (own_w hw 6 rfl) (own_w hw 7 rfl) (own_w hw 8 rfl) (by decide) [(.ref b5), (.int y3)] [] (rm_2 l Z a0 hw [] b5 kb5 (y27) (i4) (i5) (y3) (y16) h20 n0 (Nat.le_trans Z0 K.1) E_b5 V_b5 g_b5 hy16 hy17) 0 (by decide) (by decide) rfl pd_1 rfl rfl (Nat.le_of_eq rfl) at_121 rfl (k' := 2) (n' := 6) rfl rfl (by decide) (by decide) ?_
              intro T146 v146 h146 X146 q146
              rcases q146 with ⟨y147, y148, hy149, hy150, c151, rfl, rfl⟩ | ⟨y152, y153, hy154, hy155, c156, rfl, rfl⟩
              · show own_Go p e below (T146.setTop (mkF m 124 #[.val (.int i0), .val (.int i1), .val (.long i2), .second, .val (.long i3), .second, .val (.long i4), .second, .val (.long i5), .second, .val (.int y1), .val (.int y3), .val (.int y4), .val (.ref b5), .val (.ref b9), .val (.int (0 : Int32)), .val (.int y128), .val (.int (0 : Int32)), .unset] [(.int (0 : Int32))])) _
                refine own_istore (pc' := 126) B X146 (Ls' := #[.val (.int i0), .val (.int i1), .val (.long i2), .second, .val (.long i3), .second, .val (.long i4), .second, .val (.long i5), .second, .val (.int y1), .val (.int y3), .val (.int y4), .val (.ref b5), .val (.ref b9), .val (.int (0 : Int32)), .val (.int y128), .val (.int (0 : Int32)), .val (.int (0 : Int32))]) at_124 rfl rfl ?_
                refine own_iload (pc' := 128) B X146 at_126 rfl rfl ?_
                refine own_iload (pc' := 130) B X146 at_128 rfl rfl ?_
                refine own_ifNo (pc' := 133) B X146 at_130 ((if0 _ _).trans (teq (by decide : (0 : Int32) = (0 : Int32))).2) rfl ?_
                refine own_iload (pc' := 135) B X146 at_133 rfl rfl ?_
                refine own_ifYes (pc' := 142) B X146 at_135 ((if0 _ _).trans (teq (by decide : (0 : Int32) = (0 : Int32))).1) (by decide) rfl ?_
                refine own_iconst (pc' := 143) B X146 (z := (0 : Int32)) at_142 rfl rfl ?_
                refine own_icmpNo (pc' := 146) B X146 at_143 (teq (by decide : (0 : Int32) = (0 : Int32))).2 rfl ?_
                refine own_iconst (pc' := 147) B X146 (z := (1 : Int32)) at_146 rfl rfl ?_
                refine own_goto (pc' := 151) B X146 at_147 (by decide) rfl ?_
                exact own_retN B X146 (t := .boolean) (z' := (1 : Int32)) (by simp) (by decide) at_151 (by decide) (by decide) rfl
              · exfalso
                have b0 := own_bitF hy120 hy121 rk.1 rk.2 c122
                have b1 := own_bitF hy142 hy143 (own_gez c129) (own_lt64 c141) c145
                have b2 := own_bitT hy154 hy155 rk.1 rk.2 c156
                rw [own_bitA rs rk rd hy30 hy31, decide_eq_false (own_nltz c129)] at b2
                revert b0 b1 b2
                generalize own_tb i3 y16.toInt.toNat = u0
                generalize own_tb i2 y128.toInt.toNat = u1
                revert u0 u1
                decide
            · refine own_ifNo (pc' := 110) B X117 at_107 ((if0 _ _).trans (feq (own_lcm (P := fun q => ¬ (q = (0 : Int32))) hy144 (fun q => c145 ((lw_eq y143 (0 : Int64)).mp q)))).1) rfl ?_
              refine own_iconst (pc' := 111) B X117 (z := (1 : Int32)) at_110 rfl rfl ?_
              refine own_goto (pc' := 115) B X117 at_111 (by decide) rfl ?_
              refine own_istore (pc' := 117) B X117 (Ls' := #[.val (.int i0), .val (.int i1), .val (.long i2), .second, .val (.long i3), .second, .val (.long i4), .second, .val (.long i5), .second, .val (.int y1), .val (.int y3), .val (.int y4), .val (.ref b5), .val (.ref b9), .val (.int (0 : Int32)), .val (.int y128), .val (.int (1 : Int32)), .unset]) at_115 rfl rfl ?_
              refine own_aload (pc' := 119) B X117 at_117 rfl rfl rfl ?_
              refine own_iload (pc' := 121) B X117 at_119 rfl rfl ?_
              refine own_callS (pc' := 124) B X117 (own_w hw 5 rfl) (own_w hw 6 rfl) (own_w hw 7 rfl) (own_w hw 8 rfl) (by decide) [(.ref b5), (.int y3)] [] (rm_2 l Z a0 hw [] b5 kb5 (y27) (i4) (i5) (y3) (y16) h20 n0 (Nat.le_trans Z0 K.1) E_b5 V_b5 g_b5 hy16 hy17) 0 (by decide) (by decide) rfl pd_1 rfl rfl (Nat.le_of_eq rfl) at_121 rfl (k' := 2) (n' := 6) rfl rfl (by decide) (by decide) ?_
              intro T157 v157 h157 X157 q157
              rcases q157 with ⟨y158, y159, hy160, hy161, c162, rfl, rfl⟩ | ⟨y163, y164, hy165, hy166, c167, rfl, rfl⟩
              · exfalso
                have b0 := own_bitF hy120 hy121 rk.1 rk.2 c122
                have b1 := own_bitT hy142 hy143 (own_gez c129) (own_lt64 c141) c145
                have b2 := own_bitF hy160 hy161 rk.1 rk.2 c162
                rw [own_bitA rs rk rd hy30 hy31, decide_eq_false (own_nltz c129)] at b2
                revert b0 b1 b2
                generalize own_tb i3 y16.toInt.toNat = u0
                generalize own_tb i2 y128.toInt.toNat = u1
                revert u0 u1
                decide
              · show own_Go p e below (T157.setTop (mkF m 124 #[.val (.int i0), .val (.int i1), .val (.long i2), .second, .val (.long i3), .second, .val (.long i4), .second, .val (.long i5), .second, .val (.int y1), .val (.int y3), .val (.int y4), .val (.ref b5), .val (.ref b9), .val (.int (0 : Int32)), .val (.int y128), .val (.int (1 : Int32)), .unset] [(.int (1 : Int32))])) _
                refine own_istore (pc' := 126) B X157 (Ls' := #[.val (.int i0), .val (.int i1), .val (.long i2), .second, .val (.long i3), .second, .val (.long i4), .second, .val (.long i5), .second, .val (.int y1), .val (.int y3), .val (.int y4), .val (.ref b5), .val (.ref b9), .val (.int (0 : Int32)), .val (.int y128), .val (.int (1 : Int32)), .val (.int (1 : Int32))]) at_124 rfl rfl ?_
                refine own_iload (pc' := 128) B X157 at_126 rfl rfl ?_
                refine own_iload (pc' := 130) B X157 at_128 rfl rfl ?_
                refine own_ifNo (pc' := 133) B X157 at_130 ((if0 _ _).trans (teq (by decide : (0 : Int32) = (0 : Int32))).2) rfl ?_
                refine own_iload (pc' := 135) B X157 at_133 rfl rfl ?_
                refine own_ifNo (pc' := 138) B X157 at_135 ((if0 _ _).trans (feq (by decide : ¬ ((1 : Int32) = (0 : Int32)))).1) rfl ?_
                refine own_iconst (pc' := 139) B X157 (z := (1 : Int32)) at_138 rfl rfl ?_
                refine own_goto (pc' := 143) B X157 at_139 (by decide) rfl ?_
                refine own_icmpNo (pc' := 146) B X157 at_143 (teq (by decide : (1 : Int32) = (1 : Int32))).2 rfl ?_
                refine own_iconst (pc' := 147) B X157 (z := (1 : Int32)) at_146 rfl rfl ?_
                refine own_goto (pc' := 151) B X157 at_147 (by decide) rfl ?_
                exact own_retN B X157 (t := .boolean) (z' := (1 : Int32)) (by simp) (by decide) at_151 (by decide) (by decide) rfl
        · show own_Go p e below (T117.setTop (mkF m 78 #[.val (.int i0), .val (.int i1), .val (.long i2), .second, .val (.long i3), .second, .val (.long i4), .second, .val (.long i5), .second, .val (.int y1), .val (.int y3), .val (.int y4), .val (.ref b5), .val (.ref b9), .unset, .unset, .unset, .unset] [(.int (1 : Int32))])) _
          refine own_istore (pc' := 80) B X117 (Ls' := #[.val (.int i0), .val (.int i1), .val (.long i2), .second, .val (.long i3), .second, .val (.long i4), .second, .val (.long i5), .second, .val (.int y1), .val (.int y3), .val (.int y4), .val (.ref b5), .val (.ref b9), .val (.int (1 : Int32)), .unset, .unset, .unset]) at_78 rfl rfl ?_
          refine own_iload (pc' := 82) B X117 at_80 rfl rfl ?_
          refine own_iload (pc' := 84) B X117 at_82 rfl rfl ?_
          obtain ⟨y168, hy168⟩ : ∃ z : Int32, y3 - y1 = z := ⟨_, rfl⟩
          refine own_isub (pc' := 85) B X117 at_84 rfl hy168 ?_
          refine own_istore (pc' := 87) B X117 (Ls' := #[.val (.int i0), .val (.int i1), .val (.long i2), .second, .val (.long i3), .second, .val (.long i4), .second, .val (.long i5), .second, .val (.int y1), .val (.int y3), .val (.int y4), .val (.ref b5), .val (.ref b9), .val (.int (1 : Int32)), .val (.int y168), .unset, .unset]) at_85 rfl rfl ?_
          have rd : y168.toInt = 64 * 0 + y16.toInt - y14.toInt := own_dist hy168 rp rq rs rk (by decide) (by decide) (by decide)
          refine own_iload (pc' := 89) B X117 at_87 rfl rfl ?_
          by_cases c169 : y168 < (0 : Int32)
          · refine own_ifYes (pc' := 114) B X117 at_89 ((if0 _ _).trans (tlt c169).1) (by decide) rfl ?_
            refine own_iconst (pc' := 115) B X117 (z := (0 : Int32)) at_114 rfl rfl ?_
            refine own_istore (pc' := 117) B X117 (Ls' := #[.val (.int i0), .val (.int i1), .val (.long i2), .second, .val (.long i3), .second, .val (.long i4), .second, .val (.long i5), .second, .val (.int y1), .val (.int y3), .val (.int y4), .val (.ref b5), .val (.ref b9), .val (.int (1 : Int32)), .val (.int y168), .val (.int (0 : Int32)), .unset]) at_115 rfl rfl ?_
            refine own_aload (pc' := 119) B X117 at_117 rfl rfl rfl ?_
            refine own_iload (pc' := 121) B X117 at_119 rfl rfl ?_
            refine own_callS (pc' := 124) B X117 (own_w hw 5 rfl) (own_w hw 6 rfl) (own_w hw 7 rfl) (own_w hw 8 rfl) (by decide) [(.ref b5), (.int y3)] [] (rm_2 l Z a0 hw [] b5 kb5 (y27) (i4) (i5) (y3) (y16) h20 n0 (Nat.le_trans Z0 K.1) E_b5 V_b5 g_b5 hy16 hy17) 0 (by decide) (by decide) rfl pd_1 rfl rfl (Nat.le_of_eq rfl) at_121 rfl (k' := 2) (n' := 6) rfl rfl (by decide) (by decide) ?_
            intro T170 v170 h170 X170 q170
            rcases q170 with ⟨y171, y172, hy173, hy174, c175, rfl, rfl⟩ | ⟨y176, y177, hy178, hy179, c180, rfl, rfl⟩
            · exfalso
              have b0 := own_bitT hy125 hy126 rk.1 rk.2 c127
              have b1 := own_bitF hy173 hy174 rk.1 rk.2 c175
              rw [own_bitA rs rk rd hy30 hy31, decide_eq_true (own_ltz c169)] at b1
              revert b0 b1
              generalize own_tb i3 y16.toInt.toNat = u0
              generalize own_tb i2 y168.toInt.toNat = u1
              revert u0 u1
              decide
            · show own_Go p e below (T170.setTop (mkF m 124 #[.val (.int i0), .val (.int i1), .val (.long i2), .second, .val (.long i3), .second, .val (.long i4), .second, .val (.long i5), .second, .val (.int y1), .val (.int y3), .val (.int y4), .val (.ref b5), .val (.ref b9), .val (.int (1 : Int32)), .val (.int y168), .val (.int (0 : Int32)), .unset] [(.int (1 : Int32))])) _
              refine own_istore (pc' := 126) B X170 (Ls' := #[.val (.int i0), .val (.int i1), .val (.long i2), .second, .val (.long i3), .second, .val (.long i4), .second, .val (.long i5), .second, .val (.int y1), .val (.int y3), .val (.int y4), .val (.ref b5), .val (.ref b9), .val (.int (1 : Int32)), .val (.int y168), .val (.int (0 : Int32)), .val (.int (1 : Int32))]) at_124 rfl rfl ?_
              refine own_iload (pc' := 128) B X170 at_126 rfl rfl ?_
              refine own_iload (pc' := 130) B X170 at_128 rfl rfl ?_
              refine own_ifYes (pc' := 138) B X170 at_130 ((if0 _ _).trans (feq (by decide : ¬ ((1 : Int32) = (0 : Int32)))).2) (by decide) rfl ?_
              refine own_iconst (pc' := 139) B X170 (z := (1 : Int32)) at_138 rfl rfl ?_
              refine own_goto (pc' := 143) B X170 at_139 (by decide) rfl ?_
              refine own_icmpNo (pc' := 146) B X170 at_143 (teq (by decide : (1 : Int32) = (1 : Int32))).2 rfl ?_
              refine own_iconst (pc' := 147) B X170 (z := (1 : Int32)) at_146 rfl rfl ?_
              refine own_goto (pc' := 151) B X170 at_147 (by decide) rfl ?_
              exact own_retN B X170 (t := .boolean) (z' := (1 : Int32)) (by simp) (by decide) at_151 (by decide) (by decide) rfl
          · refine own_ifNo (pc' := 92) B X117 at_89 ((if0 _ _).trans (flt c169).1) rfl ?_
            refine own_iload (pc' := 94) B X117 at_92 rfl rfl ?_
            refine own_bipush (pc' := 96) B X117 (z := (64 : Int32)) at_94 rfl (by decide) ?_
            have c181 : y168 < (64 : Int32) := by
              have o0 := own_o_mask hy1 7 (by decide) (by decide)
              have o1 := own_o_iushr hy2 7 (by decide) (by decide)
              have o2 := own_o_irem hy3 192 (by decide)
              have o3 := own_o_iadd hy4
              have o4 := own_o_isub hy13
              have o5 := own_o_mask hy14 6 (by decide) (by decide)
              have o6 := own_o_iushr hy15 6 (by decide) (by decide)
              have o7 := own_o_mask hy16 6 (by decide) (by decide)
              have o8 := own_o_iushr hy17 6 (by decide) (by decide)
              have o9 := own_o_isub hy33
              have o10 := own_o_maskL hy126 1 (by decide) (by decide)
              have o11 := own_o_isub hy168
              have o12 := own_neq c32
              have o13 := own_eqL c35
              have o14 := own_neqL c127
              have o15 := own_nlt c169
              have o16 := rng32 i0
              have o17 := rng32 i1
              have o18 := rng32 y1
              have o19 := rng32 y14
              have o20 := rng32 y16
              have o21 := rng32 y168
              have o22 := rng32 y2
              have o23 := rng32 y28
              have o24 := rng32 y3
              have o25 := rng32 y4
              have o26 := rng64 i2
              have o27 := rng64 i3
              have o28 := rng64 y123
              have o29 := rng64 y124
              have o30 := rng64 y29
              have o31 : (127 : Int32).toInt = 127 := by decide
              have o32 : (7 : Int32).toInt = 7 := by decide
              have o33 : (192 : Int32).toInt = 192 := by decide
              have o34 : (63 : Int32).toInt = 63 := by decide
              have o35 : (6 : Int32).toInt = 6 := by decide
              have o36 : (0 : Int32).toInt = 0 := by decide
              have o37 : (64 : Int32).toInt = 64 := by decide
              have o38 : (1 : Int64).toInt = 1 := by decide
              have o39 : (0 : Int64).toInt = 0 := by decide
              refine own_ltI ?_
              omega
            refine own_icmpNo (pc' := 99) B X117 at_96 (tlt c181).2.1 rfl ?_
            refine own_lloadN (pc' := 100) B X117 at_99 rfl rfl ?_
            refine own_iload (pc' := 102) B X117 at_100 rfl rfl ?_
            obtain ⟨y182, hy182⟩ : ∃ z : Int64, (i2.toUInt64 >>> (y168 &&& 0x3f).toInt64.toUInt64).toInt64 = z := ⟨_, rfl⟩
            refine own_lushr (pc' := 103) B X117 at_102 rfl hy182 ?_
            refine own_lconst (pc' := 104) B X117 (z := (1 : Int64)) at_103 rfl (by decide) ?_
            obtain ⟨y183, hy183⟩ : ∃ z : Int64, y182 &&& (1 : Int64) = z := ⟨_, rfl⟩
            refine own_land (pc' := 105) B X117 at_104 rfl hy183 ?_
            refine own_lconst (pc' := 106) B X117 (z := (0 : Int64)) at_105 rfl (by decide) ?_
            obtain ⟨y184, hy184⟩ : ∃ z : Int32, lcmpW y183 (0 : Int64) = z := ⟨_, rfl⟩
            refine own_lcmp (pc' := 107) B X117 at_106 rfl hy184 ?_
            by_cases c185 : y183 = (0 : Int64)
            · refine own_ifYes (pc' := 114) B X117 at_107 ((if0 _ _).trans (teq (own_lcm (P := fun q => (q = (0 : Int32))) hy184 ((lw_eq y183 (0 : Int64)).mpr c185))).1) (by decide) rfl ?_
              refine own_iconst (pc' := 115) B X117 (z := (0 : Int32)) at_114 rfl rfl ?_
              refine own_istore (pc' := 117) B X117 (Ls' := #[.val (.int i0), .val (.int i1), .val (.long i2), .second, .val (.long i3), .second, .val (.long i4), .second, .val (.long i5), .second, .val (.int y1), .val (.int y3), .val (.int y4), .val (.ref b5), .val (.ref b9), .val (.int (1 : Int32)), .val (.int y168), .val (.int (0 : Int32)), .unset]) at_115 rfl rfl ?_
              refine own_aload (pc' := 119) B X117 at_117 rfl rfl rfl ?_
              refine own_iload (pc' := 121) B X117 at_119 rfl rfl ?_
              refine own_callS (pc' := 124) B X117 (own_w hw 5 rfl) (own_w hw 6 rfl) (own_w hw 7 rfl) (own_w hw 8 rfl) (by decide) [(.ref b5), (.int y3)] [] (rm_2 l Z a0 hw [] b5 kb5 (y27) (i4) (i5) (y3) (y16) h20 n0 (Nat.le_trans Z0 K.1) E_b5 V_b5 g_b5 hy16 hy17) 0 (by decide) (by decide) rfl pd_1 rfl rfl (Nat.le_of_eq rfl) at_121 rfl (k' := 2) (n' := 6) rfl rfl (by decide) (by decide) ?_
              intro T186 v186 h186 X186 q186
              rcases q186 with ⟨y187, y188, hy189, hy190, c191, rfl, rfl⟩ | ⟨y192, y193, hy194, hy195, c196, rfl, rfl⟩
              · exfalso
                have b0 := own_bitT hy125 hy126 rk.1 rk.2 c127
                have b1 := own_bitF hy182 hy183 (own_gez c169) (own_lt64 c181) c185
                have b2 := own_bitF hy189 hy190 rk.1 rk.2 c191
                rw [own_bitA rs rk rd hy30 hy31, decide_eq_false (own_nltz c169)] at b2
                revert b0 b1 b2
                generalize own_tb i3 y16.toInt.toNat = u0
                generalize own_tb i2 y168.toInt.toNat = u1
                revert u0 u1
                decide
              · show own_Go p e below (T186.setTop (mkF m 124 #[.val (.int i0), .val (.int i1), .val (.long i2), .second, .val (.long i3), .second, .val (.long i4), .second, .val (.long i5), .second, .val (.int y1), .val (.int y3), .val (.int y4), .val (.ref b5), .val (.ref b9), .val (.int (1 : Int32)), .val (.int y168), .val (.int (0 : Int32)), .unset] [(.int (1 : Int32))])) _
                refine own_istore (pc' := 126) B X186 (Ls' := #[.val (.int i0), .val (.int i1), .val (.long i2), .second, .val (.long i3), .second, .val (.long i4), .second, .val (.long i5), .second, .val (.int y1), .val (.int y3), .val (.int y4), .val (.ref b5), .val (.ref b9), .val (.int (1 : Int32)), .val (.int y168), .val (.int (0 : Int32)), .val (.int (1 : Int32))]) at_124 rfl rfl ?_
                refine own_iload (pc' := 128) B X186 at_126 rfl rfl ?_
                refine own_iload (pc' := 130) B X186 at_128 rfl rfl ?_
                refine own_ifYes (pc' := 138) B X186 at_130 ((if0 _ _).trans (feq (by decide : ¬ ((1 : Int32) = (0 : Int32)))).2) (by decide) rfl ?_
                refine own_iconst (pc' := 139) B X186 (z := (1 : Int32)) at_138 rfl rfl ?_
                refine own_goto (pc' := 143) B X186 at_139 (by decide) rfl ?_
                refine own_icmpNo (pc' := 146) B X186 at_143 (teq (by decide : (1 : Int32) = (1 : Int32))).2 rfl ?_
                refine own_iconst (pc' := 147) B X186 (z := (1 : Int32)) at_146 rfl rfl ?_
                refine own_goto (pc' := 151) B X186 at_147 (by decide) rfl ?_
                exact own_retN B X186 (t := .boolean) (z' := (1 : Int32)) (by simp) (by decide) at_151 (by decide) (by decide) rfl
            · refine own_ifNo (pc' := 110) B X117 at_107 ((if0 _ _).trans (feq (own_lcm (P := fun q => ¬ (q = (0 : Int32))) hy184 (fun q => c185 ((lw_eq y183 (0 : Int64)).mp q)))).1) rfl ?_
              refine own_iconst (pc' := 111) B X117 (z := (1 : Int32)) at_110 rfl rfl ?_
              refine own_goto (pc' := 115) B X117 at_111 (by decide) rfl ?_
              refine own_istore (pc' := 117) B X117 (Ls' := #[.val (.int i0), .val (.int i1), .val (.long i2), .second, .val (.long i3), .second, .val (.long i4), .second, .val (.long i5), .second, .val (.int y1), .val (.int y3), .val (.int y4), .val (.ref b5), .val (.ref b9), .val (.int (1 : Int32)), .val (.int y168), .val (.int (1 : Int32)), .unset]) at_115 rfl rfl ?_
              refine own_aload (pc' := 119) B X117 at_117 rfl rfl rfl ?_
              refine own_iload (pc' := 121) B X117 at_119 rfl rfl ?_
              refine own_callS (pc' := 124) B X117 (own_w hw 5 rfl) (own_w hw 6 rfl) (own_w hw 7 rfl) (own_w hw 8 rfl) (by decide) [(.ref b5), (.int y3)] [] (rm_2 l Z a0 hw [] b5 kb5 (y27) (i4) (i5) (y3) (y16) h20 n0 (Nat.le_trans Z0 K.1) E_b5 V_b5 g_b5 hy16 hy17) 0 (by decide) (by decide) rfl pd_1 rfl rfl (Nat.le_of_eq rfl) at_121 rfl (k' := 2) (n' := 6) rfl rfl (by decide) (by decide) ?_
              intro T197 v197 h197 X197 q197
              rcases q197 with ⟨y198, y199, hy200, hy201, c202, rfl, rfl⟩ | ⟨y203, y204, hy205, hy206, c207, rfl, rfl⟩
              · exfalso
                have b0 := own_bitT hy125 hy126 rk.1 rk.2 c127
                have b1 := own_bitT hy182 hy183 (own_gez c169) (own_lt64 c181) c185
                have b2 := own_bitF hy200 hy201 rk.1 rk.2 c202
                rw [own_bitA rs rk rd hy30 hy31, decide_eq_false (own_nltz c169)] at b2
                revert b0 b1 b2
                generalize own_tb i3 y16.toInt.toNat = u0
                generalize own_tb i2 y168.toInt.toNat = u1
                revert u0 u1
                decide
              · show own_Go p e below (T197.setTop (mkF m 124 #[.val (.int i0), .val (.int i1), .val (.long i2), .second, .val (.long i3), .second, .val (.long i4), .second, .val (.long i5), .second, .val (.int y1), .val (.int y3), .val (.int y4), .val (.ref b5), .val (.ref b9), .val (.int (1 : Int32)), .val (.int y168), .val (.int (1 : Int32)), .unset] [(.int (1 : Int32))])) _
                refine own_istore (pc' := 126) B X197 (Ls' := #[.val (.int i0), .val (.int i1), .val (.long i2), .second, .val (.long i3), .second, .val (.long i4), .second, .val (.long i5), .second, .val (.int y1), .val (.int y3), .val (.int y4), .val (.ref b5), .val (.ref b9), .val (.int (1 : Int32)), .val (.int y168), .val (.int (1 : Int32)), .val (.int (1 : Int32))]) at_124 rfl rfl ?_
                refine own_iload (pc' := 128) B X197 at_126 rfl rfl ?_
                refine own_iload (pc' := 130) B X197 at_128 rfl rfl ?_
                refine own_ifYes (pc' := 138) B X197 at_130 ((if0 _ _).trans (feq (by decide : ¬ ((1 : Int32) = (0 : Int32)))).2) (by decide) rfl ?_
                refine own_iconst (pc' := 139) B X197 (z := (1 : Int32)) at_138 rfl rfl ?_
                refine own_goto (pc' := 143) B X197 at_139 (by decide) rfl ?_
                refine own_icmpNo (pc' := 146) B X197 at_143 (teq (by decide : (1 : Int32) = (1 : Int32))).2 rfl ?_
                refine own_iconst (pc' := 147) B X197 (z := (1 : Int32)) at_146 rfl rfl ?_
                refine own_goto (pc' := 151) B X197 at_147 (by decide) rfl ?_
                exact own_retN B X197 (t := .boolean) (z' := (1 : Int32)) (by simp) (by decide) at_151 (by decide) (by decide) rfl
      · replace K := K.trans K20 (allS (Or.inr sz_b5) all0)
        replace E_b9 := E_b9.keep K20
        replace V_b9 := V_b9.keep K20 (ninS (Ne.symm ne_b5_b9) nin0)
        show own_Go p e below (T20.setTop (mkF m 71 #[.val (.int i0), .val (.int i1), .val (.long i2), .second, .val (.long i3), .second, .val (.long i4), .second, .val (.long i5), .second, .val (.int y1), .val (.int y3), .val (.int y4), .val (.ref b5), .val (.ref b9), .unset, .unset, .unset, .unset] [])) _
        refine own_aload (pc' := 73) B X20 at_71 rfl rfl rfl ?_
        refine own_iload (pc' := 75) B X20 at_73 rfl rfl ?_
        refine own_callS (pc' := 78) B X20 (own_w hw 5 rfl) (own_w hw 6 rfl) (own_w hw 7 rfl) (own_w hw 8 rfl) (by decide) [(.ref b9), (.int y3)] [] (rm_2 l Z a0 hw [] b9 kb9 (i3) (i4) (i5) (y3) (y16) h20 n0 (Nat.le_trans Z0 K.1) E_b9 V_b9 g_b9 hy16 hy17) 0 (by decide) (by decide) rfl pd_1 rfl rfl (Nat.le_of_eq rfl) at_75 rfl (k' := 2) (n' := 6) rfl rfl (by decide) (by decide) ?_
        intro T208 v208 h208 X208 q208
        rcases q208 with ⟨y209, y210, hy211, hy212, c213, rfl, rfl⟩ | ⟨y214, y215, hy216, hy217, c218, rfl, rfl⟩
        · show own_Go p e below (T208.setTop (mkF m 78 #[.val (.int i0), .val (.int i1), .val (.long i2), .second, .val (.long i3), .second, .val (.long i4), .second, .val (.long i5), .second, .val (.int y1), .val (.int y3), .val (.int y4), .val (.ref b5), .val (.ref b9), .unset, .unset, .unset, .unset] [(.int (0 : Int32))])) _
          refine own_istore (pc' := 80) B X208 (Ls' := #[.val (.int i0), .val (.int i1), .val (.long i2), .second, .val (.long i3), .second, .val (.long i4), .second, .val (.long i5), .second, .val (.int y1), .val (.int y3), .val (.int y4), .val (.ref b5), .val (.ref b9), .val (.int (0 : Int32)), .unset, .unset, .unset]) at_78 rfl rfl ?_
          refine own_iload (pc' := 82) B X208 at_80 rfl rfl ?_
          refine own_iload (pc' := 84) B X208 at_82 rfl rfl ?_
          obtain ⟨y219, hy219⟩ : ∃ z : Int32, y3 - y1 = z := ⟨_, rfl⟩
          refine own_isub (pc' := 85) B X208 at_84 rfl hy219 ?_
          refine own_istore (pc' := 87) B X208 (Ls' := #[.val (.int i0), .val (.int i1), .val (.long i2), .second, .val (.long i3), .second, .val (.long i4), .second, .val (.long i5), .second, .val (.int y1), .val (.int y3), .val (.int y4), .val (.ref b5), .val (.ref b9), .val (.int (0 : Int32)), .val (.int y219), .unset, .unset]) at_85 rfl rfl ?_
          have rd : y219.toInt = 64 * 0 + y16.toInt - y14.toInt := own_dist hy219 rp rq rs rk (by decide) (by decide) (by decide)
          refine own_iload (pc' := 89) B X208 at_87 rfl rfl ?_
          by_cases c220 : y219 < (0 : Int32)
          · refine own_ifYes (pc' := 114) B X208 at_89 ((if0 _ _).trans (tlt c220).1) (by decide) rfl ?_
            refine own_iconst (pc' := 115) B X208 (z := (0 : Int32)) at_114 rfl rfl ?_
            refine own_istore (pc' := 117) B X208 (Ls' := #[.val (.int i0), .val (.int i1), .val (.long i2), .second, .val (.long i3), .second, .val (.long i4), .second, .val (.long i5), .second, .val (.int y1), .val (.int y3), .val (.int y4), .val (.ref b5), .val (.ref b9), .val (.int (0 : Int32)), .val (.int y219), .val (.int (0 : Int32)), .unset]) at_115 rfl rfl ?_
            refine own_aload (pc' := 119) B X208 at_117 rfl rfl rfl ?_
            refine own_iload (pc' := 121) B X208 at_119 rfl rfl ?_
            refine own_callS (pc' := 124) B X208 (own_w hw 5 rfl) (own_w hw 6 rfl) (own_w hw 7 rfl) (own_w hw 8 rfl) (by decide) [(.ref b5), (.int y3)] [] (rm_2 l Z a0 hw [] b5 kb5 (y37) (y40) (i5) (y3) (y16) h20 n0 (Nat.le_trans Z0 K.1) E_b5 V_b5 g_b5 hy16 hy17) 0 (by decide) (by decide) rfl pd_1 rfl rfl (Nat.le_of_eq rfl) at_121 rfl (k' := 2) (n' := 6) rfl rfl (by decide) (by decide) ?_
            intro T221 v221 h221 X221 q221
            rcases q221 with ⟨y222, y223, hy224, hy225, c226, rfl, rfl⟩ | ⟨y227, y228, hy229, hy230, c231, rfl, rfl⟩
            · show own_Go p e below (T221.setTop (mkF m 124 #[.val (.int i0), .val (.int i1), .val (.long i2), .second, .val (.long i3), .second, .val (.long i4), .second, .val (.long i5), .second, .val (.int y1), .val (.int y3), .val (.int y4), .val (.ref b5), .val (.ref b9), .val (.int (0 : Int32)), .val (.int y219), .val (.int (0 : Int32)), .unset] [(.int (0 : Int32))])) _
              refine own_istore (pc' := 126) B X221 (Ls' := #[.val (.int i0), .val (.int i1), .val (.long i2), .second, .val (.long i3), .second, .val (.long i4), .second, .val (.long i5), .second, .val (.int y1), .val (.int y3), .val (.int y4), .val (.ref b5), .val (.ref b9), .val (.int (0 : Int32)), .val (.int y219), .val (.int (0 : Int32)), .val (.int (0 : Int32))]) at_124 rfl rfl ?_
              refine own_iload (pc' := 128) B X221 at_126 rfl rfl ?_
              refine own_iload (pc' := 130) B X221 at_128 rfl rfl ?_
              refine own_ifNo (pc' := 133) B X221 at_130 ((if0 _ _).trans (teq (by decide : (0 : Int32) = (0 : Int32))).2) rfl ?_
              refine own_iload (pc' := 135) B X221 at_133 rfl rfl ?_
              refine own_ifYes (pc' := 142) B X221 at_135 ((if0 _ _).trans (teq (by decide : (0 : Int32) = (0 : Int32))).1) (by decide) rfl ?_
              refine own_iconst (pc' := 143) B X221 (z := (0 : Int32)) at_142 rfl rfl ?_
              refine own_icmpNo (pc' := 146) B X221 at_143 (teq (by decide : (0 : Int32) = (0 : Int32))).2 rfl ?_
              refine own_iconst (pc' := 147) B X221 (z := (1 : Int32)) at_146 rfl rfl ?_
              refine own_goto (pc' := 151) B X221 at_147 (by decide) rfl ?_
              exact own_retN B X221 (t := .boolean) (z' := (1 : Int32)) (by simp) (by decide) at_151 (by decide) (by decide) rfl
            · exfalso
              have b0 := own_bitF hy211 hy212 rk.1 rk.2 c213
              have b1 := own_bitT hy229 hy230 rk.1 rk.2 c231
              rw [own_bitA rs rk rd hy41 hy42, decide_eq_true (own_ltz c220)] at b1
              revert b0 b1
              generalize own_tb i3 y16.toInt.toNat = u0
              generalize own_tb i2 y219.toInt.toNat = u1
              revert u0 u1
              decide
          · refine own_ifNo (pc' := 92) B X208 at_89 ((if0 _ _).trans (flt c220).1) rfl ?_
            refine own_iload (pc' := 94) B X208 at_92 rfl rfl ?_
            refine own_bipush (pc' := 96) B X208 (z := (64 : Int32)) at_94 rfl (by decide) ?_
            have c232 : y219 < (64 : Int32) := by
              have o0 := own_o_mask hy1 7 (by decide) (by decide)
              have o1 := own_o_iushr hy2 7 (by decide) (by decide)
              have o2 := own_o_irem hy3 192 (by decide)
              have o3 := own_o_iadd hy4
              have o4 := own_o_isub hy13
              have o5 := own_o_mask hy14 6 (by decide) (by decide)
              have o6 := own_o_iushr hy15 6 (by decide) (by decide)
              have o7 := own_o_mask hy16 6 (by decide) (by decide)
              have o8 := own_o_iushr hy17 6 (by decide) (by decide)
              have o9 := own_o_isub hy44
              have o10 := own_o_maskL hy212 1 (by decide) (by decide)
              have o11 := own_o_isub hy219
              have o12 := own_neq c43
              have o13 := own_neqL c46
              have o14 := own_eqL c213
              have o15 := own_nlt c220
              have o16 := rng32 i0
              have o17 := rng32 i1
              have o18 := rng32 y1
              have o19 := rng32 y14
              have o20 := rng32 y16
              have o21 := rng32 y2
              have o22 := rng32 y219
              have o23 := rng32 y3
              have o24 := rng32 y38
              have o25 := rng32 y4
              have o26 := rng64 i2
              have o27 := rng64 i3
              have o28 := rng64 y209
              have o29 := rng64 y210
              have o30 := rng64 y39
              have o31 : (127 : Int32).toInt = 127 := by decide
              have o32 : (7 : Int32).toInt = 7 := by decide
              have o33 : (192 : Int32).toInt = 192 := by decide
              have o34 : (63 : Int32).toInt = 63 := by decide
              have o35 : (6 : Int32).toInt = 6 := by decide
              have o36 : (0 : Int32).toInt = 0 := by decide
              have o37 : (64 : Int32).toInt = 64 := by decide
              have o38 : (1 : Int64).toInt = 1 := by decide
              have o39 : (0 : Int64).toInt = 0 := by decide
              refine own_ltI ?_
              omega
            refine own_icmpNo (pc' := 99) B X208 at_96 (tlt c232).2.1 rfl ?_
            refine own_lloadN (pc' := 100) B X208 at_99 rfl rfl ?_
            refine own_iload (pc' := 102) B X208 at_100 rfl rfl ?_
            obtain ⟨y233, hy233⟩ : ∃ z : Int64, (i2.toUInt64 >>> (y219 &&& 0x3f).toInt64.toUInt64).toInt64 = z := ⟨_, rfl⟩
            refine own_lushr (pc' := 103) B X208 at_102 rfl hy233 ?_
            refine own_lconst (pc' := 104) B X208 (z := (1 : Int64)) at_103 rfl (by decide) ?_
            obtain ⟨y234, hy234⟩ : ∃ z : Int64, y233 &&& (1 : Int64) = z := ⟨_, rfl⟩
            refine own_land (pc' := 105) B X208 at_104 rfl hy234 ?_
            refine own_lconst (pc' := 106) B X208 (z := (0 : Int64)) at_105 rfl (by decide) ?_
            obtain ⟨y235, hy235⟩ : ∃ z : Int32, lcmpW y234 (0 : Int64) = z := ⟨_, rfl⟩
            refine own_lcmp (pc' := 107) B X208 at_106 rfl hy235 ?_
            by_cases c236 : y234 = (0 : Int64)
            · refine own_ifYes (pc' := 114) B X208 at_107 ((if0 _ _).trans (teq (own_lcm (P := fun q => (q = (0 : Int32))) hy235 ((lw_eq y234 (0 : Int64)).mpr c236))).1) (by decide) rfl ?_
              refine own_iconst (pc' := 115) B X208 (z := (0 : Int32)) at_114 rfl rfl ?_
              refine own_istore (pc' := 117) B X208 (Ls' := #[.val (.int i0), .val (.int i1), .val (.long i2), .second, .val (.long i3), .second, .val (.long i4), .second, .val (.long i5), .second, .val (.int y1), .val (.int y3), .val (.int y4), .val (.ref b5), .val (.ref b9), .val (.int (0 : Int32)), .val (.int y219), .val (.int (0 : Int32)), .unset]) at_115 rfl rfl ?_
              refine own_aload (pc' := 119) B X208 at_117 rfl rfl rfl ?_
              refine own_iload (pc' := 121) B X208 at_119 rfl rfl ?_
              refine own_callS (pc' := 124) B X208 (own_w hw 5 rfl) (own_w hw 6 rfl) (own_w hw 7 rfl) (own_w hw 8 rfl) (by decide) [(.ref b5), (.int y3)] [] (rm_2 l Z a0 hw [] b5 kb5 (y37) (y40) (i5) (y3) (y16) h20 n0 (Nat.le_trans Z0 K.1) E_b5 V_b5 g_b5 hy16 hy17) 0 (by decide) (by decide) rfl pd_1 rfl rfl (Nat.le_of_eq rfl) at_121 rfl (k' := 2) (n' := 6) rfl rfl (by decide) (by decide) ?_
              intro T237 v237 h237 X237 q237
              rcases q237 with ⟨y238, y239, hy240, hy241, c242, rfl, rfl⟩ | ⟨y243, y244, hy245, hy246, c247, rfl, rfl⟩
              · show own_Go p e below (T237.setTop (mkF m 124 #[.val (.int i0), .val (.int i1), .val (.long i2), .second, .val (.long i3), .second, .val (.long i4), .second, .val (.long i5), .second, .val (.int y1), .val (.int y3), .val (.int y4), .val (.ref b5), .val (.ref b9), .val (.int (0 : Int32)), .val (.int y219), .val (.int (0 : Int32)), .unset] [(.int (0 : Int32))])) _
                refine own_istore (pc' := 126) B X237 (Ls' := #[.val (.int i0), .val (.int i1), .val (.long i2), .second, .val (.long i3), .second, .val (.long i4), .second, .val (.long i5), .second, .val (.int y1), .val (.int y3), .val (.int y4), .val (.ref b5), .val (.ref b9), .val (.int (0 : Int32)), .val (.int y219), .val (.int (0 : Int32)), .val (.int (0 : Int32))]) at_124 rfl rfl ?_
                refine own_iload (pc' := 128) B X237 at_126 rfl rfl ?_
                refine own_iload (pc' := 130) B X237 at_128 rfl rfl ?_
                refine own_ifNo (pc' := 133) B X237 at_130 ((if0 _ _).trans (teq (by decide : (0 : Int32) = (0 : Int32))).2) rfl ?_
                refine own_iload (pc' := 135) B X237 at_133 rfl rfl ?_
                refine own_ifYes (pc' := 142) B X237 at_135 ((if0 _ _).trans (teq (by decide : (0 : Int32) = (0 : Int32))).1) (by decide) rfl ?_
                refine own_iconst (pc' := 143) B X237 (z := (0 : Int32)) at_142 rfl rfl ?_
                refine own_icmpNo (pc' := 146) B X237 at_143 (teq (by decide : (0 : Int32) = (0 : Int32))).2 rfl ?_
                refine own_iconst (pc' := 147) B X237 (z := (1 : Int32)) at_146 rfl rfl ?_
                refine own_goto (pc' := 151) B X237 at_147 (by decide) rfl ?_
                exact own_retN B X237 (t := .boolean) (z' := (1 : Int32)) (by simp) (by decide) at_151 (by decide) (by decide) rfl
              · exfalso
                have b0 := own_bitF hy211 hy212 rk.1 rk.2 c213
                have b1 := own_bitF hy233 hy234 (own_gez c220) (own_lt64 c232) c236
                have b2 := own_bitT hy245 hy246 rk.1 rk.2 c247
                rw [own_bitA rs rk rd hy41 hy42, decide_eq_false (own_nltz c220)] at b2
                revert b0 b1 b2
                generalize own_tb i3 y16.toInt.toNat = u0
                generalize own_tb i2 y219.toInt.toNat = u1
                revert u0 u1
                decide
            · refine own_ifNo (pc' := 110) B X208 at_107 ((if0 _ _).trans (feq (own_lcm (P := fun q => ¬ (q = (0 : Int32))) hy235 (fun q => c236 ((lw_eq y234 (0 : Int64)).mp q)))).1) rfl ?_
              refine own_iconst (pc' := 111) B X208 (z := (1 : Int32)) at_110 rfl rfl ?_
              refine own_goto (pc' := 115) B X208 at_111 (by decide) rfl ?_
              refine own_istore (pc' := 117) B X208 (Ls' := #[.val (.int i0), .val (.int i1), .val (.long i2), .second, .val (.long i3), .second, .val (.long i4), .second, .val (.long i5), .second, .val (.int y1), .val (.int y3), .val (.int y4), .val (.ref b5), .val (.ref b9), .val (.int (0 : Int32)), .val (.int y219), .val (.int (1 : Int32)), .unset]) at_115 rfl rfl ?_
              refine own_aload (pc' := 119) B X208 at_117 rfl rfl rfl ?_
              refine own_iload (pc' := 121) B X208 at_119 rfl rfl ?_
              refine own_callS (pc' := 124) B X208 (own_w hw 5 rfl) (own_w hw 6 rfl) (own_w hw 7 rfl) (own_w hw 8 rfl) (by decide) [(.ref b5), (.int y3)] [] (rm_2 l Z a0 hw [] b5 kb5 (y37) (y40) (i5) (y3) (y16) h20 n0 (Nat.le_trans Z0 K.1) E_b5 V_b5 g_b5 hy16 hy17) 0 (by decide) (by decide) rfl pd_1 rfl rfl (Nat.le_of_eq rfl) at_121 rfl (k' := 2) (n' := 6) rfl rfl (by decide) (by decide) ?_
              intro T248 v248 h248 X248 q248
              rcases q248 with ⟨y249, y250, hy251, hy252, c253, rfl, rfl⟩ | ⟨y254, y255, hy256, hy257, c258, rfl, rfl⟩
              · exfalso
                have b0 := own_bitF hy211 hy212 rk.1 rk.2 c213
                have b1 := own_bitT hy233 hy234 (own_gez c220) (own_lt64 c232) c236
                have b2 := own_bitF hy251 hy252 rk.1 rk.2 c253
                rw [own_bitA rs rk rd hy41 hy42, decide_eq_false (own_nltz c220)] at b2
                revert b0 b1 b2
                generalize own_tb i3 y16.toInt.toNat = u0
                generalize own_tb i2 y219.toInt.toNat = u1
                revert u0 u1
                decide
              · show own_Go p e below (T248.setTop (mkF m 124 #[.val (.int i0), .val (.int i1), .val (.long i2), .second, .val (.long i3), .second, .val (.long i4), .second, .val (.long i5), .second, .val (.int y1), .val (.int y3), .val (.int y4), .val (.ref b5), .val (.ref b9), .val (.int (0 : Int32)), .val (.int y219), .val (.int (1 : Int32)), .unset] [(.int (1 : Int32))])) _
                refine own_istore (pc' := 126) B X248 (Ls' := #[.val (.int i0), .val (.int i1), .val (.long i2), .second, .val (.long i3), .second, .val (.long i4), .second, .val (.long i5), .second, .val (.int y1), .val (.int y3), .val (.int y4), .val (.ref b5), .val (.ref b9), .val (.int (0 : Int32)), .val (.int y219), .val (.int (1 : Int32)), .val (.int (1 : Int32))]) at_124 rfl rfl ?_
                refine own_iload (pc' := 128) B X248 at_126 rfl rfl ?_
                refine own_iload (pc' := 130) B X248 at_128 rfl rfl ?_
                refine own_ifNo (pc' := 133) B X248 at_130 ((if0 _ _).trans (teq (by decide : (0 : Int32) = (0 : Int32))).2) rfl ?_
                refine own_iload (pc' := 135) B X248 at_133 rfl rfl ?_
                refine own_ifNo (pc' := 138) B X248 at_135 ((if0 _ _).trans (feq (by decide : ¬ ((1 : Int32) = (0 : Int32)))).1) rfl ?_
                refine own_iconst (pc' := 139) B X248 (z := (1 : Int32)) at_138 rfl rfl ?_
                refine own_goto (pc' := 143) B X248 at_139 (by decide) rfl ?_
                refine own_icmpNo (pc' := 146) B X248 at_143 (teq (by decide : (1 : Int32) = (1 : Int32))).2 rfl ?_
                refine own_iconst (pc' := 147) B X248 (z := (1 : Int32)) at_146 rfl rfl ?_
                refine own_goto (pc' := 151) B X248 at_147 (by decide) rfl ?_
                exact own_retN B X248 (t := .boolean) (z' := (1 : Int32)) (by simp) (by decide) at_151 (by decide) (by decide) rfl
        · show own_Go p e below (T208.setTop (mkF m 78 #[.val (.int i0), .val (.int i1), .val (.long i2), .second, .val (.long i3), .second, .val (.long i4), .second, .val (.long i5), .second, .val (.int y1), .val (.int y3), .val (.int y4), .val (.ref b5), .val (.ref b9), .unset, .unset, .unset, .unset] [(.int (1 : Int32))])) _
          refine own_istore (pc' := 80) B X208 (Ls' := #[.val (.int i0), .val (.int i1), .val (.long i2), .second, .val (.long i3), .second, .val (.long i4), .second, .val (.long i5), .second, .val (.int y1), .val (.int y3), .val (.int y4), .val (.ref b5), .val (.ref b9), .val (.int (1 : Int32)), .unset, .unset, .unset]) at_78 rfl rfl ?_
          refine own_iload (pc' := 82) B X208 at_80 rfl rfl ?_
          refine own_iload (pc' := 84) B X208 at_82 rfl rfl ?_
          obtain ⟨y259, hy259⟩ : ∃ z : Int32, y3 - y1 = z := ⟨_, rfl⟩
          refine own_isub (pc' := 85) B X208 at_84 rfl hy259 ?_
          refine own_istore (pc' := 87) B X208 (Ls' := #[.val (.int i0), .val (.int i1), .val (.long i2), .second, .val (.long i3), .second, .val (.long i4), .second, .val (.long i5), .second, .val (.int y1), .val (.int y3), .val (.int y4), .val (.ref b5), .val (.ref b9), .val (.int (1 : Int32)), .val (.int y259), .unset, .unset]) at_85 rfl rfl ?_
          have rd : y259.toInt = 64 * 0 + y16.toInt - y14.toInt := own_dist hy259 rp rq rs rk (by decide) (by decide) (by decide)
          refine own_iload (pc' := 89) B X208 at_87 rfl rfl ?_
          by_cases c260 : y259 < (0 : Int32)
          · refine own_ifYes (pc' := 114) B X208 at_89 ((if0 _ _).trans (tlt c260).1) (by decide) rfl ?_
            refine own_iconst (pc' := 115) B X208 (z := (0 : Int32)) at_114 rfl rfl ?_
            refine own_istore (pc' := 117) B X208 (Ls' := #[.val (.int i0), .val (.int i1), .val (.long i2), .second, .val (.long i3), .second, .val (.long i4), .second, .val (.long i5), .second, .val (.int y1), .val (.int y3), .val (.int y4), .val (.ref b5), .val (.ref b9), .val (.int (1 : Int32)), .val (.int y259), .val (.int (0 : Int32)), .unset]) at_115 rfl rfl ?_
            refine own_aload (pc' := 119) B X208 at_117 rfl rfl rfl ?_
            refine own_iload (pc' := 121) B X208 at_119 rfl rfl ?_
            refine own_callS (pc' := 124) B X208 (own_w hw 5 rfl) (own_w hw 6 rfl) (own_w hw 7 rfl) (own_w hw 8 rfl) (by decide) [(.ref b5), (.int y3)] [] (rm_2 l Z a0 hw [] b5 kb5 (y37) (y40) (i5) (y3) (y16) h20 n0 (Nat.le_trans Z0 K.1) E_b5 V_b5 g_b5 hy16 hy17) 0 (by decide) (by decide) rfl pd_1 rfl rfl (Nat.le_of_eq rfl) at_121 rfl (k' := 2) (n' := 6) rfl rfl (by decide) (by decide) ?_
            intro T261 v261 h261 X261 q261
            rcases q261 with ⟨y262, y263, hy264, hy265, c266, rfl, rfl⟩ | ⟨y267, y268, hy269, hy270, c271, rfl, rfl⟩
            · exfalso
              have b0 := own_bitT hy216 hy217 rk.1 rk.2 c218
              have b1 := own_bitF hy264 hy265 rk.1 rk.2 c266
              rw [own_bitA rs rk rd hy41 hy42, decide_eq_true (own_ltz c260)] at b1
              revert b0 b1
              generalize own_tb i3 y16.toInt.toNat = u0
              generalize own_tb i2 y259.toInt.toNat = u1
              revert u0 u1
              decide
            · show own_Go p e below (T261.setTop (mkF m 124 #[.val (.int i0), .val (.int i1), .val (.long i2), .second, .val (.long i3), .second, .val (.long i4), .second, .val (.long i5), .second, .val (.int y1), .val (.int y3), .val (.int y4), .val (.ref b5), .val (.ref b9), .val (.int (1 : Int32)), .val (.int y259), .val (.int (0 : Int32)), .unset] [(.int (1 : Int32))])) _
              refine own_istore (pc' := 126) B X261 (Ls' := #[.val (.int i0), .val (.int i1), .val (.long i2), .second, .val (.long i3), .second, .val (.long i4), .second, .val (.long i5), .second, .val (.int y1), .val (.int y3), .val (.int y4), .val (.ref b5), .val (.ref b9), .val (.int (1 : Int32)), .val (.int y259), .val (.int (0 : Int32)), .val (.int (1 : Int32))]) at_124 rfl rfl ?_
              refine own_iload (pc' := 128) B X261 at_126 rfl rfl ?_
              refine own_iload (pc' := 130) B X261 at_128 rfl rfl ?_
              refine own_ifYes (pc' := 138) B X261 at_130 ((if0 _ _).trans (feq (by decide : ¬ ((1 : Int32) = (0 : Int32)))).2) (by decide) rfl ?_
              refine own_iconst (pc' := 139) B X261 (z := (1 : Int32)) at_138 rfl rfl ?_
              refine own_goto (pc' := 143) B X261 at_139 (by decide) rfl ?_
              refine own_icmpNo (pc' := 146) B X261 at_143 (teq (by decide : (1 : Int32) = (1 : Int32))).2 rfl ?_
              refine own_iconst (pc' := 147) B X261 (z := (1 : Int32)) at_146 rfl rfl ?_
              refine own_goto (pc' := 151) B X261 at_147 (by decide) rfl ?_
              exact own_retN B X261 (t := .boolean) (z' := (1 : Int32)) (by simp) (by decide) at_151 (by decide) (by decide) rfl
          · refine own_ifNo (pc' := 92) B X208 at_89 ((if0 _ _).trans (flt c260).1) rfl ?_
            refine own_iload (pc' := 94) B X208 at_92 rfl rfl ?_
            refine own_bipush (pc' := 96) B X208 (z := (64 : Int32)) at_94 rfl (by decide) ?_
            have c272 : y259 < (64 : Int32) := by
              have o0 := own_o_mask hy1 7 (by decide) (by decide)
              have o1 := own_o_iushr hy2 7 (by decide) (by decide)
              have o2 := own_o_irem hy3 192 (by decide)
              have o3 := own_o_iadd hy4
              have o4 := own_o_isub hy13
              have o5 := own_o_mask hy14 6 (by decide) (by decide)
              have o6 := own_o_iushr hy15 6 (by decide) (by decide)
              have o7 := own_o_mask hy16 6 (by decide) (by decide)
              have o8 := own_o_iushr hy17 6 (by decide) (by decide)
              have o9 := own_o_isub hy44
              have o10 := own_o_maskL hy217 1 (by decide) (by decide)
              have o11 := own_o_isub hy259
              have o12 := own_neq c43
              have o13 := own_neqL c46
              have o14 := own_neqL c218
              have o15 := own_nlt c260
              have o16 := rng32 i0
              have o17 := rng32 i1
              have o18 := rng32 y1
              have o19 := rng32 y14
              have o20 := rng32 y16
              have o21 := rng32 y2
              have o22 := rng32 y259
              have o23 := rng32 y3
              have o24 := rng32 y38
              have o25 := rng32 y4
              have o26 := rng64 i2
              have o27 := rng64 i3
              have o28 := rng64 y214
              have o29 := rng64 y215
              have o30 := rng64 y39
              have o31 : (127 : Int32).toInt = 127 := by decide
              have o32 : (7 : Int32).toInt = 7 := by decide
              have o33 : (192 : Int32).toInt = 192 := by decide
              have o34 : (63 : Int32).toInt = 63 := by decide
              have o35 : (6 : Int32).toInt = 6 := by decide
              have o36 : (0 : Int32).toInt = 0 := by decide
              have o37 : (64 : Int32).toInt = 64 := by decide
              have o38 : (1 : Int64).toInt = 1 := by decide
              have o39 : (0 : Int64).toInt = 0 := by decide
              refine own_ltI ?_
              omega
            refine own_icmpNo (pc' := 99) B X208 at_96 (tlt c272).2.1 rfl ?_
            refine own_lloadN (pc' := 100) B X208 at_99 rfl rfl ?_
            refine own_iload (pc' := 102) B X208 at_100 rfl rfl ?_
            obtain ⟨y273, hy273⟩ : ∃ z : Int64, (i2.toUInt64 >>> (y259 &&& 0x3f).toInt64.toUInt64).toInt64 = z := ⟨_, rfl⟩
            refine own_lushr (pc' := 103) B X208 at_102 rfl hy273 ?_
            refine own_lconst (pc' := 104) B X208 (z := (1 : Int64)) at_103 rfl (by decide) ?_
            obtain ⟨y274, hy274⟩ : ∃ z : Int64, y273 &&& (1 : Int64) = z := ⟨_, rfl⟩
            refine own_land (pc' := 105) B X208 at_104 rfl hy274 ?_
            refine own_lconst (pc' := 106) B X208 (z := (0 : Int64)) at_105 rfl (by decide) ?_
            obtain ⟨y275, hy275⟩ : ∃ z : Int32, lcmpW y274 (0 : Int64) = z := ⟨_, rfl⟩
            refine own_lcmp (pc' := 107) B X208 at_106 rfl hy275 ?_
            by_cases c276 : y274 = (0 : Int64)
            · refine own_ifYes (pc' := 114) B X208 at_107 ((if0 _ _).trans (teq (own_lcm (P := fun q => (q = (0 : Int32))) hy275 ((lw_eq y274 (0 : Int64)).mpr c276))).1) (by decide) rfl ?_
              refine own_iconst (pc' := 115) B X208 (z := (0 : Int32)) at_114 rfl rfl ?_
              refine own_istore (pc' := 117) B X208 (Ls' := #[.val (.int i0), .val (.int i1), .val (.long i2), .second, .val (.long i3), .second, .val (.long i4), .second, .val (.long i5), .second, .val (.int y1), .val (.int y3), .val (.int y4), .val (.ref b5), .val (.ref b9), .val (.int (1 : Int32)), .val (.int y259), .val (.int (0 : Int32)), .unset]) at_115 rfl rfl ?_
              refine own_aload (pc' := 119) B X208 at_117 rfl rfl rfl ?_
              refine own_iload (pc' := 121) B X208 at_119 rfl rfl ?_
              refine own_callS (pc' := 124) B X208 (own_w hw 5 rfl) (own_w hw 6 rfl) (own_w hw 7 rfl) (own_w hw 8 rfl) (by decide) [(.ref b5), (.int y3)] [] (rm_2 l Z a0 hw [] b5 kb5 (y37) (y40) (i5) (y3) (y16) h20 n0 (Nat.le_trans Z0 K.1) E_b5 V_b5 g_b5 hy16 hy17) 0 (by decide) (by decide) rfl pd_1 rfl rfl (Nat.le_of_eq rfl) at_121 rfl (k' := 2) (n' := 6) rfl rfl (by decide) (by decide) ?_
              intro T277 v277 h277 X277 q277
              rcases q277 with ⟨y278, y279, hy280, hy281, c282, rfl, rfl⟩ | ⟨y283, y284, hy285, hy286, c287, rfl, rfl⟩
              · exfalso
                have b0 := own_bitT hy216 hy217 rk.1 rk.2 c218
                have b1 := own_bitF hy273 hy274 (own_gez c260) (own_lt64 c272) c276
                have b2 := own_bitF hy280 hy281 rk.1 rk.2 c282
                rw [own_bitA rs rk rd hy41 hy42, decide_eq_false (own_nltz c260)] at b2
                revert b0 b1 b2
                generalize own_tb i3 y16.toInt.toNat = u0
                generalize own_tb i2 y259.toInt.toNat = u1
                revert u0 u1
                decide
              · show own_Go p e below (T277.setTop (mkF m 124 #[.val (.int i0), .val (.int i1), .val (.long i2), .second, .val (.long i3), .second, .val (.long i4), .second, .val (.long i5), .second, .val (.int y1), .val (.int y3), .val (.int y4), .val (.ref b5), .val (.ref b9), .val (.int (1 : Int32)), .val (.int y259), .val (.int (0 : Int32)), .unset] [(.int (1 : Int32))])) _
                refine own_istore (pc' := 126) B X277 (Ls' := #[.val (.int i0), .val (.int i1), .val (.long i2), .second, .val (.long i3), .second, .val (.long i4), .second, .val (.long i5), .second, .val (.int y1), .val (.int y3), .val (.int y4), .val (.ref b5), .val (.ref b9), .val (.int (1 : Int32)), .val (.int y259), .val (.int (0 : Int32)), .val (.int (1 : Int32))]) at_124 rfl rfl ?_
                refine own_iload (pc' := 128) B X277 at_126 rfl rfl ?_
                refine own_iload (pc' := 130) B X277 at_128 rfl rfl ?_
                refine own_ifYes (pc' := 138) B X277 at_130 ((if0 _ _).trans (feq (by decide : ¬ ((1 : Int32) = (0 : Int32)))).2) (by decide) rfl ?_
                refine own_iconst (pc' := 139) B X277 (z := (1 : Int32)) at_138 rfl rfl ?_
                refine own_goto (pc' := 143) B X277 at_139 (by decide) rfl ?_
                refine own_icmpNo (pc' := 146) B X277 at_143 (teq (by decide : (1 : Int32) = (1 : Int32))).2 rfl ?_
                refine own_iconst (pc' := 147) B X277 (z := (1 : Int32)) at_146 rfl rfl ?_
                refine own_goto (pc' := 151) B X277 at_147 (by decide) rfl ?_
                exact own_retN B X277 (t := .boolean) (z' := (1 : Int32)) (by simp) (by decide) at_151 (by decide) (by decide) rfl
            · refine own_ifNo (pc' := 110) B X208 at_107 ((if0 _ _).trans (feq (own_lcm (P := fun q => ¬ (q = (0 : Int32))) hy275 (fun q => c276 ((lw_eq y274 (0 : Int64)).mp q)))).1) rfl ?_
              refine own_iconst (pc' := 111) B X208 (z := (1 : Int32)) at_110 rfl rfl ?_
              refine own_goto (pc' := 115) B X208 at_111 (by decide) rfl ?_
              refine own_istore (pc' := 117) B X208 (Ls' := #[.val (.int i0), .val (.int i1), .val (.long i2), .second, .val (.long i3), .second, .val (.long i4), .second, .val (.long i5), .second, .val (.int y1), .val (.int y3), .val (.int y4), .val (.ref b5), .val (.ref b9), .val (.int (1 : Int32)), .val (.int y259), .val (.int (1 : Int32)), .unset]) at_115 rfl rfl ?_
              refine own_aload (pc' := 119) B X208 at_117 rfl rfl rfl ?_
              refine own_iload (pc' := 121) B X208 at_119 rfl rfl ?_
              refine own_callS (pc' := 124) B X208 (own_w hw 5 rfl) (own_w hw 6 rfl) (own_w hw 7 rfl) (own_w hw 8 rfl) (by decide) [(.ref b5), (.int y3)] [] (rm_2 l Z a0 hw [] b5 kb5 (y37) (y40) (i5) (y3) (y16) h20 n0 (Nat.le_trans Z0 K.1) E_b5 V_b5 g_b5 hy16 hy17) 0 (by decide) (by decide) rfl pd_1 rfl rfl (Nat.le_of_eq rfl) at_121 rfl (k' := 2) (n' := 6) rfl rfl (by decide) (by decide) ?_
              intro T288 v288 h288 X288 q288
              rcases q288 with ⟨y289, y290, hy291, hy292, c293, rfl, rfl⟩ | ⟨y294, y295, hy296, hy297, c298, rfl, rfl⟩
              · exfalso
                have b0 := own_bitT hy216 hy217 rk.1 rk.2 c218
                have b1 := own_bitT hy273 hy274 (own_gez c260) (own_lt64 c272) c276
                have b2 := own_bitF hy291 hy292 rk.1 rk.2 c293
                rw [own_bitA rs rk rd hy41 hy42, decide_eq_false (own_nltz c260)] at b2
                revert b0 b1 b2
                generalize own_tb i3 y16.toInt.toNat = u0
                generalize own_tb i2 y259.toInt.toNat = u1
                revert u0 u1
                decide
              · show own_Go p e below (T288.setTop (mkF m 124 #[.val (.int i0), .val (.int i1), .val (.long i2), .second, .val (.long i3), .second, .val (.long i4), .second, .val (.long i5), .second, .val (.int y1), .val (.int y3), .val (.int y4), .val (.ref b5), .val (.ref b9), .val (.int (1 : Int32)), .val (.int y259), .val (.int (1 : Int32)), .unset] [(.int (1 : Int32))])) _
                refine own_istore (pc' := 126) B X288 (Ls' := #[.val (.int i0), .val (.int i1), .val (.long i2), .second, .val (.long i3), .second, .val (.long i4), .second, .val (.long i5), .second, .val (.int y1), .val (.int y3), .val (.int y4), .val (.ref b5), .val (.ref b9), .val (.int (1 : Int32)), .val (.int y259), .val (.int (1 : Int32)), .val (.int (1 : Int32))]) at_124 rfl rfl ?_
                refine own_iload (pc' := 128) B X288 at_126 rfl rfl ?_
                refine own_iload (pc' := 130) B X288 at_128 rfl rfl ?_
                refine own_ifYes (pc' := 138) B X288 at_130 ((if0 _ _).trans (feq (by decide : ¬ ((1 : Int32) = (0 : Int32)))).2) (by decide) rfl ?_
                refine own_iconst (pc' := 139) B X288 (z := (1 : Int32)) at_138 rfl rfl ?_
                refine own_goto (pc' := 143) B X288 at_139 (by decide) rfl ?_
                refine own_icmpNo (pc' := 146) B X288 at_143 (teq (by decide : (1 : Int32) = (1 : Int32))).2 rfl ?_
                refine own_iconst (pc' := 147) B X288 (z := (1 : Int32)) at_146 rfl rfl ?_
                refine own_goto (pc' := 151) B X288 at_147 (by decide) rfl ?_
                exact own_retN B X288 (t := .boolean) (z' := (1 : Int32)) (by simp) (by decide) at_151 (by decide) (by decide) rfl
    · obtain rfl : y17 = (1 : Int32) := Int32.toInt_inj.mp (z19.trans (by decide))
      refine own_aload (pc' := 64) B X12 at_62 rfl rfl rfl ?_
      have rs : 0 ≤ y14.toInt ∧ y14.toInt < 64 := by
        have o0 := own_o_mask hy1 7 (by decide) (by decide)
        have o1 := own_o_iushr hy2 7 (by decide) (by decide)
        have o2 := own_o_irem hy3 192 (by decide)
        have o3 := own_o_iadd hy4
        have o4 := own_o_isub hy13
        have o5 := own_o_mask hy14 6 (by decide) (by decide)
        have o6 := own_o_iushr hy15 6 (by decide) (by decide)
        have o7 := own_o_mask hy16 6 (by decide) (by decide)
        have o8 := own_o_iushr hy17 6 (by decide) (by decide)
        have o9 := rng32 i0
        have o10 := rng32 i1
        have o11 := rng32 y1
        have o12 := rng32 y14
        have o13 := rng32 y16
        have o14 := rng32 y2
        have o15 := rng32 y3
        have o16 := rng32 y4
        have o17 : (127 : Int32).toInt = 127 := by decide
        have o18 : (7 : Int32).toInt = 7 := by decide
        have o19 : (192 : Int32).toInt = 192 := by decide
        have o20 : (63 : Int32).toInt = 63 := by decide
        have o21 : (6 : Int32).toInt = 6 := by decide
        have o22 : (0 : Int32).toInt = 0 := by decide
        have o23 : (1 : Int32).toInt = 1 := by decide
        omega
      have rk : 0 ≤ y16.toInt ∧ y16.toInt < 64 := by
        have o0 := own_o_mask hy1 7 (by decide) (by decide)
        have o1 := own_o_iushr hy2 7 (by decide) (by decide)
        have o2 := own_o_irem hy3 192 (by decide)
        have o3 := own_o_iadd hy4
        have o4 := own_o_isub hy13
        have o5 := own_o_mask hy14 6 (by decide) (by decide)
        have o6 := own_o_iushr hy15 6 (by decide) (by decide)
        have o7 := own_o_mask hy16 6 (by decide) (by decide)
        have o8 := own_o_iushr hy17 6 (by decide) (by decide)
        have o9 := rng32 i0
        have o10 := rng32 i1
        have o11 := rng32 y1
        have o12 := rng32 y14
        have o13 := rng32 y16
        have o14 := rng32 y2
        have o15 := rng32 y3
        have o16 := rng32 y4
        have o17 : (127 : Int32).toInt = 127 := by decide
        have o18 : (7 : Int32).toInt = 7 := by decide
        have o19 : (192 : Int32).toInt = 192 := by decide
        have o20 : (63 : Int32).toInt = 63 := by decide
        have o21 : (6 : Int32).toInt = 6 := by decide
        have o22 : (0 : Int32).toInt = 0 := by decide
        have o23 : (1 : Int32).toInt = 1 := by decide
        omega
      have rp : y1.toInt = 64 * 0 + y14.toInt := by
        have o0 := own_o_mask hy1 7 (by decide) (by decide)
        have o1 := own_o_iushr hy2 7 (by decide) (by decide)
        have o2 := own_o_irem hy3 192 (by decide)
        have o3 := own_o_iadd hy4
        have o4 := own_o_isub hy13
        have o5 := own_o_mask hy14 6 (by decide) (by decide)
        have o6 := own_o_iushr hy15 6 (by decide) (by decide)
        have o7 := own_o_mask hy16 6 (by decide) (by decide)
        have o8 := own_o_iushr hy17 6 (by decide) (by decide)
        have o9 := rng32 i0
        have o10 := rng32 i1
        have o11 := rng32 y1
        have o12 := rng32 y14
        have o13 := rng32 y16
        have o14 := rng32 y2
        have o15 := rng32 y3
        have o16 := rng32 y4
        have o17 : (127 : Int32).toInt = 127 := by decide
        have o18 : (7 : Int32).toInt = 7 := by decide
        have o19 : (192 : Int32).toInt = 192 := by decide
        have o20 : (63 : Int32).toInt = 63 := by decide
        have o21 : (6 : Int32).toInt = 6 := by decide
        have o22 : (0 : Int32).toInt = 0 := by decide
        have o23 : (1 : Int32).toInt = 1 := by decide
        omega
      have rq : y3.toInt = 64 * 1 + y16.toInt := by
        have o0 := own_o_mask hy1 7 (by decide) (by decide)
        have o1 := own_o_iushr hy2 7 (by decide) (by decide)
        have o2 := own_o_irem hy3 192 (by decide)
        have o3 := own_o_iadd hy4
        have o4 := own_o_isub hy13
        have o5 := own_o_mask hy14 6 (by decide) (by decide)
        have o6 := own_o_iushr hy15 6 (by decide) (by decide)
        have o7 := own_o_mask hy16 6 (by decide) (by decide)
        have o8 := own_o_iushr hy17 6 (by decide) (by decide)
        have o9 := rng32 i0
        have o10 := rng32 i1
        have o11 := rng32 y1
        have o12 := rng32 y14
        have o13 := rng32 y16
        have o14 := rng32 y2
        have o15 := rng32 y3
        have o16 := rng32 y4
        have o17 : (127 : Int32).toInt = 127 := by decide
        have o18 : (7 : Int32).toInt = 7 := by decide
        have o19 : (192 : Int32).toInt = 192 := by decide
        have o20 : (63 : Int32).toInt = 63 := by decide
        have o21 : (6 : Int32).toInt = 6 := by decide
        have o22 : (0 : Int32).toInt = 0 := by decide
        have o23 : (1 : Int32).toInt = 1 := by decide
        omega
      refine own_iloadN (pc' := 65) B X12 at_64 rfl rfl ?_
      refine own_iload (pc' := 67) B X12 at_65 rfl rfl ?_
      refine own_lloadN (pc' := 68) B X12 at_67 rfl rfl ?_
      refine own_callS (pc' := 71) B X12 (own_w hw 1 rfl) (own_w hw 2 rfl) (own_w hw 3 rfl) (own_w hw 4 rfl) (by decide) [(.ref b5), (.int i0), (.int y4), (.long i2)] [] (rm_1 l Z a0 hw [] b5 kb5 (i3) (i4) (i5) (i0) (y4) (i2) (y1) (y14) h12 n0 (Nat.le_trans Z0 K.1) E_b5 V_b5 g_b5 hy13 hy14 hy15) 0 (by decide) (by decide) rfl pd_0 rfl rfl (Nat.le_of_eq rfl) at_68 rfl (k' := 2) (n' := 6) rfl rfl (by decide) (by decide) ?_
      intro T299 v299 h299 X299 q299
      rcases q299 with ⟨y300, y301, hy302, hy303, c304, rfl, K299, E_b5, V_b5⟩ | ⟨y305, y306, y307, y308, hy309, hy310, c311, hy312, hy313, c314, rfl, K299, E_b5, V_b5⟩ | ⟨y315, y316, y317, y318, y319, hy320, hy321, c322, hy323, hy324, c325, hy326, rfl, K299, E_b5, V_b5⟩
      · replace K := K.trans K299 (allS (Or.inr sz_b5) all0)
        replace E_b9 := E_b9.keep K299
        replace V_b9 := V_b9.keep K299 (ninS (Ne.symm ne_b5_b9) nin0)
        show own_Go p e below (T299.setTop (mkF m 71 #[.val (.int i0), .val (.int i1), .val (.long i2), .second, .val (.long i3), .second, .val (.long i4), .second, .val (.long i5), .second, .val (.int y1), .val (.int y3), .val (.int y4), .val (.ref b5), .val (.ref b9), .unset, .unset, .unset, .unset] [])) _
        refine own_aload (pc' := 73) B X299 at_71 rfl rfl rfl ?_
        refine own_iload (pc' := 75) B X299 at_73 rfl rfl ?_
        refine own_callS (pc' := 78) B X299 (own_w hw 5 rfl) (own_w hw 6 rfl) (own_w hw 7 rfl) (own_w hw 8 rfl) (by decide) [(.ref b9), (.int y3)] [] (rm_3 l Z a0 hw [] b9 kb9 (i3) (i4) (i5) (y3) (y16) h299 n0 (Nat.le_trans Z0 K.1) E_b9 V_b9 g_b9 hy16 hy17) 0 (by decide) (by decide) rfl pd_1 rfl rfl (Nat.le_of_eq rfl) at_75 rfl (k' := 2) (n' := 6) rfl rfl (by decide) (by decide) ?_
        intro T327 v327 h327 X327 q327
        rcases q327 with ⟨y328, y329, hy330, hy331, c332, rfl, rfl⟩ | ⟨y333, y334, hy335, hy336, c337, rfl, rfl⟩
        · show own_Go p e below (T327.setTop (mkF m 78 #[.val (.int i0), .val (.int i1), .val (.long i2), .second, .val (.long i3), .second, .val (.long i4), .second, .val (.long i5), .second, .val (.int y1), .val (.int y3), .val (.int y4), .val (.ref b5), .val (.ref b9), .unset, .unset, .unset, .unset] [(.int (0 : Int32))])) _
          refine own_istore (pc' := 80) B X327 (Ls' := #[.val (.int i0), .val (.int i1), .val (.long i2), .second, .val (.long i3), .second, .val (.long i4), .second, .val (.long i5), .second, .val (.int y1), .val (.int y3), .val (.int y4), .val (.ref b5), .val (.ref b9), .val (.int (0 : Int32)), .unset, .unset, .unset]) at_78 rfl rfl ?_
          refine own_iload (pc' := 82) B X327 at_80 rfl rfl ?_
          refine own_iload (pc' := 84) B X327 at_82 rfl rfl ?_
          obtain ⟨y338, hy338⟩ : ∃ z : Int32, y3 - y1 = z := ⟨_, rfl⟩
          refine own_isub (pc' := 85) B X327 at_84 rfl hy338 ?_
          refine own_istore (pc' := 87) B X327 (Ls' := #[.val (.int i0), .val (.int i1), .val (.long i2), .second, .val (.long i3), .second, .val (.long i4), .second, .val (.long i5), .second, .val (.int y1), .val (.int y3), .val (.int y4), .val (.ref b5), .val (.ref b9), .val (.int (0 : Int32)), .val (.int y338), .unset, .unset]) at_85 rfl rfl ?_
          have rd : y338.toInt = 64 * 1 + y16.toInt - y14.toInt := own_dist hy338 rp rq rs rk (by decide) (by decide) (by decide)
          refine own_iload (pc' := 89) B X327 at_87 rfl rfl ?_
          have c339 : ¬ (y338 < (0 : Int32)) := by
            have o0 := own_o_mask hy1 7 (by decide) (by decide)
            have o1 := own_o_iushr hy2 7 (by decide) (by decide)
            have o2 := own_o_irem hy3 192 (by decide)
            have o3 := own_o_iadd hy4
            have o4 := own_o_isub hy13
            have o5 := own_o_mask hy14 6 (by decide) (by decide)
            have o6 := own_o_iushr hy15 6 (by decide) (by decide)
            have o7 := own_o_mask hy16 6 (by decide) (by decide)
            have o8 := own_o_iushr hy17 6 (by decide) (by decide)
            have o9 := own_o_maskL hy331 1 (by decide) (by decide)
            have o10 := own_o_isub hy338
            have o11 := own_eq c304
            have o12 := own_eqL c332
            have o13 := rng32 i0
            have o14 := rng32 i1
            have o15 := rng32 y1
            have o16 := rng32 y14
            have o17 := rng32 y16
            have o18 := rng32 y2
            have o19 := rng32 y3
            have o20 := rng32 y338
            have o21 := rng32 y4
            have o22 := rng64 i4
            have o23 := rng64 y328
            have o24 := rng64 y329
            have o25 : (127 : Int32).toInt = 127 := by decide
            have o26 : (7 : Int32).toInt = 7 := by decide
            have o27 : (192 : Int32).toInt = 192 := by decide
            have o28 : (63 : Int32).toInt = 63 := by decide
            have o29 : (6 : Int32).toInt = 6 := by decide
            have o30 : (0 : Int32).toInt = 0 := by decide
            have o31 : (1 : Int32).toInt = 1 := by decide
            have o32 : (1 : Int64).toInt = 1 := by decide
            have o33 : (0 : Int64).toInt = 0 := by decide
            refine own_nltI ?_
            omega
          refine own_ifNo (pc' := 92) B X327 at_89 ((if0 _ _).trans (flt c339).1) rfl ?_
          refine own_iload (pc' := 94) B X327 at_92 rfl rfl ?_
          refine own_bipush (pc' := 96) B X327 (z := (64 : Int32)) at_94 rfl (by decide) ?_
          have c340 : ¬ (y338 < (64 : Int32)) := by
            have o0 := own_o_mask hy1 7 (by decide) (by decide)
            have o1 := own_o_iushr hy2 7 (by decide) (by decide)
            have o2 := own_o_irem hy3 192 (by decide)
            have o3 := own_o_iadd hy4
            have o4 := own_o_isub hy13
            have o5 := own_o_mask hy14 6 (by decide) (by decide)
            have o6 := own_o_iushr hy15 6 (by decide) (by decide)
            have o7 := own_o_mask hy16 6 (by decide) (by decide)
            have o8 := own_o_iushr hy17 6 (by decide) (by decide)
            have o9 := own_o_maskL hy331 1 (by decide) (by decide)
            have o10 := own_o_isub hy338
            have o11 := own_eq c304
            have o12 := own_eqL c332
            have o13 := own_nlt c339
            have o14 := rng32 i0
            have o15 := rng32 i1
            have o16 := rng32 y1
            have o17 := rng32 y14
            have o18 := rng32 y16
            have o19 := rng32 y2
            have o20 := rng32 y3
            have o21 := rng32 y338
            have o22 := rng32 y4
            have o23 := rng64 i4
            have o24 := rng64 y328
            have o25 := rng64 y329
            have o26 : (127 : Int32).toInt = 127 := by decide
            have o27 : (7 : Int32).toInt = 7 := by decide
            have o28 : (192 : Int32).toInt = 192 := by decide
            have o29 : (63 : Int32).toInt = 63 := by decide
            have o30 : (6 : Int32).toInt = 6 := by decide
            have o31 : (0 : Int32).toInt = 0 := by decide
            have o32 : (1 : Int32).toInt = 1 := by decide
            have o33 : (1 : Int64).toInt = 1 := by decide
            have o34 : (0 : Int64).toInt = 0 := by decide
            have o35 : (64 : Int32).toInt = 64 := by decide
            refine own_nltI ?_
            omega
          refine own_icmpYes (pc' := 114) B X327 at_96 (flt c340).2.1 (by decide) rfl ?_
          refine own_iconst (pc' := 115) B X327 (z := (0 : Int32)) at_114 rfl rfl ?_
          refine own_istore (pc' := 117) B X327 (Ls' := #[.val (.int i0), .val (.int i1), .val (.long i2), .second, .val (.long i3), .second, .val (.long i4), .second, .val (.long i5), .second, .val (.int y1), .val (.int y3), .val (.int y4), .val (.ref b5), .val (.ref b9), .val (.int (0 : Int32)), .val (.int y338), .val (.int (0 : Int32)), .unset]) at_115 rfl rfl ?_
          refine own_aload (pc' := 119) B X327 at_117 rfl rfl rfl ?_
          refine own_iload (pc' := 121) B X327 at_119 rfl rfl ?_
          refine own_callS (pc' := 124) B X327 (own_w hw 5 rfl) (own_w hw 6 rfl) (own_w hw 7 rfl) (own_w hw 8 rfl) (by decide) [(.ref b5), (.int y3)] [] (rm_3 l Z a0 hw [] b5 kb5 (y301) (i4) (i5) (y3) (y16) h299 n0 (Nat.le_trans Z0 K.1) E_b5 V_b5 g_b5 hy16 hy17) 0 (by decide) (by decide) rfl pd_1 rfl rfl (Nat.le_of_eq rfl) at_121 rfl (k' := 2) (n' := 6) rfl rfl (by decide) (by decide) ?_
          intro T341 v341 h341 X341 q341
          rcases q341 with ⟨y342, y343, hy344, hy345, c346, rfl, rfl⟩ | ⟨y347, y348, hy349, hy350, c351, rfl, rfl⟩
          · obtain rfl : y328 = y342 := (hy330 : (i4.toUInt64 >>> (y16 &&& 0x3f).toInt64.toUInt64).toInt64 = y328).symm.trans hy344
            obtain rfl : y329 = y343 := (hy331 : y328 &&& (1 : Int64) = y329).symm.trans hy345
            show own_Go p e below (T341.setTop (mkF m 124 #[.val (.int i0), .val (.int i1), .val (.long i2), .second, .val (.long i3), .second, .val (.long i4), .second, .val (.long i5), .second, .val (.int y1), .val (.int y3), .val (.int y4), .val (.ref b5), .val (.ref b9), .val (.int (0 : Int32)), .val (.int y338), .val (.int (0 : Int32)), .unset] [(.int (0 : Int32))])) _
            refine own_istore (pc' := 126) B X341 (Ls' := #[.val (.int i0), .val (.int i1), .val (.long i2), .second, .val (.long i3), .second, .val (.long i4), .second, .val (.long i5), .second, .val (.int y1), .val (.int y3), .val (.int y4), .val (.ref b5), .val (.ref b9), .val (.int (0 : Int32)), .val (.int y338), .val (.int (0 : Int32)), .val (.int (0 : Int32))]) at_124 rfl rfl ?_
            refine own_iload (pc' := 128) B X341 at_126 rfl rfl ?_
            refine own_iload (pc' := 130) B X341 at_128 rfl rfl ?_
            refine own_ifNo (pc' := 133) B X341 at_130 ((if0 _ _).trans (teq (by decide : (0 : Int32) = (0 : Int32))).2) rfl ?_
            refine own_iload (pc' := 135) B X341 at_133 rfl rfl ?_
            refine own_ifYes (pc' := 142) B X341 at_135 ((if0 _ _).trans (teq (by decide : (0 : Int32) = (0 : Int32))).1) (by decide) rfl ?_
            refine own_iconst (pc' := 143) B X341 (z := (0 : Int32)) at_142 rfl rfl ?_
            refine own_icmpNo (pc' := 146) B X341 at_143 (teq (by decide : (0 : Int32) = (0 : Int32))).2 rfl ?_
            refine own_iconst (pc' := 147) B X341 (z := (1 : Int32)) at_146 rfl rfl ?_
            refine own_goto (pc' := 151) B X341 at_147 (by decide) rfl ?_
            exact own_retN B X341 (t := .boolean) (z' := (1 : Int32)) (by simp) (by decide) at_151 (by decide) (by decide) rfl
          · obtain rfl : y328 = y347 := (hy330 : (i4.toUInt64 >>> (y16 &&& 0x3f).toInt64.toUInt64).toInt64 = y328).symm.trans hy349
            obtain rfl : y329 = y348 := (hy331 : y328 &&& (1 : Int64) = y329).symm.trans hy350
            exfalso
            have b0 := own_bitF hy330 hy331 rk.1 rk.2 c332
            have b1 := own_bitT hy330 hy331 rk.1 rk.2 c351
            revert b0 b1
            generalize own_tb i4 y16.toInt.toNat = u0
            revert u0
            decide
        · show own_Go p e below (T327.setTop (mkF m 78 #[.val (.int i0), .val (.int i1), .val (.long i2), .second, .val (.long i3), .second, .val (.long i4), .second, .val (.long i5), .second, .val (.int y1), .val (.int y3), .val (.int y4), .val (.ref b5), .val (.ref b9), .unset, .unset, .unset, .unset] [(.int (1 : Int32))])) _
          refine own_istore (pc' := 80) B X327 (Ls' := #[.val (.int i0), .val (.int i1), .val (.long i2), .second, .val (.long i3), .second, .val (.long i4), .second, .val (.long i5), .second, .val (.int y1), .val (.int y3), .val (.int y4), .val (.ref b5), .val (.ref b9), .val (.int (1 : Int32)), .unset, .unset, .unset]) at_78 rfl rfl ?_
          refine own_iload (pc' := 82) B X327 at_80 rfl rfl ?_
          refine own_iload (pc' := 84) B X327 at_82 rfl rfl ?_
          obtain ⟨y352, hy352⟩ : ∃ z : Int32, y3 - y1 = z := ⟨_, rfl⟩
          refine own_isub (pc' := 85) B X327 at_84 rfl hy352 ?_
          refine own_istore (pc' := 87) B X327 (Ls' := #[.val (.int i0), .val (.int i1), .val (.long i2), .second, .val (.long i3), .second, .val (.long i4), .second, .val (.long i5), .second, .val (.int y1), .val (.int y3), .val (.int y4), .val (.ref b5), .val (.ref b9), .val (.int (1 : Int32)), .val (.int y352), .unset, .unset]) at_85 rfl rfl ?_
          have rd : y352.toInt = 64 * 1 + y16.toInt - y14.toInt := own_dist hy352 rp rq rs rk (by decide) (by decide) (by decide)
          refine own_iload (pc' := 89) B X327 at_87 rfl rfl ?_
          have c353 : ¬ (y352 < (0 : Int32)) := by
            have o0 := own_o_mask hy1 7 (by decide) (by decide)
            have o1 := own_o_iushr hy2 7 (by decide) (by decide)
            have o2 := own_o_irem hy3 192 (by decide)
            have o3 := own_o_iadd hy4
            have o4 := own_o_isub hy13
            have o5 := own_o_mask hy14 6 (by decide) (by decide)
            have o6 := own_o_iushr hy15 6 (by decide) (by decide)
            have o7 := own_o_mask hy16 6 (by decide) (by decide)
            have o8 := own_o_iushr hy17 6 (by decide) (by decide)
            have o9 := own_o_maskL hy336 1 (by decide) (by decide)
            have o10 := own_o_isub hy352
            have o11 := own_eq c304
            have o12 := own_neqL c337
            have o13 := rng32 i0
            have o14 := rng32 i1
            have o15 := rng32 y1
            have o16 := rng32 y14
            have o17 := rng32 y16
            have o18 := rng32 y2
            have o19 := rng32 y3
            have o20 := rng32 y352
            have o21 := rng32 y4
            have o22 := rng64 i4
            have o23 := rng64 y333
            have o24 := rng64 y334
            have o25 : (127 : Int32).toInt = 127 := by decide
            have o26 : (7 : Int32).toInt = 7 := by decide
            have o27 : (192 : Int32).toInt = 192 := by decide
            have o28 : (63 : Int32).toInt = 63 := by decide
            have o29 : (6 : Int32).toInt = 6 := by decide
            have o30 : (0 : Int32).toInt = 0 := by decide
            have o31 : (1 : Int32).toInt = 1 := by decide
            have o32 : (1 : Int64).toInt = 1 := by decide
            have o33 : (0 : Int64).toInt = 0 := by decide
            refine own_nltI ?_
            omega
          refine own_ifNo (pc' := 92) B X327 at_89 ((if0 _ _).trans (flt c353).1) rfl ?_
          refine own_iload (pc' := 94) B X327 at_92 rfl rfl ?_
          refine own_bipush (pc' := 96) B X327 (z := (64 : Int32)) at_94 rfl (by decide) ?_
          have c354 : ¬ (y352 < (64 : Int32)) := by
            have o0 := own_o_mask hy1 7 (by decide) (by decide)
            have o1 := own_o_iushr hy2 7 (by decide) (by decide)
            have o2 := own_o_irem hy3 192 (by decide)
            have o3 := own_o_iadd hy4
            have o4 := own_o_isub hy13
            have o5 := own_o_mask hy14 6 (by decide) (by decide)
            have o6 := own_o_iushr hy15 6 (by decide) (by decide)
            have o7 := own_o_mask hy16 6 (by decide) (by decide)
            have o8 := own_o_iushr hy17 6 (by decide) (by decide)
            have o9 := own_o_maskL hy336 1 (by decide) (by decide)
            have o10 := own_o_isub hy352
            have o11 := own_eq c304
            have o12 := own_neqL c337
            have o13 := own_nlt c353
            have o14 := rng32 i0
            have o15 := rng32 i1
            have o16 := rng32 y1
            have o17 := rng32 y14
            have o18 := rng32 y16
            have o19 := rng32 y2
            have o20 := rng32 y3
            have o21 := rng32 y352
            have o22 := rng32 y4
            have o23 := rng64 i4
            have o24 := rng64 y333
            have o25 := rng64 y334
            have o26 : (127 : Int32).toInt = 127 := by decide
            have o27 : (7 : Int32).toInt = 7 := by decide
            have o28 : (192 : Int32).toInt = 192 := by decide
            have o29 : (63 : Int32).toInt = 63 := by decide
            have o30 : (6 : Int32).toInt = 6 := by decide
            have o31 : (0 : Int32).toInt = 0 := by decide
            have o32 : (1 : Int32).toInt = 1 := by decide
            have o33 : (1 : Int64).toInt = 1 := by decide
            have o34 : (0 : Int64).toInt = 0 := by decide
            have o35 : (64 : Int32).toInt = 64 := by decide
            refine own_nltI ?_
            omega
          refine own_icmpYes (pc' := 114) B X327 at_96 (flt c354).2.1 (by decide) rfl ?_
          refine own_iconst (pc' := 115) B X327 (z := (0 : Int32)) at_114 rfl rfl ?_
          refine own_istore (pc' := 117) B X327 (Ls' := #[.val (.int i0), .val (.int i1), .val (.long i2), .second, .val (.long i3), .second, .val (.long i4), .second, .val (.long i5), .second, .val (.int y1), .val (.int y3), .val (.int y4), .val (.ref b5), .val (.ref b9), .val (.int (1 : Int32)), .val (.int y352), .val (.int (0 : Int32)), .unset]) at_115 rfl rfl ?_
          refine own_aload (pc' := 119) B X327 at_117 rfl rfl rfl ?_
          refine own_iload (pc' := 121) B X327 at_119 rfl rfl ?_
          refine own_callS (pc' := 124) B X327 (own_w hw 5 rfl) (own_w hw 6 rfl) (own_w hw 7 rfl) (own_w hw 8 rfl) (by decide) [(.ref b5), (.int y3)] [] (rm_3 l Z a0 hw [] b5 kb5 (y301) (i4) (i5) (y3) (y16) h299 n0 (Nat.le_trans Z0 K.1) E_b5 V_b5 g_b5 hy16 hy17) 0 (by decide) (by decide) rfl pd_1 rfl rfl (Nat.le_of_eq rfl) at_121 rfl (k' := 2) (n' := 6) rfl rfl (by decide) (by decide) ?_
          intro T355 v355 h355 X355 q355
          rcases q355 with ⟨y356, y357, hy358, hy359, c360, rfl, rfl⟩ | ⟨y361, y362, hy363, hy364, c365, rfl, rfl⟩
          · obtain rfl : y333 = y356 := (hy335 : (i4.toUInt64 >>> (y16 &&& 0x3f).toInt64.toUInt64).toInt64 = y333).symm.trans hy358
            obtain rfl : y334 = y357 := (hy336 : y333 &&& (1 : Int64) = y334).symm.trans hy359
            exfalso
            have b0 := own_bitT hy335 hy336 rk.1 rk.2 c337
            have b1 := own_bitF hy335 hy336 rk.1 rk.2 c360
            revert b0 b1
            generalize own_tb i4 y16.toInt.toNat = u0
            revert u0
            decide
          · obtain rfl : y333 = y361 := (hy335 : (i4.toUInt64 >>> (y16 &&& 0x3f).toInt64.toUInt64).toInt64 = y333).symm.trans hy363
            obtain rfl : y334 = y362 := (hy336 : y333 &&& (1 : Int64) = y334).symm.trans hy364
            show own_Go p e below (T355.setTop (mkF m 124 #[.val (.int i0), .val (.int i1), .val (.long i2), .second, .val (.long i3), .second, .val (.long i4), .second, .val (.long i5), .second, .val (.int y1), .val (.int y3), .val (.int y4), .val (.ref b5), .val (.ref b9), .val (.int (1 : Int32)), .val (.int y352), .val (.int (0 : Int32)), .unset] [(.int (1 : Int32))])) _
            refine own_istore (pc' := 126) B X355 (Ls' := #[.val (.int i0), .val (.int i1), .val (.long i2), .second, .val (.long i3), .second, .val (.long i4), .second, .val (.long i5), .second, .val (.int y1), .val (.int y3), .val (.int y4), .val (.ref b5), .val (.ref b9), .val (.int (1 : Int32)), .val (.int y352), .val (.int (0 : Int32)), .val (.int (1 : Int32))]) at_124 rfl rfl ?_
            refine own_iload (pc' := 128) B X355 at_126 rfl rfl ?_
            refine own_iload (pc' := 130) B X355 at_128 rfl rfl ?_
            refine own_ifYes (pc' := 138) B X355 at_130 ((if0 _ _).trans (feq (by decide : ¬ ((1 : Int32) = (0 : Int32)))).2) (by decide) rfl ?_
            refine own_iconst (pc' := 139) B X355 (z := (1 : Int32)) at_138 rfl rfl ?_
            refine own_goto (pc' := 143) B X355 at_139 (by decide) rfl ?_
            refine own_icmpNo (pc' := 146) B X355 at_143 (teq (by decide : (1 : Int32) = (1 : Int32))).2 rfl ?_
            refine own_iconst (pc' := 147) B X355 (z := (1 : Int32)) at_146 rfl rfl ?_
            refine own_goto (pc' := 151) B X355 at_147 (by decide) rfl ?_
            exact own_retN B X355 (t := .boolean) (z' := (1 : Int32)) (by simp) (by decide) at_151 (by decide) (by decide) rfl
      · replace K := K.trans K299 (allS (Or.inr sz_b5) all0)
        replace E_b9 := E_b9.keep K299
        replace V_b9 := V_b9.keep K299 (ninS (Ne.symm ne_b5_b9) nin0)
        show own_Go p e below (T299.setTop (mkF m 71 #[.val (.int i0), .val (.int i1), .val (.long i2), .second, .val (.long i3), .second, .val (.long i4), .second, .val (.long i5), .second, .val (.int y1), .val (.int y3), .val (.int y4), .val (.ref b5), .val (.ref b9), .unset, .unset, .unset, .unset] [])) _
        refine own_aload (pc' := 73) B X299 at_71 rfl rfl rfl ?_
        refine own_iload (pc' := 75) B X299 at_73 rfl rfl ?_
        refine own_callS (pc' := 78) B X299 (own_w hw 5 rfl) (own_w hw 6 rfl) (own_w hw 7 rfl) (own_w hw 8 rfl) (by decide) [(.ref b9), (.int y3)] [] (rm_3 l Z a0 hw [] b9 kb9 (i3) (i4) (i5) (y3) (y16) h299 n0 (Nat.le_trans Z0 K.1) E_b9 V_b9 g_b9 hy16 hy17) 0 (by decide) (by decide) rfl pd_1 rfl rfl (Nat.le_of_eq rfl) at_75 rfl (k' := 2) (n' := 6) rfl rfl (by decide) (by decide) ?_
        intro T366 v366 h366 X366 q366
        rcases q366 with ⟨y367, y368, hy369, hy370, c371, rfl, rfl⟩ | ⟨y372, y373, hy374, hy375, c376, rfl, rfl⟩
        · show own_Go p e below (T366.setTop (mkF m 78 #[.val (.int i0), .val (.int i1), .val (.long i2), .second, .val (.long i3), .second, .val (.long i4), .second, .val (.long i5), .second, .val (.int y1), .val (.int y3), .val (.int y4), .val (.ref b5), .val (.ref b9), .unset, .unset, .unset, .unset] [(.int (0 : Int32))])) _
          refine own_istore (pc' := 80) B X366 (Ls' := #[.val (.int i0), .val (.int i1), .val (.long i2), .second, .val (.long i3), .second, .val (.long i4), .second, .val (.long i5), .second, .val (.int y1), .val (.int y3), .val (.int y4), .val (.ref b5), .val (.ref b9), .val (.int (0 : Int32)), .unset, .unset, .unset]) at_78 rfl rfl ?_
          refine own_iload (pc' := 82) B X366 at_80 rfl rfl ?_
          refine own_iload (pc' := 84) B X366 at_82 rfl rfl ?_
          obtain ⟨y377, hy377⟩ : ∃ z : Int32, y3 - y1 = z := ⟨_, rfl⟩
          refine own_isub (pc' := 85) B X366 at_84 rfl hy377 ?_
          refine own_istore (pc' := 87) B X366 (Ls' := #[.val (.int i0), .val (.int i1), .val (.long i2), .second, .val (.long i3), .second, .val (.long i4), .second, .val (.long i5), .second, .val (.int y1), .val (.int y3), .val (.int y4), .val (.ref b5), .val (.ref b9), .val (.int (0 : Int32)), .val (.int y377), .unset, .unset]) at_85 rfl rfl ?_
          have rd : y377.toInt = 64 * 1 + y16.toInt - y14.toInt := own_dist hy377 rp rq rs rk (by decide) (by decide) (by decide)
          refine own_iload (pc' := 89) B X366 at_87 rfl rfl ?_
          have c378 : ¬ (y377 < (0 : Int32)) := by
            have o0 := own_o_mask hy1 7 (by decide) (by decide)
            have o1 := own_o_iushr hy2 7 (by decide) (by decide)
            have o2 := own_o_irem hy3 192 (by decide)
            have o3 := own_o_iadd hy4
            have o4 := own_o_isub hy13
            have o5 := own_o_mask hy14 6 (by decide) (by decide)
            have o6 := own_o_iushr hy15 6 (by decide) (by decide)
            have o7 := own_o_mask hy16 6 (by decide) (by decide)
            have o8 := own_o_iushr hy17 6 (by decide) (by decide)
            have o9 := own_o_isub hy312
            have o10 := own_o_maskL hy370 1 (by decide) (by decide)
            have o11 := own_o_isub hy377
            have o12 := own_neq c311
            have o13 := own_eqL c314
            have o14 := own_eqL c371
            have o15 := rng32 i0
            have o16 := rng32 i1
            have o17 := rng32 y1
            have o18 := rng32 y14
            have o19 := rng32 y16
            have o20 := rng32 y2
            have o21 := rng32 y3
            have o22 := rng32 y307
            have o23 := rng32 y377
            have o24 := rng32 y4
            have o25 := rng64 i2
            have o26 := rng64 i4
            have o27 := rng64 y308
            have o28 := rng64 y367
            have o29 := rng64 y368
            have o30 : (127 : Int32).toInt = 127 := by decide
            have o31 : (7 : Int32).toInt = 7 := by decide
            have o32 : (192 : Int32).toInt = 192 := by decide
            have o33 : (63 : Int32).toInt = 63 := by decide
            have o34 : (6 : Int32).toInt = 6 := by decide
            have o35 : (0 : Int32).toInt = 0 := by decide
            have o36 : (1 : Int32).toInt = 1 := by decide
            have o37 : (64 : Int32).toInt = 64 := by decide
            have o38 : (1 : Int64).toInt = 1 := by decide
            have o39 : (0 : Int64).toInt = 0 := by decide
            refine own_nltI ?_
            omega
          refine own_ifNo (pc' := 92) B X366 at_89 ((if0 _ _).trans (flt c378).1) rfl ?_
          refine own_iload (pc' := 94) B X366 at_92 rfl rfl ?_
          refine own_bipush (pc' := 96) B X366 (z := (64 : Int32)) at_94 rfl (by decide) ?_
          by_cases c379 : y377 < (64 : Int32)
          · refine own_icmpNo (pc' := 99) B X366 at_96 (tlt c379).2.1 rfl ?_
            refine own_lloadN (pc' := 100) B X366 at_99 rfl rfl ?_
            refine own_iload (pc' := 102) B X366 at_100 rfl rfl ?_
            obtain ⟨y380, hy380⟩ : ∃ z : Int64, (i2.toUInt64 >>> (y377 &&& 0x3f).toInt64.toUInt64).toInt64 = z := ⟨_, rfl⟩
            refine own_lushr (pc' := 103) B X366 at_102 rfl hy380 ?_
            refine own_lconst (pc' := 104) B X366 (z := (1 : Int64)) at_103 rfl (by decide) ?_
            obtain ⟨y381, hy381⟩ : ∃ z : Int64, y380 &&& (1 : Int64) = z := ⟨_, rfl⟩
            refine own_land (pc' := 105) B X366 at_104 rfl hy381 ?_
            refine own_lconst (pc' := 106) B X366 (z := (0 : Int64)) at_105 rfl (by decide) ?_
            obtain ⟨y382, hy382⟩ : ∃ z : Int32, lcmpW y381 (0 : Int64) = z := ⟨_, rfl⟩
            refine own_lcmp (pc' := 107) B X366 at_106 rfl hy382 ?_
            have c383 : y381 = (0 : Int64) := by
              refine Classical.byContradiction fun cg => ?_
              have b0 := own_bitC rs rk rd hy312 c311 hy313 c314 (own_lt64 c379)
              have b1 := own_bitF hy369 hy370 rk.1 rk.2 c371
              have b2 := own_bitT hy380 hy381 (own_gez c378) (own_lt64 c379) cg
              revert b0 b1 b2
              generalize own_tb i2 y377.toInt.toNat = u0
              generalize own_tb i4 y16.toInt.toNat = u1
              revert u0 u1
              decide
            refine own_ifYes (pc' := 114) B X366 at_107 ((if0 _ _).trans (teq (own_lcm (P := fun q => (q = (0 : Int32))) hy382 ((lw_eq y381 (0 : Int64)).mpr c383))).1) (by decide) rfl ?_
            refine own_iconst (pc' := 115) B X366 (z := (0 : Int32)) at_114 rfl rfl ?_
            refine own_istore (pc' := 117) B X366 (Ls' := #[.val (.int i0), .val (.int i1), .val (.long i2), .second, .val (.long i3), .second, .val (.long i4), .second, .val (.long i5), .second, .val (.int y1), .val (.int y3), .val (.int y4), .val (.ref b5), .val (.ref b9), .val (.int (0 : Int32)), .val (.int y377), .val (.int (0 : Int32)), .unset]) at_115 rfl rfl ?_
            refine own_aload (pc' := 119) B X366 at_117 rfl rfl rfl ?_
            refine own_iload (pc' := 121) B X366 at_119 rfl rfl ?_
            refine own_callS (pc' := 124) B X366 (own_w hw 5 rfl) (own_w hw 6 rfl) (own_w hw 7 rfl) (own_w hw 8 rfl) (by decide) [(.ref b5), (.int y3)] [] (rm_3 l Z a0 hw [] b5 kb5 (y306) (i4) (i5) (y3) (y16) h299 n0 (Nat.le_trans Z0 K.1) E_b5 V_b5 g_b5 hy16 hy17) 0 (by decide) (by decide) rfl pd_1 rfl rfl (Nat.le_of_eq rfl) at_121 rfl (k' := 2) (n' := 6) rfl rfl (by decide) (by decide) ?_
            intro T384 v384 h384 X384 q384
            rcases q384 with ⟨y385, y386, hy387, hy388, c389, rfl, rfl⟩ | ⟨y390, y391, hy392, hy393, c394, rfl, rfl⟩
            · obtain rfl : y367 = y385 := (hy369 : (i4.toUInt64 >>> (y16 &&& 0x3f).toInt64.toUInt64).toInt64 = y367).symm.trans hy387
              obtain rfl : y368 = y386 := (hy370 : y367 &&& (1 : Int64) = y368).symm.trans hy388
              show own_Go p e below (T384.setTop (mkF m 124 #[.val (.int i0), .val (.int i1), .val (.long i2), .second, .val (.long i3), .second, .val (.long i4), .second, .val (.long i5), .second, .val (.int y1), .val (.int y3), .val (.int y4), .val (.ref b5), .val (.ref b9), .val (.int (0 : Int32)), .val (.int y377), .val (.int (0 : Int32)), .unset] [(.int (0 : Int32))])) _
              refine own_istore (pc' := 126) B X384 (Ls' := #[.val (.int i0), .val (.int i1), .val (.long i2), .second, .val (.long i3), .second, .val (.long i4), .second, .val (.long i5), .second, .val (.int y1), .val (.int y3), .val (.int y4), .val (.ref b5), .val (.ref b9), .val (.int (0 : Int32)), .val (.int y377), .val (.int (0 : Int32)), .val (.int (0 : Int32))]) at_124 rfl rfl ?_
              refine own_iload (pc' := 128) B X384 at_126 rfl rfl ?_
              refine own_iload (pc' := 130) B X384 at_128 rfl rfl ?_
              refine own_ifNo (pc' := 133) B X384 at_130 ((if0 _ _).trans (teq (by decide : (0 : Int32) = (0 : Int32))).2) rfl ?_
              refine own_iload (pc' := 135) B X384 at_133 rfl rfl ?_
              refine own_ifYes (pc' := 142) B X384 at_135 ((if0 _ _).trans (teq (by decide : (0 : Int32) = (0 : Int32))).1) (by decide) rfl ?_
              refine own_iconst (pc' := 143) B X384 (z := (0 : Int32)) at_142 rfl rfl ?_
              refine own_icmpNo (pc' := 146) B X384 at_143 (teq (by decide : (0 : Int32) = (0 : Int32))).2 rfl ?_
              refine own_iconst (pc' := 147) B X384 (z := (1 : Int32)) at_146 rfl rfl ?_
              refine own_goto (pc' := 151) B X384 at_147 (by decide) rfl ?_
              exact own_retN B X384 (t := .boolean) (z' := (1 : Int32)) (by simp) (by decide) at_151 (by decide) (by decide) rfl
            · obtain rfl : y367 = y390 := (hy369 : (i4.toUInt64 >>> (y16 &&& 0x3f).toInt64.toUInt64).toInt64 = y367).symm.trans hy392
              obtain rfl : y368 = y391 := (hy370 : y367 &&& (1 : Int64) = y368).symm.trans hy393
              exfalso
              have b0 := own_bitC rs rk rd hy312 c311 hy313 c314 (own_lt64 c379)
              have b1 := own_bitF hy369 hy370 rk.1 rk.2 c371
              have b2 := own_bitF hy380 hy381 (own_gez c378) (own_lt64 c379) c383
              have b3 := own_bitT hy369 hy370 rk.1 rk.2 c394
              revert b0 b1 b2 b3
              generalize own_tb i2 y377.toInt.toNat = u0
              generalize own_tb i4 y16.toInt.toNat = u1
              revert u0 u1
              decide
          · refine own_icmpYes (pc' := 114) B X366 at_96 (flt c379).2.1 (by decide) rfl ?_
            refine own_iconst (pc' := 115) B X366 (z := (0 : Int32)) at_114 rfl rfl ?_
            refine own_istore (pc' := 117) B X366 (Ls' := #[.val (.int i0), .val (.int i1), .val (.long i2), .second, .val (.long i3), .second, .val (.long i4), .second, .val (.long i5), .second, .val (.int y1), .val (.int y3), .val (.int y4), .val (.ref b5), .val (.ref b9), .val (.int (0 : Int32)), .val (.int y377), .val (.int (0 : Int32)), .unset]) at_115 rfl rfl ?_
            refine own_aload (pc' := 119) B X366 at_117 rfl rfl rfl ?_
            refine own_iload (pc' := 121) B X366 at_119 rfl rfl ?_
            refine own_callS (pc' := 124) B X366 (own_w hw 5 rfl) (own_w hw 6 rfl) (own_w hw 7 rfl) (own_w hw 8 rfl) (by decide) [(.ref b5), (.int y3)] [] (rm_3 l Z a0 hw [] b5 kb5 (y306) (i4) (i5) (y3) (y16) h299 n0 (Nat.le_trans Z0 K.1) E_b5 V_b5 g_b5 hy16 hy17) 0 (by decide) (by decide) rfl pd_1 rfl rfl (Nat.le_of_eq rfl) at_121 rfl (k' := 2) (n' := 6) rfl rfl (by decide) (by decide) ?_
            intro T395 v395 h395 X395 q395
            rcases q395 with ⟨y396, y397, hy398, hy399, c400, rfl, rfl⟩ | ⟨y401, y402, hy403, hy404, c405, rfl, rfl⟩
            · obtain rfl : y367 = y396 := (hy369 : (i4.toUInt64 >>> (y16 &&& 0x3f).toInt64.toUInt64).toInt64 = y367).symm.trans hy398
              obtain rfl : y368 = y397 := (hy370 : y367 &&& (1 : Int64) = y368).symm.trans hy399
              show own_Go p e below (T395.setTop (mkF m 124 #[.val (.int i0), .val (.int i1), .val (.long i2), .second, .val (.long i3), .second, .val (.long i4), .second, .val (.long i5), .second, .val (.int y1), .val (.int y3), .val (.int y4), .val (.ref b5), .val (.ref b9), .val (.int (0 : Int32)), .val (.int y377), .val (.int (0 : Int32)), .unset] [(.int (0 : Int32))])) _
              refine own_istore (pc' := 126) B X395 (Ls' := #[.val (.int i0), .val (.int i1), .val (.long i2), .second, .val (.long i3), .second, .val (.long i4), .second, .val (.long i5), .second, .val (.int y1), .val (.int y3), .val (.int y4), .val (.ref b5), .val (.ref b9), .val (.int (0 : Int32)), .val (.int y377), .val (.int (0 : Int32)), .val (.int (0 : Int32))]) at_124 rfl rfl ?_
              refine own_iload (pc' := 128) B X395 at_126 rfl rfl ?_
              refine own_iload (pc' := 130) B X395 at_128 rfl rfl ?_
              refine own_ifNo (pc' := 133) B X395 at_130 ((if0 _ _).trans (teq (by decide : (0 : Int32) = (0 : Int32))).2) rfl ?_
              refine own_iload (pc' := 135) B X395 at_133 rfl rfl ?_
              refine own_ifYes (pc' := 142) B X395 at_135 ((if0 _ _).trans (teq (by decide : (0 : Int32) = (0 : Int32))).1) (by decide) rfl ?_
              refine own_iconst (pc' := 143) B X395 (z := (0 : Int32)) at_142 rfl rfl ?_
              refine own_icmpNo (pc' := 146) B X395 at_143 (teq (by decide : (0 : Int32) = (0 : Int32))).2 rfl ?_
              refine own_iconst (pc' := 147) B X395 (z := (1 : Int32)) at_146 rfl rfl ?_
              refine own_goto (pc' := 151) B X395 at_147 (by decide) rfl ?_
              exact own_retN B X395 (t := .boolean) (z' := (1 : Int32)) (by simp) (by decide) at_151 (by decide) (by decide) rfl
            · obtain rfl : y367 = y401 := (hy369 : (i4.toUInt64 >>> (y16 &&& 0x3f).toInt64.toUInt64).toInt64 = y367).symm.trans hy403
              obtain rfl : y368 = y402 := (hy370 : y367 &&& (1 : Int64) = y368).symm.trans hy404
              exfalso
              have b0 := own_bitF hy369 hy370 rk.1 rk.2 c371
              have b1 := own_bitT hy369 hy370 rk.1 rk.2 c405
              revert b0 b1
              generalize own_tb i4 y16.toInt.toNat = u0
              revert u0
              decide
        · show own_Go p e below (T366.setTop (mkF m 78 #[.val (.int i0), .val (.int i1), .val (.long i2), .second, .val (.long i3), .second, .val (.long i4), .second, .val (.long i5), .second, .val (.int y1), .val (.int y3), .val (.int y4), .val (.ref b5), .val (.ref b9), .unset, .unset, .unset, .unset] [(.int (1 : Int32))])) _
          refine own_istore (pc' := 80) B X366 (Ls' := #[.val (.int i0), .val (.int i1), .val (.long i2), .second, .val (.long i3), .second, .val (.long i4), .second, .val (.long i5), .second, .val (.int y1), .val (.int y3), .val (.int y4), .val (.ref b5), .val (.ref b9), .val (.int (1 : Int32)), .unset, .unset, .unset]) at_78 rfl rfl ?_
          refine own_iload (pc' := 82) B X366 at_80 rfl rfl ?_
          refine own_iload (pc' := 84) B X366 at_82 rfl rfl ?_
          obtain ⟨y406, hy406⟩ : ∃ z : Int32, y3 - y1 = z := ⟨_, rfl⟩
          refine own_isub (pc' := 85) B X366 at_84 rfl hy406 ?_
          refine own_istore (pc' := 87) B X366 (Ls' := #[.val (.int i0), .val (.int i1), .val (.long i2), .second, .val (.long i3), .second, .val (.long i4), .second, .val (.long i5), .second, .val (.int y1), .val (.int y3), .val (.int y4), .val (.ref b5), .val (.ref b9), .val (.int (1 : Int32)), .val (.int y406), .unset, .unset]) at_85 rfl rfl ?_
          have rd : y406.toInt = 64 * 1 + y16.toInt - y14.toInt := own_dist hy406 rp rq rs rk (by decide) (by decide) (by decide)
          refine own_iload (pc' := 89) B X366 at_87 rfl rfl ?_
          have c407 : ¬ (y406 < (0 : Int32)) := by
            have o0 := own_o_mask hy1 7 (by decide) (by decide)
            have o1 := own_o_iushr hy2 7 (by decide) (by decide)
            have o2 := own_o_irem hy3 192 (by decide)
            have o3 := own_o_iadd hy4
            have o4 := own_o_isub hy13
            have o5 := own_o_mask hy14 6 (by decide) (by decide)
            have o6 := own_o_iushr hy15 6 (by decide) (by decide)
            have o7 := own_o_mask hy16 6 (by decide) (by decide)
            have o8 := own_o_iushr hy17 6 (by decide) (by decide)
            have o9 := own_o_isub hy312
            have o10 := own_o_maskL hy375 1 (by decide) (by decide)
            have o11 := own_o_isub hy406
            have o12 := own_neq c311
            have o13 := own_eqL c314
            have o14 := own_neqL c376
            have o15 := rng32 i0
            have o16 := rng32 i1
            have o17 := rng32 y1
            have o18 := rng32 y14
            have o19 := rng32 y16
            have o20 := rng32 y2
            have o21 := rng32 y3
            have o22 := rng32 y307
            have o23 := rng32 y4
            have o24 := rng32 y406
            have o25 := rng64 i2
            have o26 := rng64 i4
            have o27 := rng64 y308
            have o28 := rng64 y372
            have o29 := rng64 y373
            have o30 : (127 : Int32).toInt = 127 := by decide
            have o31 : (7 : Int32).toInt = 7 := by decide
            have o32 : (192 : Int32).toInt = 192 := by decide
            have o33 : (63 : Int32).toInt = 63 := by decide
            have o34 : (6 : Int32).toInt = 6 := by decide
            have o35 : (0 : Int32).toInt = 0 := by decide
            have o36 : (1 : Int32).toInt = 1 := by decide
            have o37 : (64 : Int32).toInt = 64 := by decide
            have o38 : (1 : Int64).toInt = 1 := by decide
            have o39 : (0 : Int64).toInt = 0 := by decide
            refine own_nltI ?_
            omega
          refine own_ifNo (pc' := 92) B X366 at_89 ((if0 _ _).trans (flt c407).1) rfl ?_
          refine own_iload (pc' := 94) B X366 at_92 rfl rfl ?_
          refine own_bipush (pc' := 96) B X366 (z := (64 : Int32)) at_94 rfl (by decide) ?_
          by_cases c408 : y406 < (64 : Int32)
          · refine own_icmpNo (pc' := 99) B X366 at_96 (tlt c408).2.1 rfl ?_
            refine own_lloadN (pc' := 100) B X366 at_99 rfl rfl ?_
            refine own_iload (pc' := 102) B X366 at_100 rfl rfl ?_
            obtain ⟨y409, hy409⟩ : ∃ z : Int64, (i2.toUInt64 >>> (y406 &&& 0x3f).toInt64.toUInt64).toInt64 = z := ⟨_, rfl⟩
            refine own_lushr (pc' := 103) B X366 at_102 rfl hy409 ?_
            refine own_lconst (pc' := 104) B X366 (z := (1 : Int64)) at_103 rfl (by decide) ?_
            obtain ⟨y410, hy410⟩ : ∃ z : Int64, y409 &&& (1 : Int64) = z := ⟨_, rfl⟩
            refine own_land (pc' := 105) B X366 at_104 rfl hy410 ?_
            refine own_lconst (pc' := 106) B X366 (z := (0 : Int64)) at_105 rfl (by decide) ?_
            obtain ⟨y411, hy411⟩ : ∃ z : Int32, lcmpW y410 (0 : Int64) = z := ⟨_, rfl⟩
            refine own_lcmp (pc' := 107) B X366 at_106 rfl hy411 ?_
            have c412 : y410 = (0 : Int64) := by
              refine Classical.byContradiction fun cg => ?_
              have b0 := own_bitC rs rk rd hy312 c311 hy313 c314 (own_lt64 c408)
              have b1 := own_bitT hy374 hy375 rk.1 rk.2 c376
              have b2 := own_bitT hy409 hy410 (own_gez c407) (own_lt64 c408) cg
              revert b0 b1 b2
              generalize own_tb i2 y406.toInt.toNat = u0
              generalize own_tb i4 y16.toInt.toNat = u1
              revert u0 u1
              decide
            refine own_ifYes (pc' := 114) B X366 at_107 ((if0 _ _).trans (teq (own_lcm (P := fun q => (q = (0 : Int32))) hy411 ((lw_eq y410 (0 : Int64)).mpr c412))).1) (by decide) rfl ?_
            refine own_iconst (pc' := 115) B X366 (z := (0 : Int32)) at_114 rfl rfl ?_
            refine own_istore (pc' := 117) B X366 (Ls' := #[.val (.int i0), .val (.int i1), .val (.long i2), .second, .val (.long i3), .second, .val (.long i4), .second, .val (.long i5), .second, .val (.int y1), .val (.int y3), .val (.int y4), .val (.ref b5), .val (.ref b9), .val (.int (1 : Int32)), .val (.int y406), .val (.int (0 : Int32)), .unset]) at_115 rfl rfl ?_
            refine own_aload (pc' := 119) B X366 at_117 rfl rfl rfl ?_
            refine own_iload (pc' := 121) B X366 at_119 rfl rfl ?_
            refine own_callS (pc' := 124) B X366 (own_w hw 5 rfl) (own_w hw 6 rfl) (own_w hw 7 rfl) (own_w hw 8 rfl) (by decide) [(.ref b5), (.int y3)] [] (rm_3 l Z a0 hw [] b5 kb5 (y306) (i4) (i5) (y3) (y16) h299 n0 (Nat.le_trans Z0 K.1) E_b5 V_b5 g_b5 hy16 hy17) 0 (by decide) (by decide) rfl pd_1 rfl rfl (Nat.le_of_eq rfl) at_121 rfl (k' := 2) (n' := 6) rfl rfl (by decide) (by decide) ?_
            intro T413 v413 h413 X413 q413
            rcases q413 with ⟨y414, y415, hy416, hy417, c418, rfl, rfl⟩ | ⟨y419, y420, hy421, hy422, c423, rfl, rfl⟩
            · obtain rfl : y372 = y414 := (hy374 : (i4.toUInt64 >>> (y16 &&& 0x3f).toInt64.toUInt64).toInt64 = y372).symm.trans hy416
              obtain rfl : y373 = y415 := (hy375 : y372 &&& (1 : Int64) = y373).symm.trans hy417
              exfalso
              have b0 := own_bitC rs rk rd hy312 c311 hy313 c314 (own_lt64 c408)
              have b1 := own_bitT hy374 hy375 rk.1 rk.2 c376
              have b2 := own_bitF hy409 hy410 (own_gez c407) (own_lt64 c408) c412
              have b3 := own_bitF hy374 hy375 rk.1 rk.2 c418
              revert b0 b1 b2 b3
              generalize own_tb i2 y406.toInt.toNat = u0
              generalize own_tb i4 y16.toInt.toNat = u1
              revert u0 u1
              decide
            · obtain rfl : y372 = y419 := (hy374 : (i4.toUInt64 >>> (y16 &&& 0x3f).toInt64.toUInt64).toInt64 = y372).symm.trans hy421
              obtain rfl : y373 = y420 := (hy375 : y372 &&& (1 : Int64) = y373).symm.trans hy422
              show own_Go p e below (T413.setTop (mkF m 124 #[.val (.int i0), .val (.int i1), .val (.long i2), .second, .val (.long i3), .second, .val (.long i4), .second, .val (.long i5), .second, .val (.int y1), .val (.int y3), .val (.int y4), .val (.ref b5), .val (.ref b9), .val (.int (1 : Int32)), .val (.int y406), .val (.int (0 : Int32)), .unset] [(.int (1 : Int32))])) _
              refine own_istore (pc' := 126) B X413 (Ls' := #[.val (.int i0), .val (.int i1), .val (.long i2), .second, .val (.long i3), .second, .val (.long i4), .second, .val (.long i5), .second, .val (.int y1), .val (.int y3), .val (.int y4), .val (.ref b5), .val (.ref b9), .val (.int (1 : Int32)), .val (.int y406), .val (.int (0 : Int32)), .val (.int (1 : Int32))]) at_124 rfl rfl ?_
              refine own_iload (pc' := 128) B X413 at_126 rfl rfl ?_
              refine own_iload (pc' := 130) B X413 at_128 rfl rfl ?_
              refine own_ifYes (pc' := 138) B X413 at_130 ((if0 _ _).trans (feq (by decide : ¬ ((1 : Int32) = (0 : Int32)))).2) (by decide) rfl ?_
              refine own_iconst (pc' := 139) B X413 (z := (1 : Int32)) at_138 rfl rfl ?_
              refine own_goto (pc' := 143) B X413 at_139 (by decide) rfl ?_
              refine own_icmpNo (pc' := 146) B X413 at_143 (teq (by decide : (1 : Int32) = (1 : Int32))).2 rfl ?_
              refine own_iconst (pc' := 147) B X413 (z := (1 : Int32)) at_146 rfl rfl ?_
              refine own_goto (pc' := 151) B X413 at_147 (by decide) rfl ?_
              exact own_retN B X413 (t := .boolean) (z' := (1 : Int32)) (by simp) (by decide) at_151 (by decide) (by decide) rfl
          · refine own_icmpYes (pc' := 114) B X366 at_96 (flt c408).2.1 (by decide) rfl ?_
            refine own_iconst (pc' := 115) B X366 (z := (0 : Int32)) at_114 rfl rfl ?_
            refine own_istore (pc' := 117) B X366 (Ls' := #[.val (.int i0), .val (.int i1), .val (.long i2), .second, .val (.long i3), .second, .val (.long i4), .second, .val (.long i5), .second, .val (.int y1), .val (.int y3), .val (.int y4), .val (.ref b5), .val (.ref b9), .val (.int (1 : Int32)), .val (.int y406), .val (.int (0 : Int32)), .unset]) at_115 rfl rfl ?_
            refine own_aload (pc' := 119) B X366 at_117 rfl rfl rfl ?_
            refine own_iload (pc' := 121) B X366 at_119 rfl rfl ?_
            refine own_callS (pc' := 124) B X366 (own_w hw 5 rfl) (own_w hw 6 rfl) (own_w hw 7 rfl) (own_w hw 8 rfl) (by decide) [(.ref b5), (.int y3)] [] (rm_3 l Z a0 hw [] b5 kb5 (y306) (i4) (i5) (y3) (y16) h299 n0 (Nat.le_trans Z0 K.1) E_b5 V_b5 g_b5 hy16 hy17) 0 (by decide) (by decide) rfl pd_1 rfl rfl (Nat.le_of_eq rfl) at_121 rfl (k' := 2) (n' := 6) rfl rfl (by decide) (by decide) ?_
            intro T424 v424 h424 X424 q424
            rcases q424 with ⟨y425, y426, hy427, hy428, c429, rfl, rfl⟩ | ⟨y430, y431, hy432, hy433, c434, rfl, rfl⟩
            · obtain rfl : y372 = y425 := (hy374 : (i4.toUInt64 >>> (y16 &&& 0x3f).toInt64.toUInt64).toInt64 = y372).symm.trans hy427
              obtain rfl : y373 = y426 := (hy375 : y372 &&& (1 : Int64) = y373).symm.trans hy428
              exfalso
              have b0 := own_bitT hy374 hy375 rk.1 rk.2 c376
              have b1 := own_bitF hy374 hy375 rk.1 rk.2 c429
              revert b0 b1
              generalize own_tb i4 y16.toInt.toNat = u0
              revert u0
              decide
            · obtain rfl : y372 = y430 := (hy374 : (i4.toUInt64 >>> (y16 &&& 0x3f).toInt64.toUInt64).toInt64 = y372).symm.trans hy432
              obtain rfl : y373 = y431 := (hy375 : y372 &&& (1 : Int64) = y373).symm.trans hy433
              show own_Go p e below (T424.setTop (mkF m 124 #[.val (.int i0), .val (.int i1), .val (.long i2), .second, .val (.long i3), .second, .val (.long i4), .second, .val (.long i5), .second, .val (.int y1), .val (.int y3), .val (.int y4), .val (.ref b5), .val (.ref b9), .val (.int (1 : Int32)), .val (.int y406), .val (.int (0 : Int32)), .unset] [(.int (1 : Int32))])) _
              refine own_istore (pc' := 126) B X424 (Ls' := #[.val (.int i0), .val (.int i1), .val (.long i2), .second, .val (.long i3), .second, .val (.long i4), .second, .val (.long i5), .second, .val (.int y1), .val (.int y3), .val (.int y4), .val (.ref b5), .val (.ref b9), .val (.int (1 : Int32)), .val (.int y406), .val (.int (0 : Int32)), .val (.int (1 : Int32))]) at_124 rfl rfl ?_
              refine own_iload (pc' := 128) B X424 at_126 rfl rfl ?_
              refine own_iload (pc' := 130) B X424 at_128 rfl rfl ?_
              refine own_ifYes (pc' := 138) B X424 at_130 ((if0 _ _).trans (feq (by decide : ¬ ((1 : Int32) = (0 : Int32)))).2) (by decide) rfl ?_
              refine own_iconst (pc' := 139) B X424 (z := (1 : Int32)) at_138 rfl rfl ?_
              refine own_goto (pc' := 143) B X424 at_139 (by decide) rfl ?_
              refine own_icmpNo (pc' := 146) B X424 at_143 (teq (by decide : (1 : Int32) = (1 : Int32))).2 rfl ?_
              refine own_iconst (pc' := 147) B X424 (z := (1 : Int32)) at_146 rfl rfl ?_
              refine own_goto (pc' := 151) B X424 at_147 (by decide) rfl ?_
              exact own_retN B X424 (t := .boolean) (z' := (1 : Int32)) (by simp) (by decide) at_151 (by decide) (by decide) rfl
      · replace K := K.trans K299 (allS (Or.inr sz_b5) all0)
        replace E_b9 := E_b9.keep K299
        replace V_b9 := V_b9.keep K299 (ninS (Ne.symm ne_b5_b9) nin0)
        show own_Go p e below (T299.setTop (mkF m 71 #[.val (.int i0), .val (.int i1), .val (.long i2), .second, .val (.long i3), .second, .val (.long i4), .second, .val (.long i5), .second, .val (.int y1), .val (.int y3), .val (.int y4), .val (.ref b5), .val (.ref b9), .unset, .unset, .unset, .unset] [])) _
        refine own_aload (pc' := 73) B X299 at_71 rfl rfl rfl ?_
        refine own_iload (pc' := 75) B X299 at_73 rfl rfl ?_
        refine own_callS (pc' := 78) B X299 (own_w hw 5 rfl) (own_w hw 6 rfl) (own_w hw 7 rfl) (own_w hw 8 rfl) (by decide) [(.ref b9), (.int y3)] [] (rm_3 l Z a0 hw [] b9 kb9 (i3) (i4) (i5) (y3) (y16) h299 n0 (Nat.le_trans Z0 K.1) E_b9 V_b9 g_b9 hy16 hy17) 0 (by decide) (by decide) rfl pd_1 rfl rfl (Nat.le_of_eq rfl) at_75 rfl (k' := 2) (n' := 6) rfl rfl (by decide) (by decide) ?_
        intro T435 v435 h435 X435 q435
        rcases q435 with ⟨y436, y437, hy438, hy439, c440, rfl, rfl⟩ | ⟨y441, y442, hy443, hy444, c445, rfl, rfl⟩
        · show own_Go p e below (T435.setTop (mkF m 78 #[.val (.int i0), .val (.int i1), .val (.long i2), .second, .val (.long i3), .second, .val (.long i4), .second, .val (.long i5), .second, .val (.int y1), .val (.int y3), .val (.int y4), .val (.ref b5), .val (.ref b9), .unset, .unset, .unset, .unset] [(.int (0 : Int32))])) _
          refine own_istore (pc' := 80) B X435 (Ls' := #[.val (.int i0), .val (.int i1), .val (.long i2), .second, .val (.long i3), .second, .val (.long i4), .second, .val (.long i5), .second, .val (.int y1), .val (.int y3), .val (.int y4), .val (.ref b5), .val (.ref b9), .val (.int (0 : Int32)), .unset, .unset, .unset]) at_78 rfl rfl ?_
          refine own_iload (pc' := 82) B X435 at_80 rfl rfl ?_
          refine own_iload (pc' := 84) B X435 at_82 rfl rfl ?_
          obtain ⟨y446, hy446⟩ : ∃ z : Int32, y3 - y1 = z := ⟨_, rfl⟩
          refine own_isub (pc' := 85) B X435 at_84 rfl hy446 ?_
          refine own_istore (pc' := 87) B X435 (Ls' := #[.val (.int i0), .val (.int i1), .val (.long i2), .second, .val (.long i3), .second, .val (.long i4), .second, .val (.long i5), .second, .val (.int y1), .val (.int y3), .val (.int y4), .val (.ref b5), .val (.ref b9), .val (.int (0 : Int32)), .val (.int y446), .unset, .unset]) at_85 rfl rfl ?_
          have rd : y446.toInt = 64 * 1 + y16.toInt - y14.toInt := own_dist hy446 rp rq rs rk (by decide) (by decide) (by decide)
          refine own_iload (pc' := 89) B X435 at_87 rfl rfl ?_
          have c447 : ¬ (y446 < (0 : Int32)) := by
            have o0 := own_o_mask hy1 7 (by decide) (by decide)
            have o1 := own_o_iushr hy2 7 (by decide) (by decide)
            have o2 := own_o_irem hy3 192 (by decide)
            have o3 := own_o_iadd hy4
            have o4 := own_o_isub hy13
            have o5 := own_o_mask hy14 6 (by decide) (by decide)
            have o6 := own_o_iushr hy15 6 (by decide) (by decide)
            have o7 := own_o_mask hy16 6 (by decide) (by decide)
            have o8 := own_o_iushr hy17 6 (by decide) (by decide)
            have o9 := own_o_isub hy323
            have o10 := own_o_maskL hy439 1 (by decide) (by decide)
            have o11 := own_o_isub hy446
            have o12 := own_neq c322
            have o13 := own_neqL c325
            have o14 := own_eqL c440
            have o15 := rng32 i0
            have o16 := rng32 i1
            have o17 := rng32 y1
            have o18 := rng32 y14
            have o19 := rng32 y16
            have o20 := rng32 y2
            have o21 := rng32 y3
            have o22 := rng32 y317
            have o23 := rng32 y4
            have o24 := rng32 y446
            have o25 := rng64 i2
            have o26 := rng64 i4
            have o27 := rng64 y318
            have o28 := rng64 y436
            have o29 := rng64 y437
            have o30 : (127 : Int32).toInt = 127 := by decide
            have o31 : (7 : Int32).toInt = 7 := by decide
            have o32 : (192 : Int32).toInt = 192 := by decide
            have o33 : (63 : Int32).toInt = 63 := by decide
            have o34 : (6 : Int32).toInt = 6 := by decide
            have o35 : (0 : Int32).toInt = 0 := by decide
            have o36 : (1 : Int32).toInt = 1 := by decide
            have o37 : (64 : Int32).toInt = 64 := by decide
            have o38 : (1 : Int64).toInt = 1 := by decide
            have o39 : (0 : Int64).toInt = 0 := by decide
            refine own_nltI ?_
            omega
          refine own_ifNo (pc' := 92) B X435 at_89 ((if0 _ _).trans (flt c447).1) rfl ?_
          refine own_iload (pc' := 94) B X435 at_92 rfl rfl ?_
          refine own_bipush (pc' := 96) B X435 (z := (64 : Int32)) at_94 rfl (by decide) ?_
          by_cases c448 : y446 < (64 : Int32)
          · refine own_icmpNo (pc' := 99) B X435 at_96 (tlt c448).2.1 rfl ?_
            refine own_lloadN (pc' := 100) B X435 at_99 rfl rfl ?_
            refine own_iload (pc' := 102) B X435 at_100 rfl rfl ?_
            obtain ⟨y449, hy449⟩ : ∃ z : Int64, (i2.toUInt64 >>> (y446 &&& 0x3f).toInt64.toUInt64).toInt64 = z := ⟨_, rfl⟩
            refine own_lushr (pc' := 103) B X435 at_102 rfl hy449 ?_
            refine own_lconst (pc' := 104) B X435 (z := (1 : Int64)) at_103 rfl (by decide) ?_
            obtain ⟨y450, hy450⟩ : ∃ z : Int64, y449 &&& (1 : Int64) = z := ⟨_, rfl⟩
            refine own_land (pc' := 105) B X435 at_104 rfl hy450 ?_
            refine own_lconst (pc' := 106) B X435 (z := (0 : Int64)) at_105 rfl (by decide) ?_
            obtain ⟨y451, hy451⟩ : ∃ z : Int32, lcmpW y450 (0 : Int64) = z := ⟨_, rfl⟩
            refine own_lcmp (pc' := 107) B X435 at_106 rfl hy451 ?_
            by_cases c452 : y450 = (0 : Int64)
            · refine own_ifYes (pc' := 114) B X435 at_107 ((if0 _ _).trans (teq (own_lcm (P := fun q => (q = (0 : Int32))) hy451 ((lw_eq y450 (0 : Int64)).mpr c452))).1) (by decide) rfl ?_
              refine own_iconst (pc' := 115) B X435 (z := (0 : Int32)) at_114 rfl rfl ?_
              refine own_istore (pc' := 117) B X435 (Ls' := #[.val (.int i0), .val (.int i1), .val (.long i2), .second, .val (.long i3), .second, .val (.long i4), .second, .val (.long i5), .second, .val (.int y1), .val (.int y3), .val (.int y4), .val (.ref b5), .val (.ref b9), .val (.int (0 : Int32)), .val (.int y446), .val (.int (0 : Int32)), .unset]) at_115 rfl rfl ?_
              refine own_aload (pc' := 119) B X435 at_117 rfl rfl rfl ?_
              refine own_iload (pc' := 121) B X435 at_119 rfl rfl ?_
              refine own_callS (pc' := 124) B X435 (own_w hw 5 rfl) (own_w hw 6 rfl) (own_w hw 7 rfl) (own_w hw 8 rfl) (by decide) [(.ref b5), (.int y3)] [] (rm_3 l Z a0 hw [] b5 kb5 (y316) (y319) (i5) (y3) (y16) h299 n0 (Nat.le_trans Z0 K.1) E_b5 V_b5 g_b5 hy16 hy17) 0 (by decide) (by decide) rfl pd_1 rfl rfl (Nat.le_of_eq rfl) at_121 rfl (k' := 2) (n' := 6) rfl rfl (by decide) (by decide) ?_
              intro T453 v453 h453 X453 q453
              rcases q453 with ⟨y454, y455, hy456, hy457, c458, rfl, rfl⟩ | ⟨y459, y460, hy461, hy462, c463, rfl, rfl⟩
              · show own_Go p e below (T453.setTop (mkF m 124 #[.val (.int i0), .val (.int i1), .val (.long i2), .second, .val (.long i3), .second, .val (.long i4), .second, .val (.long i5), .second, .val (.int y1), .val (.int y3), .val (.int y4), .val (.ref b5), .val (.ref b9), .val (.int (0 : Int32)), .val (.int y446), .val (.int (0 : Int32)), .unset] [(.int (0 : Int32))])) _
                refine own_istore (pc' := 126) B X453 (Ls' := #[.val (.int i0), .val (.int i1), .val (.long i2), .second, .val (.long i3), .second, .val (.long i4), .second, .val (.long i5), .second, .val (.int y1), .val (.int y3), .val (.int y4), .val (.ref b5), .val (.ref b9), .val (.int (0 : Int32)), .val (.int y446), .val (.int (0 : Int32)), .val (.int (0 : Int32))]) at_124 rfl rfl ?_
                refine own_iload (pc' := 128) B X453 at_126 rfl rfl ?_
                refine own_iload (pc' := 130) B X453 at_128 rfl rfl ?_
                refine own_ifNo (pc' := 133) B X453 at_130 ((if0 _ _).trans (teq (by decide : (0 : Int32) = (0 : Int32))).2) rfl ?_
                refine own_iload (pc' := 135) B X453 at_133 rfl rfl ?_
                refine own_ifYes (pc' := 142) B X453 at_135 ((if0 _ _).trans (teq (by decide : (0 : Int32) = (0 : Int32))).1) (by decide) rfl ?_
                refine own_iconst (pc' := 143) B X453 (z := (0 : Int32)) at_142 rfl rfl ?_
                refine own_icmpNo (pc' := 146) B X453 at_143 (teq (by decide : (0 : Int32) = (0 : Int32))).2 rfl ?_
                refine own_iconst (pc' := 147) B X453 (z := (1 : Int32)) at_146 rfl rfl ?_
                refine own_goto (pc' := 151) B X453 at_147 (by decide) rfl ?_
                exact own_retN B X453 (t := .boolean) (z' := (1 : Int32)) (by simp) (by decide) at_151 (by decide) (by decide) rfl
              · exfalso
                have b0 := own_bitF hy438 hy439 rk.1 rk.2 c440
                have b1 := own_bitF hy449 hy450 (own_gez c447) (own_lt64 c448) c452
                have b2 := own_bitT hy461 hy462 rk.1 rk.2 c463
                rw [own_bitB rs rk rd hy323 c322 hy324 hy326, decide_eq_true (own_lt64 c448)] at b2
                revert b0 b1 b2
                generalize own_tb i4 y16.toInt.toNat = u0
                generalize own_tb i2 y446.toInt.toNat = u1
                revert u0 u1
                decide
            · refine own_ifNo (pc' := 110) B X435 at_107 ((if0 _ _).trans (feq (own_lcm (P := fun q => ¬ (q = (0 : Int32))) hy451 (fun q => c452 ((lw_eq y450 (0 : Int64)).mp q)))).1) rfl ?_
              refine own_iconst (pc' := 111) B X435 (z := (1 : Int32)) at_110 rfl rfl ?_
              refine own_goto (pc' := 115) B X435 at_111 (by decide) rfl ?_
              refine own_istore (pc' := 117) B X435 (Ls' := #[.val (.int i0), .val (.int i1), .val (.long i2), .second, .val (.long i3), .second, .val (.long i4), .second, .val (.long i5), .second, .val (.int y1), .val (.int y3), .val (.int y4), .val (.ref b5), .val (.ref b9), .val (.int (0 : Int32)), .val (.int y446), .val (.int (1 : Int32)), .unset]) at_115 rfl rfl ?_
              refine own_aload (pc' := 119) B X435 at_117 rfl rfl rfl ?_
              refine own_iload (pc' := 121) B X435 at_119 rfl rfl ?_
              refine own_callS (pc' := 124) B X435 (own_w hw 5 rfl) (own_w hw 6 rfl) (own_w hw 7 rfl) (own_w hw 8 rfl) (by decide) [(.ref b5), (.int y3)] [] (rm_3 l Z a0 hw [] b5 kb5 (y316) (y319) (i5) (y3) (y16) h299 n0 (Nat.le_trans Z0 K.1) E_b5 V_b5 g_b5 hy16 hy17) 0 (by decide) (by decide) rfl pd_1 rfl rfl (Nat.le_of_eq rfl) at_121 rfl (k' := 2) (n' := 6) rfl rfl (by decide) (by decide) ?_
              intro T464 v464 h464 X464 q464
              rcases q464 with ⟨y465, y466, hy467, hy468, c469, rfl, rfl⟩ | ⟨y470, y471, hy472, hy473, c474, rfl, rfl⟩
              · exfalso
                have b0 := own_bitF hy438 hy439 rk.1 rk.2 c440
                have b1 := own_bitT hy449 hy450 (own_gez c447) (own_lt64 c448) c452
                have b2 := own_bitF hy467 hy468 rk.1 rk.2 c469
                rw [own_bitB rs rk rd hy323 c322 hy324 hy326, decide_eq_true (own_lt64 c448)] at b2
                revert b0 b1 b2
                generalize own_tb i4 y16.toInt.toNat = u0
                generalize own_tb i2 y446.toInt.toNat = u1
                revert u0 u1
                decide
              · show own_Go p e below (T464.setTop (mkF m 124 #[.val (.int i0), .val (.int i1), .val (.long i2), .second, .val (.long i3), .second, .val (.long i4), .second, .val (.long i5), .second, .val (.int y1), .val (.int y3), .val (.int y4), .val (.ref b5), .val (.ref b9), .val (.int (0 : Int32)), .val (.int y446), .val (.int (1 : Int32)), .unset] [(.int (1 : Int32))])) _
                refine own_istore (pc' := 126) B X464 (Ls' := #[.val (.int i0), .val (.int i1), .val (.long i2), .second, .val (.long i3), .second, .val (.long i4), .second, .val (.long i5), .second, .val (.int y1), .val (.int y3), .val (.int y4), .val (.ref b5), .val (.ref b9), .val (.int (0 : Int32)), .val (.int y446), .val (.int (1 : Int32)), .val (.int (1 : Int32))]) at_124 rfl rfl ?_
                refine own_iload (pc' := 128) B X464 at_126 rfl rfl ?_
                refine own_iload (pc' := 130) B X464 at_128 rfl rfl ?_
                refine own_ifNo (pc' := 133) B X464 at_130 ((if0 _ _).trans (teq (by decide : (0 : Int32) = (0 : Int32))).2) rfl ?_
                refine own_iload (pc' := 135) B X464 at_133 rfl rfl ?_
                refine own_ifNo (pc' := 138) B X464 at_135 ((if0 _ _).trans (feq (by decide : ¬ ((1 : Int32) = (0 : Int32)))).1) rfl ?_
                refine own_iconst (pc' := 139) B X464 (z := (1 : Int32)) at_138 rfl rfl ?_
                refine own_goto (pc' := 143) B X464 at_139 (by decide) rfl ?_
                refine own_icmpNo (pc' := 146) B X464 at_143 (teq (by decide : (1 : Int32) = (1 : Int32))).2 rfl ?_
                refine own_iconst (pc' := 147) B X464 (z := (1 : Int32)) at_146 rfl rfl ?_
                refine own_goto (pc' := 151) B X464 at_147 (by decide) rfl ?_
                exact own_retN B X464 (t := .boolean) (z' := (1 : Int32)) (by simp) (by decide) at_151 (by decide) (by decide) rfl
          · refine own_icmpYes (pc' := 114) B X435 at_96 (flt c448).2.1 (by decide) rfl ?_
            refine own_iconst (pc' := 115) B X435 (z := (0 : Int32)) at_114 rfl rfl ?_
            refine own_istore (pc' := 117) B X435 (Ls' := #[.val (.int i0), .val (.int i1), .val (.long i2), .second, .val (.long i3), .second, .val (.long i4), .second, .val (.long i5), .second, .val (.int y1), .val (.int y3), .val (.int y4), .val (.ref b5), .val (.ref b9), .val (.int (0 : Int32)), .val (.int y446), .val (.int (0 : Int32)), .unset]) at_115 rfl rfl ?_
            refine own_aload (pc' := 119) B X435 at_117 rfl rfl rfl ?_
            refine own_iload (pc' := 121) B X435 at_119 rfl rfl ?_
            refine own_callS (pc' := 124) B X435 (own_w hw 5 rfl) (own_w hw 6 rfl) (own_w hw 7 rfl) (own_w hw 8 rfl) (by decide) [(.ref b5), (.int y3)] [] (rm_3 l Z a0 hw [] b5 kb5 (y316) (y319) (i5) (y3) (y16) h299 n0 (Nat.le_trans Z0 K.1) E_b5 V_b5 g_b5 hy16 hy17) 0 (by decide) (by decide) rfl pd_1 rfl rfl (Nat.le_of_eq rfl) at_121 rfl (k' := 2) (n' := 6) rfl rfl (by decide) (by decide) ?_
            intro T475 v475 h475 X475 q475
            rcases q475 with ⟨y476, y477, hy478, hy479, c480, rfl, rfl⟩ | ⟨y481, y482, hy483, hy484, c485, rfl, rfl⟩
            · show own_Go p e below (T475.setTop (mkF m 124 #[.val (.int i0), .val (.int i1), .val (.long i2), .second, .val (.long i3), .second, .val (.long i4), .second, .val (.long i5), .second, .val (.int y1), .val (.int y3), .val (.int y4), .val (.ref b5), .val (.ref b9), .val (.int (0 : Int32)), .val (.int y446), .val (.int (0 : Int32)), .unset] [(.int (0 : Int32))])) _
              refine own_istore (pc' := 126) B X475 (Ls' := #[.val (.int i0), .val (.int i1), .val (.long i2), .second, .val (.long i3), .second, .val (.long i4), .second, .val (.long i5), .second, .val (.int y1), .val (.int y3), .val (.int y4), .val (.ref b5), .val (.ref b9), .val (.int (0 : Int32)), .val (.int y446), .val (.int (0 : Int32)), .val (.int (0 : Int32))]) at_124 rfl rfl ?_
              refine own_iload (pc' := 128) B X475 at_126 rfl rfl ?_
              refine own_iload (pc' := 130) B X475 at_128 rfl rfl ?_
              refine own_ifNo (pc' := 133) B X475 at_130 ((if0 _ _).trans (teq (by decide : (0 : Int32) = (0 : Int32))).2) rfl ?_
              refine own_iload (pc' := 135) B X475 at_133 rfl rfl ?_
              refine own_ifYes (pc' := 142) B X475 at_135 ((if0 _ _).trans (teq (by decide : (0 : Int32) = (0 : Int32))).1) (by decide) rfl ?_
              refine own_iconst (pc' := 143) B X475 (z := (0 : Int32)) at_142 rfl rfl ?_
              refine own_icmpNo (pc' := 146) B X475 at_143 (teq (by decide : (0 : Int32) = (0 : Int32))).2 rfl ?_
              refine own_iconst (pc' := 147) B X475 (z := (1 : Int32)) at_146 rfl rfl ?_
              refine own_goto (pc' := 151) B X475 at_147 (by decide) rfl ?_
              exact own_retN B X475 (t := .boolean) (z' := (1 : Int32)) (by simp) (by decide) at_151 (by decide) (by decide) rfl
            · exfalso
              have b0 := own_bitF hy438 hy439 rk.1 rk.2 c440
              have b1 := own_bitT hy483 hy484 rk.1 rk.2 c485
              rw [own_bitB rs rk rd hy323 c322 hy324 hy326, decide_eq_false (own_nlt64 c448)] at b1
              revert b0 b1
              generalize own_tb i4 y16.toInt.toNat = u0
              generalize own_tb i2 y446.toInt.toNat = u1
              revert u0 u1
              decide
        · show own_Go p e below (T435.setTop (mkF m 78 #[.val (.int i0), .val (.int i1), .val (.long i2), .second, .val (.long i3), .second, .val (.long i4), .second, .val (.long i5), .second, .val (.int y1), .val (.int y3), .val (.int y4), .val (.ref b5), .val (.ref b9), .unset, .unset, .unset, .unset] [(.int (1 : Int32))])) _
          refine own_istore (pc' := 80) B X435 (Ls' := #[.val (.int i0), .val (.int i1), .val (.long i2), .second, .val (.long i3), .second, .val (.long i4), .second, .val (.long i5), .second, .val (.int y1), .val (.int y3), .val (.int y4), .val (.ref b5), .val (.ref b9), .val (.int (1 : Int32)), .unset, .unset, .unset]) at_78 rfl rfl ?_
          refine own_iload (pc' := 82) B X435 at_80 rfl rfl ?_
          refine own_iload (pc' := 84) B X435 at_82 rfl rfl ?_
          obtain ⟨y486, hy486⟩ : ∃ z : Int32, y3 - y1 = z := ⟨_, rfl⟩
          refine own_isub (pc' := 85) B X435 at_84 rfl hy486 ?_
          refine own_istore (pc' := 87) B X435 (Ls' := #[.val (.int i0), .val (.int i1), .val (.long i2), .second, .val (.long i3), .second, .val (.long i4), .second, .val (.long i5), .second, .val (.int y1), .val (.int y3), .val (.int y4), .val (.ref b5), .val (.ref b9), .val (.int (1 : Int32)), .val (.int y486), .unset, .unset]) at_85 rfl rfl ?_
          have rd : y486.toInt = 64 * 1 + y16.toInt - y14.toInt := own_dist hy486 rp rq rs rk (by decide) (by decide) (by decide)
          refine own_iload (pc' := 89) B X435 at_87 rfl rfl ?_
          have c487 : ¬ (y486 < (0 : Int32)) := by
            have o0 := own_o_mask hy1 7 (by decide) (by decide)
            have o1 := own_o_iushr hy2 7 (by decide) (by decide)
            have o2 := own_o_irem hy3 192 (by decide)
            have o3 := own_o_iadd hy4
            have o4 := own_o_isub hy13
            have o5 := own_o_mask hy14 6 (by decide) (by decide)
            have o6 := own_o_iushr hy15 6 (by decide) (by decide)
            have o7 := own_o_mask hy16 6 (by decide) (by decide)
            have o8 := own_o_iushr hy17 6 (by decide) (by decide)
            have o9 := own_o_isub hy323
            have o10 := own_o_maskL hy444 1 (by decide) (by decide)
            have o11 := own_o_isub hy486
            have o12 := own_neq c322
            have o13 := own_neqL c325
            have o14 := own_neqL c445
            have o15 := rng32 i0
            have o16 := rng32 i1
            have o17 := rng32 y1
            have o18 := rng32 y14
            have o19 := rng32 y16
            have o20 := rng32 y2
            have o21 := rng32 y3
            have o22 := rng32 y317
            have o23 := rng32 y4
            have o24 := rng32 y486
            have o25 := rng64 i2
            have o26 := rng64 i4
            have o27 := rng64 y318
            have o28 := rng64 y441
            have o29 := rng64 y442
            have o30 : (127 : Int32).toInt = 127 := by decide
            have o31 : (7 : Int32).toInt = 7 := by decide
            have o32 : (192 : Int32).toInt = 192 := by decide
            have o33 : (63 : Int32).toInt = 63 := by decide
            have o34 : (6 : Int32).toInt = 6 := by decide
            have o35 : (0 : Int32).toInt = 0 := by decide
            have o36 : (1 : Int32).toInt = 1 := by decide
            have o37 : (64 : Int32).toInt = 64 := by decide
            have o38 : (1 : Int64).toInt = 1 := by decide
            have o39 : (0 : Int64).toInt = 0 := by decide
            refine own_nltI ?_
            omega
          refine own_ifNo (pc' := 92) B X435 at_89 ((if0 _ _).trans (flt c487).1) rfl ?_
          refine own_iload (pc' := 94) B X435 at_92 rfl rfl ?_
          refine own_bipush (pc' := 96) B X435 (z := (64 : Int32)) at_94 rfl (by decide) ?_
          by_cases c488 : y486 < (64 : Int32)
          · refine own_icmpNo (pc' := 99) B X435 at_96 (tlt c488).2.1 rfl ?_
            refine own_lloadN (pc' := 100) B X435 at_99 rfl rfl ?_
            refine own_iload (pc' := 102) B X435 at_100 rfl rfl ?_
            obtain ⟨y489, hy489⟩ : ∃ z : Int64, (i2.toUInt64 >>> (y486 &&& 0x3f).toInt64.toUInt64).toInt64 = z := ⟨_, rfl⟩
            refine own_lushr (pc' := 103) B X435 at_102 rfl hy489 ?_
            refine own_lconst (pc' := 104) B X435 (z := (1 : Int64)) at_103 rfl (by decide) ?_
            obtain ⟨y490, hy490⟩ : ∃ z : Int64, y489 &&& (1 : Int64) = z := ⟨_, rfl⟩
            refine own_land (pc' := 105) B X435 at_104 rfl hy490 ?_
            refine own_lconst (pc' := 106) B X435 (z := (0 : Int64)) at_105 rfl (by decide) ?_
            obtain ⟨y491, hy491⟩ : ∃ z : Int32, lcmpW y490 (0 : Int64) = z := ⟨_, rfl⟩
            refine own_lcmp (pc' := 107) B X435 at_106 rfl hy491 ?_
            by_cases c492 : y490 = (0 : Int64)
            · refine own_ifYes (pc' := 114) B X435 at_107 ((if0 _ _).trans (teq (own_lcm (P := fun q => (q = (0 : Int32))) hy491 ((lw_eq y490 (0 : Int64)).mpr c492))).1) (by decide) rfl ?_
              refine own_iconst (pc' := 115) B X435 (z := (0 : Int32)) at_114 rfl rfl ?_
              refine own_istore (pc' := 117) B X435 (Ls' := #[.val (.int i0), .val (.int i1), .val (.long i2), .second, .val (.long i3), .second, .val (.long i4), .second, .val (.long i5), .second, .val (.int y1), .val (.int y3), .val (.int y4), .val (.ref b5), .val (.ref b9), .val (.int (1 : Int32)), .val (.int y486), .val (.int (0 : Int32)), .unset]) at_115 rfl rfl ?_
              refine own_aload (pc' := 119) B X435 at_117 rfl rfl rfl ?_
              refine own_iload (pc' := 121) B X435 at_119 rfl rfl ?_
              refine own_callS (pc' := 124) B X435 (own_w hw 5 rfl) (own_w hw 6 rfl) (own_w hw 7 rfl) (own_w hw 8 rfl) (by decide) [(.ref b5), (.int y3)] [] (rm_3 l Z a0 hw [] b5 kb5 (y316) (y319) (i5) (y3) (y16) h299 n0 (Nat.le_trans Z0 K.1) E_b5 V_b5 g_b5 hy16 hy17) 0 (by decide) (by decide) rfl pd_1 rfl rfl (Nat.le_of_eq rfl) at_121 rfl (k' := 2) (n' := 6) rfl rfl (by decide) (by decide) ?_
              intro T493 v493 h493 X493 q493
              rcases q493 with ⟨y494, y495, hy496, hy497, c498, rfl, rfl⟩ | ⟨y499, y500, hy501, hy502, c503, rfl, rfl⟩
              · exfalso
                have b0 := own_bitT hy443 hy444 rk.1 rk.2 c445
                have b1 := own_bitF hy489 hy490 (own_gez c487) (own_lt64 c488) c492
                have b2 := own_bitF hy496 hy497 rk.1 rk.2 c498
                rw [own_bitB rs rk rd hy323 c322 hy324 hy326, decide_eq_true (own_lt64 c488)] at b2
                revert b0 b1 b2
                generalize own_tb i4 y16.toInt.toNat = u0
                generalize own_tb i2 y486.toInt.toNat = u1
                revert u0 u1
                decide
              · show own_Go p e below (T493.setTop (mkF m 124 #[.val (.int i0), .val (.int i1), .val (.long i2), .second, .val (.long i3), .second, .val (.long i4), .second, .val (.long i5), .second, .val (.int y1), .val (.int y3), .val (.int y4), .val (.ref b5), .val (.ref b9), .val (.int (1 : Int32)), .val (.int y486), .val (.int (0 : Int32)), .unset] [(.int (1 : Int32))])) _
                refine own_istore (pc' := 126) B X493 (Ls' := #[.val (.int i0), .val (.int i1), .val (.long i2), .second, .val (.long i3), .second, .val (.long i4), .second, .val (.long i5), .second, .val (.int y1), .val (.int y3), .val (.int y4), .val (.ref b5), .val (.ref b9), .val (.int (1 : Int32)), .val (.int y486), .val (.int (0 : Int32)), .val (.int (1 : Int32))]) at_124 rfl rfl ?_
                refine own_iload (pc' := 128) B X493 at_126 rfl rfl ?_
                refine own_iload (pc' := 130) B X493 at_128 rfl rfl ?_
                refine own_ifYes (pc' := 138) B X493 at_130 ((if0 _ _).trans (feq (by decide : ¬ ((1 : Int32) = (0 : Int32)))).2) (by decide) rfl ?_
                refine own_iconst (pc' := 139) B X493 (z := (1 : Int32)) at_138 rfl rfl ?_
                refine own_goto (pc' := 143) B X493 at_139 (by decide) rfl ?_
                refine own_icmpNo (pc' := 146) B X493 at_143 (teq (by decide : (1 : Int32) = (1 : Int32))).2 rfl ?_
                refine own_iconst (pc' := 147) B X493 (z := (1 : Int32)) at_146 rfl rfl ?_
                refine own_goto (pc' := 151) B X493 at_147 (by decide) rfl ?_
                exact own_retN B X493 (t := .boolean) (z' := (1 : Int32)) (by simp) (by decide) at_151 (by decide) (by decide) rfl
            · refine own_ifNo (pc' := 110) B X435 at_107 ((if0 _ _).trans (feq (own_lcm (P := fun q => ¬ (q = (0 : Int32))) hy491 (fun q => c492 ((lw_eq y490 (0 : Int64)).mp q)))).1) rfl ?_
              refine own_iconst (pc' := 111) B X435 (z := (1 : Int32)) at_110 rfl rfl ?_
              refine own_goto (pc' := 115) B X435 at_111 (by decide) rfl ?_
              refine own_istore (pc' := 117) B X435 (Ls' := #[.val (.int i0), .val (.int i1), .val (.long i2), .second, .val (.long i3), .second, .val (.long i4), .second, .val (.long i5), .second, .val (.int y1), .val (.int y3), .val (.int y4), .val (.ref b5), .val (.ref b9), .val (.int (1 : Int32)), .val (.int y486), .val (.int (1 : Int32)), .unset]) at_115 rfl rfl ?_
              refine own_aload (pc' := 119) B X435 at_117 rfl rfl rfl ?_
              refine own_iload (pc' := 121) B X435 at_119 rfl rfl ?_
              refine own_callS (pc' := 124) B X435 (own_w hw 5 rfl) (own_w hw 6 rfl) (own_w hw 7 rfl) (own_w hw 8 rfl) (by decide) [(.ref b5), (.int y3)] [] (rm_3 l Z a0 hw [] b5 kb5 (y316) (y319) (i5) (y3) (y16) h299 n0 (Nat.le_trans Z0 K.1) E_b5 V_b5 g_b5 hy16 hy17) 0 (by decide) (by decide) rfl pd_1 rfl rfl (Nat.le_of_eq rfl) at_121 rfl (k' := 2) (n' := 6) rfl rfl (by decide) (by decide) ?_
              intro T504 v504 h504 X504 q504
              rcases q504 with ⟨y505, y506, hy507, hy508, c509, rfl, rfl⟩ | ⟨y510, y511, hy512, hy513, c514, rfl, rfl⟩
              · exfalso
                have b0 := own_bitT hy443 hy444 rk.1 rk.2 c445
                have b1 := own_bitT hy489 hy490 (own_gez c487) (own_lt64 c488) c492
                have b2 := own_bitF hy507 hy508 rk.1 rk.2 c509
                rw [own_bitB rs rk rd hy323 c322 hy324 hy326, decide_eq_true (own_lt64 c488)] at b2
                revert b0 b1 b2
                generalize own_tb i4 y16.toInt.toNat = u0
                generalize own_tb i2 y486.toInt.toNat = u1
                revert u0 u1
                decide
              · show own_Go p e below (T504.setTop (mkF m 124 #[.val (.int i0), .val (.int i1), .val (.long i2), .second, .val (.long i3), .second, .val (.long i4), .second, .val (.long i5), .second, .val (.int y1), .val (.int y3), .val (.int y4), .val (.ref b5), .val (.ref b9), .val (.int (1 : Int32)), .val (.int y486), .val (.int (1 : Int32)), .unset] [(.int (1 : Int32))])) _
                refine own_istore (pc' := 126) B X504 (Ls' := #[.val (.int i0), .val (.int i1), .val (.long i2), .second, .val (.long i3), .second, .val (.long i4), .second, .val (.long i5), .second, .val (.int y1), .val (.int y3), .val (.int y4), .val (.ref b5), .val (.ref b9), .val (.int (1 : Int32)), .val (.int y486), .val (.int (1 : Int32)), .val (.int (1 : Int32))]) at_124 rfl rfl ?_
                refine own_iload (pc' := 128) B X504 at_126 rfl rfl ?_
                refine own_iload (pc' := 130) B X504 at_128 rfl rfl ?_
                refine own_ifYes (pc' := 138) B X504 at_130 ((if0 _ _).trans (feq (by decide : ¬ ((1 : Int32) = (0 : Int32)))).2) (by decide) rfl ?_
                refine own_iconst (pc' := 139) B X504 (z := (1 : Int32)) at_138 rfl rfl ?_
                refine own_goto (pc' := 143) B X504 at_139 (by decide) rfl ?_
                refine own_icmpNo (pc' := 146) B X504 at_143 (teq (by decide : (1 : Int32) = (1 : Int32))).2 rfl ?_
                refine own_iconst (pc' := 147) B X504 (z := (1 : Int32)) at_146 rfl rfl ?_
                refine own_goto (pc' := 151) B X504 at_147 (by decide) rfl ?_
                exact own_retN B X504 (t := .boolean) (z' := (1 : Int32)) (by simp) (by decide) at_151 (by decide) (by decide) rfl
          · refine own_icmpYes (pc' := 114) B X435 at_96 (flt c488).2.1 (by decide) rfl ?_
            refine own_iconst (pc' := 115) B X435 (z := (0 : Int32)) at_114 rfl rfl ?_
            refine own_istore (pc' := 117) B X435 (Ls' := #[.val (.int i0), .val (.int i1), .val (.long i2), .second, .val (.long i3), .second, .val (.long i4), .second, .val (.long i5), .second, .val (.int y1), .val (.int y3), .val (.int y4), .val (.ref b5), .val (.ref b9), .val (.int (1 : Int32)), .val (.int y486), .val (.int (0 : Int32)), .unset]) at_115 rfl rfl ?_
            refine own_aload (pc' := 119) B X435 at_117 rfl rfl rfl ?_
            refine own_iload (pc' := 121) B X435 at_119 rfl rfl ?_
            refine own_callS (pc' := 124) B X435 (own_w hw 5 rfl) (own_w hw 6 rfl) (own_w hw 7 rfl) (own_w hw 8 rfl) (by decide) [(.ref b5), (.int y3)] [] (rm_3 l Z a0 hw [] b5 kb5 (y316) (y319) (i5) (y3) (y16) h299 n0 (Nat.le_trans Z0 K.1) E_b5 V_b5 g_b5 hy16 hy17) 0 (by decide) (by decide) rfl pd_1 rfl rfl (Nat.le_of_eq rfl) at_121 rfl (k' := 2) (n' := 6) rfl rfl (by decide) (by decide) ?_
            intro T515 v515 h515 X515 q515
            rcases q515 with ⟨y516, y517, hy518, hy519, c520, rfl, rfl⟩ | ⟨y521, y522, hy523, hy524, c525, rfl, rfl⟩
            · exfalso
              have b0 := own_bitT hy443 hy444 rk.1 rk.2 c445
              have b1 := own_bitF hy518 hy519 rk.1 rk.2 c520
              rw [own_bitB rs rk rd hy323 c322 hy324 hy326, decide_eq_false (own_nlt64 c488)] at b1
              revert b0 b1
              generalize own_tb i4 y16.toInt.toNat = u0
              generalize own_tb i2 y486.toInt.toNat = u1
              revert u0 u1
              decide
            · show own_Go p e below (T515.setTop (mkF m 124 #[.val (.int i0), .val (.int i1), .val (.long i2), .second, .val (.long i3), .second, .val (.long i4), .second, .val (.long i5), .second, .val (.int y1), .val (.int y3), .val (.int y4), .val (.ref b5), .val (.ref b9), .val (.int (1 : Int32)), .val (.int y486), .val (.int (0 : Int32)), .unset] [(.int (1 : Int32))])) _
              refine own_istore (pc' := 126) B X515 (Ls' := #[.val (.int i0), .val (.int i1), .val (.long i2), .second, .val (.long i3), .second, .val (.long i4), .second, .val (.long i5), .second, .val (.int y1), .val (.int y3), .val (.int y4), .val (.ref b5), .val (.ref b9), .val (.int (1 : Int32)), .val (.int y486), .val (.int (0 : Int32)), .val (.int (1 : Int32))]) at_124 rfl rfl ?_
              refine own_iload (pc' := 128) B X515 at_126 rfl rfl ?_
              refine own_iload (pc' := 130) B X515 at_128 rfl rfl ?_
              refine own_ifYes (pc' := 138) B X515 at_130 ((if0 _ _).trans (feq (by decide : ¬ ((1 : Int32) = (0 : Int32)))).2) (by decide) rfl ?_
              refine own_iconst (pc' := 139) B X515 (z := (1 : Int32)) at_138 rfl rfl ?_
              refine own_goto (pc' := 143) B X515 at_139 (by decide) rfl ?_
              refine own_icmpNo (pc' := 146) B X515 at_143 (teq (by decide : (1 : Int32) = (1 : Int32))).2 rfl ?_
              refine own_iconst (pc' := 147) B X515 (z := (1 : Int32)) at_146 rfl rfl ?_
              refine own_goto (pc' := 151) B X515 at_147 (by decide) rfl ?_
              exact own_retN B X515 (t := .boolean) (z' := (1 : Int32)) (by simp) (by decide) at_151 (by decide) (by decide) rfl
    · obtain rfl : y17 = (2 : Int32) := Int32.toInt_inj.mp (z19.trans (by decide))
      refine own_aload (pc' := 64) B X12 at_62 rfl rfl rfl ?_
      have rs : 0 ≤ y14.toInt ∧ y14.toInt < 64 := by
        have o0 := own_o_mask hy1 7 (by decide) (by decide)
        have o1 := own_o_iushr hy2 7 (by decide) (by decide)
        have o2 := own_o_irem hy3 192 (by decide)
        have o3 := own_o_iadd hy4
        have o4 := own_o_isub hy13
        have o5 := own_o_mask hy14 6 (by decide) (by decide)
        have o6 := own_o_iushr hy15 6 (by decide) (by decide)
        have o7 := own_o_mask hy16 6 (by decide) (by decide)
        have o8 := own_o_iushr hy17 6 (by decide) (by decide)
        have o9 := rng32 i0
        have o10 := rng32 i1
        have o11 := rng32 y1
        have o12 := rng32 y14
        have o13 := rng32 y16
        have o14 := rng32 y2
        have o15 := rng32 y3
        have o16 := rng32 y4
        have o17 : (127 : Int32).toInt = 127 := by decide
        have o18 : (7 : Int32).toInt = 7 := by decide
        have o19 : (192 : Int32).toInt = 192 := by decide
        have o20 : (63 : Int32).toInt = 63 := by decide
        have o21 : (6 : Int32).toInt = 6 := by decide
        have o22 : (0 : Int32).toInt = 0 := by decide
        have o23 : (2 : Int32).toInt = 2 := by decide
        omega
      have rk : 0 ≤ y16.toInt ∧ y16.toInt < 64 := by
        have o0 := own_o_mask hy1 7 (by decide) (by decide)
        have o1 := own_o_iushr hy2 7 (by decide) (by decide)
        have o2 := own_o_irem hy3 192 (by decide)
        have o3 := own_o_iadd hy4
        have o4 := own_o_isub hy13
        have o5 := own_o_mask hy14 6 (by decide) (by decide)
        have o6 := own_o_iushr hy15 6 (by decide) (by decide)
        have o7 := own_o_mask hy16 6 (by decide) (by decide)
        have o8 := own_o_iushr hy17 6 (by decide) (by decide)
        have o9 := rng32 i0
        have o10 := rng32 i1
        have o11 := rng32 y1
        have o12 := rng32 y14
        have o13 := rng32 y16
        have o14 := rng32 y2
        have o15 := rng32 y3
        have o16 := rng32 y4
        have o17 : (127 : Int32).toInt = 127 := by decide
        have o18 : (7 : Int32).toInt = 7 := by decide
        have o19 : (192 : Int32).toInt = 192 := by decide
        have o20 : (63 : Int32).toInt = 63 := by decide
        have o21 : (6 : Int32).toInt = 6 := by decide
        have o22 : (0 : Int32).toInt = 0 := by decide
        have o23 : (2 : Int32).toInt = 2 := by decide
        omega
      have rp : y1.toInt = 64 * 0 + y14.toInt := by
        have o0 := own_o_mask hy1 7 (by decide) (by decide)
        have o1 := own_o_iushr hy2 7 (by decide) (by decide)
        have o2 := own_o_irem hy3 192 (by decide)
        have o3 := own_o_iadd hy4
        have o4 := own_o_isub hy13
        have o5 := own_o_mask hy14 6 (by decide) (by decide)
        have o6 := own_o_iushr hy15 6 (by decide) (by decide)
        have o7 := own_o_mask hy16 6 (by decide) (by decide)
        have o8 := own_o_iushr hy17 6 (by decide) (by decide)
        have o9 := rng32 i0
        have o10 := rng32 i1
        have o11 := rng32 y1
        have o12 := rng32 y14
        have o13 := rng32 y16
        have o14 := rng32 y2
        have o15 := rng32 y3
        have o16 := rng32 y4
        have o17 : (127 : Int32).toInt = 127 := by decide
        have o18 : (7 : Int32).toInt = 7 := by decide
        have o19 : (192 : Int32).toInt = 192 := by decide
        have o20 : (63 : Int32).toInt = 63 := by decide
        have o21 : (6 : Int32).toInt = 6 := by decide
        have o22 : (0 : Int32).toInt = 0 := by decide
        have o23 : (2 : Int32).toInt = 2 := by decide
        omega
      have rq : y3.toInt = 64 * 2 + y16.toInt := by
        have o0 := own_o_mask hy1 7 (by decide) (by decide)
        have o1 := own_o_iushr hy2 7 (by decide) (by decide)
        have o2 := own_o_irem hy3 192 (by decide)
        have o3 := own_o_iadd hy4
        have o4 := own_o_isub hy13
        have o5 := own_o_mask hy14 6 (by decide) (by decide)
        have o6 := own_o_iushr hy15 6 (by decide) (by decide)
        have o7 := own_o_mask hy16 6 (by decide) (by decide)
        have o8 := own_o_iushr hy17 6 (by decide) (by decide)
        have o9 := rng32 i0
        have o10 := rng32 i1
        have o11 := rng32 y1
        have o12 := rng32 y14
        have o13 := rng32 y16
        have o14 := rng32 y2
        have o15 := rng32 y3
        have o16 := rng32 y4
        have o17 : (127 : Int32).toInt = 127 := by decide
        have o18 : (7 : Int32).toInt = 7 := by decide
        have o19 : (192 : Int32).toInt = 192 := by decide
        have o20 : (63 : Int32).toInt = 63 := by decide
        have o21 : (6 : Int32).toInt = 6 := by decide
        have o22 : (0 : Int32).toInt = 0 := by decide
        have o23 : (2 : Int32).toInt = 2 := by decide
        omega
      refine own_iloadN (pc' := 65) B X12 at_64 rfl rfl ?_
      refine own_iload (pc' := 67) B X12 at_65 rfl rfl ?_
      refine own_lloadN (pc' := 68) B X12 at_67 rfl rfl ?_
      refine own_callS (pc' := 71) B X12 (own_w hw 1 rfl) (own_w hw 2 rfl) (own_w hw 3 rfl) (own_w hw 4 rfl) (by decide) [(.ref b5), (.int i0), (.int y4), (.long i2)] [] (rm_1 l Z a0 hw [] b5 kb5 (i3) (i4) (i5) (i0) (y4) (i2) (y1) (y14) h12 n0 (Nat.le_trans Z0 K.1) E_b5 V_b5 g_b5 hy13 hy14 hy15) 0 (by decide) (by decide) rfl pd_0 rfl rfl (Nat.le_of_eq rfl) at_68 rfl (k' := 2) (n' := 6) rfl rfl (by decide) (by decide) ?_
      intro T526 v526 h526 X526 q526
      rcases q526 with ⟨y527, y528, hy529, hy530, c531, rfl, K526, E_b5, V_b5⟩ | ⟨y532, y533, y534, y535, hy536, hy537, c538, hy539, hy540, c541, rfl, K526, E_b5, V_b5⟩ | ⟨y542, y543, y544, y545, y546, hy547, hy548, c549, hy550, hy551, c552, hy553, rfl, K526, E_b5, V_b5⟩
      · replace K := K.trans K526 (allS (Or.inr sz_b5) all0)
        replace E_b9 := E_b9.keep K526
        replace V_b9 := V_b9.keep K526 (ninS (Ne.symm ne_b5_b9) nin0)
        show own_Go p e below (T526.setTop (mkF m 71 #[.val (.int i0), .val (.int i1), .val (.long i2), .second, .val (.long i3), .second, .val (.long i4), .second, .val (.long i5), .second, .val (.int y1), .val (.int y3), .val (.int y4), .val (.ref b5), .val (.ref b9), .unset, .unset, .unset, .unset] [])) _
        refine own_aload (pc' := 73) B X526 at_71 rfl rfl rfl ?_
        refine own_iload (pc' := 75) B X526 at_73 rfl rfl ?_
        refine own_callS (pc' := 78) B X526 (own_w hw 5 rfl) (own_w hw 6 rfl) (own_w hw 7 rfl) (own_w hw 8 rfl) (by decide) [(.ref b9), (.int y3)] [] (rm_4 l Z a0 hw [] b9 kb9 (i3) (i4) (i5) (y3) (y16) h526 n0 (Nat.le_trans Z0 K.1) E_b9 V_b9 g_b9 hy16 hy17) 0 (by decide) (by decide) rfl pd_1 rfl rfl (Nat.le_of_eq rfl) at_75 rfl (k' := 2) (n' := 6) rfl rfl (by decide) (by decide) ?_
        intro T554 v554 h554 X554 q554
        rcases q554 with ⟨y555, y556, hy557, hy558, c559, rfl, rfl⟩ | ⟨y560, y561, hy562, hy563, c564, rfl, rfl⟩
        · show own_Go p e below (T554.setTop (mkF m 78 #[.val (.int i0), .val (.int i1), .val (.long i2), .second, .val (.long i3), .second, .val (.long i4), .second, .val (.long i5), .second, .val (.int y1), .val (.int y3), .val (.int y4), .val (.ref b5), .val (.ref b9), .unset, .unset, .unset, .unset] [(.int (0 : Int32))])) _
          refine own_istore (pc' := 80) B X554 (Ls' := #[.val (.int i0), .val (.int i1), .val (.long i2), .second, .val (.long i3), .second, .val (.long i4), .second, .val (.long i5), .second, .val (.int y1), .val (.int y3), .val (.int y4), .val (.ref b5), .val (.ref b9), .val (.int (0 : Int32)), .unset, .unset, .unset]) at_78 rfl rfl ?_
          refine own_iload (pc' := 82) B X554 at_80 rfl rfl ?_
          refine own_iload (pc' := 84) B X554 at_82 rfl rfl ?_
          obtain ⟨y565, hy565⟩ : ∃ z : Int32, y3 - y1 = z := ⟨_, rfl⟩
          refine own_isub (pc' := 85) B X554 at_84 rfl hy565 ?_
          refine own_istore (pc' := 87) B X554 (Ls' := #[.val (.int i0), .val (.int i1), .val (.long i2), .second, .val (.long i3), .second, .val (.long i4), .second, .val (.long i5), .second, .val (.int y1), .val (.int y3), .val (.int y4), .val (.ref b5), .val (.ref b9), .val (.int (0 : Int32)), .val (.int y565), .unset, .unset]) at_85 rfl rfl ?_
          have rd : y565.toInt = 64 * 2 + y16.toInt - y14.toInt := own_dist hy565 rp rq rs rk (by decide) (by decide) (by decide)
          refine own_iload (pc' := 89) B X554 at_87 rfl rfl ?_
          have c566 : ¬ (y565 < (0 : Int32)) := by
            have o0 := own_o_mask hy1 7 (by decide) (by decide)
            have o1 := own_o_iushr hy2 7 (by decide) (by decide)
            have o2 := own_o_irem hy3 192 (by decide)
            have o3 := own_o_iadd hy4
            have o4 := own_o_isub hy13
            have o5 := own_o_mask hy14 6 (by decide) (by decide)
            have o6 := own_o_iushr hy15 6 (by decide) (by decide)
            have o7 := own_o_mask hy16 6 (by decide) (by decide)
            have o8 := own_o_iushr hy17 6 (by decide) (by decide)
            have o9 := own_o_maskL hy558 1 (by decide) (by decide)
            have o10 := own_o_isub hy565
            have o11 := own_eq c531
            have o12 := own_eqL c559
            have o13 := rng32 i0
            have o14 := rng32 i1
            have o15 := rng32 y1
            have o16 := rng32 y14
            have o17 := rng32 y16
            have o18 := rng32 y2
            have o19 := rng32 y3
            have o20 := rng32 y4
            have o21 := rng32 y565
            have o22 := rng64 i5
            have o23 := rng64 y555
            have o24 := rng64 y556
            have o25 : (127 : Int32).toInt = 127 := by decide
            have o26 : (7 : Int32).toInt = 7 := by decide
            have o27 : (192 : Int32).toInt = 192 := by decide
            have o28 : (63 : Int32).toInt = 63 := by decide
            have o29 : (6 : Int32).toInt = 6 := by decide
            have o30 : (0 : Int32).toInt = 0 := by decide
            have o31 : (2 : Int32).toInt = 2 := by decide
            have o32 : (1 : Int64).toInt = 1 := by decide
            have o33 : (0 : Int64).toInt = 0 := by decide
            refine own_nltI ?_
            omega
          refine own_ifNo (pc' := 92) B X554 at_89 ((if0 _ _).trans (flt c566).1) rfl ?_
          refine own_iload (pc' := 94) B X554 at_92 rfl rfl ?_
          refine own_bipush (pc' := 96) B X554 (z := (64 : Int32)) at_94 rfl (by decide) ?_
          have c567 : ¬ (y565 < (64 : Int32)) := by
            have o0 := own_o_mask hy1 7 (by decide) (by decide)
            have o1 := own_o_iushr hy2 7 (by decide) (by decide)
            have o2 := own_o_irem hy3 192 (by decide)
            have o3 := own_o_iadd hy4
            have o4 := own_o_isub hy13
            have o5 := own_o_mask hy14 6 (by decide) (by decide)
            have o6 := own_o_iushr hy15 6 (by decide) (by decide)
            have o7 := own_o_mask hy16 6 (by decide) (by decide)
            have o8 := own_o_iushr hy17 6 (by decide) (by decide)
            have o9 := own_o_maskL hy558 1 (by decide) (by decide)
            have o10 := own_o_isub hy565
            have o11 := own_eq c531
            have o12 := own_eqL c559
            have o13 := own_nlt c566
            have o14 := rng32 i0
            have o15 := rng32 i1
            have o16 := rng32 y1
            have o17 := rng32 y14
            have o18 := rng32 y16
            have o19 := rng32 y2
            have o20 := rng32 y3
            have o21 := rng32 y4
            have o22 := rng32 y565
            have o23 := rng64 i5
            have o24 := rng64 y555
            have o25 := rng64 y556
            have o26 : (127 : Int32).toInt = 127 := by decide
            have o27 : (7 : Int32).toInt = 7 := by decide
            have o28 : (192 : Int32).toInt = 192 := by decide
            have o29 : (63 : Int32).toInt = 63 := by decide
            have o30 : (6 : Int32).toInt = 6 := by decide
            have o31 : (0 : Int32).toInt = 0 := by decide
            have o32 : (2 : Int32).toInt = 2 := by decide
            have o33 : (1 : Int64).toInt = 1 := by decide
            have o34 : (0 : Int64).toInt = 0 := by decide
            have o35 : (64 : Int32).toInt = 64 := by decide
            refine own_nltI ?_
            omega
          refine own_icmpYes (pc' := 114) B X554 at_96 (flt c567).2.1 (by decide) rfl ?_
          refine own_iconst (pc' := 115) B X554 (z := (0 : Int32)) at_114 rfl rfl ?_
          refine own_istore (pc' := 117) B X554 (Ls' := #[.val (.int i0), .val (.int i1), .val (.long i2), .second, .val (.long i3), .second, .val (.long i4), .second, .val (.long i5), .second, .val (.int y1), .val (.int y3), .val (.int y4), .val (.ref b5), .val (.ref b9), .val (.int (0 : Int32)), .val (.int y565), .val (.int (0 : Int32)), .unset]) at_115 rfl rfl ?_
          refine own_aload (pc' := 119) B X554 at_117 rfl rfl rfl ?_
          refine own_iload (pc' := 121) B X554 at_119 rfl rfl ?_
          refine own_callS (pc' := 124) B X554 (own_w hw 5 rfl) (own_w hw 6 rfl) (own_w hw 7 rfl) (own_w hw 8 rfl) (by decide) [(.ref b5), (.int y3)] [] (rm_4 l Z a0 hw [] b5 kb5 (y528) (i4) (i5) (y3) (y16) h526 n0 (Nat.le_trans Z0 K.1) E_b5 V_b5 g_b5 hy16 hy17) 0 (by decide) (by decide) rfl pd_1 rfl rfl (Nat.le_of_eq rfl) at_121 rfl (k' := 2) (n' := 6) rfl rfl (by decide) (by decide) ?_
          intro T568 v568 h568 X568 q568
          rcases q568 with ⟨y569, y570, hy571, hy572, c573, rfl, rfl⟩ | ⟨y574, y575, hy576, hy577, c578, rfl, rfl⟩
          · obtain rfl : y555 = y569 := (hy557 : (i5.toUInt64 >>> (y16 &&& 0x3f).toInt64.toUInt64).toInt64 = y555).symm.trans hy571
            obtain rfl : y556 = y570 := (hy558 : y555 &&& (1 : Int64) = y556).symm.trans hy572
            show own_Go p e below (T568.setTop (mkF m 124 #[.val (.int i0), .val (.int i1), .val (.long i2), .second, .val (.long i3), .second, .val (.long i4), .second, .val (.long i5), .second, .val (.int y1), .val (.int y3), .val (.int y4), .val (.ref b5), .val (.ref b9), .val (.int (0 : Int32)), .val (.int y565), .val (.int (0 : Int32)), .unset] [(.int (0 : Int32))])) _
            refine own_istore (pc' := 126) B X568 (Ls' := #[.val (.int i0), .val (.int i1), .val (.long i2), .second, .val (.long i3), .second, .val (.long i4), .second, .val (.long i5), .second, .val (.int y1), .val (.int y3), .val (.int y4), .val (.ref b5), .val (.ref b9), .val (.int (0 : Int32)), .val (.int y565), .val (.int (0 : Int32)), .val (.int (0 : Int32))]) at_124 rfl rfl ?_
            refine own_iload (pc' := 128) B X568 at_126 rfl rfl ?_
            refine own_iload (pc' := 130) B X568 at_128 rfl rfl ?_
            refine own_ifNo (pc' := 133) B X568 at_130 ((if0 _ _).trans (teq (by decide : (0 : Int32) = (0 : Int32))).2) rfl ?_
            refine own_iload (pc' := 135) B X568 at_133 rfl rfl ?_
            refine own_ifYes (pc' := 142) B X568 at_135 ((if0 _ _).trans (teq (by decide : (0 : Int32) = (0 : Int32))).1) (by decide) rfl ?_
            refine own_iconst (pc' := 143) B X568 (z := (0 : Int32)) at_142 rfl rfl ?_
            refine own_icmpNo (pc' := 146) B X568 at_143 (teq (by decide : (0 : Int32) = (0 : Int32))).2 rfl ?_
            refine own_iconst (pc' := 147) B X568 (z := (1 : Int32)) at_146 rfl rfl ?_
            refine own_goto (pc' := 151) B X568 at_147 (by decide) rfl ?_
            exact own_retN B X568 (t := .boolean) (z' := (1 : Int32)) (by simp) (by decide) at_151 (by decide) (by decide) rfl
          · obtain rfl : y555 = y574 := (hy557 : (i5.toUInt64 >>> (y16 &&& 0x3f).toInt64.toUInt64).toInt64 = y555).symm.trans hy576
            obtain rfl : y556 = y575 := (hy558 : y555 &&& (1 : Int64) = y556).symm.trans hy577
            exfalso
            have b0 := own_bitF hy557 hy558 rk.1 rk.2 c559
            have b1 := own_bitT hy557 hy558 rk.1 rk.2 c578
            revert b0 b1
            generalize own_tb i5 y16.toInt.toNat = u0
            revert u0
            decide
        · show own_Go p e below (T554.setTop (mkF m 78 #[.val (.int i0), .val (.int i1), .val (.long i2), .second, .val (.long i3), .second, .val (.long i4), .second, .val (.long i5), .second, .val (.int y1), .val (.int y3), .val (.int y4), .val (.ref b5), .val (.ref b9), .unset, .unset, .unset, .unset] [(.int (1 : Int32))])) _
          refine own_istore (pc' := 80) B X554 (Ls' := #[.val (.int i0), .val (.int i1), .val (.long i2), .second, .val (.long i3), .second, .val (.long i4), .second, .val (.long i5), .second, .val (.int y1), .val (.int y3), .val (.int y4), .val (.ref b5), .val (.ref b9), .val (.int (1 : Int32)), .unset, .unset, .unset]) at_78 rfl rfl ?_
          refine own_iload (pc' := 82) B X554 at_80 rfl rfl ?_
          refine own_iload (pc' := 84) B X554 at_82 rfl rfl ?_
          obtain ⟨y579, hy579⟩ : ∃ z : Int32, y3 - y1 = z := ⟨_, rfl⟩
          refine own_isub (pc' := 85) B X554 at_84 rfl hy579 ?_
          refine own_istore (pc' := 87) B X554 (Ls' := #[.val (.int i0), .val (.int i1), .val (.long i2), .second, .val (.long i3), .second, .val (.long i4), .second, .val (.long i5), .second, .val (.int y1), .val (.int y3), .val (.int y4), .val (.ref b5), .val (.ref b9), .val (.int (1 : Int32)), .val (.int y579), .unset, .unset]) at_85 rfl rfl ?_
          have rd : y579.toInt = 64 * 2 + y16.toInt - y14.toInt := own_dist hy579 rp rq rs rk (by decide) (by decide) (by decide)
          refine own_iload (pc' := 89) B X554 at_87 rfl rfl ?_
          have c580 : ¬ (y579 < (0 : Int32)) := by
            have o0 := own_o_mask hy1 7 (by decide) (by decide)
            have o1 := own_o_iushr hy2 7 (by decide) (by decide)
            have o2 := own_o_irem hy3 192 (by decide)
            have o3 := own_o_iadd hy4
            have o4 := own_o_isub hy13
            have o5 := own_o_mask hy14 6 (by decide) (by decide)
            have o6 := own_o_iushr hy15 6 (by decide) (by decide)
            have o7 := own_o_mask hy16 6 (by decide) (by decide)
            have o8 := own_o_iushr hy17 6 (by decide) (by decide)
            have o9 := own_o_maskL hy563 1 (by decide) (by decide)
            have o10 := own_o_isub hy579
            have o11 := own_eq c531
            have o12 := own_neqL c564
            have o13 := rng32 i0
            have o14 := rng32 i1
            have o15 := rng32 y1
            have o16 := rng32 y14
            have o17 := rng32 y16
            have o18 := rng32 y2
            have o19 := rng32 y3
            have o20 := rng32 y4
            have o21 := rng32 y579
            have o22 := rng64 i5
            have o23 := rng64 y560
            have o24 := rng64 y561
            have o25 : (127 : Int32).toInt = 127 := by decide
            have o26 : (7 : Int32).toInt = 7 := by decide
            have o27 : (192 : Int32).toInt = 192 := by decide
            have o28 : (63 : Int32).toInt = 63 := by decide
            have o29 : (6 : Int32).toInt = 6 := by decide
            have o30 : (0 : Int32).toInt = 0 := by decide
            have o31 : (2 : Int32).toInt = 2 := by decide
            have o32 : (1 : Int64).toInt = 1 := by decide
            have o33 : (0 : Int64).toInt = 0 := by decide
            refine own_nltI ?_
            omega
          refine own_ifNo (pc' := 92) B X554 at_89 ((if0 _ _).trans (flt c580).1) rfl ?_
          refine own_iload (pc' := 94) B X554 at_92 rfl rfl ?_
          refine own_bipush (pc' := 96) B X554 (z := (64 : Int32)) at_94 rfl (by decide) ?_
          have c581 : ¬ (y579 < (64 : Int32)) := by
            have o0 := own_o_mask hy1 7 (by decide) (by decide)
            have o1 := own_o_iushr hy2 7 (by decide) (by decide)
            have o2 := own_o_irem hy3 192 (by decide)
            have o3 := own_o_iadd hy4
            have o4 := own_o_isub hy13
            have o5 := own_o_mask hy14 6 (by decide) (by decide)
            have o6 := own_o_iushr hy15 6 (by decide) (by decide)
            have o7 := own_o_mask hy16 6 (by decide) (by decide)
            have o8 := own_o_iushr hy17 6 (by decide) (by decide)
            have o9 := own_o_maskL hy563 1 (by decide) (by decide)
            have o10 := own_o_isub hy579
            have o11 := own_eq c531
            have o12 := own_neqL c564
            have o13 := own_nlt c580
            have o14 := rng32 i0
            have o15 := rng32 i1
            have o16 := rng32 y1
            have o17 := rng32 y14
            have o18 := rng32 y16
            have o19 := rng32 y2
            have o20 := rng32 y3
            have o21 := rng32 y4
            have o22 := rng32 y579
            have o23 := rng64 i5
            have o24 := rng64 y560
            have o25 := rng64 y561
            have o26 : (127 : Int32).toInt = 127 := by decide
            have o27 : (7 : Int32).toInt = 7 := by decide
            have o28 : (192 : Int32).toInt = 192 := by decide
            have o29 : (63 : Int32).toInt = 63 := by decide
            have o30 : (6 : Int32).toInt = 6 := by decide
            have o31 : (0 : Int32).toInt = 0 := by decide
            have o32 : (2 : Int32).toInt = 2 := by decide
            have o33 : (1 : Int64).toInt = 1 := by decide
            have o34 : (0 : Int64).toInt = 0 := by decide
            have o35 : (64 : Int32).toInt = 64 := by decide
            refine own_nltI ?_
            omega
          refine own_icmpYes (pc' := 114) B X554 at_96 (flt c581).2.1 (by decide) rfl ?_
          refine own_iconst (pc' := 115) B X554 (z := (0 : Int32)) at_114 rfl rfl ?_
          refine own_istore (pc' := 117) B X554 (Ls' := #[.val (.int i0), .val (.int i1), .val (.long i2), .second, .val (.long i3), .second, .val (.long i4), .second, .val (.long i5), .second, .val (.int y1), .val (.int y3), .val (.int y4), .val (.ref b5), .val (.ref b9), .val (.int (1 : Int32)), .val (.int y579), .val (.int (0 : Int32)), .unset]) at_115 rfl rfl ?_
          refine own_aload (pc' := 119) B X554 at_117 rfl rfl rfl ?_
          refine own_iload (pc' := 121) B X554 at_119 rfl rfl ?_
          refine own_callS (pc' := 124) B X554 (own_w hw 5 rfl) (own_w hw 6 rfl) (own_w hw 7 rfl) (own_w hw 8 rfl) (by decide) [(.ref b5), (.int y3)] [] (rm_4 l Z a0 hw [] b5 kb5 (y528) (i4) (i5) (y3) (y16) h526 n0 (Nat.le_trans Z0 K.1) E_b5 V_b5 g_b5 hy16 hy17) 0 (by decide) (by decide) rfl pd_1 rfl rfl (Nat.le_of_eq rfl) at_121 rfl (k' := 2) (n' := 6) rfl rfl (by decide) (by decide) ?_
          intro T582 v582 h582 X582 q582
          rcases q582 with ⟨y583, y584, hy585, hy586, c587, rfl, rfl⟩ | ⟨y588, y589, hy590, hy591, c592, rfl, rfl⟩
          · obtain rfl : y560 = y583 := (hy562 : (i5.toUInt64 >>> (y16 &&& 0x3f).toInt64.toUInt64).toInt64 = y560).symm.trans hy585
            obtain rfl : y561 = y584 := (hy563 : y560 &&& (1 : Int64) = y561).symm.trans hy586
            exfalso
            have b0 := own_bitT hy562 hy563 rk.1 rk.2 c564
            have b1 := own_bitF hy562 hy563 rk.1 rk.2 c587
            revert b0 b1
            generalize own_tb i5 y16.toInt.toNat = u0
            revert u0
            decide
          · obtain rfl : y560 = y588 := (hy562 : (i5.toUInt64 >>> (y16 &&& 0x3f).toInt64.toUInt64).toInt64 = y560).symm.trans hy590
            obtain rfl : y561 = y589 := (hy563 : y560 &&& (1 : Int64) = y561).symm.trans hy591
            show own_Go p e below (T582.setTop (mkF m 124 #[.val (.int i0), .val (.int i1), .val (.long i2), .second, .val (.long i3), .second, .val (.long i4), .second, .val (.long i5), .second, .val (.int y1), .val (.int y3), .val (.int y4), .val (.ref b5), .val (.ref b9), .val (.int (1 : Int32)), .val (.int y579), .val (.int (0 : Int32)), .unset] [(.int (1 : Int32))])) _
            refine own_istore (pc' := 126) B X582 (Ls' := #[.val (.int i0), .val (.int i1), .val (.long i2), .second, .val (.long i3), .second, .val (.long i4), .second, .val (.long i5), .second, .val (.int y1), .val (.int y3), .val (.int y4), .val (.ref b5), .val (.ref b9), .val (.int (1 : Int32)), .val (.int y579), .val (.int (0 : Int32)), .val (.int (1 : Int32))]) at_124 rfl rfl ?_
            refine own_iload (pc' := 128) B X582 at_126 rfl rfl ?_
            refine own_iload (pc' := 130) B X582 at_128 rfl rfl ?_
            refine own_ifYes (pc' := 138) B X582 at_130 ((if0 _ _).trans (feq (by decide : ¬ ((1 : Int32) = (0 : Int32)))).2) (by decide) rfl ?_
            refine own_iconst (pc' := 139) B X582 (z := (1 : Int32)) at_138 rfl rfl ?_
            refine own_goto (pc' := 143) B X582 at_139 (by decide) rfl ?_
            refine own_icmpNo (pc' := 146) B X582 at_143 (teq (by decide : (1 : Int32) = (1 : Int32))).2 rfl ?_
            refine own_iconst (pc' := 147) B X582 (z := (1 : Int32)) at_146 rfl rfl ?_
            refine own_goto (pc' := 151) B X582 at_147 (by decide) rfl ?_
            exact own_retN B X582 (t := .boolean) (z' := (1 : Int32)) (by simp) (by decide) at_151 (by decide) (by decide) rfl
      · replace K := K.trans K526 (allS (Or.inr sz_b5) all0)
        replace E_b9 := E_b9.keep K526
        replace V_b9 := V_b9.keep K526 (ninS (Ne.symm ne_b5_b9) nin0)
        show own_Go p e below (T526.setTop (mkF m 71 #[.val (.int i0), .val (.int i1), .val (.long i2), .second, .val (.long i3), .second, .val (.long i4), .second, .val (.long i5), .second, .val (.int y1), .val (.int y3), .val (.int y4), .val (.ref b5), .val (.ref b9), .unset, .unset, .unset, .unset] [])) _
        refine own_aload (pc' := 73) B X526 at_71 rfl rfl rfl ?_
        refine own_iload (pc' := 75) B X526 at_73 rfl rfl ?_
        refine own_callS (pc' := 78) B X526 (own_w hw 5 rfl) (own_w hw 6 rfl) (own_w hw 7 rfl) (own_w hw 8 rfl) (by decide) [(.ref b9), (.int y3)] [] (rm_4 l Z a0 hw [] b9 kb9 (i3) (i4) (i5) (y3) (y16) h526 n0 (Nat.le_trans Z0 K.1) E_b9 V_b9 g_b9 hy16 hy17) 0 (by decide) (by decide) rfl pd_1 rfl rfl (Nat.le_of_eq rfl) at_75 rfl (k' := 2) (n' := 6) rfl rfl (by decide) (by decide) ?_
        intro T593 v593 h593 X593 q593
        rcases q593 with ⟨y594, y595, hy596, hy597, c598, rfl, rfl⟩ | ⟨y599, y600, hy601, hy602, c603, rfl, rfl⟩
        · show own_Go p e below (T593.setTop (mkF m 78 #[.val (.int i0), .val (.int i1), .val (.long i2), .second, .val (.long i3), .second, .val (.long i4), .second, .val (.long i5), .second, .val (.int y1), .val (.int y3), .val (.int y4), .val (.ref b5), .val (.ref b9), .unset, .unset, .unset, .unset] [(.int (0 : Int32))])) _
          refine own_istore (pc' := 80) B X593 (Ls' := #[.val (.int i0), .val (.int i1), .val (.long i2), .second, .val (.long i3), .second, .val (.long i4), .second, .val (.long i5), .second, .val (.int y1), .val (.int y3), .val (.int y4), .val (.ref b5), .val (.ref b9), .val (.int (0 : Int32)), .unset, .unset, .unset]) at_78 rfl rfl ?_
          refine own_iload (pc' := 82) B X593 at_80 rfl rfl ?_
          refine own_iload (pc' := 84) B X593 at_82 rfl rfl ?_
          obtain ⟨y604, hy604⟩ : ∃ z : Int32, y3 - y1 = z := ⟨_, rfl⟩
          refine own_isub (pc' := 85) B X593 at_84 rfl hy604 ?_
          refine own_istore (pc' := 87) B X593 (Ls' := #[.val (.int i0), .val (.int i1), .val (.long i2), .second, .val (.long i3), .second, .val (.long i4), .second, .val (.long i5), .second, .val (.int y1), .val (.int y3), .val (.int y4), .val (.ref b5), .val (.ref b9), .val (.int (0 : Int32)), .val (.int y604), .unset, .unset]) at_85 rfl rfl ?_
          have rd : y604.toInt = 64 * 2 + y16.toInt - y14.toInt := own_dist hy604 rp rq rs rk (by decide) (by decide) (by decide)
          refine own_iload (pc' := 89) B X593 at_87 rfl rfl ?_
          have c605 : ¬ (y604 < (0 : Int32)) := by
            have o0 := own_o_mask hy1 7 (by decide) (by decide)
            have o1 := own_o_iushr hy2 7 (by decide) (by decide)
            have o2 := own_o_irem hy3 192 (by decide)
            have o3 := own_o_iadd hy4
            have o4 := own_o_isub hy13
            have o5 := own_o_mask hy14 6 (by decide) (by decide)
            have o6 := own_o_iushr hy15 6 (by decide) (by decide)
            have o7 := own_o_mask hy16 6 (by decide) (by decide)
            have o8 := own_o_iushr hy17 6 (by decide) (by decide)
            have o9 := own_o_isub hy539
            have o10 := own_o_maskL hy597 1 (by decide) (by decide)
            have o11 := own_o_isub hy604
            have o12 := own_neq c538
            have o13 := own_eqL c541
            have o14 := own_eqL c598
            have o15 := rng32 i0
            have o16 := rng32 i1
            have o17 := rng32 y1
            have o18 := rng32 y14
            have o19 := rng32 y16
            have o20 := rng32 y2
            have o21 := rng32 y3
            have o22 := rng32 y4
            have o23 := rng32 y534
            have o24 := rng32 y604
            have o25 := rng64 i2
            have o26 := rng64 i5
            have o27 := rng64 y535
            have o28 := rng64 y594
            have o29 := rng64 y595
            have o30 : (127 : Int32).toInt = 127 := by decide
            have o31 : (7 : Int32).toInt = 7 := by decide
            have o32 : (192 : Int32).toInt = 192 := by decide
            have o33 : (63 : Int32).toInt = 63 := by decide
            have o34 : (6 : Int32).toInt = 6 := by decide
            have o35 : (0 : Int32).toInt = 0 := by decide
            have o36 : (2 : Int32).toInt = 2 := by decide
            have o37 : (64 : Int32).toInt = 64 := by decide
            have o38 : (1 : Int64).toInt = 1 := by decide
            have o39 : (0 : Int64).toInt = 0 := by decide
            refine own_nltI ?_
            omega
          refine own_ifNo (pc' := 92) B X593 at_89 ((if0 _ _).trans (flt c605).1) rfl ?_
          refine own_iload (pc' := 94) B X593 at_92 rfl rfl ?_
          refine own_bipush (pc' := 96) B X593 (z := (64 : Int32)) at_94 rfl (by decide) ?_
          have c606 : ¬ (y604 < (64 : Int32)) := by
            have o0 := own_o_mask hy1 7 (by decide) (by decide)
            have o1 := own_o_iushr hy2 7 (by decide) (by decide)
            have o2 := own_o_irem hy3 192 (by decide)
            have o3 := own_o_iadd hy4
            have o4 := own_o_isub hy13
            have o5 := own_o_mask hy14 6 (by decide) (by decide)
            have o6 := own_o_iushr hy15 6 (by decide) (by decide)
            have o7 := own_o_mask hy16 6 (by decide) (by decide)
            have o8 := own_o_iushr hy17 6 (by decide) (by decide)
            have o9 := own_o_isub hy539
            have o10 := own_o_maskL hy597 1 (by decide) (by decide)
            have o11 := own_o_isub hy604
            have o12 := own_neq c538
            have o13 := own_eqL c541
            have o14 := own_eqL c598
            have o15 := own_nlt c605
            have o16 := rng32 i0
            have o17 := rng32 i1
            have o18 := rng32 y1
            have o19 := rng32 y14
            have o20 := rng32 y16
            have o21 := rng32 y2
            have o22 := rng32 y3
            have o23 := rng32 y4
            have o24 := rng32 y534
            have o25 := rng32 y604
            have o26 := rng64 i2
            have o27 := rng64 i5
            have o28 := rng64 y535
            have o29 := rng64 y594
            have o30 := rng64 y595
            have o31 : (127 : Int32).toInt = 127 := by decide
            have o32 : (7 : Int32).toInt = 7 := by decide
            have o33 : (192 : Int32).toInt = 192 := by decide
            have o34 : (63 : Int32).toInt = 63 := by decide
            have o35 : (6 : Int32).toInt = 6 := by decide
            have o36 : (0 : Int32).toInt = 0 := by decide
            have o37 : (2 : Int32).toInt = 2 := by decide
            have o38 : (64 : Int32).toInt = 64 := by decide
            have o39 : (1 : Int64).toInt = 1 := by decide
            have o40 : (0 : Int64).toInt = 0 := by decide
            refine own_nltI ?_
            omega
          refine own_icmpYes (pc' := 114) B X593 at_96 (flt c606).2.1 (by decide) rfl ?_
          refine own_iconst (pc' := 115) B X593 (z := (0 : Int32)) at_114 rfl rfl ?_
          refine own_istore (pc' := 117) B X593 (Ls' := #[.val (.int i0), .val (.int i1), .val (.long i2), .second, .val (.long i3), .second, .val (.long i4), .second, .val (.long i5), .second, .val (.int y1), .val (.int y3), .val (.int y4), .val (.ref b5), .val (.ref b9), .val (.int (0 : Int32)), .val (.int y604), .val (.int (0 : Int32)), .unset]) at_115 rfl rfl ?_
          refine own_aload (pc' := 119) B X593 at_117 rfl rfl rfl ?_
          refine own_iload (pc' := 121) B X593 at_119 rfl rfl ?_
          refine own_callS (pc' := 124) B X593 (own_w hw 5 rfl) (own_w hw 6 rfl) (own_w hw 7 rfl) (own_w hw 8 rfl) (by decide) [(.ref b5), (.int y3)] [] (rm_4 l Z a0 hw [] b5 kb5 (y533) (i4) (i5) (y3) (y16) h526 n0 (Nat.le_trans Z0 K.1) E_b5 V_b5 g_b5 hy16 hy17) 0 (by decide) (by decide) rfl pd_1 rfl rfl (Nat.le_of_eq rfl) at_121 rfl (k' := 2) (n' := 6) rfl rfl (by decide) (by decide) ?_
          intro T607 v607 h607 X607 q607
          rcases q607 with ⟨y608, y609, hy610, hy611, c612, rfl, rfl⟩ | ⟨y613, y614, hy615, hy616, c617, rfl, rfl⟩
          · obtain rfl : y594 = y608 := (hy596 : (i5.toUInt64 >>> (y16 &&& 0x3f).toInt64.toUInt64).toInt64 = y594).symm.trans hy610
            obtain rfl : y595 = y609 := (hy597 : y594 &&& (1 : Int64) = y595).symm.trans hy611
            show own_Go p e below (T607.setTop (mkF m 124 #[.val (.int i0), .val (.int i1), .val (.long i2), .second, .val (.long i3), .second, .val (.long i4), .second, .val (.long i5), .second, .val (.int y1), .val (.int y3), .val (.int y4), .val (.ref b5), .val (.ref b9), .val (.int (0 : Int32)), .val (.int y604), .val (.int (0 : Int32)), .unset] [(.int (0 : Int32))])) _
            refine own_istore (pc' := 126) B X607 (Ls' := #[.val (.int i0), .val (.int i1), .val (.long i2), .second, .val (.long i3), .second, .val (.long i4), .second, .val (.long i5), .second, .val (.int y1), .val (.int y3), .val (.int y4), .val (.ref b5), .val (.ref b9), .val (.int (0 : Int32)), .val (.int y604), .val (.int (0 : Int32)), .val (.int (0 : Int32))]) at_124 rfl rfl ?_
            refine own_iload (pc' := 128) B X607 at_126 rfl rfl ?_
            refine own_iload (pc' := 130) B X607 at_128 rfl rfl ?_
            refine own_ifNo (pc' := 133) B X607 at_130 ((if0 _ _).trans (teq (by decide : (0 : Int32) = (0 : Int32))).2) rfl ?_
            refine own_iload (pc' := 135) B X607 at_133 rfl rfl ?_
            refine own_ifYes (pc' := 142) B X607 at_135 ((if0 _ _).trans (teq (by decide : (0 : Int32) = (0 : Int32))).1) (by decide) rfl ?_
            refine own_iconst (pc' := 143) B X607 (z := (0 : Int32)) at_142 rfl rfl ?_
            refine own_icmpNo (pc' := 146) B X607 at_143 (teq (by decide : (0 : Int32) = (0 : Int32))).2 rfl ?_
            refine own_iconst (pc' := 147) B X607 (z := (1 : Int32)) at_146 rfl rfl ?_
            refine own_goto (pc' := 151) B X607 at_147 (by decide) rfl ?_
            exact own_retN B X607 (t := .boolean) (z' := (1 : Int32)) (by simp) (by decide) at_151 (by decide) (by decide) rfl
          · obtain rfl : y594 = y613 := (hy596 : (i5.toUInt64 >>> (y16 &&& 0x3f).toInt64.toUInt64).toInt64 = y594).symm.trans hy615
            obtain rfl : y595 = y614 := (hy597 : y594 &&& (1 : Int64) = y595).symm.trans hy616
            exfalso
            have b0 := own_bitF hy596 hy597 rk.1 rk.2 c598
            have b1 := own_bitT hy596 hy597 rk.1 rk.2 c617
            revert b0 b1
            generalize own_tb i5 y16.toInt.toNat = u0
            revert u0
            decide
        · show own_Go p e below (T593.setTop (mkF m 78 #[.val (.int i0), .val (.int i1), .val (.long i2), .second, .val (.long i3), .second, .val (.long i4), .second, .val (.long i5), .second, .val (.int y1), .val (.int y3), .val (.int y4), .val (.ref b5), .val (.ref b9), .unset, .unset, .unset, .unset] [(.int (1 : Int32))])) _
          refine own_istore (pc' := 80) B X593 (Ls' := #[.val (.int i0), .val (.int i1), .val (.long i2), .second, .val (.long i3), .second, .val (.long i4), .second, .val (.long i5), .second, .val (.int y1), .val (.int y3), .val (.int y4), .val (.ref b5), .val (.ref b9), .val (.int (1 : Int32)), .unset, .unset, .unset]) at_78 rfl rfl ?_
          refine own_iload (pc' := 82) B X593 at_80 rfl rfl ?_
          refine own_iload (pc' := 84) B X593 at_82 rfl rfl ?_
          obtain ⟨y618, hy618⟩ : ∃ z : Int32, y3 - y1 = z := ⟨_, rfl⟩
          refine own_isub (pc' := 85) B X593 at_84 rfl hy618 ?_
          refine own_istore (pc' := 87) B X593 (Ls' := #[.val (.int i0), .val (.int i1), .val (.long i2), .second, .val (.long i3), .second, .val (.long i4), .second, .val (.long i5), .second, .val (.int y1), .val (.int y3), .val (.int y4), .val (.ref b5), .val (.ref b9), .val (.int (1 : Int32)), .val (.int y618), .unset, .unset]) at_85 rfl rfl ?_
          have rd : y618.toInt = 64 * 2 + y16.toInt - y14.toInt := own_dist hy618 rp rq rs rk (by decide) (by decide) (by decide)
          refine own_iload (pc' := 89) B X593 at_87 rfl rfl ?_
          have c619 : ¬ (y618 < (0 : Int32)) := by
            have o0 := own_o_mask hy1 7 (by decide) (by decide)
            have o1 := own_o_iushr hy2 7 (by decide) (by decide)
            have o2 := own_o_irem hy3 192 (by decide)
            have o3 := own_o_iadd hy4
            have o4 := own_o_isub hy13
            have o5 := own_o_mask hy14 6 (by decide) (by decide)
            have o6 := own_o_iushr hy15 6 (by decide) (by decide)
            have o7 := own_o_mask hy16 6 (by decide) (by decide)
            have o8 := own_o_iushr hy17 6 (by decide) (by decide)
            have o9 := own_o_isub hy539
            have o10 := own_o_maskL hy602 1 (by decide) (by decide)
            have o11 := own_o_isub hy618
            have o12 := own_neq c538
            have o13 := own_eqL c541
            have o14 := own_neqL c603
            have o15 := rng32 i0
            have o16 := rng32 i1
            have o17 := rng32 y1
            have o18 := rng32 y14
            have o19 := rng32 y16
            have o20 := rng32 y2
            have o21 := rng32 y3
            have o22 := rng32 y4
            have o23 := rng32 y534
            have o24 := rng32 y618
            have o25 := rng64 i2
            have o26 := rng64 i5
            have o27 := rng64 y535
            have o28 := rng64 y599
            have o29 := rng64 y600
            have o30 : (127 : Int32).toInt = 127 := by decide
            have o31 : (7 : Int32).toInt = 7 := by decide
            have o32 : (192 : Int32).toInt = 192 := by decide
            have o33 : (63 : Int32).toInt = 63 := by decide
            have o34 : (6 : Int32).toInt = 6 := by decide
            have o35 : (0 : Int32).toInt = 0 := by decide
            have o36 : (2 : Int32).toInt = 2 := by decide
            have o37 : (64 : Int32).toInt = 64 := by decide
            have o38 : (1 : Int64).toInt = 1 := by decide
            have o39 : (0 : Int64).toInt = 0 := by decide
            refine own_nltI ?_
            omega
          refine own_ifNo (pc' := 92) B X593 at_89 ((if0 _ _).trans (flt c619).1) rfl ?_
          refine own_iload (pc' := 94) B X593 at_92 rfl rfl ?_
          refine own_bipush (pc' := 96) B X593 (z := (64 : Int32)) at_94 rfl (by decide) ?_
          have c620 : ¬ (y618 < (64 : Int32)) := by
            have o0 := own_o_mask hy1 7 (by decide) (by decide)
            have o1 := own_o_iushr hy2 7 (by decide) (by decide)
            have o2 := own_o_irem hy3 192 (by decide)
            have o3 := own_o_iadd hy4
            have o4 := own_o_isub hy13
            have o5 := own_o_mask hy14 6 (by decide) (by decide)
            have o6 := own_o_iushr hy15 6 (by decide) (by decide)
            have o7 := own_o_mask hy16 6 (by decide) (by decide)
            have o8 := own_o_iushr hy17 6 (by decide) (by decide)
            have o9 := own_o_isub hy539
            have o10 := own_o_maskL hy602 1 (by decide) (by decide)
            have o11 := own_o_isub hy618
            have o12 := own_neq c538
            have o13 := own_eqL c541
            have o14 := own_neqL c603
            have o15 := own_nlt c619
            have o16 := rng32 i0
            have o17 := rng32 i1
            have o18 := rng32 y1
            have o19 := rng32 y14
            have o20 := rng32 y16
            have o21 := rng32 y2
            have o22 := rng32 y3
            have o23 := rng32 y4
            have o24 := rng32 y534
            have o25 := rng32 y618
            have o26 := rng64 i2
            have o27 := rng64 i5
            have o28 := rng64 y535
            have o29 := rng64 y599
            have o30 := rng64 y600
            have o31 : (127 : Int32).toInt = 127 := by decide
            have o32 : (7 : Int32).toInt = 7 := by decide
            have o33 : (192 : Int32).toInt = 192 := by decide
            have o34 : (63 : Int32).toInt = 63 := by decide
            have o35 : (6 : Int32).toInt = 6 := by decide
            have o36 : (0 : Int32).toInt = 0 := by decide
            have o37 : (2 : Int32).toInt = 2 := by decide
            have o38 : (64 : Int32).toInt = 64 := by decide
            have o39 : (1 : Int64).toInt = 1 := by decide
            have o40 : (0 : Int64).toInt = 0 := by decide
            refine own_nltI ?_
            omega
          refine own_icmpYes (pc' := 114) B X593 at_96 (flt c620).2.1 (by decide) rfl ?_
          refine own_iconst (pc' := 115) B X593 (z := (0 : Int32)) at_114 rfl rfl ?_
          refine own_istore (pc' := 117) B X593 (Ls' := #[.val (.int i0), .val (.int i1), .val (.long i2), .second, .val (.long i3), .second, .val (.long i4), .second, .val (.long i5), .second, .val (.int y1), .val (.int y3), .val (.int y4), .val (.ref b5), .val (.ref b9), .val (.int (1 : Int32)), .val (.int y618), .val (.int (0 : Int32)), .unset]) at_115 rfl rfl ?_
          refine own_aload (pc' := 119) B X593 at_117 rfl rfl rfl ?_
          refine own_iload (pc' := 121) B X593 at_119 rfl rfl ?_
          refine own_callS (pc' := 124) B X593 (own_w hw 5 rfl) (own_w hw 6 rfl) (own_w hw 7 rfl) (own_w hw 8 rfl) (by decide) [(.ref b5), (.int y3)] [] (rm_4 l Z a0 hw [] b5 kb5 (y533) (i4) (i5) (y3) (y16) h526 n0 (Nat.le_trans Z0 K.1) E_b5 V_b5 g_b5 hy16 hy17) 0 (by decide) (by decide) rfl pd_1 rfl rfl (Nat.le_of_eq rfl) at_121 rfl (k' := 2) (n' := 6) rfl rfl (by decide) (by decide) ?_
          intro T621 v621 h621 X621 q621
          rcases q621 with ⟨y622, y623, hy624, hy625, c626, rfl, rfl⟩ | ⟨y627, y628, hy629, hy630, c631, rfl, rfl⟩
          · obtain rfl : y599 = y622 := (hy601 : (i5.toUInt64 >>> (y16 &&& 0x3f).toInt64.toUInt64).toInt64 = y599).symm.trans hy624
            obtain rfl : y600 = y623 := (hy602 : y599 &&& (1 : Int64) = y600).symm.trans hy625
            exfalso
            have b0 := own_bitT hy601 hy602 rk.1 rk.2 c603
            have b1 := own_bitF hy601 hy602 rk.1 rk.2 c626
            revert b0 b1
            generalize own_tb i5 y16.toInt.toNat = u0
            revert u0
            decide
          · obtain rfl : y599 = y627 := (hy601 : (i5.toUInt64 >>> (y16 &&& 0x3f).toInt64.toUInt64).toInt64 = y599).symm.trans hy629
            obtain rfl : y600 = y628 := (hy602 : y599 &&& (1 : Int64) = y600).symm.trans hy630
            show own_Go p e below (T621.setTop (mkF m 124 #[.val (.int i0), .val (.int i1), .val (.long i2), .second, .val (.long i3), .second, .val (.long i4), .second, .val (.long i5), .second, .val (.int y1), .val (.int y3), .val (.int y4), .val (.ref b5), .val (.ref b9), .val (.int (1 : Int32)), .val (.int y618), .val (.int (0 : Int32)), .unset] [(.int (1 : Int32))])) _
            refine own_istore (pc' := 126) B X621 (Ls' := #[.val (.int i0), .val (.int i1), .val (.long i2), .second, .val (.long i3), .second, .val (.long i4), .second, .val (.long i5), .second, .val (.int y1), .val (.int y3), .val (.int y4), .val (.ref b5), .val (.ref b9), .val (.int (1 : Int32)), .val (.int y618), .val (.int (0 : Int32)), .val (.int (1 : Int32))]) at_124 rfl rfl ?_
            refine own_iload (pc' := 128) B X621 at_126 rfl rfl ?_
            refine own_iload (pc' := 130) B X621 at_128 rfl rfl ?_
            refine own_ifYes (pc' := 138) B X621 at_130 ((if0 _ _).trans (feq (by decide : ¬ ((1 : Int32) = (0 : Int32)))).2) (by decide) rfl ?_
            refine own_iconst (pc' := 139) B X621 (z := (1 : Int32)) at_138 rfl rfl ?_
            refine own_goto (pc' := 143) B X621 at_139 (by decide) rfl ?_
            refine own_icmpNo (pc' := 146) B X621 at_143 (teq (by decide : (1 : Int32) = (1 : Int32))).2 rfl ?_
            refine own_iconst (pc' := 147) B X621 (z := (1 : Int32)) at_146 rfl rfl ?_
            refine own_goto (pc' := 151) B X621 at_147 (by decide) rfl ?_
            exact own_retN B X621 (t := .boolean) (z' := (1 : Int32)) (by simp) (by decide) at_151 (by decide) (by decide) rfl
      · replace K := K.trans K526 (allS (Or.inr sz_b5) all0)
        replace E_b9 := E_b9.keep K526
        replace V_b9 := V_b9.keep K526 (ninS (Ne.symm ne_b5_b9) nin0)
        show own_Go p e below (T526.setTop (mkF m 71 #[.val (.int i0), .val (.int i1), .val (.long i2), .second, .val (.long i3), .second, .val (.long i4), .second, .val (.long i5), .second, .val (.int y1), .val (.int y3), .val (.int y4), .val (.ref b5), .val (.ref b9), .unset, .unset, .unset, .unset] [])) _
        refine own_aload (pc' := 73) B X526 at_71 rfl rfl rfl ?_
        refine own_iload (pc' := 75) B X526 at_73 rfl rfl ?_
        refine own_callS (pc' := 78) B X526 (own_w hw 5 rfl) (own_w hw 6 rfl) (own_w hw 7 rfl) (own_w hw 8 rfl) (by decide) [(.ref b9), (.int y3)] [] (rm_4 l Z a0 hw [] b9 kb9 (i3) (i4) (i5) (y3) (y16) h526 n0 (Nat.le_trans Z0 K.1) E_b9 V_b9 g_b9 hy16 hy17) 0 (by decide) (by decide) rfl pd_1 rfl rfl (Nat.le_of_eq rfl) at_75 rfl (k' := 2) (n' := 6) rfl rfl (by decide) (by decide) ?_
        intro T632 v632 h632 X632 q632
        rcases q632 with ⟨y633, y634, hy635, hy636, c637, rfl, rfl⟩ | ⟨y638, y639, hy640, hy641, c642, rfl, rfl⟩
        · show own_Go p e below (T632.setTop (mkF m 78 #[.val (.int i0), .val (.int i1), .val (.long i2), .second, .val (.long i3), .second, .val (.long i4), .second, .val (.long i5), .second, .val (.int y1), .val (.int y3), .val (.int y4), .val (.ref b5), .val (.ref b9), .unset, .unset, .unset, .unset] [(.int (0 : Int32))])) _
          refine own_istore (pc' := 80) B X632 (Ls' := #[.val (.int i0), .val (.int i1), .val (.long i2), .second, .val (.long i3), .second, .val (.long i4), .second, .val (.long i5), .second, .val (.int y1), .val (.int y3), .val (.int y4), .val (.ref b5), .val (.ref b9), .val (.int (0 : Int32)), .unset, .unset, .unset]) at_78 rfl rfl ?_
          refine own_iload (pc' := 82) B X632 at_80 rfl rfl ?_
          refine own_iload (pc' := 84) B X632 at_82 rfl rfl ?_
          obtain ⟨y643, hy643⟩ : ∃ z : Int32, y3 - y1 = z := ⟨_, rfl⟩
          refine own_isub (pc' := 85) B X632 at_84 rfl hy643 ?_
          refine own_istore (pc' := 87) B X632 (Ls' := #[.val (.int i0), .val (.int i1), .val (.long i2), .second, .val (.long i3), .second, .val (.long i4), .second, .val (.long i5), .second, .val (.int y1), .val (.int y3), .val (.int y4), .val (.ref b5), .val (.ref b9), .val (.int (0 : Int32)), .val (.int y643), .unset, .unset]) at_85 rfl rfl ?_
          have rd : y643.toInt = 64 * 2 + y16.toInt - y14.toInt := own_dist hy643 rp rq rs rk (by decide) (by decide) (by decide)
          refine own_iload (pc' := 89) B X632 at_87 rfl rfl ?_
          have c644 : ¬ (y643 < (0 : Int32)) := by
            have o0 := own_o_mask hy1 7 (by decide) (by decide)
            have o1 := own_o_iushr hy2 7 (by decide) (by decide)
            have o2 := own_o_irem hy3 192 (by decide)
            have o3 := own_o_iadd hy4
            have o4 := own_o_isub hy13
            have o5 := own_o_mask hy14 6 (by decide) (by decide)
            have o6 := own_o_iushr hy15 6 (by decide) (by decide)
            have o7 := own_o_mask hy16 6 (by decide) (by decide)
            have o8 := own_o_iushr hy17 6 (by decide) (by decide)
            have o9 := own_o_isub hy550
            have o10 := own_o_maskL hy636 1 (by decide) (by decide)
            have o11 := own_o_isub hy643
            have o12 := own_neq c549
            have o13 := own_neqL c552
            have o14 := own_eqL c637
            have o15 := rng32 i0
            have o16 := rng32 i1
            have o17 := rng32 y1
            have o18 := rng32 y14
            have o19 := rng32 y16
            have o20 := rng32 y2
            have o21 := rng32 y3
            have o22 := rng32 y4
            have o23 := rng32 y544
            have o24 := rng32 y643
            have o25 := rng64 i2
            have o26 := rng64 i5
            have o27 := rng64 y545
            have o28 := rng64 y633
            have o29 := rng64 y634
            have o30 : (127 : Int32).toInt = 127 := by decide
            have o31 : (7 : Int32).toInt = 7 := by decide
            have o32 : (192 : Int32).toInt = 192 := by decide
            have o33 : (63 : Int32).toInt = 63 := by decide
            have o34 : (6 : Int32).toInt = 6 := by decide
            have o35 : (0 : Int32).toInt = 0 := by decide
            have o36 : (2 : Int32).toInt = 2 := by decide
            have o37 : (64 : Int32).toInt = 64 := by decide
            have o38 : (1 : Int64).toInt = 1 := by decide
            have o39 : (0 : Int64).toInt = 0 := by decide
            refine own_nltI ?_
            omega
          refine own_ifNo (pc' := 92) B X632 at_89 ((if0 _ _).trans (flt c644).1) rfl ?_
          refine own_iload (pc' := 94) B X632 at_92 rfl rfl ?_
          refine own_bipush (pc' := 96) B X632 (z := (64 : Int32)) at_94 rfl (by decide) ?_
          have c645 : ¬ (y643 < (64 : Int32)) := by
            have o0 := own_o_mask hy1 7 (by decide) (by decide)
            have o1 := own_o_iushr hy2 7 (by decide) (by decide)
            have o2 := own_o_irem hy3 192 (by decide)
            have o3 := own_o_iadd hy4
            have o4 := own_o_isub hy13
            have o5 := own_o_mask hy14 6 (by decide) (by decide)
            have o6 := own_o_iushr hy15 6 (by decide) (by decide)
            have o7 := own_o_mask hy16 6 (by decide) (by decide)
            have o8 := own_o_iushr hy17 6 (by decide) (by decide)
            have o9 := own_o_isub hy550
            have o10 := own_o_maskL hy636 1 (by decide) (by decide)
            have o11 := own_o_isub hy643
            have o12 := own_neq c549
            have o13 := own_neqL c552
            have o14 := own_eqL c637
            have o15 := own_nlt c644
            have o16 := rng32 i0
            have o17 := rng32 i1
            have o18 := rng32 y1
            have o19 := rng32 y14
            have o20 := rng32 y16
            have o21 := rng32 y2
            have o22 := rng32 y3
            have o23 := rng32 y4
            have o24 := rng32 y544
            have o25 := rng32 y643
            have o26 := rng64 i2
            have o27 := rng64 i5
            have o28 := rng64 y545
            have o29 := rng64 y633
            have o30 := rng64 y634
            have o31 : (127 : Int32).toInt = 127 := by decide
            have o32 : (7 : Int32).toInt = 7 := by decide
            have o33 : (192 : Int32).toInt = 192 := by decide
            have o34 : (63 : Int32).toInt = 63 := by decide
            have o35 : (6 : Int32).toInt = 6 := by decide
            have o36 : (0 : Int32).toInt = 0 := by decide
            have o37 : (2 : Int32).toInt = 2 := by decide
            have o38 : (64 : Int32).toInt = 64 := by decide
            have o39 : (1 : Int64).toInt = 1 := by decide
            have o40 : (0 : Int64).toInt = 0 := by decide
            refine own_nltI ?_
            omega
          refine own_icmpYes (pc' := 114) B X632 at_96 (flt c645).2.1 (by decide) rfl ?_
          refine own_iconst (pc' := 115) B X632 (z := (0 : Int32)) at_114 rfl rfl ?_
          refine own_istore (pc' := 117) B X632 (Ls' := #[.val (.int i0), .val (.int i1), .val (.long i2), .second, .val (.long i3), .second, .val (.long i4), .second, .val (.long i5), .second, .val (.int y1), .val (.int y3), .val (.int y4), .val (.ref b5), .val (.ref b9), .val (.int (0 : Int32)), .val (.int y643), .val (.int (0 : Int32)), .unset]) at_115 rfl rfl ?_
          refine own_aload (pc' := 119) B X632 at_117 rfl rfl rfl ?_
          refine own_iload (pc' := 121) B X632 at_119 rfl rfl ?_
          refine own_callS (pc' := 124) B X632 (own_w hw 5 rfl) (own_w hw 6 rfl) (own_w hw 7 rfl) (own_w hw 8 rfl) (by decide) [(.ref b5), (.int y3)] [] (rm_4 l Z a0 hw [] b5 kb5 (y543) (y546) (i5) (y3) (y16) h526 n0 (Nat.le_trans Z0 K.1) E_b5 V_b5 g_b5 hy16 hy17) 0 (by decide) (by decide) rfl pd_1 rfl rfl (Nat.le_of_eq rfl) at_121 rfl (k' := 2) (n' := 6) rfl rfl (by decide) (by decide) ?_
          intro T646 v646 h646 X646 q646
          rcases q646 with ⟨y647, y648, hy649, hy650, c651, rfl, rfl⟩ | ⟨y652, y653, hy654, hy655, c656, rfl, rfl⟩
          · obtain rfl : y633 = y647 := (hy635 : (i5.toUInt64 >>> (y16 &&& 0x3f).toInt64.toUInt64).toInt64 = y633).symm.trans hy649
            obtain rfl : y634 = y648 := (hy636 : y633 &&& (1 : Int64) = y634).symm.trans hy650
            show own_Go p e below (T646.setTop (mkF m 124 #[.val (.int i0), .val (.int i1), .val (.long i2), .second, .val (.long i3), .second, .val (.long i4), .second, .val (.long i5), .second, .val (.int y1), .val (.int y3), .val (.int y4), .val (.ref b5), .val (.ref b9), .val (.int (0 : Int32)), .val (.int y643), .val (.int (0 : Int32)), .unset] [(.int (0 : Int32))])) _
            refine own_istore (pc' := 126) B X646 (Ls' := #[.val (.int i0), .val (.int i1), .val (.long i2), .second, .val (.long i3), .second, .val (.long i4), .second, .val (.long i5), .second, .val (.int y1), .val (.int y3), .val (.int y4), .val (.ref b5), .val (.ref b9), .val (.int (0 : Int32)), .val (.int y643), .val (.int (0 : Int32)), .val (.int (0 : Int32))]) at_124 rfl rfl ?_
            refine own_iload (pc' := 128) B X646 at_126 rfl rfl ?_
            refine own_iload (pc' := 130) B X646 at_128 rfl rfl ?_
            refine own_ifNo (pc' := 133) B X646 at_130 ((if0 _ _).trans (teq (by decide : (0 : Int32) = (0 : Int32))).2) rfl ?_
            refine own_iload (pc' := 135) B X646 at_133 rfl rfl ?_
            refine own_ifYes (pc' := 142) B X646 at_135 ((if0 _ _).trans (teq (by decide : (0 : Int32) = (0 : Int32))).1) (by decide) rfl ?_
            refine own_iconst (pc' := 143) B X646 (z := (0 : Int32)) at_142 rfl rfl ?_
            refine own_icmpNo (pc' := 146) B X646 at_143 (teq (by decide : (0 : Int32) = (0 : Int32))).2 rfl ?_
            refine own_iconst (pc' := 147) B X646 (z := (1 : Int32)) at_146 rfl rfl ?_
            refine own_goto (pc' := 151) B X646 at_147 (by decide) rfl ?_
            exact own_retN B X646 (t := .boolean) (z' := (1 : Int32)) (by simp) (by decide) at_151 (by decide) (by decide) rfl
          · obtain rfl : y633 = y652 := (hy635 : (i5.toUInt64 >>> (y16 &&& 0x3f).toInt64.toUInt64).toInt64 = y633).symm.trans hy654
            obtain rfl : y634 = y653 := (hy636 : y633 &&& (1 : Int64) = y634).symm.trans hy655
            exfalso
            have b0 := own_bitF hy635 hy636 rk.1 rk.2 c637
            have b1 := own_bitT hy635 hy636 rk.1 rk.2 c656
            revert b0 b1
            generalize own_tb i5 y16.toInt.toNat = u0
            revert u0
            decide
        · show own_Go p e below (T632.setTop (mkF m 78 #[.val (.int i0), .val (.int i1), .val (.long i2), .second, .val (.long i3), .second, .val (.long i4), .second, .val (.long i5), .second, .val (.int y1), .val (.int y3), .val (.int y4), .val (.ref b5), .val (.ref b9), .unset, .unset, .unset, .unset] [(.int (1 : Int32))])) _
          refine own_istore (pc' := 80) B X632 (Ls' := #[.val (.int i0), .val (.int i1), .val (.long i2), .second, .val (.long i3), .second, .val (.long i4), .second, .val (.long i5), .second, .val (.int y1), .val (.int y3), .val (.int y4), .val (.ref b5), .val (.ref b9), .val (.int (1 : Int32)), .unset, .unset, .unset]) at_78 rfl rfl ?_
          refine own_iload (pc' := 82) B X632 at_80 rfl rfl ?_
          refine own_iload (pc' := 84) B X632 at_82 rfl rfl ?_
          obtain ⟨y657, hy657⟩ : ∃ z : Int32, y3 - y1 = z := ⟨_, rfl⟩
          refine own_isub (pc' := 85) B X632 at_84 rfl hy657 ?_
          refine own_istore (pc' := 87) B X632 (Ls' := #[.val (.int i0), .val (.int i1), .val (.long i2), .second, .val (.long i3), .second, .val (.long i4), .second, .val (.long i5), .second, .val (.int y1), .val (.int y3), .val (.int y4), .val (.ref b5), .val (.ref b9), .val (.int (1 : Int32)), .val (.int y657), .unset, .unset]) at_85 rfl rfl ?_
          have rd : y657.toInt = 64 * 2 + y16.toInt - y14.toInt := own_dist hy657 rp rq rs rk (by decide) (by decide) (by decide)
          refine own_iload (pc' := 89) B X632 at_87 rfl rfl ?_
          have c658 : ¬ (y657 < (0 : Int32)) := by
            have o0 := own_o_mask hy1 7 (by decide) (by decide)
            have o1 := own_o_iushr hy2 7 (by decide) (by decide)
            have o2 := own_o_irem hy3 192 (by decide)
            have o3 := own_o_iadd hy4
            have o4 := own_o_isub hy13
            have o5 := own_o_mask hy14 6 (by decide) (by decide)
            have o6 := own_o_iushr hy15 6 (by decide) (by decide)
            have o7 := own_o_mask hy16 6 (by decide) (by decide)
            have o8 := own_o_iushr hy17 6 (by decide) (by decide)
            have o9 := own_o_isub hy550
            have o10 := own_o_maskL hy641 1 (by decide) (by decide)
            have o11 := own_o_isub hy657
            have o12 := own_neq c549
            have o13 := own_neqL c552
            have o14 := own_neqL c642
            have o15 := rng32 i0
            have o16 := rng32 i1
            have o17 := rng32 y1
            have o18 := rng32 y14
            have o19 := rng32 y16
            have o20 := rng32 y2
            have o21 := rng32 y3
            have o22 := rng32 y4
            have o23 := rng32 y544
            have o24 := rng32 y657
            have o25 := rng64 i2
            have o26 := rng64 i5
            have o27 := rng64 y545
            have o28 := rng64 y638
            have o29 := rng64 y639
            have o30 : (127 : Int32).toInt = 127 := by decide
            have o31 : (7 : Int32).toInt = 7 := by decide
            have o32 : (192 : Int32).toInt = 192 := by decide
            have o33 : (63 : Int32).toInt = 63 := by decide
            have o34 : (6 : Int32).toInt = 6 := by decide
            have o35 : (0 : Int32).toInt = 0 := by decide
            have o36 : (2 : Int32).toInt = 2 := by decide
            have o37 : (64 : Int32).toInt = 64 := by decide
            have o38 : (1 : Int64).toInt = 1 := by decide
            have o39 : (0 : Int64).toInt = 0 := by decide
            refine own_nltI ?_
            omega
          refine own_ifNo (pc' := 92) B X632 at_89 ((if0 _ _).trans (flt c658).1) rfl ?_
          refine own_iload (pc' := 94) B X632 at_92 rfl rfl ?_
          refine own_bipush (pc' := 96) B X632 (z := (64 : Int32)) at_94 rfl (by decide) ?_
          have c659 : ¬ (y657 < (64 : Int32)) := by
            have o0 := own_o_mask hy1 7 (by decide) (by decide)
            have o1 := own_o_iushr hy2 7 (by decide) (by decide)
            have o2 := own_o_irem hy3 192 (by decide)
            have o3 := own_o_iadd hy4
            have o4 := own_o_isub hy13
            have o5 := own_o_mask hy14 6 (by decide) (by decide)
            have o6 := own_o_iushr hy15 6 (by decide) (by decide)
            have o7 := own_o_mask hy16 6 (by decide) (by decide)
            have o8 := own_o_iushr hy17 6 (by decide) (by decide)
            have o9 := own_o_isub hy550
            have o10 := own_o_maskL hy641 1 (by decide) (by decide)
            have o11 := own_o_isub hy657
            have o12 := own_neq c549
            have o13 := own_neqL c552
            have o14 := own_neqL c642
            have o15 := own_nlt c658
            have o16 := rng32 i0
            have o17 := rng32 i1
            have o18 := rng32 y1
            have o19 := rng32 y14
            have o20 := rng32 y16
            have o21 := rng32 y2
            have o22 := rng32 y3
            have o23 := rng32 y4
            have o24 := rng32 y544
            have o25 := rng32 y657
            have o26 := rng64 i2
            have o27 := rng64 i5
            have o28 := rng64 y545
            have o29 := rng64 y638
            have o30 := rng64 y639
            have o31 : (127 : Int32).toInt = 127 := by decide
            have o32 : (7 : Int32).toInt = 7 := by decide
            have o33 : (192 : Int32).toInt = 192 := by decide
            have o34 : (63 : Int32).toInt = 63 := by decide
            have o35 : (6 : Int32).toInt = 6 := by decide
            have o36 : (0 : Int32).toInt = 0 := by decide
            have o37 : (2 : Int32).toInt = 2 := by decide
            have o38 : (64 : Int32).toInt = 64 := by decide
            have o39 : (1 : Int64).toInt = 1 := by decide
            have o40 : (0 : Int64).toInt = 0 := by decide
            refine own_nltI ?_
            omega
          refine own_icmpYes (pc' := 114) B X632 at_96 (flt c659).2.1 (by decide) rfl ?_
          refine own_iconst (pc' := 115) B X632 (z := (0 : Int32)) at_114 rfl rfl ?_
          refine own_istore (pc' := 117) B X632 (Ls' := #[.val (.int i0), .val (.int i1), .val (.long i2), .second, .val (.long i3), .second, .val (.long i4), .second, .val (.long i5), .second, .val (.int y1), .val (.int y3), .val (.int y4), .val (.ref b5), .val (.ref b9), .val (.int (1 : Int32)), .val (.int y657), .val (.int (0 : Int32)), .unset]) at_115 rfl rfl ?_
          refine own_aload (pc' := 119) B X632 at_117 rfl rfl rfl ?_
          refine own_iload (pc' := 121) B X632 at_119 rfl rfl ?_
          refine own_callS (pc' := 124) B X632 (own_w hw 5 rfl) (own_w hw 6 rfl) (own_w hw 7 rfl) (own_w hw 8 rfl) (by decide) [(.ref b5), (.int y3)] [] (rm_4 l Z a0 hw [] b5 kb5 (y543) (y546) (i5) (y3) (y16) h526 n0 (Nat.le_trans Z0 K.1) E_b5 V_b5 g_b5 hy16 hy17) 0 (by decide) (by decide) rfl pd_1 rfl rfl (Nat.le_of_eq rfl) at_121 rfl (k' := 2) (n' := 6) rfl rfl (by decide) (by decide) ?_
          intro T660 v660 h660 X660 q660
          rcases q660 with ⟨y661, y662, hy663, hy664, c665, rfl, rfl⟩ | ⟨y666, y667, hy668, hy669, c670, rfl, rfl⟩
          · obtain rfl : y638 = y661 := (hy640 : (i5.toUInt64 >>> (y16 &&& 0x3f).toInt64.toUInt64).toInt64 = y638).symm.trans hy663
            obtain rfl : y639 = y662 := (hy641 : y638 &&& (1 : Int64) = y639).symm.trans hy664
            exfalso
            have b0 := own_bitT hy640 hy641 rk.1 rk.2 c642
            have b1 := own_bitF hy640 hy641 rk.1 rk.2 c665
            revert b0 b1
            generalize own_tb i5 y16.toInt.toNat = u0
            revert u0
            decide
          · obtain rfl : y638 = y666 := (hy640 : (i5.toUInt64 >>> (y16 &&& 0x3f).toInt64.toUInt64).toInt64 = y638).symm.trans hy668
            obtain rfl : y639 = y667 := (hy641 : y638 &&& (1 : Int64) = y639).symm.trans hy669
            show own_Go p e below (T660.setTop (mkF m 124 #[.val (.int i0), .val (.int i1), .val (.long i2), .second, .val (.long i3), .second, .val (.long i4), .second, .val (.long i5), .second, .val (.int y1), .val (.int y3), .val (.int y4), .val (.ref b5), .val (.ref b9), .val (.int (1 : Int32)), .val (.int y657), .val (.int (0 : Int32)), .unset] [(.int (1 : Int32))])) _
            refine own_istore (pc' := 126) B X660 (Ls' := #[.val (.int i0), .val (.int i1), .val (.long i2), .second, .val (.long i3), .second, .val (.long i4), .second, .val (.long i5), .second, .val (.int y1), .val (.int y3), .val (.int y4), .val (.ref b5), .val (.ref b9), .val (.int (1 : Int32)), .val (.int y657), .val (.int (0 : Int32)), .val (.int (1 : Int32))]) at_124 rfl rfl ?_
            refine own_iload (pc' := 128) B X660 at_126 rfl rfl ?_
            refine own_iload (pc' := 130) B X660 at_128 rfl rfl ?_
            refine own_ifYes (pc' := 138) B X660 at_130 ((if0 _ _).trans (feq (by decide : ¬ ((1 : Int32) = (0 : Int32)))).2) (by decide) rfl ?_
            refine own_iconst (pc' := 139) B X660 (z := (1 : Int32)) at_138 rfl rfl ?_
            refine own_goto (pc' := 143) B X660 at_139 (by decide) rfl ?_
            refine own_icmpNo (pc' := 146) B X660 at_143 (teq (by decide : (1 : Int32) = (1 : Int32))).2 rfl ?_
            refine own_iconst (pc' := 147) B X660 (z := (1 : Int32)) at_146 rfl rfl ?_
            refine own_goto (pc' := 151) B X660 at_147 (by decide) rfl ?_
            exact own_retN B X660 (t := .boolean) (z' := (1 : Int32)) (by simp) (by decide) at_151 (by decide) (by decide) rfl
  · obtain rfl : y15 = (1 : Int32) := Int32.toInt_inj.mp (z18.trans (by decide))
    have z671 : y17.toInt = 0 ∨ y17.toInt = 1 ∨ y17.toInt = 2 := by
      have o0 := own_o_iushr hy2 7 (by decide) (by decide)
      have o1 := own_o_irem hy3 192 (by decide)
      have o2 := own_o_iushr hy17 6 (by decide) (by decide)
      have o3 := rng32 i1
      have o4 := rng32 y17
      have o5 := rng32 y2
      have o6 := rng32 y3
      have o7 : (7 : Int32).toInt = 7 := by decide
      have o8 : (192 : Int32).toInt = 192 := by decide
      have o9 : (6 : Int32).toInt = 6 := by decide
      omega
    rcases z671 with z671 | z671 | z671
    · obtain rfl : y17 = (0 : Int32) := Int32.toInt_inj.mp (z671.trans (by decide))
      refine own_aload (pc' := 64) B X12 at_62 rfl rfl rfl ?_
      have rs : 0 ≤ y14.toInt ∧ y14.toInt < 64 := by
        have o0 := own_o_mask hy1 7 (by decide) (by decide)
        have o1 := own_o_iushr hy2 7 (by decide) (by decide)
        have o2 := own_o_irem hy3 192 (by decide)
        have o3 := own_o_iadd hy4
        have o4 := own_o_isub hy13
        have o5 := own_o_mask hy14 6 (by decide) (by decide)
        have o6 := own_o_iushr hy15 6 (by decide) (by decide)
        have o7 := own_o_mask hy16 6 (by decide) (by decide)
        have o8 := own_o_iushr hy17 6 (by decide) (by decide)
        have o9 := rng32 i0
        have o10 := rng32 i1
        have o11 := rng32 y1
        have o12 := rng32 y14
        have o13 := rng32 y16
        have o14 := rng32 y2
        have o15 := rng32 y3
        have o16 := rng32 y4
        have o17 : (127 : Int32).toInt = 127 := by decide
        have o18 : (7 : Int32).toInt = 7 := by decide
        have o19 : (192 : Int32).toInt = 192 := by decide
        have o20 : (63 : Int32).toInt = 63 := by decide
        have o21 : (6 : Int32).toInt = 6 := by decide
        have o22 : (1 : Int32).toInt = 1 := by decide
        have o23 : (0 : Int32).toInt = 0 := by decide
        omega
      have rk : 0 ≤ y16.toInt ∧ y16.toInt < 64 := by
        have o0 := own_o_mask hy1 7 (by decide) (by decide)
        have o1 := own_o_iushr hy2 7 (by decide) (by decide)
        have o2 := own_o_irem hy3 192 (by decide)
        have o3 := own_o_iadd hy4
        have o4 := own_o_isub hy13
        have o5 := own_o_mask hy14 6 (by decide) (by decide)
        have o6 := own_o_iushr hy15 6 (by decide) (by decide)
        have o7 := own_o_mask hy16 6 (by decide) (by decide)
        have o8 := own_o_iushr hy17 6 (by decide) (by decide)
        have o9 := rng32 i0
        have o10 := rng32 i1
        have o11 := rng32 y1
        have o12 := rng32 y14
        have o13 := rng32 y16
        have o14 := rng32 y2
        have o15 := rng32 y3
        have o16 := rng32 y4
        have o17 : (127 : Int32).toInt = 127 := by decide
        have o18 : (7 : Int32).toInt = 7 := by decide
        have o19 : (192 : Int32).toInt = 192 := by decide
        have o20 : (63 : Int32).toInt = 63 := by decide
        have o21 : (6 : Int32).toInt = 6 := by decide
        have o22 : (1 : Int32).toInt = 1 := by decide
        have o23 : (0 : Int32).toInt = 0 := by decide
        omega
      have rp : y1.toInt = 64 * 1 + y14.toInt := by
        have o0 := own_o_mask hy1 7 (by decide) (by decide)
        have o1 := own_o_iushr hy2 7 (by decide) (by decide)
        have o2 := own_o_irem hy3 192 (by decide)
        have o3 := own_o_iadd hy4
        have o4 := own_o_isub hy13
        have o5 := own_o_mask hy14 6 (by decide) (by decide)
        have o6 := own_o_iushr hy15 6 (by decide) (by decide)
        have o7 := own_o_mask hy16 6 (by decide) (by decide)
        have o8 := own_o_iushr hy17 6 (by decide) (by decide)
        have o9 := rng32 i0
        have o10 := rng32 i1
        have o11 := rng32 y1
        have o12 := rng32 y14
        have o13 := rng32 y16
        have o14 := rng32 y2
        have o15 := rng32 y3
        have o16 := rng32 y4
        have o17 : (127 : Int32).toInt = 127 := by decide
        have o18 : (7 : Int32).toInt = 7 := by decide
        have o19 : (192 : Int32).toInt = 192 := by decide
        have o20 : (63 : Int32).toInt = 63 := by decide
        have o21 : (6 : Int32).toInt = 6 := by decide
        have o22 : (1 : Int32).toInt = 1 := by decide
        have o23 : (0 : Int32).toInt = 0 := by decide
        omega
      have rq : y3.toInt = 64 * 0 + y16.toInt := by
        have o0 := own_o_mask hy1 7 (by decide) (by decide)
        have o1 := own_o_iushr hy2 7 (by decide) (by decide)
        have o2 := own_o_irem hy3 192 (by decide)
        have o3 := own_o_iadd hy4
        have o4 := own_o_isub hy13
        have o5 := own_o_mask hy14 6 (by decide) (by decide)
        have o6 := own_o_iushr hy15 6 (by decide) (by decide)
        have o7 := own_o_mask hy16 6 (by decide) (by decide)
        have o8 := own_o_iushr hy17 6 (by decide) (by decide)
        have o9 := rng32 i0
        have o10 := rng32 i1
        have o11 := rng32 y1
        have o12 := rng32 y14
        have o13 := rng32 y16
        have o14 := rng32 y2
        have o15 := rng32 y3
        have o16 := rng32 y4
        have o17 : (127 : Int32).toInt = 127 := by decide
        have o18 : (7 : Int32).toInt = 7 := by decide
        have o19 : (192 : Int32).toInt = 192 := by decide
        have o20 : (63 : Int32).toInt = 63 := by decide
        have o21 : (6 : Int32).toInt = 6 := by decide
        have o22 : (1 : Int32).toInt = 1 := by decide
        have o23 : (0 : Int32).toInt = 0 := by decide
        omega
      refine own_iloadN (pc' := 65) B X12 at_64 rfl rfl ?_
      refine own_iload (pc' := 67) B X12 at_65 rfl rfl ?_
      refine own_lloadN (pc' := 68) B X12 at_67 rfl rfl ?_
      refine own_callS (pc' := 71) B X12 (own_w hw 1 rfl) (own_w hw 2 rfl) (own_w hw 3 rfl) (own_w hw 4 rfl) (by decide) [(.ref b5), (.int i0), (.int y4), (.long i2)] [] (rm_5 l Z a0 hw [] b5 kb5 (i3) (i4) (i5) (i0) (y4) (i2) (y1) (y14) h12 n0 (Nat.le_trans Z0 K.1) E_b5 V_b5 g_b5 hy13 hy14 hy15) 0 (by decide) (by decide) rfl pd_0 rfl rfl (Nat.le_of_eq rfl) at_68 rfl (k' := 2) (n' := 6) rfl rfl (by decide) (by decide) ?_
      intro T672 v672 h672 X672 q672
      rcases q672 with ⟨y673, y674, hy675, hy676, c677, rfl, K672, E_b5, V_b5⟩ | ⟨y678, y679, y680, y681, hy682, hy683, c684, hy685, hy686, c687, rfl, K672, E_b5, V_b5⟩ | ⟨y688, y689, y690, y691, y692, hy693, hy694, c695, hy696, hy697, c698, hy699, rfl, K672, E_b5, V_b5⟩
      · replace K := K.trans K672 (allS (Or.inr sz_b5) all0)
        replace E_b9 := E_b9.keep K672
        replace V_b9 := V_b9.keep K672 (ninS (Ne.symm ne_b5_b9) nin0)
        show own_Go p e below (T672.setTop (mkF m 71 #[.val (.int i0), .val (.int i1), .val (.long i2), .second, .val (.long i3), .second, .val (.long i4), .second, .val (.long i5), .second, .val (.int y1), .val (.int y3), .val (.int y4), .val (.ref b5), .val (.ref b9), .unset, .unset, .unset, .unset] [])) _
        refine own_aload (pc' := 73) B X672 at_71 rfl rfl rfl ?_
        refine own_iload (pc' := 75) B X672 at_73 rfl rfl ?_
        refine own_callS (pc' := 78) B X672 (own_w hw 5 rfl) (own_w hw 6 rfl) (own_w hw 7 rfl) (own_w hw 8 rfl) (by decide) [(.ref b9), (.int y3)] [] (rm_2 l Z a0 hw [] b9 kb9 (i3) (i4) (i5) (y3) (y16) h672 n0 (Nat.le_trans Z0 K.1) E_b9 V_b9 g_b9 hy16 hy17) 0 (by decide) (by decide) rfl pd_1 rfl rfl (Nat.le_of_eq rfl) at_75 rfl (k' := 2) (n' := 6) rfl rfl (by decide) (by decide) ?_
        intro T700 v700 h700 X700 q700
        rcases q700 with ⟨y701, y702, hy703, hy704, c705, rfl, rfl⟩ | ⟨y706, y707, hy708, hy709, c710, rfl, rfl⟩
        · show own_Go p e below (T700.setTop (mkF m 78 #[.val (.int i0), .val (.int i1), .val (.long i2), .second, .val (.long i3), .second, .val (.long i4), .second, .val (.long i5), .second, .val (.int y1), .val (.int y3), .val (.int y4), .val (.ref b5), .val (.ref b9), .unset, .unset, .unset, .unset] [(.int (0 : Int32))])) _
          refine own_istore (pc' := 80) B X700 (Ls' := #[.val (.int i0), .val (.int i1), .val (.long i2), .second, .val (.long i3), .second, .val (.long i4), .second, .val (.long i5), .second, .val (.int y1), .val (.int y3), .val (.int y4), .val (.ref b5), .val (.ref b9), .val (.int (0 : Int32)), .unset, .unset, .unset]) at_78 rfl rfl ?_
          refine own_iload (pc' := 82) B X700 at_80 rfl rfl ?_
          refine own_iload (pc' := 84) B X700 at_82 rfl rfl ?_
          obtain ⟨y711, hy711⟩ : ∃ z : Int32, y3 - y1 = z := ⟨_, rfl⟩
          refine own_isub (pc' := 85) B X700 at_84 rfl hy711 ?_
          refine own_istore (pc' := 87) B X700 (Ls' := #[.val (.int i0), .val (.int i1), .val (.long i2), .second, .val (.long i3), .second, .val (.long i4), .second, .val (.long i5), .second, .val (.int y1), .val (.int y3), .val (.int y4), .val (.ref b5), .val (.ref b9), .val (.int (0 : Int32)), .val (.int y711), .unset, .unset]) at_85 rfl rfl ?_
          have rd : y711.toInt = 64 * (-1) + y16.toInt - y14.toInt := own_dist hy711 rp rq rs rk (by decide) (by decide) (by decide)
          refine own_iload (pc' := 89) B X700 at_87 rfl rfl ?_
          have c712 : y711 < (0 : Int32) := by
            have o0 := own_o_mask hy1 7 (by decide) (by decide)
            have o1 := own_o_iushr hy2 7 (by decide) (by decide)
            have o2 := own_o_irem hy3 192 (by decide)
            have o3 := own_o_iadd hy4
            have o4 := own_o_isub hy13
            have o5 := own_o_mask hy14 6 (by decide) (by decide)
            have o6 := own_o_iushr hy15 6 (by decide) (by decide)
            have o7 := own_o_mask hy16 6 (by decide) (by decide)
            have o8 := own_o_iushr hy17 6 (by decide) (by decide)
            have o9 := own_o_maskL hy704 1 (by decide) (by decide)
            have o10 := own_o_isub hy711
            have o11 := own_eq c677
            have o12 := own_eqL c705
            have o13 := rng32 i0
            have o14 := rng32 i1
            have o15 := rng32 y1
            have o16 := rng32 y14
            have o17 := rng32 y16
            have o18 := rng32 y2
            have o19 := rng32 y3
            have o20 := rng32 y4
            have o21 := rng32 y711
            have o22 := rng64 i3
            have o23 := rng64 y701
            have o24 := rng64 y702
            have o25 : (127 : Int32).toInt = 127 := by decide
            have o26 : (7 : Int32).toInt = 7 := by decide
            have o27 : (192 : Int32).toInt = 192 := by decide
            have o28 : (63 : Int32).toInt = 63 := by decide
            have o29 : (6 : Int32).toInt = 6 := by decide
            have o30 : (1 : Int32).toInt = 1 := by decide
            have o31 : (0 : Int32).toInt = 0 := by decide
            have o32 : (1 : Int64).toInt = 1 := by decide
            have o33 : (0 : Int64).toInt = 0 := by decide
            refine own_ltI ?_
            omega
          refine own_ifYes (pc' := 114) B X700 at_89 ((if0 _ _).trans (tlt c712).1) (by decide) rfl ?_
          refine own_iconst (pc' := 115) B X700 (z := (0 : Int32)) at_114 rfl rfl ?_
          refine own_istore (pc' := 117) B X700 (Ls' := #[.val (.int i0), .val (.int i1), .val (.long i2), .second, .val (.long i3), .second, .val (.long i4), .second, .val (.long i5), .second, .val (.int y1), .val (.int y3), .val (.int y4), .val (.ref b5), .val (.ref b9), .val (.int (0 : Int32)), .val (.int y711), .val (.int (0 : Int32)), .unset]) at_115 rfl rfl ?_
          refine own_aload (pc' := 119) B X700 at_117 rfl rfl rfl ?_
          refine own_iload (pc' := 121) B X700 at_119 rfl rfl ?_
          refine own_callS (pc' := 124) B X700 (own_w hw 5 rfl) (own_w hw 6 rfl) (own_w hw 7 rfl) (own_w hw 8 rfl) (by decide) [(.ref b5), (.int y3)] [] (rm_2 l Z a0 hw [] b5 kb5 (i3) (y674) (i5) (y3) (y16) h672 n0 (Nat.le_trans Z0 K.1) E_b5 V_b5 g_b5 hy16 hy17) 0 (by decide) (by decide) rfl pd_1 rfl rfl (Nat.le_of_eq rfl) at_121 rfl (k' := 2) (n' := 6) rfl rfl (by decide) (by decide) ?_
          intro T713 v713 h713 X713 q713
          rcases q713 with ⟨y714, y715, hy716, hy717, c718, rfl, rfl⟩ | ⟨y719, y720, hy721, hy722, c723, rfl, rfl⟩
          · obtain rfl : y701 = y714 := (hy703 : (i3.toUInt64 >>> (y16 &&& 0x3f).toInt64.toUInt64).toInt64 = y701).symm.trans hy716
            obtain rfl : y702 = y715 := (hy704 : y701 &&& (1 : Int64) = y702).symm.trans hy717
            show own_Go p e below (T713.setTop (mkF m 124 #[.val (.int i0), .val (.int i1), .val (.long i2), .second, .val (.long i3), .second, .val (.long i4), .second, .val (.long i5), .second, .val (.int y1), .val (.int y3), .val (.int y4), .val (.ref b5), .val (.ref b9), .val (.int (0 : Int32)), .val (.int y711), .val (.int (0 : Int32)), .unset] [(.int (0 : Int32))])) _
            refine own_istore (pc' := 126) B X713 (Ls' := #[.val (.int i0), .val (.int i1), .val (.long i2), .second, .val (.long i3), .second, .val (.long i4), .second, .val (.long i5), .second, .val (.int y1), .val (.int y3), .val (.int y4), .val (.ref b5), .val (.ref b9), .val (.int (0 : Int32)), .val (.int y711), .val (.int (0 : Int32)), .val (.int (0 : Int32))]) at_124 rfl rfl ?_
            refine own_iload (pc' := 128) B X713 at_126 rfl rfl ?_
            refine own_iload (pc' := 130) B X713 at_128 rfl rfl ?_
            refine own_ifNo (pc' := 133) B X713 at_130 ((if0 _ _).trans (teq (by decide : (0 : Int32) = (0 : Int32))).2) rfl ?_
            refine own_iload (pc' := 135) B X713 at_133 rfl rfl ?_
            refine own_ifYes (pc' := 142) B X713 at_135 ((if0 _ _).trans (teq (by decide : (0 : Int32) = (0 : Int32))).1) (by decide) rfl ?_
            refine own_iconst (pc' := 143) B X713 (z := (0 : Int32)) at_142 rfl rfl ?_
            refine own_icmpNo (pc' := 146) B X713 at_143 (teq (by decide : (0 : Int32) = (0 : Int32))).2 rfl ?_
            refine own_iconst (pc' := 147) B X713 (z := (1 : Int32)) at_146 rfl rfl ?_
            refine own_goto (pc' := 151) B X713 at_147 (by decide) rfl ?_
            exact own_retN B X713 (t := .boolean) (z' := (1 : Int32)) (by simp) (by decide) at_151 (by decide) (by decide) rfl
          · obtain rfl : y701 = y719 := (hy703 : (i3.toUInt64 >>> (y16 &&& 0x3f).toInt64.toUInt64).toInt64 = y701).symm.trans hy721
            obtain rfl : y702 = y720 := (hy704 : y701 &&& (1 : Int64) = y702).symm.trans hy722
            exfalso
            have b0 := own_bitF hy703 hy704 rk.1 rk.2 c705
            have b1 := own_bitT hy703 hy704 rk.1 rk.2 c723
            revert b0 b1
            generalize own_tb i3 y16.toInt.toNat = u0
            revert u0
            decide
        · show own_Go p e below (T700.setTop (mkF m 78 #[.val (.int i0), .val (.int i1), .val (.long i2), .second, .val (.long i3), .second, .val (.long i4), .second, .val (.long i5), .second, .val (.int y1), .val (.int y3), .val (.int y4), .val (.ref b5), .val (.ref b9), .unset, .unset, .unset, .unset] [(.int (1 : Int32))])) _
          refine own_istore (pc' := 80) B X700 (Ls' := #[.val (.int i0), .val (.int i1), .val (.long i2), .second, .val (.long i3), .second, .val (.long i4), .second, .val (.long i5), .second, .val (.int y1), .val (.int y3), .val (.int y4), .val (.ref b5), .val (.ref b9), .val (.int (1 : Int32)), .unset, .unset, .unset]) at_78 rfl rfl ?_
          refine own_iload (pc' := 82) B X700 at_80 rfl rfl ?_
          refine own_iload (pc' := 84) B X700 at_82 rfl rfl ?_
          obtain ⟨y724, hy724⟩ : ∃ z : Int32, y3 - y1 = z := ⟨_, rfl⟩
          refine own_isub (pc' := 85) B X700 at_84 rfl hy724 ?_
          refine own_istore (pc' := 87) B X700 (Ls' := #[.val (.int i0), .val (.int i1), .val (.long i2), .second, .val (.long i3), .second, .val (.long i4), .second, .val (.long i5), .second, .val (.int y1), .val (.int y3), .val (.int y4), .val (.ref b5), .val (.ref b9), .val (.int (1 : Int32)), .val (.int y724), .unset, .unset]) at_85 rfl rfl ?_
          have rd : y724.toInt = 64 * (-1) + y16.toInt - y14.toInt := own_dist hy724 rp rq rs rk (by decide) (by decide) (by decide)
          refine own_iload (pc' := 89) B X700 at_87 rfl rfl ?_
          have c725 : y724 < (0 : Int32) := by
            have o0 := own_o_mask hy1 7 (by decide) (by decide)
            have o1 := own_o_iushr hy2 7 (by decide) (by decide)
            have o2 := own_o_irem hy3 192 (by decide)
            have o3 := own_o_iadd hy4
            have o4 := own_o_isub hy13
            have o5 := own_o_mask hy14 6 (by decide) (by decide)
            have o6 := own_o_iushr hy15 6 (by decide) (by decide)
            have o7 := own_o_mask hy16 6 (by decide) (by decide)
            have o8 := own_o_iushr hy17 6 (by decide) (by decide)
            have o9 := own_o_maskL hy709 1 (by decide) (by decide)
            have o10 := own_o_isub hy724
            have o11 := own_eq c677
            have o12 := own_neqL c710
            have o13 := rng32 i0
            have o14 := rng32 i1
            have o15 := rng32 y1
            have o16 := rng32 y14
            have o17 := rng32 y16
            have o18 := rng32 y2
            have o19 := rng32 y3
            have o20 := rng32 y4
            have o21 := rng32 y724
            have o22 := rng64 i3
            have o23 := rng64 y706
            have o24 := rng64 y707
            have o25 : (127 : Int32).toInt = 127 := by decide
            have o26 : (7 : Int32).toInt = 7 := by decide
            have o27 : (192 : Int32).toInt = 192 := by decide
            have o28 : (63 : Int32).toInt = 63 := by decide
            have o29 : (6 : Int32).toInt = 6 := by decide
            have o30 : (1 : Int32).toInt = 1 := by decide
            have o31 : (0 : Int32).toInt = 0 := by decide
            have o32 : (1 : Int64).toInt = 1 := by decide
            have o33 : (0 : Int64).toInt = 0 := by decide
            refine own_ltI ?_
            omega
          refine own_ifYes (pc' := 114) B X700 at_89 ((if0 _ _).trans (tlt c725).1) (by decide) rfl ?_
          refine own_iconst (pc' := 115) B X700 (z := (0 : Int32)) at_114 rfl rfl ?_
          refine own_istore (pc' := 117) B X700 (Ls' := #[.val (.int i0), .val (.int i1), .val (.long i2), .second, .val (.long i3), .second, .val (.long i4), .second, .val (.long i5), .second, .val (.int y1), .val (.int y3), .val (.int y4), .val (.ref b5), .val (.ref b9), .val (.int (1 : Int32)), .val (.int y724), .val (.int (0 : Int32)), .unset]) at_115 rfl rfl ?_
          refine own_aload (pc' := 119) B X700 at_117 rfl rfl rfl ?_
          refine own_iload (pc' := 121) B X700 at_119 rfl rfl ?_
          refine own_callS (pc' := 124) B X700 (own_w hw 5 rfl) (own_w hw 6 rfl) (own_w hw 7 rfl) (own_w hw 8 rfl) (by decide) [(.ref b5), (.int y3)] [] (rm_2 l Z a0 hw [] b5 kb5 (i3) (y674) (i5) (y3) (y16) h672 n0 (Nat.le_trans Z0 K.1) E_b5 V_b5 g_b5 hy16 hy17) 0 (by decide) (by decide) rfl pd_1 rfl rfl (Nat.le_of_eq rfl) at_121 rfl (k' := 2) (n' := 6) rfl rfl (by decide) (by decide) ?_
          intro T726 v726 h726 X726 q726
          rcases q726 with ⟨y727, y728, hy729, hy730, c731, rfl, rfl⟩ | ⟨y732, y733, hy734, hy735, c736, rfl, rfl⟩
          · obtain rfl : y706 = y727 := (hy708 : (i3.toUInt64 >>> (y16 &&& 0x3f).toInt64.toUInt64).toInt64 = y706).symm.trans hy729
            obtain rfl : y707 = y728 := (hy709 : y706 &&& (1 : Int64) = y707).symm.trans hy730
            exfalso
            have b0 := own_bitT hy708 hy709 rk.1 rk.2 c710
            have b1 := own_bitF hy708 hy709 rk.1 rk.2 c731
            revert b0 b1
            generalize own_tb i3 y16.toInt.toNat = u0
            revert u0
            decide
          · obtain rfl : y706 = y732 := (hy708 : (i3.toUInt64 >>> (y16 &&& 0x3f).toInt64.toUInt64).toInt64 = y706).symm.trans hy734
            obtain rfl : y707 = y733 := (hy709 : y706 &&& (1 : Int64) = y707).symm.trans hy735
            show own_Go p e below (T726.setTop (mkF m 124 #[.val (.int i0), .val (.int i1), .val (.long i2), .second, .val (.long i3), .second, .val (.long i4), .second, .val (.long i5), .second, .val (.int y1), .val (.int y3), .val (.int y4), .val (.ref b5), .val (.ref b9), .val (.int (1 : Int32)), .val (.int y724), .val (.int (0 : Int32)), .unset] [(.int (1 : Int32))])) _
            refine own_istore (pc' := 126) B X726 (Ls' := #[.val (.int i0), .val (.int i1), .val (.long i2), .second, .val (.long i3), .second, .val (.long i4), .second, .val (.long i5), .second, .val (.int y1), .val (.int y3), .val (.int y4), .val (.ref b5), .val (.ref b9), .val (.int (1 : Int32)), .val (.int y724), .val (.int (0 : Int32)), .val (.int (1 : Int32))]) at_124 rfl rfl ?_
            refine own_iload (pc' := 128) B X726 at_126 rfl rfl ?_
            refine own_iload (pc' := 130) B X726 at_128 rfl rfl ?_
            refine own_ifYes (pc' := 138) B X726 at_130 ((if0 _ _).trans (feq (by decide : ¬ ((1 : Int32) = (0 : Int32)))).2) (by decide) rfl ?_
            refine own_iconst (pc' := 139) B X726 (z := (1 : Int32)) at_138 rfl rfl ?_
            refine own_goto (pc' := 143) B X726 at_139 (by decide) rfl ?_
            refine own_icmpNo (pc' := 146) B X726 at_143 (teq (by decide : (1 : Int32) = (1 : Int32))).2 rfl ?_
            refine own_iconst (pc' := 147) B X726 (z := (1 : Int32)) at_146 rfl rfl ?_
            refine own_goto (pc' := 151) B X726 at_147 (by decide) rfl ?_
            exact own_retN B X726 (t := .boolean) (z' := (1 : Int32)) (by simp) (by decide) at_151 (by decide) (by decide) rfl
      · replace K := K.trans K672 (allS (Or.inr sz_b5) all0)
        replace E_b9 := E_b9.keep K672
        replace V_b9 := V_b9.keep K672 (ninS (Ne.symm ne_b5_b9) nin0)
        show own_Go p e below (T672.setTop (mkF m 71 #[.val (.int i0), .val (.int i1), .val (.long i2), .second, .val (.long i3), .second, .val (.long i4), .second, .val (.long i5), .second, .val (.int y1), .val (.int y3), .val (.int y4), .val (.ref b5), .val (.ref b9), .unset, .unset, .unset, .unset] [])) _
        refine own_aload (pc' := 73) B X672 at_71 rfl rfl rfl ?_
        refine own_iload (pc' := 75) B X672 at_73 rfl rfl ?_
        refine own_callS (pc' := 78) B X672 (own_w hw 5 rfl) (own_w hw 6 rfl) (own_w hw 7 rfl) (own_w hw 8 rfl) (by decide) [(.ref b9), (.int y3)] [] (rm_2 l Z a0 hw [] b9 kb9 (i3) (i4) (i5) (y3) (y16) h672 n0 (Nat.le_trans Z0 K.1) E_b9 V_b9 g_b9 hy16 hy17) 0 (by decide) (by decide) rfl pd_1 rfl rfl (Nat.le_of_eq rfl) at_75 rfl (k' := 2) (n' := 6) rfl rfl (by decide) (by decide) ?_
        intro T737 v737 h737 X737 q737
        rcases q737 with ⟨y738, y739, hy740, hy741, c742, rfl, rfl⟩ | ⟨y743, y744, hy745, hy746, c747, rfl, rfl⟩
        · show own_Go p e below (T737.setTop (mkF m 78 #[.val (.int i0), .val (.int i1), .val (.long i2), .second, .val (.long i3), .second, .val (.long i4), .second, .val (.long i5), .second, .val (.int y1), .val (.int y3), .val (.int y4), .val (.ref b5), .val (.ref b9), .unset, .unset, .unset, .unset] [(.int (0 : Int32))])) _
          refine own_istore (pc' := 80) B X737 (Ls' := #[.val (.int i0), .val (.int i1), .val (.long i2), .second, .val (.long i3), .second, .val (.long i4), .second, .val (.long i5), .second, .val (.int y1), .val (.int y3), .val (.int y4), .val (.ref b5), .val (.ref b9), .val (.int (0 : Int32)), .unset, .unset, .unset]) at_78 rfl rfl ?_
          refine own_iload (pc' := 82) B X737 at_80 rfl rfl ?_
          refine own_iload (pc' := 84) B X737 at_82 rfl rfl ?_
          obtain ⟨y748, hy748⟩ : ∃ z : Int32, y3 - y1 = z := ⟨_, rfl⟩
          refine own_isub (pc' := 85) B X737 at_84 rfl hy748 ?_
          refine own_istore (pc' := 87) B X737 (Ls' := #[.val (.int i0), .val (.int i1), .val (.long i2), .second, .val (.long i3), .second, .val (.long i4), .second, .val (.long i5), .second, .val (.int y1), .val (.int y3), .val (.int y4), .val (.ref b5), .val (.ref b9), .val (.int (0 : Int32)), .val (.int y748), .unset, .unset]) at_85 rfl rfl ?_
          have rd : y748.toInt = 64 * (-1) + y16.toInt - y14.toInt := own_dist hy748 rp rq rs rk (by decide) (by decide) (by decide)
          refine own_iload (pc' := 89) B X737 at_87 rfl rfl ?_
          have c749 : y748 < (0 : Int32) := by
            have o0 := own_o_mask hy1 7 (by decide) (by decide)
            have o1 := own_o_iushr hy2 7 (by decide) (by decide)
            have o2 := own_o_irem hy3 192 (by decide)
            have o3 := own_o_iadd hy4
            have o4 := own_o_isub hy13
            have o5 := own_o_mask hy14 6 (by decide) (by decide)
            have o6 := own_o_iushr hy15 6 (by decide) (by decide)
            have o7 := own_o_mask hy16 6 (by decide) (by decide)
            have o8 := own_o_iushr hy17 6 (by decide) (by decide)
            have o9 := own_o_isub hy685
            have o10 := own_o_maskL hy741 1 (by decide) (by decide)
            have o11 := own_o_isub hy748
            have o12 := own_neq c684
            have o13 := own_eqL c687
            have o14 := own_eqL c742
            have o15 := rng32 i0
            have o16 := rng32 i1
            have o17 := rng32 y1
            have o18 := rng32 y14
            have o19 := rng32 y16
            have o20 := rng32 y2
            have o21 := rng32 y3
            have o22 := rng32 y4
            have o23 := rng32 y680
            have o24 := rng32 y748
            have o25 := rng64 i2
            have o26 := rng64 i3
            have o27 := rng64 y681
            have o28 := rng64 y738
            have o29 := rng64 y739
            have o30 : (127 : Int32).toInt = 127 := by decide
            have o31 : (7 : Int32).toInt = 7 := by decide
            have o32 : (192 : Int32).toInt = 192 := by decide
            have o33 : (63 : Int32).toInt = 63 := by decide
            have o34 : (6 : Int32).toInt = 6 := by decide
            have o35 : (1 : Int32).toInt = 1 := by decide
            have o36 : (0 : Int32).toInt = 0 := by decide
            have o37 : (64 : Int32).toInt = 64 := by decide
            have o38 : (1 : Int64).toInt = 1 := by decide
            have o39 : (0 : Int64).toInt = 0 := by decide
            refine own_ltI ?_
            omega
          refine own_ifYes (pc' := 114) B X737 at_89 ((if0 _ _).trans (tlt c749).1) (by decide) rfl ?_
          refine own_iconst (pc' := 115) B X737 (z := (0 : Int32)) at_114 rfl rfl ?_
          refine own_istore (pc' := 117) B X737 (Ls' := #[.val (.int i0), .val (.int i1), .val (.long i2), .second, .val (.long i3), .second, .val (.long i4), .second, .val (.long i5), .second, .val (.int y1), .val (.int y3), .val (.int y4), .val (.ref b5), .val (.ref b9), .val (.int (0 : Int32)), .val (.int y748), .val (.int (0 : Int32)), .unset]) at_115 rfl rfl ?_
          refine own_aload (pc' := 119) B X737 at_117 rfl rfl rfl ?_
          refine own_iload (pc' := 121) B X737 at_119 rfl rfl ?_
          refine own_callS (pc' := 124) B X737 (own_w hw 5 rfl) (own_w hw 6 rfl) (own_w hw 7 rfl) (own_w hw 8 rfl) (by decide) [(.ref b5), (.int y3)] [] (rm_2 l Z a0 hw [] b5 kb5 (i3) (y679) (i5) (y3) (y16) h672 n0 (Nat.le_trans Z0 K.1) E_b5 V_b5 g_b5 hy16 hy17) 0 (by decide) (by decide) rfl pd_1 rfl rfl (Nat.le_of_eq rfl) at_121 rfl (k' := 2) (n' := 6) rfl rfl (by decide) (by decide) ?_
          intro T750 v750 h750 X750 q750
          rcases q750 with ⟨y751, y752, hy753, hy754, c755, rfl, rfl⟩ | ⟨y756, y757, hy758, hy759, c760, rfl, rfl⟩
          · obtain rfl : y738 = y751 := (hy740 : (i3.toUInt64 >>> (y16 &&& 0x3f).toInt64.toUInt64).toInt64 = y738).symm.trans hy753
            obtain rfl : y739 = y752 := (hy741 : y738 &&& (1 : Int64) = y739).symm.trans hy754
            show own_Go p e below (T750.setTop (mkF m 124 #[.val (.int i0), .val (.int i1), .val (.long i2), .second, .val (.long i3), .second, .val (.long i4), .second, .val (.long i5), .second, .val (.int y1), .val (.int y3), .val (.int y4), .val (.ref b5), .val (.ref b9), .val (.int (0 : Int32)), .val (.int y748), .val (.int (0 : Int32)), .unset] [(.int (0 : Int32))])) _
            refine own_istore (pc' := 126) B X750 (Ls' := #[.val (.int i0), .val (.int i1), .val (.long i2), .second, .val (.long i3), .second, .val (.long i4), .second, .val (.long i5), .second, .val (.int y1), .val (.int y3), .val (.int y4), .val (.ref b5), .val (.ref b9), .val (.int (0 : Int32)), .val (.int y748), .val (.int (0 : Int32)), .val (.int (0 : Int32))]) at_124 rfl rfl ?_
            refine own_iload (pc' := 128) B X750 at_126 rfl rfl ?_
            refine own_iload (pc' := 130) B X750 at_128 rfl rfl ?_
            refine own_ifNo (pc' := 133) B X750 at_130 ((if0 _ _).trans (teq (by decide : (0 : Int32) = (0 : Int32))).2) rfl ?_
            refine own_iload (pc' := 135) B X750 at_133 rfl rfl ?_
            refine own_ifYes (pc' := 142) B X750 at_135 ((if0 _ _).trans (teq (by decide : (0 : Int32) = (0 : Int32))).1) (by decide) rfl ?_
            refine own_iconst (pc' := 143) B X750 (z := (0 : Int32)) at_142 rfl rfl ?_
            refine own_icmpNo (pc' := 146) B X750 at_143 (teq (by decide : (0 : Int32) = (0 : Int32))).2 rfl ?_
            refine own_iconst (pc' := 147) B X750 (z := (1 : Int32)) at_146 rfl rfl ?_
            refine own_goto (pc' := 151) B X750 at_147 (by decide) rfl ?_
            exact own_retN B X750 (t := .boolean) (z' := (1 : Int32)) (by simp) (by decide) at_151 (by decide) (by decide) rfl
          · obtain rfl : y738 = y756 := (hy740 : (i3.toUInt64 >>> (y16 &&& 0x3f).toInt64.toUInt64).toInt64 = y738).symm.trans hy758
            obtain rfl : y739 = y757 := (hy741 : y738 &&& (1 : Int64) = y739).symm.trans hy759
            exfalso
            have b0 := own_bitF hy740 hy741 rk.1 rk.2 c742
            have b1 := own_bitT hy740 hy741 rk.1 rk.2 c760
            revert b0 b1
            generalize own_tb i3 y16.toInt.toNat = u0
            revert u0
            decide
        · show own_Go p e below (T737.setTop (mkF m 78 #[.val (.int i0), .val (.int i1), .val (.long i2), .second, .val (.long i3), .second, .val (.long i4), .second, .val (.long i5), .second, .val (.int y1), .val (.int y3), .val (.int y4), .val (.ref b5), .val (.ref b9), .unset, .unset, .unset, .unset] [(.int (1 : Int32))])) _
          refine own_istore (pc' := 80) B X737 (Ls' := #[.val (.int i0), .val (.int i1), .val (.long i2), .second, .val (.long i3), .second, .val (.long i4), .second, .val (.long i5), .second, .val (.int y1), .val (.int y3), .val (.int y4), .val (.ref b5), .val (.ref b9), .val (.int (1 : Int32)), .unset, .unset, .unset]) at_78 rfl rfl ?_
          refine own_iload (pc' := 82) B X737 at_80 rfl rfl ?_
          refine own_iload (pc' := 84) B X737 at_82 rfl rfl ?_
          obtain ⟨y761, hy761⟩ : ∃ z : Int32, y3 - y1 = z := ⟨_, rfl⟩
          refine own_isub (pc' := 85) B X737 at_84 rfl hy761 ?_
          refine own_istore (pc' := 87) B X737 (Ls' := #[.val (.int i0), .val (.int i1), .val (.long i2), .second, .val (.long i3), .second, .val (.long i4), .second, .val (.long i5), .second, .val (.int y1), .val (.int y3), .val (.int y4), .val (.ref b5), .val (.ref b9), .val (.int (1 : Int32)), .val (.int y761), .unset, .unset]) at_85 rfl rfl ?_
          have rd : y761.toInt = 64 * (-1) + y16.toInt - y14.toInt := own_dist hy761 rp rq rs rk (by decide) (by decide) (by decide)
          refine own_iload (pc' := 89) B X737 at_87 rfl rfl ?_
          have c762 : y761 < (0 : Int32) := by
            have o0 := own_o_mask hy1 7 (by decide) (by decide)
            have o1 := own_o_iushr hy2 7 (by decide) (by decide)
            have o2 := own_o_irem hy3 192 (by decide)
            have o3 := own_o_iadd hy4
            have o4 := own_o_isub hy13
            have o5 := own_o_mask hy14 6 (by decide) (by decide)
            have o6 := own_o_iushr hy15 6 (by decide) (by decide)
            have o7 := own_o_mask hy16 6 (by decide) (by decide)
            have o8 := own_o_iushr hy17 6 (by decide) (by decide)
            have o9 := own_o_isub hy685
            have o10 := own_o_maskL hy746 1 (by decide) (by decide)
            have o11 := own_o_isub hy761
            have o12 := own_neq c684
            have o13 := own_eqL c687
            have o14 := own_neqL c747
            have o15 := rng32 i0
            have o16 := rng32 i1
            have o17 := rng32 y1
            have o18 := rng32 y14
            have o19 := rng32 y16
            have o20 := rng32 y2
            have o21 := rng32 y3
            have o22 := rng32 y4
            have o23 := rng32 y680
            have o24 := rng32 y761
            have o25 := rng64 i2
            have o26 := rng64 i3
            have o27 := rng64 y681
            have o28 := rng64 y743
            have o29 := rng64 y744
            have o30 : (127 : Int32).toInt = 127 := by decide
            have o31 : (7 : Int32).toInt = 7 := by decide
            have o32 : (192 : Int32).toInt = 192 := by decide
            have o33 : (63 : Int32).toInt = 63 := by decide
            have o34 : (6 : Int32).toInt = 6 := by decide
            have o35 : (1 : Int32).toInt = 1 := by decide
            have o36 : (0 : Int32).toInt = 0 := by decide
            have o37 : (64 : Int32).toInt = 64 := by decide
            have o38 : (1 : Int64).toInt = 1 := by decide
            have o39 : (0 : Int64).toInt = 0 := by decide
            refine own_ltI ?_
            omega
          refine own_ifYes (pc' := 114) B X737 at_89 ((if0 _ _).trans (tlt c762).1) (by decide) rfl ?_
          refine own_iconst (pc' := 115) B X737 (z := (0 : Int32)) at_114 rfl rfl ?_
          refine own_istore (pc' := 117) B X737 (Ls' := #[.val (.int i0), .val (.int i1), .val (.long i2), .second, .val (.long i3), .second, .val (.long i4), .second, .val (.long i5), .second, .val (.int y1), .val (.int y3), .val (.int y4), .val (.ref b5), .val (.ref b9), .val (.int (1 : Int32)), .val (.int y761), .val (.int (0 : Int32)), .unset]) at_115 rfl rfl ?_
          refine own_aload (pc' := 119) B X737 at_117 rfl rfl rfl ?_
          refine own_iload (pc' := 121) B X737 at_119 rfl rfl ?_
          refine own_callS (pc' := 124) B X737 (own_w hw 5 rfl) (own_w hw 6 rfl) (own_w hw 7 rfl) (own_w hw 8 rfl) (by decide) [(.ref b5), (.int y3)] [] (rm_2 l Z a0 hw [] b5 kb5 (i3) (y679) (i5) (y3) (y16) h672 n0 (Nat.le_trans Z0 K.1) E_b5 V_b5 g_b5 hy16 hy17) 0 (by decide) (by decide) rfl pd_1 rfl rfl (Nat.le_of_eq rfl) at_121 rfl (k' := 2) (n' := 6) rfl rfl (by decide) (by decide) ?_
          intro T763 v763 h763 X763 q763
          rcases q763 with ⟨y764, y765, hy766, hy767, c768, rfl, rfl⟩ | ⟨y769, y770, hy771, hy772, c773, rfl, rfl⟩
          · obtain rfl : y743 = y764 := (hy745 : (i3.toUInt64 >>> (y16 &&& 0x3f).toInt64.toUInt64).toInt64 = y743).symm.trans hy766
            obtain rfl : y744 = y765 := (hy746 : y743 &&& (1 : Int64) = y744).symm.trans hy767
            exfalso
            have b0 := own_bitT hy745 hy746 rk.1 rk.2 c747
            have b1 := own_bitF hy745 hy746 rk.1 rk.2 c768
            revert b0 b1
            generalize own_tb i3 y16.toInt.toNat = u0
            revert u0
            decide
          · obtain rfl : y743 = y769 := (hy745 : (i3.toUInt64 >>> (y16 &&& 0x3f).toInt64.toUInt64).toInt64 = y743).symm.trans hy771
            obtain rfl : y744 = y770 := (hy746 : y743 &&& (1 : Int64) = y744).symm.trans hy772
            show own_Go p e below (T763.setTop (mkF m 124 #[.val (.int i0), .val (.int i1), .val (.long i2), .second, .val (.long i3), .second, .val (.long i4), .second, .val (.long i5), .second, .val (.int y1), .val (.int y3), .val (.int y4), .val (.ref b5), .val (.ref b9), .val (.int (1 : Int32)), .val (.int y761), .val (.int (0 : Int32)), .unset] [(.int (1 : Int32))])) _
            refine own_istore (pc' := 126) B X763 (Ls' := #[.val (.int i0), .val (.int i1), .val (.long i2), .second, .val (.long i3), .second, .val (.long i4), .second, .val (.long i5), .second, .val (.int y1), .val (.int y3), .val (.int y4), .val (.ref b5), .val (.ref b9), .val (.int (1 : Int32)), .val (.int y761), .val (.int (0 : Int32)), .val (.int (1 : Int32))]) at_124 rfl rfl ?_
            refine own_iload (pc' := 128) B X763 at_126 rfl rfl ?_
            refine own_iload (pc' := 130) B X763 at_128 rfl rfl ?_
            refine own_ifYes (pc' := 138) B X763 at_130 ((if0 _ _).trans (feq (by decide : ¬ ((1 : Int32) = (0 : Int32)))).2) (by decide) rfl ?_
            refine own_iconst (pc' := 139) B X763 (z := (1 : Int32)) at_138 rfl rfl ?_
            refine own_goto (pc' := 143) B X763 at_139 (by decide) rfl ?_
            refine own_icmpNo (pc' := 146) B X763 at_143 (teq (by decide : (1 : Int32) = (1 : Int32))).2 rfl ?_
            refine own_iconst (pc' := 147) B X763 (z := (1 : Int32)) at_146 rfl rfl ?_
            refine own_goto (pc' := 151) B X763 at_147 (by decide) rfl ?_
            exact own_retN B X763 (t := .boolean) (z' := (1 : Int32)) (by simp) (by decide) at_151 (by decide) (by decide) rfl
      · replace K := K.trans K672 (allS (Or.inr sz_b5) all0)
        replace E_b9 := E_b9.keep K672
        replace V_b9 := V_b9.keep K672 (ninS (Ne.symm ne_b5_b9) nin0)
        show own_Go p e below (T672.setTop (mkF m 71 #[.val (.int i0), .val (.int i1), .val (.long i2), .second, .val (.long i3), .second, .val (.long i4), .second, .val (.long i5), .second, .val (.int y1), .val (.int y3), .val (.int y4), .val (.ref b5), .val (.ref b9), .unset, .unset, .unset, .unset] [])) _
        refine own_aload (pc' := 73) B X672 at_71 rfl rfl rfl ?_
        refine own_iload (pc' := 75) B X672 at_73 rfl rfl ?_
        refine own_callS (pc' := 78) B X672 (own_w hw 5 rfl) (own_w hw 6 rfl) (own_w hw 7 rfl) (own_w hw 8 rfl) (by decide) [(.ref b9), (.int y3)] [] (rm_2 l Z a0 hw [] b9 kb9 (i3) (i4) (i5) (y3) (y16) h672 n0 (Nat.le_trans Z0 K.1) E_b9 V_b9 g_b9 hy16 hy17) 0 (by decide) (by decide) rfl pd_1 rfl rfl (Nat.le_of_eq rfl) at_75 rfl (k' := 2) (n' := 6) rfl rfl (by decide) (by decide) ?_
        intro T774 v774 h774 X774 q774
        rcases q774 with ⟨y775, y776, hy777, hy778, c779, rfl, rfl⟩ | ⟨y780, y781, hy782, hy783, c784, rfl, rfl⟩
        · show own_Go p e below (T774.setTop (mkF m 78 #[.val (.int i0), .val (.int i1), .val (.long i2), .second, .val (.long i3), .second, .val (.long i4), .second, .val (.long i5), .second, .val (.int y1), .val (.int y3), .val (.int y4), .val (.ref b5), .val (.ref b9), .unset, .unset, .unset, .unset] [(.int (0 : Int32))])) _
          refine own_istore (pc' := 80) B X774 (Ls' := #[.val (.int i0), .val (.int i1), .val (.long i2), .second, .val (.long i3), .second, .val (.long i4), .second, .val (.long i5), .second, .val (.int y1), .val (.int y3), .val (.int y4), .val (.ref b5), .val (.ref b9), .val (.int (0 : Int32)), .unset, .unset, .unset]) at_78 rfl rfl ?_
          refine own_iload (pc' := 82) B X774 at_80 rfl rfl ?_
          refine own_iload (pc' := 84) B X774 at_82 rfl rfl ?_
          obtain ⟨y785, hy785⟩ : ∃ z : Int32, y3 - y1 = z := ⟨_, rfl⟩
          refine own_isub (pc' := 85) B X774 at_84 rfl hy785 ?_
          refine own_istore (pc' := 87) B X774 (Ls' := #[.val (.int i0), .val (.int i1), .val (.long i2), .second, .val (.long i3), .second, .val (.long i4), .second, .val (.long i5), .second, .val (.int y1), .val (.int y3), .val (.int y4), .val (.ref b5), .val (.ref b9), .val (.int (0 : Int32)), .val (.int y785), .unset, .unset]) at_85 rfl rfl ?_
          have rd : y785.toInt = 64 * (-1) + y16.toInt - y14.toInt := own_dist hy785 rp rq rs rk (by decide) (by decide) (by decide)
          refine own_iload (pc' := 89) B X774 at_87 rfl rfl ?_
          have c786 : y785 < (0 : Int32) := by
            have o0 := own_o_mask hy1 7 (by decide) (by decide)
            have o1 := own_o_iushr hy2 7 (by decide) (by decide)
            have o2 := own_o_irem hy3 192 (by decide)
            have o3 := own_o_iadd hy4
            have o4 := own_o_isub hy13
            have o5 := own_o_mask hy14 6 (by decide) (by decide)
            have o6 := own_o_iushr hy15 6 (by decide) (by decide)
            have o7 := own_o_mask hy16 6 (by decide) (by decide)
            have o8 := own_o_iushr hy17 6 (by decide) (by decide)
            have o9 := own_o_isub hy696
            have o10 := own_o_maskL hy778 1 (by decide) (by decide)
            have o11 := own_o_isub hy785
            have o12 := own_neq c695
            have o13 := own_neqL c698
            have o14 := own_eqL c779
            have o15 := rng32 i0
            have o16 := rng32 i1
            have o17 := rng32 y1
            have o18 := rng32 y14
            have o19 := rng32 y16
            have o20 := rng32 y2
            have o21 := rng32 y3
            have o22 := rng32 y4
            have o23 := rng32 y690
            have o24 := rng32 y785
            have o25 := rng64 i2
            have o26 := rng64 i3
            have o27 := rng64 y691
            have o28 := rng64 y775
            have o29 := rng64 y776
            have o30 : (127 : Int32).toInt = 127 := by decide
            have o31 : (7 : Int32).toInt = 7 := by decide
            have o32 : (192 : Int32).toInt = 192 := by decide
            have o33 : (63 : Int32).toInt = 63 := by decide
            have o34 : (6 : Int32).toInt = 6 := by decide
            have o35 : (1 : Int32).toInt = 1 := by decide
            have o36 : (0 : Int32).toInt = 0 := by decide
            have o37 : (64 : Int32).toInt = 64 := by decide
            have o38 : (1 : Int64).toInt = 1 := by decide
            have o39 : (0 : Int64).toInt = 0 := by decide
            refine own_ltI ?_
            omega
          refine own_ifYes (pc' := 114) B X774 at_89 ((if0 _ _).trans (tlt c786).1) (by decide) rfl ?_
          refine own_iconst (pc' := 115) B X774 (z := (0 : Int32)) at_114 rfl rfl ?_
          refine own_istore (pc' := 117) B X774 (Ls' := #[.val (.int i0), .val (.int i1), .val (.long i2), .second, .val (.long i3), .second, .val (.long i4), .second, .val (.long i5), .second, .val (.int y1), .val (.int y3), .val (.int y4), .val (.ref b5), .val (.ref b9), .val (.int (0 : Int32)), .val (.int y785), .val (.int (0 : Int32)), .unset]) at_115 rfl rfl ?_
          refine own_aload (pc' := 119) B X774 at_117 rfl rfl rfl ?_
          refine own_iload (pc' := 121) B X774 at_119 rfl rfl ?_
          refine own_callS (pc' := 124) B X774 (own_w hw 5 rfl) (own_w hw 6 rfl) (own_w hw 7 rfl) (own_w hw 8 rfl) (by decide) [(.ref b5), (.int y3)] [] (rm_2 l Z a0 hw [] b5 kb5 (i3) (y689) (y692) (y3) (y16) h672 n0 (Nat.le_trans Z0 K.1) E_b5 V_b5 g_b5 hy16 hy17) 0 (by decide) (by decide) rfl pd_1 rfl rfl (Nat.le_of_eq rfl) at_121 rfl (k' := 2) (n' := 6) rfl rfl (by decide) (by decide) ?_
          intro T787 v787 h787 X787 q787
          rcases q787 with ⟨y788, y789, hy790, hy791, c792, rfl, rfl⟩ | ⟨y793, y794, hy795, hy796, c797, rfl, rfl⟩
          · obtain rfl : y775 = y788 := (hy777 : (i3.toUInt64 >>> (y16 &&& 0x3f).toInt64.toUInt64).toInt64 = y775).symm.trans hy790
            obtain rfl : y776 = y789 := (hy778 : y775 &&& (1 : Int64) = y776).symm.trans hy791
            show own_Go p e below (T787.setTop (mkF m 124 #[.val (.int i0), .val (.int i1), .val (.long i2), .second, .val (.long i3), .second, .val (.long i4), .second, .val (.long i5), .second, .val (.int y1), .val (.int y3), .val (.int y4), .val (.ref b5), .val (.ref b9), .val (.int (0 : Int32)), .val (.int y785), .val (.int (0 : Int32)), .unset] [(.int (0 : Int32))])) _
            refine own_istore (pc' := 126) B X787 (Ls' := #[.val (.int i0), .val (.int i1), .val (.long i2), .second, .val (.long i3), .second, .val (.long i4), .second, .val (.long i5), .second, .val (.int y1), .val (.int y3), .val (.int y4), .val (.ref b5), .val (.ref b9), .val (.int (0 : Int32)), .val (.int y785), .val (.int (0 : Int32)), .val (.int (0 : Int32))]) at_124 rfl rfl ?_
            refine own_iload (pc' := 128) B X787 at_126 rfl rfl ?_
            refine own_iload (pc' := 130) B X787 at_128 rfl rfl ?_
            refine own_ifNo (pc' := 133) B X787 at_130 ((if0 _ _).trans (teq (by decide : (0 : Int32) = (0 : Int32))).2) rfl ?_
            refine own_iload (pc' := 135) B X787 at_133 rfl rfl ?_
            refine own_ifYes (pc' := 142) B X787 at_135 ((if0 _ _).trans (teq (by decide : (0 : Int32) = (0 : Int32))).1) (by decide) rfl ?_
            refine own_iconst (pc' := 143) B X787 (z := (0 : Int32)) at_142 rfl rfl ?_
            refine own_icmpNo (pc' := 146) B X787 at_143 (teq (by decide : (0 : Int32) = (0 : Int32))).2 rfl ?_
            refine own_iconst (pc' := 147) B X787 (z := (1 : Int32)) at_146 rfl rfl ?_
            refine own_goto (pc' := 151) B X787 at_147 (by decide) rfl ?_
            exact own_retN B X787 (t := .boolean) (z' := (1 : Int32)) (by simp) (by decide) at_151 (by decide) (by decide) rfl
          · obtain rfl : y775 = y793 := (hy777 : (i3.toUInt64 >>> (y16 &&& 0x3f).toInt64.toUInt64).toInt64 = y775).symm.trans hy795
            obtain rfl : y776 = y794 := (hy778 : y775 &&& (1 : Int64) = y776).symm.trans hy796
            exfalso
            have b0 := own_bitF hy777 hy778 rk.1 rk.2 c779
            have b1 := own_bitT hy777 hy778 rk.1 rk.2 c797
            revert b0 b1
            generalize own_tb i3 y16.toInt.toNat = u0
            revert u0
            decide
        · show own_Go p e below (T774.setTop (mkF m 78 #[.val (.int i0), .val (.int i1), .val (.long i2), .second, .val (.long i3), .second, .val (.long i4), .second, .val (.long i5), .second, .val (.int y1), .val (.int y3), .val (.int y4), .val (.ref b5), .val (.ref b9), .unset, .unset, .unset, .unset] [(.int (1 : Int32))])) _
          refine own_istore (pc' := 80) B X774 (Ls' := #[.val (.int i0), .val (.int i1), .val (.long i2), .second, .val (.long i3), .second, .val (.long i4), .second, .val (.long i5), .second, .val (.int y1), .val (.int y3), .val (.int y4), .val (.ref b5), .val (.ref b9), .val (.int (1 : Int32)), .unset, .unset, .unset]) at_78 rfl rfl ?_
          refine own_iload (pc' := 82) B X774 at_80 rfl rfl ?_
          refine own_iload (pc' := 84) B X774 at_82 rfl rfl ?_
          obtain ⟨y798, hy798⟩ : ∃ z : Int32, y3 - y1 = z := ⟨_, rfl⟩
          refine own_isub (pc' := 85) B X774 at_84 rfl hy798 ?_
          refine own_istore (pc' := 87) B X774 (Ls' := #[.val (.int i0), .val (.int i1), .val (.long i2), .second, .val (.long i3), .second, .val (.long i4), .second, .val (.long i5), .second, .val (.int y1), .val (.int y3), .val (.int y4), .val (.ref b5), .val (.ref b9), .val (.int (1 : Int32)), .val (.int y798), .unset, .unset]) at_85 rfl rfl ?_
          have rd : y798.toInt = 64 * (-1) + y16.toInt - y14.toInt := own_dist hy798 rp rq rs rk (by decide) (by decide) (by decide)
          refine own_iload (pc' := 89) B X774 at_87 rfl rfl ?_
          have c799 : y798 < (0 : Int32) := by
            have o0 := own_o_mask hy1 7 (by decide) (by decide)
            have o1 := own_o_iushr hy2 7 (by decide) (by decide)
            have o2 := own_o_irem hy3 192 (by decide)
            have o3 := own_o_iadd hy4
            have o4 := own_o_isub hy13
            have o5 := own_o_mask hy14 6 (by decide) (by decide)
            have o6 := own_o_iushr hy15 6 (by decide) (by decide)
            have o7 := own_o_mask hy16 6 (by decide) (by decide)
            have o8 := own_o_iushr hy17 6 (by decide) (by decide)
            have o9 := own_o_isub hy696
            have o10 := own_o_maskL hy783 1 (by decide) (by decide)
            have o11 := own_o_isub hy798
            have o12 := own_neq c695
            have o13 := own_neqL c698
            have o14 := own_neqL c784
            have o15 := rng32 i0
            have o16 := rng32 i1
            have o17 := rng32 y1
            have o18 := rng32 y14
            have o19 := rng32 y16
            have o20 := rng32 y2
            have o21 := rng32 y3
            have o22 := rng32 y4
            have o23 := rng32 y690
            have o24 := rng32 y798
            have o25 := rng64 i2
            have o26 := rng64 i3
            have o27 := rng64 y691
            have o28 := rng64 y780
            have o29 := rng64 y781
            have o30 : (127 : Int32).toInt = 127 := by decide
            have o31 : (7 : Int32).toInt = 7 := by decide
            have o32 : (192 : Int32).toInt = 192 := by decide
            have o33 : (63 : Int32).toInt = 63 := by decide
            have o34 : (6 : Int32).toInt = 6 := by decide
            have o35 : (1 : Int32).toInt = 1 := by decide
            have o36 : (0 : Int32).toInt = 0 := by decide
            have o37 : (64 : Int32).toInt = 64 := by decide
            have o38 : (1 : Int64).toInt = 1 := by decide
            have o39 : (0 : Int64).toInt = 0 := by decide
            refine own_ltI ?_
            omega
          refine own_ifYes (pc' := 114) B X774 at_89 ((if0 _ _).trans (tlt c799).1) (by decide) rfl ?_
          refine own_iconst (pc' := 115) B X774 (z := (0 : Int32)) at_114 rfl rfl ?_
          refine own_istore (pc' := 117) B X774 (Ls' := #[.val (.int i0), .val (.int i1), .val (.long i2), .second, .val (.long i3), .second, .val (.long i4), .second, .val (.long i5), .second, .val (.int y1), .val (.int y3), .val (.int y4), .val (.ref b5), .val (.ref b9), .val (.int (1 : Int32)), .val (.int y798), .val (.int (0 : Int32)), .unset]) at_115 rfl rfl ?_
          refine own_aload (pc' := 119) B X774 at_117 rfl rfl rfl ?_
          refine own_iload (pc' := 121) B X774 at_119 rfl rfl ?_
          refine own_callS (pc' := 124) B X774 (own_w hw 5 rfl) (own_w hw 6 rfl) (own_w hw 7 rfl) (own_w hw 8 rfl) (by decide) [(.ref b5), (.int y3)] [] (rm_2 l Z a0 hw [] b5 kb5 (i3) (y689) (y692) (y3) (y16) h672 n0 (Nat.le_trans Z0 K.1) E_b5 V_b5 g_b5 hy16 hy17) 0 (by decide) (by decide) rfl pd_1 rfl rfl (Nat.le_of_eq rfl) at_121 rfl (k' := 2) (n' := 6) rfl rfl (by decide) (by decide) ?_
          intro T800 v800 h800 X800 q800
          rcases q800 with ⟨y801, y802, hy803, hy804, c805, rfl, rfl⟩ | ⟨y806, y807, hy808, hy809, c810, rfl, rfl⟩
          · obtain rfl : y780 = y801 := (hy782 : (i3.toUInt64 >>> (y16 &&& 0x3f).toInt64.toUInt64).toInt64 = y780).symm.trans hy803
            obtain rfl : y781 = y802 := (hy783 : y780 &&& (1 : Int64) = y781).symm.trans hy804
            exfalso
            have b0 := own_bitT hy782 hy783 rk.1 rk.2 c784
            have b1 := own_bitF hy782 hy783 rk.1 rk.2 c805
            revert b0 b1
            generalize own_tb i3 y16.toInt.toNat = u0
            revert u0
            decide
          · obtain rfl : y780 = y806 := (hy782 : (i3.toUInt64 >>> (y16 &&& 0x3f).toInt64.toUInt64).toInt64 = y780).symm.trans hy808
            obtain rfl : y781 = y807 := (hy783 : y780 &&& (1 : Int64) = y781).symm.trans hy809
            show own_Go p e below (T800.setTop (mkF m 124 #[.val (.int i0), .val (.int i1), .val (.long i2), .second, .val (.long i3), .second, .val (.long i4), .second, .val (.long i5), .second, .val (.int y1), .val (.int y3), .val (.int y4), .val (.ref b5), .val (.ref b9), .val (.int (1 : Int32)), .val (.int y798), .val (.int (0 : Int32)), .unset] [(.int (1 : Int32))])) _
            refine own_istore (pc' := 126) B X800 (Ls' := #[.val (.int i0), .val (.int i1), .val (.long i2), .second, .val (.long i3), .second, .val (.long i4), .second, .val (.long i5), .second, .val (.int y1), .val (.int y3), .val (.int y4), .val (.ref b5), .val (.ref b9), .val (.int (1 : Int32)), .val (.int y798), .val (.int (0 : Int32)), .val (.int (1 : Int32))]) at_124 rfl rfl ?_
            refine own_iload (pc' := 128) B X800 at_126 rfl rfl ?_
            refine own_iload (pc' := 130) B X800 at_128 rfl rfl ?_
            refine own_ifYes (pc' := 138) B X800 at_130 ((if0 _ _).trans (feq (by decide : ¬ ((1 : Int32) = (0 : Int32)))).2) (by decide) rfl ?_
            refine own_iconst (pc' := 139) B X800 (z := (1 : Int32)) at_138 rfl rfl ?_
            refine own_goto (pc' := 143) B X800 at_139 (by decide) rfl ?_
            refine own_icmpNo (pc' := 146) B X800 at_143 (teq (by decide : (1 : Int32) = (1 : Int32))).2 rfl ?_
            refine own_iconst (pc' := 147) B X800 (z := (1 : Int32)) at_146 rfl rfl ?_
            refine own_goto (pc' := 151) B X800 at_147 (by decide) rfl ?_
            exact own_retN B X800 (t := .boolean) (z' := (1 : Int32)) (by simp) (by decide) at_151 (by decide) (by decide) rfl
    · obtain rfl : y17 = (1 : Int32) := Int32.toInt_inj.mp (z671.trans (by decide))
      refine own_aload (pc' := 64) B X12 at_62 rfl rfl rfl ?_
      have rs : 0 ≤ y14.toInt ∧ y14.toInt < 64 := by
        have o0 := own_o_mask hy1 7 (by decide) (by decide)
        have o1 := own_o_iushr hy2 7 (by decide) (by decide)
        have o2 := own_o_irem hy3 192 (by decide)
        have o3 := own_o_iadd hy4
        have o4 := own_o_isub hy13
        have o5 := own_o_mask hy14 6 (by decide) (by decide)
        have o6 := own_o_iushr hy15 6 (by decide) (by decide)
        have o7 := own_o_mask hy16 6 (by decide) (by decide)
        have o8 := own_o_iushr hy17 6 (by decide) (by decide)
        have o9 := rng32 i0
        have o10 := rng32 i1
        have o11 := rng32 y1
        have o12 := rng32 y14
        have o13 := rng32 y16
        have o14 := rng32 y2
        have o15 := rng32 y3
        have o16 := rng32 y4
        have o17 : (127 : Int32).toInt = 127 := by decide
        have o18 : (7 : Int32).toInt = 7 := by decide
        have o19 : (192 : Int32).toInt = 192 := by decide
        have o20 : (63 : Int32).toInt = 63 := by decide
        have o21 : (6 : Int32).toInt = 6 := by decide
        have o22 : (1 : Int32).toInt = 1 := by decide
        omega
      have rk : 0 ≤ y16.toInt ∧ y16.toInt < 64 := by
        have o0 := own_o_mask hy1 7 (by decide) (by decide)
        have o1 := own_o_iushr hy2 7 (by decide) (by decide)
        have o2 := own_o_irem hy3 192 (by decide)
        have o3 := own_o_iadd hy4
        have o4 := own_o_isub hy13
        have o5 := own_o_mask hy14 6 (by decide) (by decide)
        have o6 := own_o_iushr hy15 6 (by decide) (by decide)
        have o7 := own_o_mask hy16 6 (by decide) (by decide)
        have o8 := own_o_iushr hy17 6 (by decide) (by decide)
        have o9 := rng32 i0
        have o10 := rng32 i1
        have o11 := rng32 y1
        have o12 := rng32 y14
        have o13 := rng32 y16
        have o14 := rng32 y2
        have o15 := rng32 y3
        have o16 := rng32 y4
        have o17 : (127 : Int32).toInt = 127 := by decide
        have o18 : (7 : Int32).toInt = 7 := by decide
        have o19 : (192 : Int32).toInt = 192 := by decide
        have o20 : (63 : Int32).toInt = 63 := by decide
        have o21 : (6 : Int32).toInt = 6 := by decide
        have o22 : (1 : Int32).toInt = 1 := by decide
        omega
      have rp : y1.toInt = 64 * 1 + y14.toInt := by
        have o0 := own_o_mask hy1 7 (by decide) (by decide)
        have o1 := own_o_iushr hy2 7 (by decide) (by decide)
        have o2 := own_o_irem hy3 192 (by decide)
        have o3 := own_o_iadd hy4
        have o4 := own_o_isub hy13
        have o5 := own_o_mask hy14 6 (by decide) (by decide)
        have o6 := own_o_iushr hy15 6 (by decide) (by decide)
        have o7 := own_o_mask hy16 6 (by decide) (by decide)
        have o8 := own_o_iushr hy17 6 (by decide) (by decide)
        have o9 := rng32 i0
        have o10 := rng32 i1
        have o11 := rng32 y1
        have o12 := rng32 y14
        have o13 := rng32 y16
        have o14 := rng32 y2
        have o15 := rng32 y3
        have o16 := rng32 y4
        have o17 : (127 : Int32).toInt = 127 := by decide
        have o18 : (7 : Int32).toInt = 7 := by decide
        have o19 : (192 : Int32).toInt = 192 := by decide
        have o20 : (63 : Int32).toInt = 63 := by decide
        have o21 : (6 : Int32).toInt = 6 := by decide
        have o22 : (1 : Int32).toInt = 1 := by decide
        omega
      have rq : y3.toInt = 64 * 1 + y16.toInt := by
        have o0 := own_o_mask hy1 7 (by decide) (by decide)
        have o1 := own_o_iushr hy2 7 (by decide) (by decide)
        have o2 := own_o_irem hy3 192 (by decide)
        have o3 := own_o_iadd hy4
        have o4 := own_o_isub hy13
        have o5 := own_o_mask hy14 6 (by decide) (by decide)
        have o6 := own_o_iushr hy15 6 (by decide) (by decide)
        have o7 := own_o_mask hy16 6 (by decide) (by decide)
        have o8 := own_o_iushr hy17 6 (by decide) (by decide)
        have o9 := rng32 i0
        have o10 := rng32 i1
        have o11 := rng32 y1
        have o12 := rng32 y14
        have o13 := rng32 y16
        have o14 := rng32 y2
        have o15 := rng32 y3
        have o16 := rng32 y4
        have o17 : (127 : Int32).toInt = 127 := by decide
        have o18 : (7 : Int32).toInt = 7 := by decide
        have o19 : (192 : Int32).toInt = 192 := by decide
        have o20 : (63 : Int32).toInt = 63 := by decide
        have o21 : (6 : Int32).toInt = 6 := by decide
        have o22 : (1 : Int32).toInt = 1 := by decide
        omega
      refine own_iloadN (pc' := 65) B X12 at_64 rfl rfl ?_
      refine own_iload (pc' := 67) B X12 at_65 rfl rfl ?_
      refine own_lloadN (pc' := 68) B X12 at_67 rfl rfl ?_
      refine own_callS (pc' := 71) B X12 (own_w hw 1 rfl) (own_w hw 2 rfl) (own_w hw 3 rfl) (own_w hw 4 rfl) (by decide) [(.ref b5), (.int i0), (.int y4), (.long i2)] [] (rm_5 l Z a0 hw [] b5 kb5 (i3) (i4) (i5) (i0) (y4) (i2) (y1) (y14) h12 n0 (Nat.le_trans Z0 K.1) E_b5 V_b5 g_b5 hy13 hy14 hy15) 0 (by decide) (by decide) rfl pd_0 rfl rfl (Nat.le_of_eq rfl) at_68 rfl (k' := 2) (n' := 6) rfl rfl (by decide) (by decide) ?_
      intro T811 v811 h811 X811 q811
      rcases q811 with ⟨y812, y813, hy814, hy815, c816, rfl, K811, E_b5, V_b5⟩ | ⟨y817, y818, y819, y820, hy821, hy822, c823, hy824, hy825, c826, rfl, K811, E_b5, V_b5⟩ | ⟨y827, y828, y829, y830, y831, hy832, hy833, c834, hy835, hy836, c837, hy838, rfl, K811, E_b5, V_b5⟩
      · replace K := K.trans K811 (allS (Or.inr sz_b5) all0)
        replace E_b9 := E_b9.keep K811
        replace V_b9 := V_b9.keep K811 (ninS (Ne.symm ne_b5_b9) nin0)
        show own_Go p e below (T811.setTop (mkF m 71 #[.val (.int i0), .val (.int i1), .val (.long i2), .second, .val (.long i3), .second, .val (.long i4), .second, .val (.long i5), .second, .val (.int y1), .val (.int y3), .val (.int y4), .val (.ref b5), .val (.ref b9), .unset, .unset, .unset, .unset] [])) _
        refine own_aload (pc' := 73) B X811 at_71 rfl rfl rfl ?_
        refine own_iload (pc' := 75) B X811 at_73 rfl rfl ?_
        refine own_callS (pc' := 78) B X811 (own_w hw 5 rfl) (own_w hw 6 rfl) (own_w hw 7 rfl) (own_w hw 8 rfl) (by decide) [(.ref b9), (.int y3)] [] (rm_3 l Z a0 hw [] b9 kb9 (i3) (i4) (i5) (y3) (y16) h811 n0 (Nat.le_trans Z0 K.1) E_b9 V_b9 g_b9 hy16 hy17) 0 (by decide) (by decide) rfl pd_1 rfl rfl (Nat.le_of_eq rfl) at_75 rfl (k' := 2) (n' := 6) rfl rfl (by decide) (by decide) ?_
        intro T839 v839 h839 X839 q839
        rcases q839 with ⟨y840, y841, hy842, hy843, c844, rfl, rfl⟩ | ⟨y845, y846, hy847, hy848, c849, rfl, rfl⟩
        · show own_Go p e below (T839.setTop (mkF m 78 #[.val (.int i0), .val (.int i1), .val (.long i2), .second, .val (.long i3), .second, .val (.long i4), .second, .val (.long i5), .second, .val (.int y1), .val (.int y3), .val (.int y4), .val (.ref b5), .val (.ref b9), .unset, .unset, .unset, .unset] [(.int (0 : Int32))])) _
          refine own_istore (pc' := 80) B X839 (Ls' := #[.val (.int i0), .val (.int i1), .val (.long i2), .second, .val (.long i3), .second, .val (.long i4), .second, .val (.long i5), .second, .val (.int y1), .val (.int y3), .val (.int y4), .val (.ref b5), .val (.ref b9), .val (.int (0 : Int32)), .unset, .unset, .unset]) at_78 rfl rfl ?_
          refine own_iload (pc' := 82) B X839 at_80 rfl rfl ?_
          refine own_iload (pc' := 84) B X839 at_82 rfl rfl ?_
          obtain ⟨y850, hy850⟩ : ∃ z : Int32, y3 - y1 = z := ⟨_, rfl⟩
          refine own_isub (pc' := 85) B X839 at_84 rfl hy850 ?_
          refine own_istore (pc' := 87) B X839 (Ls' := #[.val (.int i0), .val (.int i1), .val (.long i2), .second, .val (.long i3), .second, .val (.long i4), .second, .val (.long i5), .second, .val (.int y1), .val (.int y3), .val (.int y4), .val (.ref b5), .val (.ref b9), .val (.int (0 : Int32)), .val (.int y850), .unset, .unset]) at_85 rfl rfl ?_
          have rd : y850.toInt = 64 * 0 + y16.toInt - y14.toInt := own_dist hy850 rp rq rs rk (by decide) (by decide) (by decide)
          refine own_iload (pc' := 89) B X839 at_87 rfl rfl ?_
          have c851 : ¬ (y850 < (0 : Int32)) := by
            have o0 := own_o_mask hy1 7 (by decide) (by decide)
            have o1 := own_o_iushr hy2 7 (by decide) (by decide)
            have o2 := own_o_irem hy3 192 (by decide)
            have o3 := own_o_iadd hy4
            have o4 := own_o_isub hy13
            have o5 := own_o_mask hy14 6 (by decide) (by decide)
            have o6 := own_o_iushr hy15 6 (by decide) (by decide)
            have o7 := own_o_mask hy16 6 (by decide) (by decide)
            have o8 := own_o_iushr hy17 6 (by decide) (by decide)
            have o9 := own_o_maskL hy843 1 (by decide) (by decide)
            have o10 := own_o_isub hy850
            have o11 := own_eq c816
            have o12 := own_eqL c844
            have o13 := rng32 i0
            have o14 := rng32 i1
            have o15 := rng32 y1
            have o16 := rng32 y14
            have o17 := rng32 y16
            have o18 := rng32 y2
            have o19 := rng32 y3
            have o20 := rng32 y4
            have o21 := rng32 y850
            have o22 := rng64 i4
            have o23 := rng64 y840
            have o24 := rng64 y841
            have o25 : (127 : Int32).toInt = 127 := by decide
            have o26 : (7 : Int32).toInt = 7 := by decide
            have o27 : (192 : Int32).toInt = 192 := by decide
            have o28 : (63 : Int32).toInt = 63 := by decide
            have o29 : (6 : Int32).toInt = 6 := by decide
            have o30 : (1 : Int32).toInt = 1 := by decide
            have o31 : (1 : Int64).toInt = 1 := by decide
            have o32 : (0 : Int32).toInt = 0 := by decide
            have o33 : (0 : Int64).toInt = 0 := by decide
            refine own_nltI ?_
            omega
          refine own_ifNo (pc' := 92) B X839 at_89 ((if0 _ _).trans (flt c851).1) rfl ?_
          refine own_iload (pc' := 94) B X839 at_92 rfl rfl ?_
          refine own_bipush (pc' := 96) B X839 (z := (64 : Int32)) at_94 rfl (by decide) ?_
          have c852 : y850 < (64 : Int32) := by
            have o0 := own_o_mask hy1 7 (by decide) (by decide)
            have o1 := own_o_iushr hy2 7 (by decide) (by decide)
            have o2 := own_o_irem hy3 192 (by decide)
            have o3 := own_o_iadd hy4
            have o4 := own_o_isub hy13
            have o5 := own_o_mask hy14 6 (by decide) (by decide)
            have o6 := own_o_iushr hy15 6 (by decide) (by decide)
            have o7 := own_o_mask hy16 6 (by decide) (by decide)
            have o8 := own_o_iushr hy17 6 (by decide) (by decide)
            have o9 := own_o_maskL hy843 1 (by decide) (by decide)
            have o10 := own_o_isub hy850
            have o11 := own_eq c816
            have o12 := own_eqL c844
            have o13 := own_nlt c851
            have o14 := rng32 i0
            have o15 := rng32 i1
            have o16 := rng32 y1
            have o17 := rng32 y14
            have o18 := rng32 y16
            have o19 := rng32 y2
            have o20 := rng32 y3
            have o21 := rng32 y4
            have o22 := rng32 y850
            have o23 := rng64 i4
            have o24 := rng64 y840
            have o25 := rng64 y841
            have o26 : (127 : Int32).toInt = 127 := by decide
            have o27 : (7 : Int32).toInt = 7 := by decide
            have o28 : (192 : Int32).toInt = 192 := by decide
            have o29 : (63 : Int32).toInt = 63 := by decide
            have o30 : (6 : Int32).toInt = 6 := by decide
            have o31 : (1 : Int32).toInt = 1 := by decide
            have o32 : (1 : Int64).toInt = 1 := by decide
            have o33 : (0 : Int32).toInt = 0 := by decide
            have o34 : (0 : Int64).toInt = 0 := by decide
            have o35 : (64 : Int32).toInt = 64 := by decide
            refine own_ltI ?_
            omega
          refine own_icmpNo (pc' := 99) B X839 at_96 (tlt c852).2.1 rfl ?_
          refine own_lloadN (pc' := 100) B X839 at_99 rfl rfl ?_
          refine own_iload (pc' := 102) B X839 at_100 rfl rfl ?_
          obtain ⟨y853, hy853⟩ : ∃ z : Int64, (i2.toUInt64 >>> (y850 &&& 0x3f).toInt64.toUInt64).toInt64 = z := ⟨_, rfl⟩
          refine own_lushr (pc' := 103) B X839 at_102 rfl hy853 ?_
          refine own_lconst (pc' := 104) B X839 (z := (1 : Int64)) at_103 rfl (by decide) ?_
          obtain ⟨y854, hy854⟩ : ∃ z : Int64, y853 &&& (1 : Int64) = z := ⟨_, rfl⟩
          refine own_land (pc' := 105) B X839 at_104 rfl hy854 ?_
          refine own_lconst (pc' := 106) B X839 (z := (0 : Int64)) at_105 rfl (by decide) ?_
          obtain ⟨y855, hy855⟩ : ∃ z : Int32, lcmpW y854 (0 : Int64) = z := ⟨_, rfl⟩
          refine own_lcmp (pc' := 107) B X839 at_106 rfl hy855 ?_
          by_cases c856 : y854 = (0 : Int64)
          · refine own_ifYes (pc' := 114) B X839 at_107 ((if0 _ _).trans (teq (own_lcm (P := fun q => (q = (0 : Int32))) hy855 ((lw_eq y854 (0 : Int64)).mpr c856))).1) (by decide) rfl ?_
            refine own_iconst (pc' := 115) B X839 (z := (0 : Int32)) at_114 rfl rfl ?_
            refine own_istore (pc' := 117) B X839 (Ls' := #[.val (.int i0), .val (.int i1), .val (.long i2), .second, .val (.long i3), .second, .val (.long i4), .second, .val (.long i5), .second, .val (.int y1), .val (.int y3), .val (.int y4), .val (.ref b5), .val (.ref b9), .val (.int (0 : Int32)), .val (.int y850), .val (.int (0 : Int32)), .unset]) at_115 rfl rfl ?_
            refine own_aload (pc' := 119) B X839 at_117 rfl rfl rfl ?_
            refine own_iload (pc' := 121) B X839 at_119 rfl rfl ?_
            refine own_callS (pc' := 124) B X839 (own_w hw 5 rfl) (own_w hw 6 rfl) (own_w hw 7 rfl) (own_w hw 8 rfl) (by decide) [(.ref b5), (.int y3)] [] (rm_3 l Z a0 hw [] b5 kb5 (i3) (y813) (i5) (y3) (y16) h811 n0 (Nat.le_trans Z0 K.1) E_b5 V_b5 g_b5 hy16 hy17) 0 (by decide) (by decide) rfl pd_1 rfl rfl (Nat.le_of_eq rfl) at_121 rfl (k' := 2) (n' := 6) rfl rfl (by decide) (by decide) ?_
            intro T857 v857 h857 X857 q857
            rcases q857 with ⟨y858, y859, hy860, hy861, c862, rfl, rfl⟩ | ⟨y863, y864, hy865, hy866, c867, rfl, rfl⟩
            · show own_Go p e below (T857.setTop (mkF m 124 #[.val (.int i0), .val (.int i1), .val (.long i2), .second, .val (.long i3), .second, .val (.long i4), .second, .val (.long i5), .second, .val (.int y1), .val (.int y3), .val (.int y4), .val (.ref b5), .val (.ref b9), .val (.int (0 : Int32)), .val (.int y850), .val (.int (0 : Int32)), .unset] [(.int (0 : Int32))])) _
              refine own_istore (pc' := 126) B X857 (Ls' := #[.val (.int i0), .val (.int i1), .val (.long i2), .second, .val (.long i3), .second, .val (.long i4), .second, .val (.long i5), .second, .val (.int y1), .val (.int y3), .val (.int y4), .val (.ref b5), .val (.ref b9), .val (.int (0 : Int32)), .val (.int y850), .val (.int (0 : Int32)), .val (.int (0 : Int32))]) at_124 rfl rfl ?_
              refine own_iload (pc' := 128) B X857 at_126 rfl rfl ?_
              refine own_iload (pc' := 130) B X857 at_128 rfl rfl ?_
              refine own_ifNo (pc' := 133) B X857 at_130 ((if0 _ _).trans (teq (by decide : (0 : Int32) = (0 : Int32))).2) rfl ?_
              refine own_iload (pc' := 135) B X857 at_133 rfl rfl ?_
              refine own_ifYes (pc' := 142) B X857 at_135 ((if0 _ _).trans (teq (by decide : (0 : Int32) = (0 : Int32))).1) (by decide) rfl ?_
              refine own_iconst (pc' := 143) B X857 (z := (0 : Int32)) at_142 rfl rfl ?_
              refine own_icmpNo (pc' := 146) B X857 at_143 (teq (by decide : (0 : Int32) = (0 : Int32))).2 rfl ?_
              refine own_iconst (pc' := 147) B X857 (z := (1 : Int32)) at_146 rfl rfl ?_
              refine own_goto (pc' := 151) B X857 at_147 (by decide) rfl ?_
              exact own_retN B X857 (t := .boolean) (z' := (1 : Int32)) (by simp) (by decide) at_151 (by decide) (by decide) rfl
            · exfalso
              have b0 := own_bitF hy842 hy843 rk.1 rk.2 c844
              have b1 := own_bitF hy853 hy854 (own_gez c851) (own_lt64 c852) c856
              have b2 := own_bitT hy865 hy866 rk.1 rk.2 c867
              rw [own_bitA rs rk rd hy814 hy815, decide_eq_false (own_nltz c851)] at b2
              revert b0 b1 b2
              generalize own_tb i4 y16.toInt.toNat = u0
              generalize own_tb i2 y850.toInt.toNat = u1
              revert u0 u1
              decide
          · refine own_ifNo (pc' := 110) B X839 at_107 ((if0 _ _).trans (feq (own_lcm (P := fun q => ¬ (q = (0 : Int32))) hy855 (fun q => c856 ((lw_eq y854 (0 : Int64)).mp q)))).1) rfl ?_
            refine own_iconst (pc' := 111) B X839 (z := (1 : Int32)) at_110 rfl rfl ?_
            refine own_goto (pc' := 115) B X839 at_111 (by decide) rfl ?_
            refine own_istore (pc' := 117) B X839 (Ls' := #[.val (.int i0), .val (.int i1), .val (.long i2), .second, .val (.long i3), .second, .val (.long i4), .second, .val (.long i5), .second, .val (.int y1), .val (.int y3), .val (.int y4), .val (.ref b5), .val (.ref b9), .val (.int (0 : Int32)), .val (.int y850), .val (.int (1 : Int32)), .unset]) at_115 rfl rfl ?_
            refine own_aload (pc' := 119) B X839 at_117 rfl rfl rfl ?_
            refine own_iload (pc' := 121) B X839 at_119 rfl rfl ?_
            refine own_callS (pc' := 124) B X839 (own_w hw 5 rfl) (own_w hw 6 rfl) (own_w hw 7 rfl) (own_w hw 8 rfl) (by decide) [(.ref b5), (.int y3)] [] (rm_3 l Z a0 hw [] b5 kb5 (i3) (y813) (i5) (y3) (y16) h811 n0 (Nat.le_trans Z0 K.1) E_b5 V_b5 g_b5 hy16 hy17) 0 (by decide) (by decide) rfl pd_1 rfl rfl (Nat.le_of_eq rfl) at_121 rfl (k' := 2) (n' := 6) rfl rfl (by decide) (by decide) ?_
            intro T868 v868 h868 X868 q868
            rcases q868 with ⟨y869, y870, hy871, hy872, c873, rfl, rfl⟩ | ⟨y874, y875, hy876, hy877, c878, rfl, rfl⟩
            · exfalso
              have b0 := own_bitF hy842 hy843 rk.1 rk.2 c844
              have b1 := own_bitT hy853 hy854 (own_gez c851) (own_lt64 c852) c856
              have b2 := own_bitF hy871 hy872 rk.1 rk.2 c873
              rw [own_bitA rs rk rd hy814 hy815, decide_eq_false (own_nltz c851)] at b2
              revert b0 b1 b2
              generalize own_tb i4 y16.toInt.toNat = u0
              generalize own_tb i2 y850.toInt.toNat = u1
              revert u0 u1
              decide
            · show own_Go p e below (T868.setTop (mkF m 124 #[.val (.int i0), .val (.int i1), .val (.long i2), .second, .val (.long i3), .second, .val (.long i4), .second, .val (.long i5), .second, .val (.int y1), .val (.int y3), .val (.int y4), .val (.ref b5), .val (.ref b9), .val (.int (0 : Int32)), .val (.int y850), .val (.int (1 : Int32)), .unset] [(.int (1 : Int32))])) _
              refine own_istore (pc' := 126) B X868 (Ls' := #[.val (.int i0), .val (.int i1), .val (.long i2), .second, .val (.long i3), .second, .val (.long i4), .second, .val (.long i5), .second, .val (.int y1), .val (.int y3), .val (.int y4), .val (.ref b5), .val (.ref b9), .val (.int (0 : Int32)), .val (.int y850), .val (.int (1 : Int32)), .val (.int (1 : Int32))]) at_124 rfl rfl ?_
              refine own_iload (pc' := 128) B X868 at_126 rfl rfl ?_
              refine own_iload (pc' := 130) B X868 at_128 rfl rfl ?_
              refine own_ifNo (pc' := 133) B X868 at_130 ((if0 _ _).trans (teq (by decide : (0 : Int32) = (0 : Int32))).2) rfl ?_
              refine own_iload (pc' := 135) B X868 at_133 rfl rfl ?_
              refine own_ifNo (pc' := 138) B X868 at_135 ((if0 _ _).trans (feq (by decide : ¬ ((1 : Int32) = (0 : Int32)))).1) rfl ?_
              refine own_iconst (pc' := 139) B X868 (z := (1 : Int32)) at_138 rfl rfl ?_
              refine own_goto (pc' := 143) B X868 at_139 (by decide) rfl ?_
              refine own_icmpNo (pc' := 146) B X868 at_143 (teq (by decide : (1 : Int32) = (1 : Int32))).2 rfl ?_
              refine own_iconst (pc' := 147) B X868 (z := (1 : Int32)) at_146 rfl rfl ?_
              refine own_goto (pc' := 151) B X868 at_147 (by decide) rfl ?_
              exact own_retN B X868 (t := .boolean) (z' := (1 : Int32)) (by simp) (by decide) at_151 (by decide) (by decide) rfl
        · show own_Go p e below (T839.setTop (mkF m 78 #[.val (.int i0), .val (.int i1), .val (.long i2), .second, .val (.long i3), .second, .val (.long i4), .second, .val (.long i5), .second, .val (.int y1), .val (.int y3), .val (.int y4), .val (.ref b5), .val (.ref b9), .unset, .unset, .unset, .unset] [(.int (1 : Int32))])) _
          refine own_istore (pc' := 80) B X839 (Ls' := #[.val (.int i0), .val (.int i1), .val (.long i2), .second, .val (.long i3), .second, .val (.long i4), .second, .val (.long i5), .second, .val (.int y1), .val (.int y3), .val (.int y4), .val (.ref b5), .val (.ref b9), .val (.int (1 : Int32)), .unset, .unset, .unset]) at_78 rfl rfl ?_
          refine own_iload (pc' := 82) B X839 at_80 rfl rfl ?_
          refine own_iload (pc' := 84) B X839 at_82 rfl rfl ?_
          obtain ⟨y879, hy879⟩ : ∃ z : Int32, y3 - y1 = z := ⟨_, rfl⟩
          refine own_isub (pc' := 85) B X839 at_84 rfl hy879 ?_
          refine own_istore (pc' := 87) B X839 (Ls' := #[.val (.int i0), .val (.int i1), .val (.long i2), .second, .val (.long i3), .second, .val (.long i4), .second, .val (.long i5), .second, .val (.int y1), .val (.int y3), .val (.int y4), .val (.ref b5), .val (.ref b9), .val (.int (1 : Int32)), .val (.int y879), .unset, .unset]) at_85 rfl rfl ?_
          have rd : y879.toInt = 64 * 0 + y16.toInt - y14.toInt := own_dist hy879 rp rq rs rk (by decide) (by decide) (by decide)
          refine own_iload (pc' := 89) B X839 at_87 rfl rfl ?_
          have c880 : ¬ (y879 < (0 : Int32)) := by
            have o0 := own_o_mask hy1 7 (by decide) (by decide)
            have o1 := own_o_iushr hy2 7 (by decide) (by decide)
            have o2 := own_o_irem hy3 192 (by decide)
            have o3 := own_o_iadd hy4
            have o4 := own_o_isub hy13
            have o5 := own_o_mask hy14 6 (by decide) (by decide)
            have o6 := own_o_iushr hy15 6 (by decide) (by decide)
            have o7 := own_o_mask hy16 6 (by decide) (by decide)
            have o8 := own_o_iushr hy17 6 (by decide) (by decide)
            have o9 := own_o_maskL hy848 1 (by decide) (by decide)
            have o10 := own_o_isub hy879
            have o11 := own_eq c816
            have o12 := own_neqL c849
            have o13 := rng32 i0
            have o14 := rng32 i1
            have o15 := rng32 y1
            have o16 := rng32 y14
            have o17 := rng32 y16
            have o18 := rng32 y2
            have o19 := rng32 y3
            have o20 := rng32 y4
            have o21 := rng32 y879
            have o22 := rng64 i4
            have o23 := rng64 y845
            have o24 := rng64 y846
            have o25 : (127 : Int32).toInt = 127 := by decide
            have o26 : (7 : Int32).toInt = 7 := by decide
            have o27 : (192 : Int32).toInt = 192 := by decide
            have o28 : (63 : Int32).toInt = 63 := by decide
            have o29 : (6 : Int32).toInt = 6 := by decide
            have o30 : (1 : Int32).toInt = 1 := by decide
            have o31 : (1 : Int64).toInt = 1 := by decide
            have o32 : (0 : Int32).toInt = 0 := by decide
            have o33 : (0 : Int64).toInt = 0 := by decide
            refine own_nltI ?_
            omega
          refine own_ifNo (pc' := 92) B X839 at_89 ((if0 _ _).trans (flt c880).1) rfl ?_
          refine own_iload (pc' := 94) B X839 at_92 rfl rfl ?_
          refine own_bipush (pc' := 96) B X839 (z := (64 : Int32)) at_94 rfl (by decide) ?_
          have c881 : y879 < (64 : Int32) := by
            have o0 := own_o_mask hy1 7 (by decide) (by decide)
            have o1 := own_o_iushr hy2 7 (by decide) (by decide)
            have o2 := own_o_irem hy3 192 (by decide)
            have o3 := own_o_iadd hy4
            have o4 := own_o_isub hy13
            have o5 := own_o_mask hy14 6 (by decide) (by decide)
            have o6 := own_o_iushr hy15 6 (by decide) (by decide)
            have o7 := own_o_mask hy16 6 (by decide) (by decide)
            have o8 := own_o_iushr hy17 6 (by decide) (by decide)
            have o9 := own_o_maskL hy848 1 (by decide) (by decide)
            have o10 := own_o_isub hy879
            have o11 := own_eq c816
            have o12 := own_neqL c849
            have o13 := own_nlt c880
            have o14 := rng32 i0
            have o15 := rng32 i1
            have o16 := rng32 y1
            have o17 := rng32 y14
            have o18 := rng32 y16
            have o19 := rng32 y2
            have o20 := rng32 y3
            have o21 := rng32 y4
            have o22 := rng32 y879
            have o23 := rng64 i4
            have o24 := rng64 y845
            have o25 := rng64 y846
            have o26 : (127 : Int32).toInt = 127 := by decide
            have o27 : (7 : Int32).toInt = 7 := by decide
            have o28 : (192 : Int32).toInt = 192 := by decide
            have o29 : (63 : Int32).toInt = 63 := by decide
            have o30 : (6 : Int32).toInt = 6 := by decide
            have o31 : (1 : Int32).toInt = 1 := by decide
            have o32 : (1 : Int64).toInt = 1 := by decide
            have o33 : (0 : Int32).toInt = 0 := by decide
            have o34 : (0 : Int64).toInt = 0 := by decide
            have o35 : (64 : Int32).toInt = 64 := by decide
            refine own_ltI ?_
            omega
          refine own_icmpNo (pc' := 99) B X839 at_96 (tlt c881).2.1 rfl ?_
          refine own_lloadN (pc' := 100) B X839 at_99 rfl rfl ?_
          refine own_iload (pc' := 102) B X839 at_100 rfl rfl ?_
          obtain ⟨y882, hy882⟩ : ∃ z : Int64, (i2.toUInt64 >>> (y879 &&& 0x3f).toInt64.toUInt64).toInt64 = z := ⟨_, rfl⟩
          refine own_lushr (pc' := 103) B X839 at_102 rfl hy882 ?_
          refine own_lconst (pc' := 104) B X839 (z := (1 : Int64)) at_103 rfl (by decide) ?_
          obtain ⟨y883, hy883⟩ : ∃ z : Int64, y882 &&& (1 : Int64) = z := ⟨_, rfl⟩
          refine own_land (pc' := 105) B X839 at_104 rfl hy883 ?_
          refine own_lconst (pc' := 106) B X839 (z := (0 : Int64)) at_105 rfl (by decide) ?_
          obtain ⟨y884, hy884⟩ : ∃ z : Int32, lcmpW y883 (0 : Int64) = z := ⟨_, rfl⟩
          refine own_lcmp (pc' := 107) B X839 at_106 rfl hy884 ?_
          by_cases c885 : y883 = (0 : Int64)
          · refine own_ifYes (pc' := 114) B X839 at_107 ((if0 _ _).trans (teq (own_lcm (P := fun q => (q = (0 : Int32))) hy884 ((lw_eq y883 (0 : Int64)).mpr c885))).1) (by decide) rfl ?_
            refine own_iconst (pc' := 115) B X839 (z := (0 : Int32)) at_114 rfl rfl ?_
            refine own_istore (pc' := 117) B X839 (Ls' := #[.val (.int i0), .val (.int i1), .val (.long i2), .second, .val (.long i3), .second, .val (.long i4), .second, .val (.long i5), .second, .val (.int y1), .val (.int y3), .val (.int y4), .val (.ref b5), .val (.ref b9), .val (.int (1 : Int32)), .val (.int y879), .val (.int (0 : Int32)), .unset]) at_115 rfl rfl ?_
            refine own_aload (pc' := 119) B X839 at_117 rfl rfl rfl ?_
            refine own_iload (pc' := 121) B X839 at_119 rfl rfl ?_
            refine own_callS (pc' := 124) B X839 (own_w hw 5 rfl) (own_w hw 6 rfl) (own_w hw 7 rfl) (own_w hw 8 rfl) (by decide) [(.ref b5), (.int y3)] [] (rm_3 l Z a0 hw [] b5 kb5 (i3) (y813) (i5) (y3) (y16) h811 n0 (Nat.le_trans Z0 K.1) E_b5 V_b5 g_b5 hy16 hy17) 0 (by decide) (by decide) rfl pd_1 rfl rfl (Nat.le_of_eq rfl) at_121 rfl (k' := 2) (n' := 6) rfl rfl (by decide) (by decide) ?_
            intro T886 v886 h886 X886 q886
            rcases q886 with ⟨y887, y888, hy889, hy890, c891, rfl, rfl⟩ | ⟨y892, y893, hy894, hy895, c896, rfl, rfl⟩
            · exfalso
              have b0 := own_bitT hy847 hy848 rk.1 rk.2 c849
              have b1 := own_bitF hy882 hy883 (own_gez c880) (own_lt64 c881) c885
              have b2 := own_bitF hy889 hy890 rk.1 rk.2 c891
              rw [own_bitA rs rk rd hy814 hy815, decide_eq_false (own_nltz c880)] at b2
              revert b0 b1 b2
              generalize own_tb i4 y16.toInt.toNat = u0
              generalize own_tb i2 y879.toInt.toNat = u1
              revert u0 u1
              decide
            · show own_Go p e below (T886.setTop (mkF m 124 #[.val (.int i0), .val (.int i1), .val (.long i2), .second, .val (.long i3), .second, .val (.long i4), .second, .val (.long i5), .second, .val (.int y1), .val (.int y3), .val (.int y4), .val (.ref b5), .val (.ref b9), .val (.int (1 : Int32)), .val (.int y879), .val (.int (0 : Int32)), .unset] [(.int (1 : Int32))])) _
              refine own_istore (pc' := 126) B X886 (Ls' := #[.val (.int i0), .val (.int i1), .val (.long i2), .second, .val (.long i3), .second, .val (.long i4), .second, .val (.long i5), .second, .val (.int y1), .val (.int y3), .val (.int y4), .val (.ref b5), .val (.ref b9), .val (.int (1 : Int32)), .val (.int y879), .val (.int (0 : Int32)), .val (.int (1 : Int32))]) at_124 rfl rfl ?_
              refine own_iload (pc' := 128) B X886 at_126 rfl rfl ?_
              refine own_iload (pc' := 130) B X886 at_128 rfl rfl ?_
              refine own_ifYes (pc' := 138) B X886 at_130 ((if0 _ _).trans (feq (by decide : ¬ ((1 : Int32) = (0 : Int32)))).2) (by decide) rfl ?_
              refine own_iconst (pc' := 139) B X886 (z := (1 : Int32)) at_138 rfl rfl ?_
              refine own_goto (pc' := 143) B X886 at_139 (by decide) rfl ?_
              refine own_icmpNo (pc' := 146) B X886 at_143 (teq (by decide : (1 : Int32) = (1 : Int32))).2 rfl ?_
              refine own_iconst (pc' := 147) B X886 (z := (1 : Int32)) at_146 rfl rfl ?_
              refine own_goto (pc' := 151) B X886 at_147 (by decide) rfl ?_
              exact own_retN B X886 (t := .boolean) (z' := (1 : Int32)) (by simp) (by decide) at_151 (by decide) (by decide) rfl
          · refine own_ifNo (pc' := 110) B X839 at_107 ((if0 _ _).trans (feq (own_lcm (P := fun q => ¬ (q = (0 : Int32))) hy884 (fun q => c885 ((lw_eq y883 (0 : Int64)).mp q)))).1) rfl ?_
            refine own_iconst (pc' := 111) B X839 (z := (1 : Int32)) at_110 rfl rfl ?_
            refine own_goto (pc' := 115) B X839 at_111 (by decide) rfl ?_
            refine own_istore (pc' := 117) B X839 (Ls' := #[.val (.int i0), .val (.int i1), .val (.long i2), .second, .val (.long i3), .second, .val (.long i4), .second, .val (.long i5), .second, .val (.int y1), .val (.int y3), .val (.int y4), .val (.ref b5), .val (.ref b9), .val (.int (1 : Int32)), .val (.int y879), .val (.int (1 : Int32)), .unset]) at_115 rfl rfl ?_
            refine own_aload (pc' := 119) B X839 at_117 rfl rfl rfl ?_
            refine own_iload (pc' := 121) B X839 at_119 rfl rfl ?_
            refine own_callS (pc' := 124) B X839 (own_w hw 5 rfl) (own_w hw 6 rfl) (own_w hw 7 rfl) (own_w hw 8 rfl) (by decide) [(.ref b5), (.int y3)] [] (rm_3 l Z a0 hw [] b5 kb5 (i3) (y813) (i5) (y3) (y16) h811 n0 (Nat.le_trans Z0 K.1) E_b5 V_b5 g_b5 hy16 hy17) 0 (by decide) (by decide) rfl pd_1 rfl rfl (Nat.le_of_eq rfl) at_121 rfl (k' := 2) (n' := 6) rfl rfl (by decide) (by decide) ?_
            intro T897 v897 h897 X897 q897
            rcases q897 with ⟨y898, y899, hy900, hy901, c902, rfl, rfl⟩ | ⟨y903, y904, hy905, hy906, c907, rfl, rfl⟩
            · exfalso
              have b0 := own_bitT hy847 hy848 rk.1 rk.2 c849
              have b1 := own_bitT hy882 hy883 (own_gez c880) (own_lt64 c881) c885
              have b2 := own_bitF hy900 hy901 rk.1 rk.2 c902
              rw [own_bitA rs rk rd hy814 hy815, decide_eq_false (own_nltz c880)] at b2
              revert b0 b1 b2
              generalize own_tb i4 y16.toInt.toNat = u0
              generalize own_tb i2 y879.toInt.toNat = u1
              revert u0 u1
              decide
            · show own_Go p e below (T897.setTop (mkF m 124 #[.val (.int i0), .val (.int i1), .val (.long i2), .second, .val (.long i3), .second, .val (.long i4), .second, .val (.long i5), .second, .val (.int y1), .val (.int y3), .val (.int y4), .val (.ref b5), .val (.ref b9), .val (.int (1 : Int32)), .val (.int y879), .val (.int (1 : Int32)), .unset] [(.int (1 : Int32))])) _
              refine own_istore (pc' := 126) B X897 (Ls' := #[.val (.int i0), .val (.int i1), .val (.long i2), .second, .val (.long i3), .second, .val (.long i4), .second, .val (.long i5), .second, .val (.int y1), .val (.int y3), .val (.int y4), .val (.ref b5), .val (.ref b9), .val (.int (1 : Int32)), .val (.int y879), .val (.int (1 : Int32)), .val (.int (1 : Int32))]) at_124 rfl rfl ?_
              refine own_iload (pc' := 128) B X897 at_126 rfl rfl ?_
              refine own_iload (pc' := 130) B X897 at_128 rfl rfl ?_
              refine own_ifYes (pc' := 138) B X897 at_130 ((if0 _ _).trans (feq (by decide : ¬ ((1 : Int32) = (0 : Int32)))).2) (by decide) rfl ?_
              refine own_iconst (pc' := 139) B X897 (z := (1 : Int32)) at_138 rfl rfl ?_
              refine own_goto (pc' := 143) B X897 at_139 (by decide) rfl ?_
              refine own_icmpNo (pc' := 146) B X897 at_143 (teq (by decide : (1 : Int32) = (1 : Int32))).2 rfl ?_
              refine own_iconst (pc' := 147) B X897 (z := (1 : Int32)) at_146 rfl rfl ?_
              refine own_goto (pc' := 151) B X897 at_147 (by decide) rfl ?_
              exact own_retN B X897 (t := .boolean) (z' := (1 : Int32)) (by simp) (by decide) at_151 (by decide) (by decide) rfl
      · replace K := K.trans K811 (allS (Or.inr sz_b5) all0)
        replace E_b9 := E_b9.keep K811
        replace V_b9 := V_b9.keep K811 (ninS (Ne.symm ne_b5_b9) nin0)
        show own_Go p e below (T811.setTop (mkF m 71 #[.val (.int i0), .val (.int i1), .val (.long i2), .second, .val (.long i3), .second, .val (.long i4), .second, .val (.long i5), .second, .val (.int y1), .val (.int y3), .val (.int y4), .val (.ref b5), .val (.ref b9), .unset, .unset, .unset, .unset] [])) _
        refine own_aload (pc' := 73) B X811 at_71 rfl rfl rfl ?_
        refine own_iload (pc' := 75) B X811 at_73 rfl rfl ?_
        refine own_callS (pc' := 78) B X811 (own_w hw 5 rfl) (own_w hw 6 rfl) (own_w hw 7 rfl) (own_w hw 8 rfl) (by decide) [(.ref b9), (.int y3)] [] (rm_3 l Z a0 hw [] b9 kb9 (i3) (i4) (i5) (y3) (y16) h811 n0 (Nat.le_trans Z0 K.1) E_b9 V_b9 g_b9 hy16 hy17) 0 (by decide) (by decide) rfl pd_1 rfl rfl (Nat.le_of_eq rfl) at_75 rfl (k' := 2) (n' := 6) rfl rfl (by decide) (by decide) ?_
        intro T908 v908 h908 X908 q908
        rcases q908 with ⟨y909, y910, hy911, hy912, c913, rfl, rfl⟩ | ⟨y914, y915, hy916, hy917, c918, rfl, rfl⟩
        · show own_Go p e below (T908.setTop (mkF m 78 #[.val (.int i0), .val (.int i1), .val (.long i2), .second, .val (.long i3), .second, .val (.long i4), .second, .val (.long i5), .second, .val (.int y1), .val (.int y3), .val (.int y4), .val (.ref b5), .val (.ref b9), .unset, .unset, .unset, .unset] [(.int (0 : Int32))])) _
          refine own_istore (pc' := 80) B X908 (Ls' := #[.val (.int i0), .val (.int i1), .val (.long i2), .second, .val (.long i3), .second, .val (.long i4), .second, .val (.long i5), .second, .val (.int y1), .val (.int y3), .val (.int y4), .val (.ref b5), .val (.ref b9), .val (.int (0 : Int32)), .unset, .unset, .unset]) at_78 rfl rfl ?_
          refine own_iload (pc' := 82) B X908 at_80 rfl rfl ?_
          refine own_iload (pc' := 84) B X908 at_82 rfl rfl ?_
          obtain ⟨y919, hy919⟩ : ∃ z : Int32, y3 - y1 = z := ⟨_, rfl⟩
          refine own_isub (pc' := 85) B X908 at_84 rfl hy919 ?_
          refine own_istore (pc' := 87) B X908 (Ls' := #[.val (.int i0), .val (.int i1), .val (.long i2), .second, .val (.long i3), .second, .val (.long i4), .second, .val (.long i5), .second, .val (.int y1), .val (.int y3), .val (.int y4), .val (.ref b5), .val (.ref b9), .val (.int (0 : Int32)), .val (.int y919), .unset, .unset]) at_85 rfl rfl ?_
          have rd : y919.toInt = 64 * 0 + y16.toInt - y14.toInt := own_dist hy919 rp rq rs rk (by decide) (by decide) (by decide)
          refine own_iload (pc' := 89) B X908 at_87 rfl rfl ?_
          by_cases c920 : y919 < (0 : Int32)
          · refine own_ifYes (pc' := 114) B X908 at_89 ((if0 _ _).trans (tlt c920).1) (by decide) rfl ?_
            refine own_iconst (pc' := 115) B X908 (z := (0 : Int32)) at_114 rfl rfl ?_
            refine own_istore (pc' := 117) B X908 (Ls' := #[.val (.int i0), .val (.int i1), .val (.long i2), .second, .val (.long i3), .second, .val (.long i4), .second, .val (.long i5), .second, .val (.int y1), .val (.int y3), .val (.int y4), .val (.ref b5), .val (.ref b9), .val (.int (0 : Int32)), .val (.int y919), .val (.int (0 : Int32)), .unset]) at_115 rfl rfl ?_
            refine own_aload (pc' := 119) B X908 at_117 rfl rfl rfl ?_
            refine own_iload (pc' := 121) B X908 at_119 rfl rfl ?_
            refine own_callS (pc' := 124) B X908 (own_w hw 5 rfl) (own_w hw 6 rfl) (own_w hw 7 rfl) (own_w hw 8 rfl) (by decide) [(.ref b5), (.int y3)] [] (rm_3 l Z a0 hw [] b5 kb5 (i3) (y818) (i5) (y3) (y16) h811 n0 (Nat.le_trans Z0 K.1) E_b5 V_b5 g_b5 hy16 hy17) 0 (by decide) (by decide) rfl pd_1 rfl rfl (Nat.le_of_eq rfl) at_121 rfl (k' := 2) (n' := 6) rfl rfl (by decide) (by decide) ?_
            intro T921 v921 h921 X921 q921
            rcases q921 with ⟨y922, y923, hy924, hy925, c926, rfl, rfl⟩ | ⟨y927, y928, hy929, hy930, c931, rfl, rfl⟩
            · show own_Go p e below (T921.setTop (mkF m 124 #[.val (.int i0), .val (.int i1), .val (.long i2), .second, .val (.long i3), .second, .val (.long i4), .second, .val (.long i5), .second, .val (.int y1), .val (.int y3), .val (.int y4), .val (.ref b5), .val (.ref b9), .val (.int (0 : Int32)), .val (.int y919), .val (.int (0 : Int32)), .unset] [(.int (0 : Int32))])) _
              refine own_istore (pc' := 126) B X921 (Ls' := #[.val (.int i0), .val (.int i1), .val (.long i2), .second, .val (.long i3), .second, .val (.long i4), .second, .val (.long i5), .second, .val (.int y1), .val (.int y3), .val (.int y4), .val (.ref b5), .val (.ref b9), .val (.int (0 : Int32)), .val (.int y919), .val (.int (0 : Int32)), .val (.int (0 : Int32))]) at_124 rfl rfl ?_
              refine own_iload (pc' := 128) B X921 at_126 rfl rfl ?_
              refine own_iload (pc' := 130) B X921 at_128 rfl rfl ?_
              refine own_ifNo (pc' := 133) B X921 at_130 ((if0 _ _).trans (teq (by decide : (0 : Int32) = (0 : Int32))).2) rfl ?_
              refine own_iload (pc' := 135) B X921 at_133 rfl rfl ?_
              refine own_ifYes (pc' := 142) B X921 at_135 ((if0 _ _).trans (teq (by decide : (0 : Int32) = (0 : Int32))).1) (by decide) rfl ?_
              refine own_iconst (pc' := 143) B X921 (z := (0 : Int32)) at_142 rfl rfl ?_
              refine own_icmpNo (pc' := 146) B X921 at_143 (teq (by decide : (0 : Int32) = (0 : Int32))).2 rfl ?_
              refine own_iconst (pc' := 147) B X921 (z := (1 : Int32)) at_146 rfl rfl ?_
              refine own_goto (pc' := 151) B X921 at_147 (by decide) rfl ?_
              exact own_retN B X921 (t := .boolean) (z' := (1 : Int32)) (by simp) (by decide) at_151 (by decide) (by decide) rfl
            · exfalso
              have b0 := own_bitF hy911 hy912 rk.1 rk.2 c913
              have b1 := own_bitT hy929 hy930 rk.1 rk.2 c931
              rw [own_bitA rs rk rd hy821 hy822, decide_eq_true (own_ltz c920)] at b1
              revert b0 b1
              generalize own_tb i4 y16.toInt.toNat = u0
              generalize own_tb i2 y919.toInt.toNat = u1
              revert u0 u1
              decide
          · refine own_ifNo (pc' := 92) B X908 at_89 ((if0 _ _).trans (flt c920).1) rfl ?_
            refine own_iload (pc' := 94) B X908 at_92 rfl rfl ?_
            refine own_bipush (pc' := 96) B X908 (z := (64 : Int32)) at_94 rfl (by decide) ?_
            have c932 : y919 < (64 : Int32) := by
              have o0 := own_o_mask hy1 7 (by decide) (by decide)
              have o1 := own_o_iushr hy2 7 (by decide) (by decide)
              have o2 := own_o_irem hy3 192 (by decide)
              have o3 := own_o_iadd hy4
              have o4 := own_o_isub hy13
              have o5 := own_o_mask hy14 6 (by decide) (by decide)
              have o6 := own_o_iushr hy15 6 (by decide) (by decide)
              have o7 := own_o_mask hy16 6 (by decide) (by decide)
              have o8 := own_o_iushr hy17 6 (by decide) (by decide)
              have o9 := own_o_isub hy824
              have o10 := own_o_maskL hy912 1 (by decide) (by decide)
              have o11 := own_o_isub hy919
              have o12 := own_neq c823
              have o13 := own_eqL c826
              have o14 := own_eqL c913
              have o15 := own_nlt c920
              have o16 := rng32 i0
              have o17 := rng32 i1
              have o18 := rng32 y1
              have o19 := rng32 y14
              have o20 := rng32 y16
              have o21 := rng32 y2
              have o22 := rng32 y3
              have o23 := rng32 y4
              have o24 := rng32 y819
              have o25 := rng32 y919
              have o26 := rng64 i2
              have o27 := rng64 i4
              have o28 := rng64 y820
              have o29 := rng64 y909
              have o30 := rng64 y910
              have o31 : (127 : Int32).toInt = 127 := by decide
              have o32 : (7 : Int32).toInt = 7 := by decide
              have o33 : (192 : Int32).toInt = 192 := by decide
              have o34 : (63 : Int32).toInt = 63 := by decide
              have o35 : (6 : Int32).toInt = 6 := by decide
              have o36 : (1 : Int32).toInt = 1 := by decide
              have o37 : (64 : Int32).toInt = 64 := by decide
              have o38 : (1 : Int64).toInt = 1 := by decide
              have o39 : (0 : Int32).toInt = 0 := by decide
              have o40 : (0 : Int64).toInt = 0 := by decide
              refine own_ltI ?_
              omega
            refine own_icmpNo (pc' := 99) B X908 at_96 (tlt c932).2.1 rfl ?_
            refine own_lloadN (pc' := 100) B X908 at_99 rfl rfl ?_
            refine own_iload (pc' := 102) B X908 at_100 rfl rfl ?_
            obtain ⟨y933, hy933⟩ : ∃ z : Int64, (i2.toUInt64 >>> (y919 &&& 0x3f).toInt64.toUInt64).toInt64 = z := ⟨_, rfl⟩
            refine own_lushr (pc' := 103) B X908 at_102 rfl hy933 ?_
            refine own_lconst (pc' := 104) B X908 (z := (1 : Int64)) at_103 rfl (by decide) ?_
            obtain ⟨y934, hy934⟩ : ∃ z : Int64, y933 &&& (1 : Int64) = z := ⟨_, rfl⟩
            refine own_land (pc' := 105) B X908 at_104 rfl hy934 ?_
            refine own_lconst (pc' := 106) B X908 (z := (0 : Int64)) at_105 rfl (by decide) ?_
            obtain ⟨y935, hy935⟩ : ∃ z : Int32, lcmpW y934 (0 : Int64) = z := ⟨_, rfl⟩
            refine own_lcmp (pc' := 107) B X908 at_106 rfl hy935 ?_
            by_cases c936 : y934 = (0 : Int64)
            · refine own_ifYes (pc' := 114) B X908 at_107 ((if0 _ _).trans (teq (own_lcm (P := fun q => (q = (0 : Int32))) hy935 ((lw_eq y934 (0 : Int64)).mpr c936))).1) (by decide) rfl ?_
              refine own_iconst (pc' := 115) B X908 (z := (0 : Int32)) at_114 rfl rfl ?_
              refine own_istore (pc' := 117) B X908 (Ls' := #[.val (.int i0), .val (.int i1), .val (.long i2), .second, .val (.long i3), .second, .val (.long i4), .second, .val (.long i5), .second, .val (.int y1), .val (.int y3), .val (.int y4), .val (.ref b5), .val (.ref b9), .val (.int (0 : Int32)), .val (.int y919), .val (.int (0 : Int32)), .unset]) at_115 rfl rfl ?_
              refine own_aload (pc' := 119) B X908 at_117 rfl rfl rfl ?_
              refine own_iload (pc' := 121) B X908 at_119 rfl rfl ?_
              refine own_callS (pc' := 124) B X908 (own_w hw 5 rfl) (own_w hw 6 rfl) (own_w hw 7 rfl) (own_w hw 8 rfl) (by decide) [(.ref b5), (.int y3)] [] (rm_3 l Z a0 hw [] b5 kb5 (i3) (y818) (i5) (y3) (y16) h811 n0 (Nat.le_trans Z0 K.1) E_b5 V_b5 g_b5 hy16 hy17) 0 (by decide) (by decide) rfl pd_1 rfl rfl (Nat.le_of_eq rfl) at_121 rfl (k' := 2) (n' := 6) rfl rfl (by decide) (by decide) ?_
              intro T937 v937 h937 X937 q937
              rcases q937 with ⟨y938, y939, hy940, hy941, c942, rfl, rfl⟩ | ⟨y943, y944, hy945, hy946, c947, rfl, rfl⟩
              · show own_Go p e below (T937.setTop (mkF m 124 #[.val (.int i0), .val (.int i1), .val (.long i2), .second, .val (.long i3), .second, .val (.long i4), .second, .val (.long i5), .second, .val (.int y1), .val (.int y3), .val (.int y4), .val (.ref b5), .val (.ref b9), .val (.int (0 : Int32)), .val (.int y919), .val (.int (0 : Int32)), .unset] [(.int (0 : Int32))])) _
                refine own_istore (pc' := 126) B X937 (Ls' := #[.val (.int i0), .val (.int i1), .val (.long i2), .second, .val (.long i3), .second, .val (.long i4), .second, .val (.long i5), .second, .val (.int y1), .val (.int y3), .val (.int y4), .val (.ref b5), .val (.ref b9), .val (.int (0 : Int32)), .val (.int y919), .val (.int (0 : Int32)), .val (.int (0 : Int32))]) at_124 rfl rfl ?_
                refine own_iload (pc' := 128) B X937 at_126 rfl rfl ?_
                refine own_iload (pc' := 130) B X937 at_128 rfl rfl ?_
                refine own_ifNo (pc' := 133) B X937 at_130 ((if0 _ _).trans (teq (by decide : (0 : Int32) = (0 : Int32))).2) rfl ?_
                refine own_iload (pc' := 135) B X937 at_133 rfl rfl ?_
                refine own_ifYes (pc' := 142) B X937 at_135 ((if0 _ _).trans (teq (by decide : (0 : Int32) = (0 : Int32))).1) (by decide) rfl ?_
                refine own_iconst (pc' := 143) B X937 (z := (0 : Int32)) at_142 rfl rfl ?_
                refine own_icmpNo (pc' := 146) B X937 at_143 (teq (by decide : (0 : Int32) = (0 : Int32))).2 rfl ?_
                refine own_iconst (pc' := 147) B X937 (z := (1 : Int32)) at_146 rfl rfl ?_
                refine own_goto (pc' := 151) B X937 at_147 (by decide) rfl ?_
                exact own_retN B X937 (t := .boolean) (z' := (1 : Int32)) (by simp) (by decide) at_151 (by decide) (by decide) rfl
              · exfalso
                have b0 := own_bitF hy911 hy912 rk.1 rk.2 c913
                have b1 := own_bitF hy933 hy934 (own_gez c920) (own_lt64 c932) c936
                have b2 := own_bitT hy945 hy946 rk.1 rk.2 c947
                rw [own_bitA rs rk rd hy821 hy822, decide_eq_false (own_nltz c920)] at b2
                revert b0 b1 b2
                generalize own_tb i4 y16.toInt.toNat = u0
                generalize own_tb i2 y919.toInt.toNat = u1
                revert u0 u1
                decide
            · refine own_ifNo (pc' := 110) B X908 at_107 ((if0 _ _).trans (feq (own_lcm (P := fun q => ¬ (q = (0 : Int32))) hy935 (fun q => c936 ((lw_eq y934 (0 : Int64)).mp q)))).1) rfl ?_
              refine own_iconst (pc' := 111) B X908 (z := (1 : Int32)) at_110 rfl rfl ?_
              refine own_goto (pc' := 115) B X908 at_111 (by decide) rfl ?_
              refine own_istore (pc' := 117) B X908 (Ls' := #[.val (.int i0), .val (.int i1), .val (.long i2), .second, .val (.long i3), .second, .val (.long i4), .second, .val (.long i5), .second, .val (.int y1), .val (.int y3), .val (.int y4), .val (.ref b5), .val (.ref b9), .val (.int (0 : Int32)), .val (.int y919), .val (.int (1 : Int32)), .unset]) at_115 rfl rfl ?_
              refine own_aload (pc' := 119) B X908 at_117 rfl rfl rfl ?_
              refine own_iload (pc' := 121) B X908 at_119 rfl rfl ?_
              refine own_callS (pc' := 124) B X908 (own_w hw 5 rfl) (own_w hw 6 rfl) (own_w hw 7 rfl) (own_w hw 8 rfl) (by decide) [(.ref b5), (.int y3)] [] (rm_3 l Z a0 hw [] b5 kb5 (i3) (y818) (i5) (y3) (y16) h811 n0 (Nat.le_trans Z0 K.1) E_b5 V_b5 g_b5 hy16 hy17) 0 (by decide) (by decide) rfl pd_1 rfl rfl (Nat.le_of_eq rfl) at_121 rfl (k' := 2) (n' := 6) rfl rfl (by decide) (by decide) ?_
              intro T948 v948 h948 X948 q948
              rcases q948 with ⟨y949, y950, hy951, hy952, c953, rfl, rfl⟩ | ⟨y954, y955, hy956, hy957, c958, rfl, rfl⟩
              · exfalso
                have b0 := own_bitF hy911 hy912 rk.1 rk.2 c913
                have b1 := own_bitT hy933 hy934 (own_gez c920) (own_lt64 c932) c936
                have b2 := own_bitF hy951 hy952 rk.1 rk.2 c953
                rw [own_bitA rs rk rd hy821 hy822, decide_eq_false (own_nltz c920)] at b2
                revert b0 b1 b2
                generalize own_tb i4 y16.toInt.toNat = u0
                generalize own_tb i2 y919.toInt.toNat = u1
                revert u0 u1
                decide
              · show own_Go p e below (T948.setTop (mkF m 124 #[.val (.int i0), .val (.int i1), .val (.long i2), .second, .val (.long i3), .second, .val (.long i4), .second, .val (.long i5), .second, .val (.int y1), .val (.int y3), .val (.int y4), .val (.ref b5), .val (.ref b9), .val (.int (0 : Int32)), .val (.int y919), .val (.int (1 : Int32)), .unset] [(.int (1 : Int32))])) _
                refine own_istore (pc' := 126) B X948 (Ls' := #[.val (.int i0), .val (.int i1), .val (.long i2), .second, .val (.long i3), .second, .val (.long i4), .second, .val (.long i5), .second, .val (.int y1), .val (.int y3), .val (.int y4), .val (.ref b5), .val (.ref b9), .val (.int (0 : Int32)), .val (.int y919), .val (.int (1 : Int32)), .val (.int (1 : Int32))]) at_124 rfl rfl ?_
                refine own_iload (pc' := 128) B X948 at_126 rfl rfl ?_
                refine own_iload (pc' := 130) B X948 at_128 rfl rfl ?_
                refine own_ifNo (pc' := 133) B X948 at_130 ((if0 _ _).trans (teq (by decide : (0 : Int32) = (0 : Int32))).2) rfl ?_
                refine own_iload (pc' := 135) B X948 at_133 rfl rfl ?_
                refine own_ifNo (pc' := 138) B X948 at_135 ((if0 _ _).trans (feq (by decide : ¬ ((1 : Int32) = (0 : Int32)))).1) rfl ?_
                refine own_iconst (pc' := 139) B X948 (z := (1 : Int32)) at_138 rfl rfl ?_
                refine own_goto (pc' := 143) B X948 at_139 (by decide) rfl ?_
                refine own_icmpNo (pc' := 146) B X948 at_143 (teq (by decide : (1 : Int32) = (1 : Int32))).2 rfl ?_
                refine own_iconst (pc' := 147) B X948 (z := (1 : Int32)) at_146 rfl rfl ?_
                refine own_goto (pc' := 151) B X948 at_147 (by decide) rfl ?_
                exact own_retN B X948 (t := .boolean) (z' := (1 : Int32)) (by simp) (by decide) at_151 (by decide) (by decide) rfl
        · show own_Go p e below (T908.setTop (mkF m 78 #[.val (.int i0), .val (.int i1), .val (.long i2), .second, .val (.long i3), .second, .val (.long i4), .second, .val (.long i5), .second, .val (.int y1), .val (.int y3), .val (.int y4), .val (.ref b5), .val (.ref b9), .unset, .unset, .unset, .unset] [(.int (1 : Int32))])) _
          refine own_istore (pc' := 80) B X908 (Ls' := #[.val (.int i0), .val (.int i1), .val (.long i2), .second, .val (.long i3), .second, .val (.long i4), .second, .val (.long i5), .second, .val (.int y1), .val (.int y3), .val (.int y4), .val (.ref b5), .val (.ref b9), .val (.int (1 : Int32)), .unset, .unset, .unset]) at_78 rfl rfl ?_
          refine own_iload (pc' := 82) B X908 at_80 rfl rfl ?_
          refine own_iload (pc' := 84) B X908 at_82 rfl rfl ?_
          obtain ⟨y959, hy959⟩ : ∃ z : Int32, y3 - y1 = z := ⟨_, rfl⟩
          refine own_isub (pc' := 85) B X908 at_84 rfl hy959 ?_
          refine own_istore (pc' := 87) B X908 (Ls' := #[.val (.int i0), .val (.int i1), .val (.long i2), .second, .val (.long i3), .second, .val (.long i4), .second, .val (.long i5), .second, .val (.int y1), .val (.int y3), .val (.int y4), .val (.ref b5), .val (.ref b9), .val (.int (1 : Int32)), .val (.int y959), .unset, .unset]) at_85 rfl rfl ?_
          have rd : y959.toInt = 64 * 0 + y16.toInt - y14.toInt := own_dist hy959 rp rq rs rk (by decide) (by decide) (by decide)
          refine own_iload (pc' := 89) B X908 at_87 rfl rfl ?_
          by_cases c960 : y959 < (0 : Int32)
          · refine own_ifYes (pc' := 114) B X908 at_89 ((if0 _ _).trans (tlt c960).1) (by decide) rfl ?_
            refine own_iconst (pc' := 115) B X908 (z := (0 : Int32)) at_114 rfl rfl ?_
            refine own_istore (pc' := 117) B X908 (Ls' := #[.val (.int i0), .val (.int i1), .val (.long i2), .second, .val (.long i3), .second, .val (.long i4), .second, .val (.long i5), .second, .val (.int y1), .val (.int y3), .val (.int y4), .val (.ref b5), .val (.ref b9), .val (.int (1 : Int32)), .val (.int y959), .val (.int (0 : Int32)), .unset]) at_115 rfl rfl ?_
            refine own_aload (pc' := 119) B X908 at_117 rfl rfl rfl ?_
            refine own_iload (pc' := 121) B X908 at_119 rfl rfl ?_
            refine own_callS (pc' := 124) B X908 (own_w hw 5 rfl) (own_w hw 6 rfl) (own_w hw 7 rfl) (own_w hw 8 rfl) (by decide) [(.ref b5), (.int y3)] [] (rm_3 l Z a0 hw [] b5 kb5 (i3) (y818) (i5) (y3) (y16) h811 n0 (Nat.le_trans Z0 K.1) E_b5 V_b5 g_b5 hy16 hy17) 0 (by decide) (by decide) rfl pd_1 rfl rfl (Nat.le_of_eq rfl) at_121 rfl (k' := 2) (n' := 6) rfl rfl (by decide) (by decide) ?_
            intro T961 v961 h961 X961 q961
            rcases q961 with ⟨y962, y963, hy964, hy965, c966, rfl, rfl⟩ | ⟨y967, y968, hy969, hy970, c971, rfl, rfl⟩
            · exfalso
              have b0 := own_bitT hy916 hy917 rk.1 rk.2 c918
              have b1 := own_bitF hy964 hy965 rk.1 rk.2 c966
              rw [own_bitA rs rk rd hy821 hy822, decide_eq_true (own_ltz c960)] at b1
              revert b0 b1
              generalize own_tb i4 y16.toInt.toNat = u0
              generalize own_tb i2 y959.toInt.toNat = u1
              revert u0 u1
              decide
            · show own_Go p e below (T961.setTop (mkF m 124 #[.val (.int i0), .val (.int i1), .val (.long i2), .second, .val (.long i3), .second, .val (.long i4), .second, .val (.long i5), .second, .val (.int y1), .val (.int y3), .val (.int y4), .val (.ref b5), .val (.ref b9), .val (.int (1 : Int32)), .val (.int y959), .val (.int (0 : Int32)), .unset] [(.int (1 : Int32))])) _
              refine own_istore (pc' := 126) B X961 (Ls' := #[.val (.int i0), .val (.int i1), .val (.long i2), .second, .val (.long i3), .second, .val (.long i4), .second, .val (.long i5), .second, .val (.int y1), .val (.int y3), .val (.int y4), .val (.ref b5), .val (.ref b9), .val (.int (1 : Int32)), .val (.int y959), .val (.int (0 : Int32)), .val (.int (1 : Int32))]) at_124 rfl rfl ?_
              refine own_iload (pc' := 128) B X961 at_126 rfl rfl ?_
              refine own_iload (pc' := 130) B X961 at_128 rfl rfl ?_
              refine own_ifYes (pc' := 138) B X961 at_130 ((if0 _ _).trans (feq (by decide : ¬ ((1 : Int32) = (0 : Int32)))).2) (by decide) rfl ?_
              refine own_iconst (pc' := 139) B X961 (z := (1 : Int32)) at_138 rfl rfl ?_
              refine own_goto (pc' := 143) B X961 at_139 (by decide) rfl ?_
              refine own_icmpNo (pc' := 146) B X961 at_143 (teq (by decide : (1 : Int32) = (1 : Int32))).2 rfl ?_
              refine own_iconst (pc' := 147) B X961 (z := (1 : Int32)) at_146 rfl rfl ?_
              refine own_goto (pc' := 151) B X961 at_147 (by decide) rfl ?_
              exact own_retN B X961 (t := .boolean) (z' := (1 : Int32)) (by simp) (by decide) at_151 (by decide) (by decide) rfl
          · refine own_ifNo (pc' := 92) B X908 at_89 ((if0 _ _).trans (flt c960).1) rfl ?_
            refine own_iload (pc' := 94) B X908 at_92 rfl rfl ?_
            refine own_bipush (pc' := 96) B X908 (z := (64 : Int32)) at_94 rfl (by decide) ?_
            have c972 : y959 < (64 : Int32) := by
              have o0 := own_o_mask hy1 7 (by decide) (by decide)
              have o1 := own_o_iushr hy2 7 (by decide) (by decide)
              have o2 := own_o_irem hy3 192 (by decide)
              have o3 := own_o_iadd hy4
              have o4 := own_o_isub hy13
              have o5 := own_o_mask hy14 6 (by decide) (by decide)
              have o6 := own_o_iushr hy15 6 (by decide) (by decide)
              have o7 := own_o_mask hy16 6 (by decide) (by decide)
              have o8 := own_o_iushr hy17 6 (by decide) (by decide)
              have o9 := own_o_isub hy824
              have o10 := own_o_maskL hy917 1 (by decide) (by decide)
              have o11 := own_o_isub hy959
              have o12 := own_neq c823
              have o13 := own_eqL c826
              have o14 := own_neqL c918
              have o15 := own_nlt c960
              have o16 := rng32 i0
              have o17 := rng32 i1
              have o18 := rng32 y1
              have o19 := rng32 y14
              have o20 := rng32 y16
              have o21 := rng32 y2
              have o22 := rng32 y3
              have o23 := rng32 y4
              have o24 := rng32 y819
              have o25 := rng32 y959
              have o26 := rng64 i2
              have o27 := rng64 i4
              have o28 := rng64 y820
              have o29 := rng64 y914
              have o30 := rng64 y915
              have o31 : (127 : Int32).toInt = 127 := by decide
              have o32 : (7 : Int32).toInt = 7 := by decide
              have o33 : (192 : Int32).toInt = 192 := by decide
              have o34 : (63 : Int32).toInt = 63 := by decide
              have o35 : (6 : Int32).toInt = 6 := by decide
              have o36 : (1 : Int32).toInt = 1 := by decide
              have o37 : (64 : Int32).toInt = 64 := by decide
              have o38 : (1 : Int64).toInt = 1 := by decide
              have o39 : (0 : Int32).toInt = 0 := by decide
              have o40 : (0 : Int64).toInt = 0 := by decide
              refine own_ltI ?_
              omega
            refine own_icmpNo (pc' := 99) B X908 at_96 (tlt c972).2.1 rfl ?_
            refine own_lloadN (pc' := 100) B X908 at_99 rfl rfl ?_
            refine own_iload (pc' := 102) B X908 at_100 rfl rfl ?_
            obtain ⟨y973, hy973⟩ : ∃ z : Int64, (i2.toUInt64 >>> (y959 &&& 0x3f).toInt64.toUInt64).toInt64 = z := ⟨_, rfl⟩
            refine own_lushr (pc' := 103) B X908 at_102 rfl hy973 ?_
            refine own_lconst (pc' := 104) B X908 (z := (1 : Int64)) at_103 rfl (by decide) ?_
            obtain ⟨y974, hy974⟩ : ∃ z : Int64, y973 &&& (1 : Int64) = z := ⟨_, rfl⟩
            refine own_land (pc' := 105) B X908 at_104 rfl hy974 ?_
            refine own_lconst (pc' := 106) B X908 (z := (0 : Int64)) at_105 rfl (by decide) ?_
            obtain ⟨y975, hy975⟩ : ∃ z : Int32, lcmpW y974 (0 : Int64) = z := ⟨_, rfl⟩
            refine own_lcmp (pc' := 107) B X908 at_106 rfl hy975 ?_
            by_cases c976 : y974 = (0 : Int64)
            · refine own_ifYes (pc' := 114) B X908 at_107 ((if0 _ _).trans (teq (own_lcm (P := fun q => (q = (0 : Int32))) hy975 ((lw_eq y974 (0 : Int64)).mpr c976))).1) (by decide) rfl ?_
              refine own_iconst (pc' := 115) B X908 (z := (0 : Int32)) at_114 rfl rfl ?_
              refine own_istore (pc' := 117) B X908 (Ls' := #[.val (.int i0), .val (.int i1), .val (.long i2), .second, .val (.long i3), .second, .val (.long i4), .second, .val (.long i5), .second, .val (.int y1), .val (.int y3), .val (.int y4), .val (.ref b5), .val (.ref b9), .val (.int (1 : Int32)), .val (.int y959), .val (.int (0 : Int32)), .unset]) at_115 rfl rfl ?_
              refine own_aload (pc' := 119) B X908 at_117 rfl rfl rfl ?_
              refine own_iload (pc' := 121) B X908 at_119 rfl rfl ?_
              refine own_callS (pc' := 124) B X908 (own_w hw 5 rfl) (own_w hw 6 rfl) (own_w hw 7 rfl) (own_w hw 8 rfl) (by decide) [(.ref b5), (.int y3)] [] (rm_3 l Z a0 hw [] b5 kb5 (i3) (y818) (i5) (y3) (y16) h811 n0 (Nat.le_trans Z0 K.1) E_b5 V_b5 g_b5 hy16 hy17) 0 (by decide) (by decide) rfl pd_1 rfl rfl (Nat.le_of_eq rfl) at_121 rfl (k' := 2) (n' := 6) rfl rfl (by decide) (by decide) ?_
              intro T977 v977 h977 X977 q977
              rcases q977 with ⟨y978, y979, hy980, hy981, c982, rfl, rfl⟩ | ⟨y983, y984, hy985, hy986, c987, rfl, rfl⟩
              · exfalso
                have b0 := own_bitT hy916 hy917 rk.1 rk.2 c918
                have b1 := own_bitF hy973 hy974 (own_gez c960) (own_lt64 c972) c976
                have b2 := own_bitF hy980 hy981 rk.1 rk.2 c982
                rw [own_bitA rs rk rd hy821 hy822, decide_eq_false (own_nltz c960)] at b2
                revert b0 b1 b2
                generalize own_tb i4 y16.toInt.toNat = u0
                generalize own_tb i2 y959.toInt.toNat = u1
                revert u0 u1
                decide
              · show own_Go p e below (T977.setTop (mkF m 124 #[.val (.int i0), .val (.int i1), .val (.long i2), .second, .val (.long i3), .second, .val (.long i4), .second, .val (.long i5), .second, .val (.int y1), .val (.int y3), .val (.int y4), .val (.ref b5), .val (.ref b9), .val (.int (1 : Int32)), .val (.int y959), .val (.int (0 : Int32)), .unset] [(.int (1 : Int32))])) _
                refine own_istore (pc' := 126) B X977 (Ls' := #[.val (.int i0), .val (.int i1), .val (.long i2), .second, .val (.long i3), .second, .val (.long i4), .second, .val (.long i5), .second, .val (.int y1), .val (.int y3), .val (.int y4), .val (.ref b5), .val (.ref b9), .val (.int (1 : Int32)), .val (.int y959), .val (.int (0 : Int32)), .val (.int (1 : Int32))]) at_124 rfl rfl ?_
                refine own_iload (pc' := 128) B X977 at_126 rfl rfl ?_
                refine own_iload (pc' := 130) B X977 at_128 rfl rfl ?_
                refine own_ifYes (pc' := 138) B X977 at_130 ((if0 _ _).trans (feq (by decide : ¬ ((1 : Int32) = (0 : Int32)))).2) (by decide) rfl ?_
                refine own_iconst (pc' := 139) B X977 (z := (1 : Int32)) at_138 rfl rfl ?_
                refine own_goto (pc' := 143) B X977 at_139 (by decide) rfl ?_
                refine own_icmpNo (pc' := 146) B X977 at_143 (teq (by decide : (1 : Int32) = (1 : Int32))).2 rfl ?_
                refine own_iconst (pc' := 147) B X977 (z := (1 : Int32)) at_146 rfl rfl ?_
                refine own_goto (pc' := 151) B X977 at_147 (by decide) rfl ?_
                exact own_retN B X977 (t := .boolean) (z' := (1 : Int32)) (by simp) (by decide) at_151 (by decide) (by decide) rfl
            · refine own_ifNo (pc' := 110) B X908 at_107 ((if0 _ _).trans (feq (own_lcm (P := fun q => ¬ (q = (0 : Int32))) hy975 (fun q => c976 ((lw_eq y974 (0 : Int64)).mp q)))).1) rfl ?_
              refine own_iconst (pc' := 111) B X908 (z := (1 : Int32)) at_110 rfl rfl ?_
              refine own_goto (pc' := 115) B X908 at_111 (by decide) rfl ?_
              refine own_istore (pc' := 117) B X908 (Ls' := #[.val (.int i0), .val (.int i1), .val (.long i2), .second, .val (.long i3), .second, .val (.long i4), .second, .val (.long i5), .second, .val (.int y1), .val (.int y3), .val (.int y4), .val (.ref b5), .val (.ref b9), .val (.int (1 : Int32)), .val (.int y959), .val (.int (1 : Int32)), .unset]) at_115 rfl rfl ?_
              refine own_aload (pc' := 119) B X908 at_117 rfl rfl rfl ?_
              refine own_iload (pc' := 121) B X908 at_119 rfl rfl ?_
              refine own_callS (pc' := 124) B X908 (own_w hw 5 rfl) (own_w hw 6 rfl) (own_w hw 7 rfl) (own_w hw 8 rfl) (by decide) [(.ref b5), (.int y3)] [] (rm_3 l Z a0 hw [] b5 kb5 (i3) (y818) (i5) (y3) (y16) h811 n0 (Nat.le_trans Z0 K.1) E_b5 V_b5 g_b5 hy16 hy17) 0 (by decide) (by decide) rfl pd_1 rfl rfl (Nat.le_of_eq rfl) at_121 rfl (k' := 2) (n' := 6) rfl rfl (by decide) (by decide) ?_
              intro T988 v988 h988 X988 q988
              rcases q988 with ⟨y989, y990, hy991, hy992, c993, rfl, rfl⟩ | ⟨y994, y995, hy996, hy997, c998, rfl, rfl⟩
              · exfalso
                have b0 := own_bitT hy916 hy917 rk.1 rk.2 c918
                have b1 := own_bitT hy973 hy974 (own_gez c960) (own_lt64 c972) c976
                have b2 := own_bitF hy991 hy992 rk.1 rk.2 c993
                rw [own_bitA rs rk rd hy821 hy822, decide_eq_false (own_nltz c960)] at b2
                revert b0 b1 b2
                generalize own_tb i4 y16.toInt.toNat = u0
                generalize own_tb i2 y959.toInt.toNat = u1
                revert u0 u1
                decide
              · show own_Go p e below (T988.setTop (mkF m 124 #[.val (.int i0), .val (.int i1), .val (.long i2), .second, .val (.long i3), .second, .val (.long i4), .second, .val (.long i5), .second, .val (.int y1), .val (.int y3), .val (.int y4), .val (.ref b5), .val (.ref b9), .val (.int (1 : Int32)), .val (.int y959), .val (.int (1 : Int32)), .unset] [(.int (1 : Int32))])) _
                refine own_istore (pc' := 126) B X988 (Ls' := #[.val (.int i0), .val (.int i1), .val (.long i2), .second, .val (.long i3), .second, .val (.long i4), .second, .val (.long i5), .second, .val (.int y1), .val (.int y3), .val (.int y4), .val (.ref b5), .val (.ref b9), .val (.int (1 : Int32)), .val (.int y959), .val (.int (1 : Int32)), .val (.int (1 : Int32))]) at_124 rfl rfl ?_
                refine own_iload (pc' := 128) B X988 at_126 rfl rfl ?_
                refine own_iload (pc' := 130) B X988 at_128 rfl rfl ?_
                refine own_ifYes (pc' := 138) B X988 at_130 ((if0 _ _).trans (feq (by decide : ¬ ((1 : Int32) = (0 : Int32)))).2) (by decide) rfl ?_
                refine own_iconst (pc' := 139) B X988 (z := (1 : Int32)) at_138 rfl rfl ?_
                refine own_goto (pc' := 143) B X988 at_139 (by decide) rfl ?_
                refine own_icmpNo (pc' := 146) B X988 at_143 (teq (by decide : (1 : Int32) = (1 : Int32))).2 rfl ?_
                refine own_iconst (pc' := 147) B X988 (z := (1 : Int32)) at_146 rfl rfl ?_
                refine own_goto (pc' := 151) B X988 at_147 (by decide) rfl ?_
                exact own_retN B X988 (t := .boolean) (z' := (1 : Int32)) (by simp) (by decide) at_151 (by decide) (by decide) rfl
      · replace K := K.trans K811 (allS (Or.inr sz_b5) all0)
        replace E_b9 := E_b9.keep K811
        replace V_b9 := V_b9.keep K811 (ninS (Ne.symm ne_b5_b9) nin0)
        show own_Go p e below (T811.setTop (mkF m 71 #[.val (.int i0), .val (.int i1), .val (.long i2), .second, .val (.long i3), .second, .val (.long i4), .second, .val (.long i5), .second, .val (.int y1), .val (.int y3), .val (.int y4), .val (.ref b5), .val (.ref b9), .unset, .unset, .unset, .unset] [])) _
        refine own_aload (pc' := 73) B X811 at_71 rfl rfl rfl ?_
        refine own_iload (pc' := 75) B X811 at_73 rfl rfl ?_
        refine own_callS (pc' := 78) B X811 (own_w hw 5 rfl) (own_w hw 6 rfl) (own_w hw 7 rfl) (own_w hw 8 rfl) (by decide) [(.ref b9), (.int y3)] [] (rm_3 l Z a0 hw [] b9 kb9 (i3) (i4) (i5) (y3) (y16) h811 n0 (Nat.le_trans Z0 K.1) E_b9 V_b9 g_b9 hy16 hy17) 0 (by decide) (by decide) rfl pd_1 rfl rfl (Nat.le_of_eq rfl) at_75 rfl (k' := 2) (n' := 6) rfl rfl (by decide) (by decide) ?_
        intro T999 v999 h999 X999 q999
        rcases q999 with ⟨y1000, y1001, hy1002, hy1003, c1004, rfl, rfl⟩ | ⟨y1005, y1006, hy1007, hy1008, c1009, rfl, rfl⟩
        · show own_Go p e below (T999.setTop (mkF m 78 #[.val (.int i0), .val (.int i1), .val (.long i2), .second, .val (.long i3), .second, .val (.long i4), .second, .val (.long i5), .second, .val (.int y1), .val (.int y3), .val (.int y4), .val (.ref b5), .val (.ref b9), .unset, .unset, .unset, .unset] [(.int (0 : Int32))])) _
          refine own_istore (pc' := 80) B X999 (Ls' := #[.val (.int i0), .val (.int i1), .val (.long i2), .second, .val (.long i3), .second, .val (.long i4), .second, .val (.long i5), .second, .val (.int y1), .val (.int y3), .val (.int y4), .val (.ref b5), .val (.ref b9), .val (.int (0 : Int32)), .unset, .unset, .unset]) at_78 rfl rfl ?_
          refine own_iload (pc' := 82) B X999 at_80 rfl rfl ?_
          refine own_iload (pc' := 84) B X999 at_82 rfl rfl ?_
          obtain ⟨y1010, hy1010⟩ : ∃ z : Int32, y3 - y1 = z := ⟨_, rfl⟩
          refine own_isub (pc' := 85) B X999 at_84 rfl hy1010 ?_
          refine own_istore (pc' := 87) B X999 (Ls' := #[.val (.int i0), .val (.int i1), .val (.long i2), .second, .val (.long i3), .second, .val (.long i4), .second, .val (.long i5), .second, .val (.int y1), .val (.int y3), .val (.int y4), .val (.ref b5), .val (.ref b9), .val (.int (0 : Int32)), .val (.int y1010), .unset, .unset]) at_85 rfl rfl ?_
          have rd : y1010.toInt = 64 * 0 + y16.toInt - y14.toInt := own_dist hy1010 rp rq rs rk (by decide) (by decide) (by decide)
          refine own_iload (pc' := 89) B X999 at_87 rfl rfl ?_
          by_cases c1011 : y1010 < (0 : Int32)
          · refine own_ifYes (pc' := 114) B X999 at_89 ((if0 _ _).trans (tlt c1011).1) (by decide) rfl ?_
            refine own_iconst (pc' := 115) B X999 (z := (0 : Int32)) at_114 rfl rfl ?_
            refine own_istore (pc' := 117) B X999 (Ls' := #[.val (.int i0), .val (.int i1), .val (.long i2), .second, .val (.long i3), .second, .val (.long i4), .second, .val (.long i5), .second, .val (.int y1), .val (.int y3), .val (.int y4), .val (.ref b5), .val (.ref b9), .val (.int (0 : Int32)), .val (.int y1010), .val (.int (0 : Int32)), .unset]) at_115 rfl rfl ?_
            refine own_aload (pc' := 119) B X999 at_117 rfl rfl rfl ?_
            refine own_iload (pc' := 121) B X999 at_119 rfl rfl ?_
            refine own_callS (pc' := 124) B X999 (own_w hw 5 rfl) (own_w hw 6 rfl) (own_w hw 7 rfl) (own_w hw 8 rfl) (by decide) [(.ref b5), (.int y3)] [] (rm_3 l Z a0 hw [] b5 kb5 (i3) (y828) (y831) (y3) (y16) h811 n0 (Nat.le_trans Z0 K.1) E_b5 V_b5 g_b5 hy16 hy17) 0 (by decide) (by decide) rfl pd_1 rfl rfl (Nat.le_of_eq rfl) at_121 rfl (k' := 2) (n' := 6) rfl rfl (by decide) (by decide) ?_
            intro T1012 v1012 h1012 X1012 q1012
            rcases q1012 with ⟨y1013, y1014, hy1015, hy1016, c1017, rfl, rfl⟩ | ⟨y1018, y1019, hy1020, hy1021, c1022, rfl, rfl⟩
            · show own_Go p e below (T1012.setTop (mkF m 124 #[.val (.int i0), .val (.int i1), .val (.long i2), .second, .val (.long i3), .second, .val (.long i4), .second, .val (.long i5), .second, .val (.int y1), .val (.int y3), .val (.int y4), .val (.ref b5), .val (.ref b9), .val (.int (0 : Int32)), .val (.int y1010), .val (.int (0 : Int32)), .unset] [(.int (0 : Int32))])) _
              refine own_istore (pc' := 126) B X1012 (Ls' := #[.val (.int i0), .val (.int i1), .val (.long i2), .second, .val (.long i3), .second, .val (.long i4), .second, .val (.long i5), .second, .val (.int y1), .val (.int y3), .val (.int y4), .val (.ref b5), .val (.ref b9), .val (.int (0 : Int32)), .val (.int y1010), .val (.int (0 : Int32)), .val (.int (0 : Int32))]) at_124 rfl rfl ?_
              refine own_iload (pc' := 128) B X1012 at_126 rfl rfl ?_
              refine own_iload (pc' := 130) B X1012 at_128 rfl rfl ?_
              refine own_ifNo (pc' := 133) B X1012 at_130 ((if0 _ _).trans (teq (by decide : (0 : Int32) = (0 : Int32))).2) rfl ?_
              refine own_iload (pc' := 135) B X1012 at_133 rfl rfl ?_
              refine own_ifYes (pc' := 142) B X1012 at_135 ((if0 _ _).trans (teq (by decide : (0 : Int32) = (0 : Int32))).1) (by decide) rfl ?_
              refine own_iconst (pc' := 143) B X1012 (z := (0 : Int32)) at_142 rfl rfl ?_
              refine own_icmpNo (pc' := 146) B X1012 at_143 (teq (by decide : (0 : Int32) = (0 : Int32))).2 rfl ?_
              refine own_iconst (pc' := 147) B X1012 (z := (1 : Int32)) at_146 rfl rfl ?_
              refine own_goto (pc' := 151) B X1012 at_147 (by decide) rfl ?_
              exact own_retN B X1012 (t := .boolean) (z' := (1 : Int32)) (by simp) (by decide) at_151 (by decide) (by decide) rfl
            · exfalso
              have b0 := own_bitF hy1002 hy1003 rk.1 rk.2 c1004
              have b1 := own_bitT hy1020 hy1021 rk.1 rk.2 c1022
              rw [own_bitA rs rk rd hy832 hy833, decide_eq_true (own_ltz c1011)] at b1
              revert b0 b1
              generalize own_tb i4 y16.toInt.toNat = u0
              generalize own_tb i2 y1010.toInt.toNat = u1
              revert u0 u1
              decide
          · refine own_ifNo (pc' := 92) B X999 at_89 ((if0 _ _).trans (flt c1011).1) rfl ?_
            refine own_iload (pc' := 94) B X999 at_92 rfl rfl ?_
            refine own_bipush (pc' := 96) B X999 (z := (64 : Int32)) at_94 rfl (by decide) ?_
            have c1023 : y1010 < (64 : Int32) := by
              have o0 := own_o_mask hy1 7 (by decide) (by decide)
              have o1 := own_o_iushr hy2 7 (by decide) (by decide)
              have o2 := own_o_irem hy3 192 (by decide)
              have o3 := own_o_iadd hy4
              have o4 := own_o_isub hy13
              have o5 := own_o_mask hy14 6 (by decide) (by decide)
              have o6 := own_o_iushr hy15 6 (by decide) (by decide)
              have o7 := own_o_mask hy16 6 (by decide) (by decide)
              have o8 := own_o_iushr hy17 6 (by decide) (by decide)
              have o9 := own_o_isub hy835
              have o10 := own_o_maskL hy1003 1 (by decide) (by decide)
              have o11 := own_o_isub hy1010
              have o12 := own_neq c834
              have o13 := own_neqL c837
              have o14 := own_eqL c1004
              have o15 := own_nlt c1011
              have o16 := rng32 i0
              have o17 := rng32 i1
              have o18 := rng32 y1
              have o19 := rng32 y1010
              have o20 := rng32 y14
              have o21 := rng32 y16
              have o22 := rng32 y2
              have o23 := rng32 y3
              have o24 := rng32 y4
              have o25 := rng32 y829
              have o26 := rng64 i2
              have o27 := rng64 i4
              have o28 := rng64 y1000
              have o29 := rng64 y1001
              have o30 := rng64 y830
              have o31 : (127 : Int32).toInt = 127 := by decide
              have o32 : (7 : Int32).toInt = 7 := by decide
              have o33 : (192 : Int32).toInt = 192 := by decide
              have o34 : (63 : Int32).toInt = 63 := by decide
              have o35 : (6 : Int32).toInt = 6 := by decide
              have o36 : (1 : Int32).toInt = 1 := by decide
              have o37 : (64 : Int32).toInt = 64 := by decide
              have o38 : (1 : Int64).toInt = 1 := by decide
              have o39 : (0 : Int32).toInt = 0 := by decide
              have o40 : (0 : Int64).toInt = 0 := by decide
              refine own_ltI ?_
              omega
            refine own_icmpNo (pc' := 99) B X999 at_96 (tlt c1023).2.1 rfl ?_
            refine own_lloadN (pc' := 100) B X999 at_99 rfl rfl ?_
            refine own_iload (pc' := 102) B X999 at_100 rfl rfl ?_
            obtain ⟨y1024, hy1024⟩ : ∃ z : Int64, (i2.toUInt64 >>> (y1010 &&& 0x3f).toInt64.toUInt64).toInt64 = z := ⟨_, rfl⟩
            refine own_lushr (pc' := 103) B X999 at_102 rfl hy1024 ?_
            refine own_lconst (pc' := 104) B X999 (z := (1 : Int64)) at_103 rfl (by decide) ?_
            obtain ⟨y1025, hy1025⟩ : ∃ z : Int64, y1024 &&& (1 : Int64) = z := ⟨_, rfl⟩
            refine own_land (pc' := 105) B X999 at_104 rfl hy1025 ?_
            refine own_lconst (pc' := 106) B X999 (z := (0 : Int64)) at_105 rfl (by decide) ?_
            obtain ⟨y1026, hy1026⟩ : ∃ z : Int32, lcmpW y1025 (0 : Int64) = z := ⟨_, rfl⟩
            refine own_lcmp (pc' := 107) B X999 at_106 rfl hy1026 ?_
            by_cases c1027 : y1025 = (0 : Int64)
            · refine own_ifYes (pc' := 114) B X999 at_107 ((if0 _ _).trans (teq (own_lcm (P := fun q => (q = (0 : Int32))) hy1026 ((lw_eq y1025 (0 : Int64)).mpr c1027))).1) (by decide) rfl ?_
              refine own_iconst (pc' := 115) B X999 (z := (0 : Int32)) at_114 rfl rfl ?_
              refine own_istore (pc' := 117) B X999 (Ls' := #[.val (.int i0), .val (.int i1), .val (.long i2), .second, .val (.long i3), .second, .val (.long i4), .second, .val (.long i5), .second, .val (.int y1), .val (.int y3), .val (.int y4), .val (.ref b5), .val (.ref b9), .val (.int (0 : Int32)), .val (.int y1010), .val (.int (0 : Int32)), .unset]) at_115 rfl rfl ?_
              refine own_aload (pc' := 119) B X999 at_117 rfl rfl rfl ?_
              refine own_iload (pc' := 121) B X999 at_119 rfl rfl ?_
              refine own_callS (pc' := 124) B X999 (own_w hw 5 rfl) (own_w hw 6 rfl) (own_w hw 7 rfl) (own_w hw 8 rfl) (by decide) [(.ref b5), (.int y3)] [] (rm_3 l Z a0 hw [] b5 kb5 (i3) (y828) (y831) (y3) (y16) h811 n0 (Nat.le_trans Z0 K.1) E_b5 V_b5 g_b5 hy16 hy17) 0 (by decide) (by decide) rfl pd_1 rfl rfl (Nat.le_of_eq rfl) at_121 rfl (k' := 2) (n' := 6) rfl rfl (by decide) (by decide) ?_
              intro T1028 v1028 h1028 X1028 q1028
              rcases q1028 with ⟨y1029, y1030, hy1031, hy1032, c1033, rfl, rfl⟩ | ⟨y1034, y1035, hy1036, hy1037, c1038, rfl, rfl⟩
              · show own_Go p e below (T1028.setTop (mkF m 124 #[.val (.int i0), .val (.int i1), .val (.long i2), .second, .val (.long i3), .second, .val (.long i4), .second, .val (.long i5), .second, .val (.int y1), .val (.int y3), .val (.int y4), .val (.ref b5), .val (.ref b9), .val (.int (0 : Int32)), .val (.int y1010), .val (.int (0 : Int32)), .unset] [(.int (0 : Int32))])) _
                refine own_istore (pc' := 126) B X1028 (Ls' := #[.val (.int i0), .val (.int i1), .val (.long i2), .second, .val (.long i3), .second, .val (.long i4), .second, .val (.long i5), .second, .val (.int y1), .val (.int y3), .val (.int y4), .val (.ref b5), .val (.ref b9), .val (.int (0 : Int32)), .val (.int y1010), .val (.int (0 : Int32)), .val (.int (0 : Int32))]) at_124 rfl rfl ?_
                refine own_iload (pc' := 128) B X1028 at_126 rfl rfl ?_
                refine own_iload (pc' := 130) B X1028 at_128 rfl rfl ?_
                refine own_ifNo (pc' := 133) B X1028 at_130 ((if0 _ _).trans (teq (by decide : (0 : Int32) = (0 : Int32))).2) rfl ?_
                refine own_iload (pc' := 135) B X1028 at_133 rfl rfl ?_
                refine own_ifYes (pc' := 142) B X1028 at_135 ((if0 _ _).trans (teq (by decide : (0 : Int32) = (0 : Int32))).1) (by decide) rfl ?_
                refine own_iconst (pc' := 143) B X1028 (z := (0 : Int32)) at_142 rfl rfl ?_
                refine own_icmpNo (pc' := 146) B X1028 at_143 (teq (by decide : (0 : Int32) = (0 : Int32))).2 rfl ?_
                refine own_iconst (pc' := 147) B X1028 (z := (1 : Int32)) at_146 rfl rfl ?_
                refine own_goto (pc' := 151) B X1028 at_147 (by decide) rfl ?_
                exact own_retN B X1028 (t := .boolean) (z' := (1 : Int32)) (by simp) (by decide) at_151 (by decide) (by decide) rfl
              · exfalso
                have b0 := own_bitF hy1002 hy1003 rk.1 rk.2 c1004
                have b1 := own_bitF hy1024 hy1025 (own_gez c1011) (own_lt64 c1023) c1027
                have b2 := own_bitT hy1036 hy1037 rk.1 rk.2 c1038
                rw [own_bitA rs rk rd hy832 hy833, decide_eq_false (own_nltz c1011)] at b2
                revert b0 b1 b2
                generalize own_tb i4 y16.toInt.toNat = u0
                generalize own_tb i2 y1010.toInt.toNat = u1
                revert u0 u1
                decide
            · refine own_ifNo (pc' := 110) B X999 at_107 ((if0 _ _).trans (feq (own_lcm (P := fun q => ¬ (q = (0 : Int32))) hy1026 (fun q => c1027 ((lw_eq y1025 (0 : Int64)).mp q)))).1) rfl ?_
              refine own_iconst (pc' := 111) B X999 (z := (1 : Int32)) at_110 rfl rfl ?_
              refine own_goto (pc' := 115) B X999 at_111 (by decide) rfl ?_
              refine own_istore (pc' := 117) B X999 (Ls' := #[.val (.int i0), .val (.int i1), .val (.long i2), .second, .val (.long i3), .second, .val (.long i4), .second, .val (.long i5), .second, .val (.int y1), .val (.int y3), .val (.int y4), .val (.ref b5), .val (.ref b9), .val (.int (0 : Int32)), .val (.int y1010), .val (.int (1 : Int32)), .unset]) at_115 rfl rfl ?_
              refine own_aload (pc' := 119) B X999 at_117 rfl rfl rfl ?_
              refine own_iload (pc' := 121) B X999 at_119 rfl rfl ?_
              refine own_callS (pc' := 124) B X999 (own_w hw 5 rfl) (own_w hw 6 rfl) (own_w hw 7 rfl) (own_w hw 8 rfl) (by decide) [(.ref b5), (.int y3)] [] (rm_3 l Z a0 hw [] b5 kb5 (i3) (y828) (y831) (y3) (y16) h811 n0 (Nat.le_trans Z0 K.1) E_b5 V_b5 g_b5 hy16 hy17) 0 (by decide) (by decide) rfl pd_1 rfl rfl (Nat.le_of_eq rfl) at_121 rfl (k' := 2) (n' := 6) rfl rfl (by decide) (by decide) ?_
              intro T1039 v1039 h1039 X1039 q1039
              rcases q1039 with ⟨y1040, y1041, hy1042, hy1043, c1044, rfl, rfl⟩ | ⟨y1045, y1046, hy1047, hy1048, c1049, rfl, rfl⟩
              · exfalso
                have b0 := own_bitF hy1002 hy1003 rk.1 rk.2 c1004
                have b1 := own_bitT hy1024 hy1025 (own_gez c1011) (own_lt64 c1023) c1027
                have b2 := own_bitF hy1042 hy1043 rk.1 rk.2 c1044
                rw [own_bitA rs rk rd hy832 hy833, decide_eq_false (own_nltz c1011)] at b2
                revert b0 b1 b2
                generalize own_tb i4 y16.toInt.toNat = u0
                generalize own_tb i2 y1010.toInt.toNat = u1
                revert u0 u1
                decide
              · show own_Go p e below (T1039.setTop (mkF m 124 #[.val (.int i0), .val (.int i1), .val (.long i2), .second, .val (.long i3), .second, .val (.long i4), .second, .val (.long i5), .second, .val (.int y1), .val (.int y3), .val (.int y4), .val (.ref b5), .val (.ref b9), .val (.int (0 : Int32)), .val (.int y1010), .val (.int (1 : Int32)), .unset] [(.int (1 : Int32))])) _
                refine own_istore (pc' := 126) B X1039 (Ls' := #[.val (.int i0), .val (.int i1), .val (.long i2), .second, .val (.long i3), .second, .val (.long i4), .second, .val (.long i5), .second, .val (.int y1), .val (.int y3), .val (.int y4), .val (.ref b5), .val (.ref b9), .val (.int (0 : Int32)), .val (.int y1010), .val (.int (1 : Int32)), .val (.int (1 : Int32))]) at_124 rfl rfl ?_
                refine own_iload (pc' := 128) B X1039 at_126 rfl rfl ?_
                refine own_iload (pc' := 130) B X1039 at_128 rfl rfl ?_
                refine own_ifNo (pc' := 133) B X1039 at_130 ((if0 _ _).trans (teq (by decide : (0 : Int32) = (0 : Int32))).2) rfl ?_
                refine own_iload (pc' := 135) B X1039 at_133 rfl rfl ?_
                refine own_ifNo (pc' := 138) B X1039 at_135 ((if0 _ _).trans (feq (by decide : ¬ ((1 : Int32) = (0 : Int32)))).1) rfl ?_
                refine own_iconst (pc' := 139) B X1039 (z := (1 : Int32)) at_138 rfl rfl ?_
                refine own_goto (pc' := 143) B X1039 at_139 (by decide) rfl ?_
                refine own_icmpNo (pc' := 146) B X1039 at_143 (teq (by decide : (1 : Int32) = (1 : Int32))).2 rfl ?_
                refine own_iconst (pc' := 147) B X1039 (z := (1 : Int32)) at_146 rfl rfl ?_
                refine own_goto (pc' := 151) B X1039 at_147 (by decide) rfl ?_
                exact own_retN B X1039 (t := .boolean) (z' := (1 : Int32)) (by simp) (by decide) at_151 (by decide) (by decide) rfl
        · show own_Go p e below (T999.setTop (mkF m 78 #[.val (.int i0), .val (.int i1), .val (.long i2), .second, .val (.long i3), .second, .val (.long i4), .second, .val (.long i5), .second, .val (.int y1), .val (.int y3), .val (.int y4), .val (.ref b5), .val (.ref b9), .unset, .unset, .unset, .unset] [(.int (1 : Int32))])) _
          refine own_istore (pc' := 80) B X999 (Ls' := #[.val (.int i0), .val (.int i1), .val (.long i2), .second, .val (.long i3), .second, .val (.long i4), .second, .val (.long i5), .second, .val (.int y1), .val (.int y3), .val (.int y4), .val (.ref b5), .val (.ref b9), .val (.int (1 : Int32)), .unset, .unset, .unset]) at_78 rfl rfl ?_
          refine own_iload (pc' := 82) B X999 at_80 rfl rfl ?_
          refine own_iload (pc' := 84) B X999 at_82 rfl rfl ?_
          obtain ⟨y1050, hy1050⟩ : ∃ z : Int32, y3 - y1 = z := ⟨_, rfl⟩
          refine own_isub (pc' := 85) B X999 at_84 rfl hy1050 ?_
          refine own_istore (pc' := 87) B X999 (Ls' := #[.val (.int i0), .val (.int i1), .val (.long i2), .second, .val (.long i3), .second, .val (.long i4), .second, .val (.long i5), .second, .val (.int y1), .val (.int y3), .val (.int y4), .val (.ref b5), .val (.ref b9), .val (.int (1 : Int32)), .val (.int y1050), .unset, .unset]) at_85 rfl rfl ?_
          have rd : y1050.toInt = 64 * 0 + y16.toInt - y14.toInt := own_dist hy1050 rp rq rs rk (by decide) (by decide) (by decide)
          refine own_iload (pc' := 89) B X999 at_87 rfl rfl ?_
          by_cases c1051 : y1050 < (0 : Int32)
          · refine own_ifYes (pc' := 114) B X999 at_89 ((if0 _ _).trans (tlt c1051).1) (by decide) rfl ?_
            refine own_iconst (pc' := 115) B X999 (z := (0 : Int32)) at_114 rfl rfl ?_
            refine own_istore (pc' := 117) B X999 (Ls' := #[.val (.int i0), .val (.int i1), .val (.long i2), .second, .val (.long i3), .second, .val (.long i4), .second, .val (.long i5), .second, .val (.int y1), .val (.int y3), .val (.int y4), .val (.ref b5), .val (.ref b9), .val (.int (1 : Int32)), .val (.int y1050), .val (.int (0 : Int32)), .unset]) at_115 rfl rfl ?_
            refine own_aload (pc' := 119) B X999 at_117 rfl rfl rfl ?_
            refine own_iload (pc' := 121) B X999 at_119 rfl rfl ?_
            refine own_callS (pc' := 124) B X999 (own_w hw 5 rfl) (own_w hw 6 rfl) (own_w hw 7 rfl) (own_w hw 8 rfl) (by decide) [(.ref b5), (.int y3)] [] (rm_3 l Z a0 hw [] b5 kb5 (i3) (y828) (y831) (y3) (y16) h811 n0 (Nat.le_trans Z0 K.1) E_b5 V_b5 g_b5 hy16 hy17) 0 (by decide) (by decide) rfl pd_1 rfl rfl (Nat.le_of_eq rfl) at_121 rfl (k' := 2) (n' := 6) rfl rfl (by decide) (by decide) ?_
            intro T1052 v1052 h1052 X1052 q1052
            rcases q1052 with ⟨y1053, y1054, hy1055, hy1056, c1057, rfl, rfl⟩ | ⟨y1058, y1059, hy1060, hy1061, c1062, rfl, rfl⟩
            · exfalso
              have b0 := own_bitT hy1007 hy1008 rk.1 rk.2 c1009
              have b1 := own_bitF hy1055 hy1056 rk.1 rk.2 c1057
              rw [own_bitA rs rk rd hy832 hy833, decide_eq_true (own_ltz c1051)] at b1
              revert b0 b1
              generalize own_tb i4 y16.toInt.toNat = u0
              generalize own_tb i2 y1050.toInt.toNat = u1
              revert u0 u1
              decide
            · show own_Go p e below (T1052.setTop (mkF m 124 #[.val (.int i0), .val (.int i1), .val (.long i2), .second, .val (.long i3), .second, .val (.long i4), .second, .val (.long i5), .second, .val (.int y1), .val (.int y3), .val (.int y4), .val (.ref b5), .val (.ref b9), .val (.int (1 : Int32)), .val (.int y1050), .val (.int (0 : Int32)), .unset] [(.int (1 : Int32))])) _
              refine own_istore (pc' := 126) B X1052 (Ls' := #[.val (.int i0), .val (.int i1), .val (.long i2), .second, .val (.long i3), .second, .val (.long i4), .second, .val (.long i5), .second, .val (.int y1), .val (.int y3), .val (.int y4), .val (.ref b5), .val (.ref b9), .val (.int (1 : Int32)), .val (.int y1050), .val (.int (0 : Int32)), .val (.int (1 : Int32))]) at_124 rfl rfl ?_
              refine own_iload (pc' := 128) B X1052 at_126 rfl rfl ?_
              refine own_iload (pc' := 130) B X1052 at_128 rfl rfl ?_
              refine own_ifYes (pc' := 138) B X1052 at_130 ((if0 _ _).trans (feq (by decide : ¬ ((1 : Int32) = (0 : Int32)))).2) (by decide) rfl ?_
              refine own_iconst (pc' := 139) B X1052 (z := (1 : Int32)) at_138 rfl rfl ?_
              refine own_goto (pc' := 143) B X1052 at_139 (by decide) rfl ?_
              refine own_icmpNo (pc' := 146) B X1052 at_143 (teq (by decide : (1 : Int32) = (1 : Int32))).2 rfl ?_
              refine own_iconst (pc' := 147) B X1052 (z := (1 : Int32)) at_146 rfl rfl ?_
              refine own_goto (pc' := 151) B X1052 at_147 (by decide) rfl ?_
              exact own_retN B X1052 (t := .boolean) (z' := (1 : Int32)) (by simp) (by decide) at_151 (by decide) (by decide) rfl
          · refine own_ifNo (pc' := 92) B X999 at_89 ((if0 _ _).trans (flt c1051).1) rfl ?_
            refine own_iload (pc' := 94) B X999 at_92 rfl rfl ?_
            refine own_bipush (pc' := 96) B X999 (z := (64 : Int32)) at_94 rfl (by decide) ?_
            have c1063 : y1050 < (64 : Int32) := by
              have o0 := own_o_mask hy1 7 (by decide) (by decide)
              have o1 := own_o_iushr hy2 7 (by decide) (by decide)
              have o2 := own_o_irem hy3 192 (by decide)
              have o3 := own_o_iadd hy4
              have o4 := own_o_isub hy13
              have o5 := own_o_mask hy14 6 (by decide) (by decide)
              have o6 := own_o_iushr hy15 6 (by decide) (by decide)
              have o7 := own_o_mask hy16 6 (by decide) (by decide)
              have o8 := own_o_iushr hy17 6 (by decide) (by decide)
              have o9 := own_o_isub hy835
              have o10 := own_o_maskL hy1008 1 (by decide) (by decide)
              have o11 := own_o_isub hy1050
              have o12 := own_neq c834
              have o13 := own_neqL c837
              have o14 := own_neqL c1009
              have o15 := own_nlt c1051
              have o16 := rng32 i0
              have o17 := rng32 i1
              have o18 := rng32 y1
              have o19 := rng32 y1050
              have o20 := rng32 y14
              have o21 := rng32 y16
              have o22 := rng32 y2
              have o23 := rng32 y3
              have o24 := rng32 y4
              have o25 := rng32 y829
              have o26 := rng64 i2
              have o27 := rng64 i4
              have o28 := rng64 y1005
              have o29 := rng64 y1006
              have o30 := rng64 y830
              have o31 : (127 : Int32).toInt = 127 := by decide
              have o32 : (7 : Int32).toInt = 7 := by decide
              have o33 : (192 : Int32).toInt = 192 := by decide
              have o34 : (63 : Int32).toInt = 63 := by decide
              have o35 : (6 : Int32).toInt = 6 := by decide
              have o36 : (1 : Int32).toInt = 1 := by decide
              have o37 : (64 : Int32).toInt = 64 := by decide
              have o38 : (1 : Int64).toInt = 1 := by decide
              have o39 : (0 : Int32).toInt = 0 := by decide
              have o40 : (0 : Int64).toInt = 0 := by decide
              refine own_ltI ?_
              omega
            refine own_icmpNo (pc' := 99) B X999 at_96 (tlt c1063).2.1 rfl ?_
            refine own_lloadN (pc' := 100) B X999 at_99 rfl rfl ?_
            refine own_iload (pc' := 102) B X999 at_100 rfl rfl ?_
            obtain ⟨y1064, hy1064⟩ : ∃ z : Int64, (i2.toUInt64 >>> (y1050 &&& 0x3f).toInt64.toUInt64).toInt64 = z := ⟨_, rfl⟩
            refine own_lushr (pc' := 103) B X999 at_102 rfl hy1064 ?_
            refine own_lconst (pc' := 104) B X999 (z := (1 : Int64)) at_103 rfl (by decide) ?_
            obtain ⟨y1065, hy1065⟩ : ∃ z : Int64, y1064 &&& (1 : Int64) = z := ⟨_, rfl⟩
            refine own_land (pc' := 105) B X999 at_104 rfl hy1065 ?_
            refine own_lconst (pc' := 106) B X999 (z := (0 : Int64)) at_105 rfl (by decide) ?_
            obtain ⟨y1066, hy1066⟩ : ∃ z : Int32, lcmpW y1065 (0 : Int64) = z := ⟨_, rfl⟩
            refine own_lcmp (pc' := 107) B X999 at_106 rfl hy1066 ?_
            by_cases c1067 : y1065 = (0 : Int64)
            · refine own_ifYes (pc' := 114) B X999 at_107 ((if0 _ _).trans (teq (own_lcm (P := fun q => (q = (0 : Int32))) hy1066 ((lw_eq y1065 (0 : Int64)).mpr c1067))).1) (by decide) rfl ?_
              refine own_iconst (pc' := 115) B X999 (z := (0 : Int32)) at_114 rfl rfl ?_
              refine own_istore (pc' := 117) B X999 (Ls' := #[.val (.int i0), .val (.int i1), .val (.long i2), .second, .val (.long i3), .second, .val (.long i4), .second, .val (.long i5), .second, .val (.int y1), .val (.int y3), .val (.int y4), .val (.ref b5), .val (.ref b9), .val (.int (1 : Int32)), .val (.int y1050), .val (.int (0 : Int32)), .unset]) at_115 rfl rfl ?_
              refine own_aload (pc' := 119) B X999 at_117 rfl rfl rfl ?_
              refine own_iload (pc' := 121) B X999 at_119 rfl rfl ?_
              refine own_callS (pc' := 124) B X999 (own_w hw 5 rfl) (own_w hw 6 rfl) (own_w hw 7 rfl) (own_w hw 8 rfl) (by decide) [(.ref b5), (.int y3)] [] (rm_3 l Z a0 hw [] b5 kb5 (i3) (y828) (y831) (y3) (y16) h811 n0 (Nat.le_trans Z0 K.1) E_b5 V_b5 g_b5 hy16 hy17) 0 (by decide) (by decide) rfl pd_1 rfl rfl (Nat.le_of_eq rfl) at_121 rfl (k' := 2) (n' := 6) rfl rfl (by decide) (by decide) ?_
              intro T1068 v1068 h1068 X1068 q1068
              rcases q1068 with ⟨y1069, y1070, hy1071, hy1072, c1073, rfl, rfl⟩ | ⟨y1074, y1075, hy1076, hy1077, c1078, rfl, rfl⟩
              · exfalso
                have b0 := own_bitT hy1007 hy1008 rk.1 rk.2 c1009
                have b1 := own_bitF hy1064 hy1065 (own_gez c1051) (own_lt64 c1063) c1067
                have b2 := own_bitF hy1071 hy1072 rk.1 rk.2 c1073
                rw [own_bitA rs rk rd hy832 hy833, decide_eq_false (own_nltz c1051)] at b2
                revert b0 b1 b2
                generalize own_tb i4 y16.toInt.toNat = u0
                generalize own_tb i2 y1050.toInt.toNat = u1
                revert u0 u1
                decide
              · show own_Go p e below (T1068.setTop (mkF m 124 #[.val (.int i0), .val (.int i1), .val (.long i2), .second, .val (.long i3), .second, .val (.long i4), .second, .val (.long i5), .second, .val (.int y1), .val (.int y3), .val (.int y4), .val (.ref b5), .val (.ref b9), .val (.int (1 : Int32)), .val (.int y1050), .val (.int (0 : Int32)), .unset] [(.int (1 : Int32))])) _
                refine own_istore (pc' := 126) B X1068 (Ls' := #[.val (.int i0), .val (.int i1), .val (.long i2), .second, .val (.long i3), .second, .val (.long i4), .second, .val (.long i5), .second, .val (.int y1), .val (.int y3), .val (.int y4), .val (.ref b5), .val (.ref b9), .val (.int (1 : Int32)), .val (.int y1050), .val (.int (0 : Int32)), .val (.int (1 : Int32))]) at_124 rfl rfl ?_
                refine own_iload (pc' := 128) B X1068 at_126 rfl rfl ?_
                refine own_iload (pc' := 130) B X1068 at_128 rfl rfl ?_
                refine own_ifYes (pc' := 138) B X1068 at_130 ((if0 _ _).trans (feq (by decide : ¬ ((1 : Int32) = (0 : Int32)))).2) (by decide) rfl ?_
                refine own_iconst (pc' := 139) B X1068 (z := (1 : Int32)) at_138 rfl rfl ?_
                refine own_goto (pc' := 143) B X1068 at_139 (by decide) rfl ?_
                refine own_icmpNo (pc' := 146) B X1068 at_143 (teq (by decide : (1 : Int32) = (1 : Int32))).2 rfl ?_
                refine own_iconst (pc' := 147) B X1068 (z := (1 : Int32)) at_146 rfl rfl ?_
                refine own_goto (pc' := 151) B X1068 at_147 (by decide) rfl ?_
                exact own_retN B X1068 (t := .boolean) (z' := (1 : Int32)) (by simp) (by decide) at_151 (by decide) (by decide) rfl
            · refine own_ifNo (pc' := 110) B X999 at_107 ((if0 _ _).trans (feq (own_lcm (P := fun q => ¬ (q = (0 : Int32))) hy1066 (fun q => c1067 ((lw_eq y1065 (0 : Int64)).mp q)))).1) rfl ?_
              refine own_iconst (pc' := 111) B X999 (z := (1 : Int32)) at_110 rfl rfl ?_
              refine own_goto (pc' := 115) B X999 at_111 (by decide) rfl ?_
              refine own_istore (pc' := 117) B X999 (Ls' := #[.val (.int i0), .val (.int i1), .val (.long i2), .second, .val (.long i3), .second, .val (.long i4), .second, .val (.long i5), .second, .val (.int y1), .val (.int y3), .val (.int y4), .val (.ref b5), .val (.ref b9), .val (.int (1 : Int32)), .val (.int y1050), .val (.int (1 : Int32)), .unset]) at_115 rfl rfl ?_
              refine own_aload (pc' := 119) B X999 at_117 rfl rfl rfl ?_
              refine own_iload (pc' := 121) B X999 at_119 rfl rfl ?_
              refine own_callS (pc' := 124) B X999 (own_w hw 5 rfl) (own_w hw 6 rfl) (own_w hw 7 rfl) (own_w hw 8 rfl) (by decide) [(.ref b5), (.int y3)] [] (rm_3 l Z a0 hw [] b5 kb5 (i3) (y828) (y831) (y3) (y16) h811 n0 (Nat.le_trans Z0 K.1) E_b5 V_b5 g_b5 hy16 hy17) 0 (by decide) (by decide) rfl pd_1 rfl rfl (Nat.le_of_eq rfl) at_121 rfl (k' := 2) (n' := 6) rfl rfl (by decide) (by decide) ?_
              intro T1079 v1079 h1079 X1079 q1079
              rcases q1079 with ⟨y1080, y1081, hy1082, hy1083, c1084, rfl, rfl⟩ | ⟨y1085, y1086, hy1087, hy1088, c1089, rfl, rfl⟩
              · exfalso
                have b0 := own_bitT hy1007 hy1008 rk.1 rk.2 c1009
                have b1 := own_bitT hy1064 hy1065 (own_gez c1051) (own_lt64 c1063) c1067
                have b2 := own_bitF hy1082 hy1083 rk.1 rk.2 c1084
                rw [own_bitA rs rk rd hy832 hy833, decide_eq_false (own_nltz c1051)] at b2
                revert b0 b1 b2
                generalize own_tb i4 y16.toInt.toNat = u0
                generalize own_tb i2 y1050.toInt.toNat = u1
                revert u0 u1
                decide
              · show own_Go p e below (T1079.setTop (mkF m 124 #[.val (.int i0), .val (.int i1), .val (.long i2), .second, .val (.long i3), .second, .val (.long i4), .second, .val (.long i5), .second, .val (.int y1), .val (.int y3), .val (.int y4), .val (.ref b5), .val (.ref b9), .val (.int (1 : Int32)), .val (.int y1050), .val (.int (1 : Int32)), .unset] [(.int (1 : Int32))])) _
                refine own_istore (pc' := 126) B X1079 (Ls' := #[.val (.int i0), .val (.int i1), .val (.long i2), .second, .val (.long i3), .second, .val (.long i4), .second, .val (.long i5), .second, .val (.int y1), .val (.int y3), .val (.int y4), .val (.ref b5), .val (.ref b9), .val (.int (1 : Int32)), .val (.int y1050), .val (.int (1 : Int32)), .val (.int (1 : Int32))]) at_124 rfl rfl ?_
                refine own_iload (pc' := 128) B X1079 at_126 rfl rfl ?_
                refine own_iload (pc' := 130) B X1079 at_128 rfl rfl ?_
                refine own_ifYes (pc' := 138) B X1079 at_130 ((if0 _ _).trans (feq (by decide : ¬ ((1 : Int32) = (0 : Int32)))).2) (by decide) rfl ?_
                refine own_iconst (pc' := 139) B X1079 (z := (1 : Int32)) at_138 rfl rfl ?_
                refine own_goto (pc' := 143) B X1079 at_139 (by decide) rfl ?_
                refine own_icmpNo (pc' := 146) B X1079 at_143 (teq (by decide : (1 : Int32) = (1 : Int32))).2 rfl ?_
                refine own_iconst (pc' := 147) B X1079 (z := (1 : Int32)) at_146 rfl rfl ?_
                refine own_goto (pc' := 151) B X1079 at_147 (by decide) rfl ?_
                exact own_retN B X1079 (t := .boolean) (z' := (1 : Int32)) (by simp) (by decide) at_151 (by decide) (by decide) rfl
    · obtain rfl : y17 = (2 : Int32) := Int32.toInt_inj.mp (z671.trans (by decide))
      refine own_aload (pc' := 64) B X12 at_62 rfl rfl rfl ?_
      have rs : 0 ≤ y14.toInt ∧ y14.toInt < 64 := by
        have o0 := own_o_mask hy1 7 (by decide) (by decide)
        have o1 := own_o_iushr hy2 7 (by decide) (by decide)
        have o2 := own_o_irem hy3 192 (by decide)
        have o3 := own_o_iadd hy4
        have o4 := own_o_isub hy13
        have o5 := own_o_mask hy14 6 (by decide) (by decide)
        have o6 := own_o_iushr hy15 6 (by decide) (by decide)
        have o7 := own_o_mask hy16 6 (by decide) (by decide)
        have o8 := own_o_iushr hy17 6 (by decide) (by decide)
        have o9 := rng32 i0
        have o10 := rng32 i1
        have o11 := rng32 y1
        have o12 := rng32 y14
        have o13 := rng32 y16
        have o14 := rng32 y2
        have o15 := rng32 y3
        have o16 := rng32 y4
        have o17 : (127 : Int32).toInt = 127 := by decide
        have o18 : (7 : Int32).toInt = 7 := by decide
        have o19 : (192 : Int32).toInt = 192 := by decide
        have o20 : (63 : Int32).toInt = 63 := by decide
        have o21 : (6 : Int32).toInt = 6 := by decide
        have o22 : (1 : Int32).toInt = 1 := by decide
        have o23 : (2 : Int32).toInt = 2 := by decide
        omega
      have rk : 0 ≤ y16.toInt ∧ y16.toInt < 64 := by
        have o0 := own_o_mask hy1 7 (by decide) (by decide)
        have o1 := own_o_iushr hy2 7 (by decide) (by decide)
        have o2 := own_o_irem hy3 192 (by decide)
        have o3 := own_o_iadd hy4
        have o4 := own_o_isub hy13
        have o5 := own_o_mask hy14 6 (by decide) (by decide)
        have o6 := own_o_iushr hy15 6 (by decide) (by decide)
        have o7 := own_o_mask hy16 6 (by decide) (by decide)
        have o8 := own_o_iushr hy17 6 (by decide) (by decide)
        have o9 := rng32 i0
        have o10 := rng32 i1
        have o11 := rng32 y1
        have o12 := rng32 y14
        have o13 := rng32 y16
        have o14 := rng32 y2
        have o15 := rng32 y3
        have o16 := rng32 y4
        have o17 : (127 : Int32).toInt = 127 := by decide
        have o18 : (7 : Int32).toInt = 7 := by decide
        have o19 : (192 : Int32).toInt = 192 := by decide
        have o20 : (63 : Int32).toInt = 63 := by decide
        have o21 : (6 : Int32).toInt = 6 := by decide
        have o22 : (1 : Int32).toInt = 1 := by decide
        have o23 : (2 : Int32).toInt = 2 := by decide
        omega
      have rp : y1.toInt = 64 * 1 + y14.toInt := by
        have o0 := own_o_mask hy1 7 (by decide) (by decide)
        have o1 := own_o_iushr hy2 7 (by decide) (by decide)
        have o2 := own_o_irem hy3 192 (by decide)
        have o3 := own_o_iadd hy4
        have o4 := own_o_isub hy13
        have o5 := own_o_mask hy14 6 (by decide) (by decide)
        have o6 := own_o_iushr hy15 6 (by decide) (by decide)
        have o7 := own_o_mask hy16 6 (by decide) (by decide)
        have o8 := own_o_iushr hy17 6 (by decide) (by decide)
        have o9 := rng32 i0
        have o10 := rng32 i1
        have o11 := rng32 y1
        have o12 := rng32 y14
        have o13 := rng32 y16
        have o14 := rng32 y2
        have o15 := rng32 y3
        have o16 := rng32 y4
        have o17 : (127 : Int32).toInt = 127 := by decide
        have o18 : (7 : Int32).toInt = 7 := by decide
        have o19 : (192 : Int32).toInt = 192 := by decide
        have o20 : (63 : Int32).toInt = 63 := by decide
        have o21 : (6 : Int32).toInt = 6 := by decide
        have o22 : (1 : Int32).toInt = 1 := by decide
        have o23 : (2 : Int32).toInt = 2 := by decide
        omega
      have rq : y3.toInt = 64 * 2 + y16.toInt := by
        have o0 := own_o_mask hy1 7 (by decide) (by decide)
        have o1 := own_o_iushr hy2 7 (by decide) (by decide)
        have o2 := own_o_irem hy3 192 (by decide)
        have o3 := own_o_iadd hy4
        have o4 := own_o_isub hy13
        have o5 := own_o_mask hy14 6 (by decide) (by decide)
        have o6 := own_o_iushr hy15 6 (by decide) (by decide)
        have o7 := own_o_mask hy16 6 (by decide) (by decide)
        have o8 := own_o_iushr hy17 6 (by decide) (by decide)
        have o9 := rng32 i0
        have o10 := rng32 i1
        have o11 := rng32 y1
        have o12 := rng32 y14
        have o13 := rng32 y16
        have o14 := rng32 y2
        have o15 := rng32 y3
        have o16 := rng32 y4
        have o17 : (127 : Int32).toInt = 127 := by decide
        have o18 : (7 : Int32).toInt = 7 := by decide
        have o19 : (192 : Int32).toInt = 192 := by decide
        have o20 : (63 : Int32).toInt = 63 := by decide
        have o21 : (6 : Int32).toInt = 6 := by decide
        have o22 : (1 : Int32).toInt = 1 := by decide
        have o23 : (2 : Int32).toInt = 2 := by decide
        omega
      refine own_iloadN (pc' := 65) B X12 at_64 rfl rfl ?_
      refine own_iload (pc' := 67) B X12 at_65 rfl rfl ?_
      refine own_lloadN (pc' := 68) B X12 at_67 rfl rfl ?_
      refine own_callS (pc' := 71) B X12 (own_w hw 1 rfl) (own_w hw 2 rfl) (own_w hw 3 rfl) (own_w hw 4 rfl) (by decide) [(.ref b5), (.int i0), (.int y4), (.long i2)] [] (rm_5 l Z a0 hw [] b5 kb5 (i3) (i4) (i5) (i0) (y4) (i2) (y1) (y14) h12 n0 (Nat.le_trans Z0 K.1) E_b5 V_b5 g_b5 hy13 hy14 hy15) 0 (by decide) (by decide) rfl pd_0 rfl rfl (Nat.le_of_eq rfl) at_68 rfl (k' := 2) (n' := 6) rfl rfl (by decide) (by decide) ?_
      intro T1090 v1090 h1090 X1090 q1090
      rcases q1090 with ⟨y1091, y1092, hy1093, hy1094, c1095, rfl, K1090, E_b5, V_b5⟩ | ⟨y1096, y1097, y1098, y1099, hy1100, hy1101, c1102, hy1103, hy1104, c1105, rfl, K1090, E_b5, V_b5⟩ | ⟨y1106, y1107, y1108, y1109, y1110, hy1111, hy1112, c1113, hy1114, hy1115, c1116, hy1117, rfl, K1090, E_b5, V_b5⟩
      · replace K := K.trans K1090 (allS (Or.inr sz_b5) all0)
        replace E_b9 := E_b9.keep K1090
        replace V_b9 := V_b9.keep K1090 (ninS (Ne.symm ne_b5_b9) nin0)
        show own_Go p e below (T1090.setTop (mkF m 71 #[.val (.int i0), .val (.int i1), .val (.long i2), .second, .val (.long i3), .second, .val (.long i4), .second, .val (.long i5), .second, .val (.int y1), .val (.int y3), .val (.int y4), .val (.ref b5), .val (.ref b9), .unset, .unset, .unset, .unset] [])) _
        refine own_aload (pc' := 73) B X1090 at_71 rfl rfl rfl ?_
        refine own_iload (pc' := 75) B X1090 at_73 rfl rfl ?_
        refine own_callS (pc' := 78) B X1090 (own_w hw 5 rfl) (own_w hw 6 rfl) (own_w hw 7 rfl) (own_w hw 8 rfl) (by decide) [(.ref b9), (.int y3)] [] (rm_4 l Z a0 hw [] b9 kb9 (i3) (i4) (i5) (y3) (y16) h1090 n0 (Nat.le_trans Z0 K.1) E_b9 V_b9 g_b9 hy16 hy17) 0 (by decide) (by decide) rfl pd_1 rfl rfl (Nat.le_of_eq rfl) at_75 rfl (k' := 2) (n' := 6) rfl rfl (by decide) (by decide) ?_
        intro T1118 v1118 h1118 X1118 q1118
        rcases q1118 with ⟨y1119, y1120, hy1121, hy1122, c1123, rfl, rfl⟩ | ⟨y1124, y1125, hy1126, hy1127, c1128, rfl, rfl⟩
        · show own_Go p e below (T1118.setTop (mkF m 78 #[.val (.int i0), .val (.int i1), .val (.long i2), .second, .val (.long i3), .second, .val (.long i4), .second, .val (.long i5), .second, .val (.int y1), .val (.int y3), .val (.int y4), .val (.ref b5), .val (.ref b9), .unset, .unset, .unset, .unset] [(.int (0 : Int32))])) _
          refine own_istore (pc' := 80) B X1118 (Ls' := #[.val (.int i0), .val (.int i1), .val (.long i2), .second, .val (.long i3), .second, .val (.long i4), .second, .val (.long i5), .second, .val (.int y1), .val (.int y3), .val (.int y4), .val (.ref b5), .val (.ref b9), .val (.int (0 : Int32)), .unset, .unset, .unset]) at_78 rfl rfl ?_
          refine own_iload (pc' := 82) B X1118 at_80 rfl rfl ?_
          refine own_iload (pc' := 84) B X1118 at_82 rfl rfl ?_
          obtain ⟨y1129, hy1129⟩ : ∃ z : Int32, y3 - y1 = z := ⟨_, rfl⟩
          refine own_isub (pc' := 85) B X1118 at_84 rfl hy1129 ?_
          refine own_istore (pc' := 87) B X1118 (Ls' := #[.val (.int i0), .val (.int i1), .val (.long i2), .second, .val (.long i3), .second, .val (.long i4), .second, .val (.long i5), .second, .val (.int y1), .val (.int y3), .val (.int y4), .val (.ref b5), .val (.ref b9), .val (.int (0 : Int32)), .val (.int y1129), .unset, .unset]) at_85 rfl rfl ?_
          have rd : y1129.toInt = 64 * 1 + y16.toInt - y14.toInt := own_dist hy1129 rp rq rs rk (by decide) (by decide) (by decide)
          refine own_iload (pc' := 89) B X1118 at_87 rfl rfl ?_
          have c1130 : ¬ (y1129 < (0 : Int32)) := by
            have o0 := own_o_mask hy1 7 (by decide) (by decide)
            have o1 := own_o_iushr hy2 7 (by decide) (by decide)
            have o2 := own_o_irem hy3 192 (by decide)
            have o3 := own_o_iadd hy4
            have o4 := own_o_isub hy13
            have o5 := own_o_mask hy14 6 (by decide) (by decide)
            have o6 := own_o_iushr hy15 6 (by decide) (by decide)
            have o7 := own_o_mask hy16 6 (by decide) (by decide)
            have o8 := own_o_iushr hy17 6 (by decide) (by decide)
            have o9 := own_o_maskL hy1122 1 (by decide) (by decide)
            have o10 := own_o_isub hy1129
            have o11 := own_eq c1095
            have o12 := own_eqL c1123
            have o13 := rng32 i0
            have o14 := rng32 i1
            have o15 := rng32 y1
            have o16 := rng32 y1129
            have o17 := rng32 y14
            have o18 := rng32 y16
            have o19 := rng32 y2
            have o20 := rng32 y3
            have o21 := rng32 y4
            have o22 := rng64 i5
            have o23 := rng64 y1119
            have o24 := rng64 y1120
            have o25 : (127 : Int32).toInt = 127 := by decide
            have o26 : (7 : Int32).toInt = 7 := by decide
            have o27 : (192 : Int32).toInt = 192 := by decide
            have o28 : (63 : Int32).toInt = 63 := by decide
            have o29 : (6 : Int32).toInt = 6 := by decide
            have o30 : (1 : Int32).toInt = 1 := by decide
            have o31 : (2 : Int32).toInt = 2 := by decide
            have o32 : (1 : Int64).toInt = 1 := by decide
            have o33 : (0 : Int32).toInt = 0 := by decide
            have o34 : (0 : Int64).toInt = 0 := by decide
            refine own_nltI ?_
            omega
          refine own_ifNo (pc' := 92) B X1118 at_89 ((if0 _ _).trans (flt c1130).1) rfl ?_
          refine own_iload (pc' := 94) B X1118 at_92 rfl rfl ?_
          refine own_bipush (pc' := 96) B X1118 (z := (64 : Int32)) at_94 rfl (by decide) ?_
          have c1131 : ¬ (y1129 < (64 : Int32)) := by
            have o0 := own_o_mask hy1 7 (by decide) (by decide)
            have o1 := own_o_iushr hy2 7 (by decide) (by decide)
            have o2 := own_o_irem hy3 192 (by decide)
            have o3 := own_o_iadd hy4
            have o4 := own_o_isub hy13
            have o5 := own_o_mask hy14 6 (by decide) (by decide)
            have o6 := own_o_iushr hy15 6 (by decide) (by decide)
            have o7 := own_o_mask hy16 6 (by decide) (by decide)
            have o8 := own_o_iushr hy17 6 (by decide) (by decide)
            have o9 := own_o_maskL hy1122 1 (by decide) (by decide)
            have o10 := own_o_isub hy1129
            have o11 := own_eq c1095
            have o12 := own_eqL c1123
            have o13 := own_nlt c1130
            have o14 := rng32 i0
            have o15 := rng32 i1
            have o16 := rng32 y1
            have o17 := rng32 y1129
            have o18 := rng32 y14
            have o19 := rng32 y16
            have o20 := rng32 y2
            have o21 := rng32 y3
            have o22 := rng32 y4
            have o23 := rng64 i5
            have o24 := rng64 y1119
            have o25 := rng64 y1120
            have o26 : (127 : Int32).toInt = 127 := by decide
            have o27 : (7 : Int32).toInt = 7 := by decide
            have o28 : (192 : Int32).toInt = 192 := by decide
            have o29 : (63 : Int32).toInt = 63 := by decide
            have o30 : (6 : Int32).toInt = 6 := by decide
            have o31 : (1 : Int32).toInt = 1 := by decide
            have o32 : (2 : Int32).toInt = 2 := by decide
            have o33 : (1 : Int64).toInt = 1 := by decide
            have o34 : (0 : Int32).toInt = 0 := by decide
            have o35 : (0 : Int64).toInt = 0 := by decide
            have o36 : (64 : Int32).toInt = 64 := by decide
            refine own_nltI ?_
            omega
          refine own_icmpYes (pc' := 114) B X1118 at_96 (flt c1131).2.1 (by decide) rfl ?_
          refine own_iconst (pc' := 115) B X1118 (z := (0 : Int32)) at_114 rfl rfl ?_
          refine own_istore (pc' := 117) B X1118 (Ls' := #[.val (.int i0), .val (.int i1), .val (.long i2), .second, .val (.long i3), .second, .val (.long i4), .second, .val (.long i5), .second, .val (.int y1), .val (.int y3), .val (.int y4), .val (.ref b5), .val (.ref b9), .val (.int (0 : Int32)), .val (.int y1129), .val (.int (0 : Int32)), .unset]) at_115 rfl rfl ?_
          refine own_aload (pc' := 119) B X1118 at_117 rfl rfl rfl ?_
          refine own_iload (pc' := 121) B X1118 at_119 rfl rfl ?_
          refine own_callS (pc' := 124) B X1118 (own_w hw 5 rfl) (own_w hw 6 rfl) (own_w hw 7 rfl) (own_w hw 8 rfl) (by decide) [(.ref b5), (.int y3)] [] (rm_4 l Z a0 hw [] b5 kb5 (i3) (y1092) (i5) (y3) (y16) h1090 n0 (Nat.le_trans Z0 K.1) E_b5 V_b5 g_b5 hy16 hy17) 0 (by decide) (by decide) rfl pd_1 rfl rfl (Nat.le_of_eq rfl) at_121 rfl (k' := 2) (n' := 6) rfl rfl (by decide) (by decide) ?_
          intro T1132 v1132 h1132 X1132 q1132
          rcases q1132 with ⟨y1133, y1134, hy1135, hy1136, c1137, rfl, rfl⟩ | ⟨y1138, y1139, hy1140, hy1141, c1142, rfl, rfl⟩
          · obtain rfl : y1119 = y1133 := (hy1121 : (i5.toUInt64 >>> (y16 &&& 0x3f).toInt64.toUInt64).toInt64 = y1119).symm.trans hy1135
            obtain rfl : y1120 = y1134 := (hy1122 : y1119 &&& (1 : Int64) = y1120).symm.trans hy1136
            show own_Go p e below (T1132.setTop (mkF m 124 #[.val (.int i0), .val (.int i1), .val (.long i2), .second, .val (.long i3), .second, .val (.long i4), .second, .val (.long i5), .second, .val (.int y1), .val (.int y3), .val (.int y4), .val (.ref b5), .val (.ref b9), .val (.int (0 : Int32)), .val (.int y1129), .val (.int (0 : Int32)), .unset] [(.int (0 : Int32))])) _
            refine own_istore (pc' := 126) B X1132 (Ls' := #[.val (.int i0), .val (.int i1), .val (.long i2), .second, .val (.long i3), .second, .val (.long i4), .second, .val (.long i5), .second, .val (.int y1), .val (.int y3), .val (.int y4), .val (.ref b5), .val (.ref b9), .val (.int (0 : Int32)), .val (.int y1129), .val (.int (0 : Int32)), .val (.int (0 : Int32))]) at_124 rfl rfl ?_
            refine own_iload (pc' := 128) B X1132 at_126 rfl rfl ?_
            refine own_iload (pc' := 130) B X1132 at_128 rfl rfl ?_
            refine own_ifNo (pc' := 133) B X1132 at_130 ((if0 _ _).trans (teq (by decide : (0 : Int32) = (0 : Int32))).2) rfl ?_
            refine own_iload (pc' := 135) B X1132 at_133 rfl rfl ?_
            refine own_ifYes (pc' := 142) B X1132 at_135 ((if0 _ _).trans (teq (by decide : (0 : Int32) = (0 : Int32))).1) (by decide) rfl ?_
            refine own_iconst (pc' := 143) B X1132 (z := (0 : Int32)) at_142 rfl rfl ?_
            refine own_icmpNo (pc' := 146) B X1132 at_143 (teq (by decide : (0 : Int32) = (0 : Int32))).2 rfl ?_
            refine own_iconst (pc' := 147) B X1132 (z := (1 : Int32)) at_146 rfl rfl ?_
            refine own_goto (pc' := 151) B X1132 at_147 (by decide) rfl ?_
            exact own_retN B X1132 (t := .boolean) (z' := (1 : Int32)) (by simp) (by decide) at_151 (by decide) (by decide) rfl
          · obtain rfl : y1119 = y1138 := (hy1121 : (i5.toUInt64 >>> (y16 &&& 0x3f).toInt64.toUInt64).toInt64 = y1119).symm.trans hy1140
            obtain rfl : y1120 = y1139 := (hy1122 : y1119 &&& (1 : Int64) = y1120).symm.trans hy1141
            exfalso
            have b0 := own_bitF hy1121 hy1122 rk.1 rk.2 c1123
            have b1 := own_bitT hy1121 hy1122 rk.1 rk.2 c1142
            revert b0 b1
            generalize own_tb i5 y16.toInt.toNat = u0
            revert u0
            decide
        · show own_Go p e below (T1118.setTop (mkF m 78 #[.val (.int i0), .val (.int i1), .val (.long i2), .second, .val (.long i3), .second, .val (.long i4), .second, .val (.long i5), .second, .val (.int y1), .val (.int y3), .val (.int y4), .val (.ref b5), .val (.ref b9), .unset, .unset, .unset, .unset] [(.int (1 : Int32))])) _
          refine own_istore (pc' := 80) B X1118 (Ls' := #[.val (.int i0), .val (.int i1), .val (.long i2), .second, .val (.long i3), .second, .val (.long i4), .second, .val (.long i5), .second, .val (.int y1), .val (.int y3), .val (.int y4), .val (.ref b5), .val (.ref b9), .val (.int (1 : Int32)), .unset, .unset, .unset]) at_78 rfl rfl ?_
          refine own_iload (pc' := 82) B X1118 at_80 rfl rfl ?_
          refine own_iload (pc' := 84) B X1118 at_82 rfl rfl ?_
          obtain ⟨y1143, hy1143⟩ : ∃ z : Int32, y3 - y1 = z := ⟨_, rfl⟩
          refine own_isub (pc' := 85) B X1118 at_84 rfl hy1143 ?_
          refine own_istore (pc' := 87) B X1118 (Ls' := #[.val (.int i0), .val (.int i1), .val (.long i2), .second, .val (.long i3), .second, .val (.long i4), .second, .val (.long i5), .second, .val (.int y1), .val (.int y3), .val (.int y4), .val (.ref b5), .val (.ref b9), .val (.int (1 : Int32)), .val (.int y1143), .unset, .unset]) at_85 rfl rfl ?_
          have rd : y1143.toInt = 64 * 1 + y16.toInt - y14.toInt := own_dist hy1143 rp rq rs rk (by decide) (by decide) (by decide)
          refine own_iload (pc' := 89) B X1118 at_87 rfl rfl ?_
          have c1144 : ¬ (y1143 < (0 : Int32)) := by
            have o0 := own_o_mask hy1 7 (by decide) (by decide)
            have o1 := own_o_iushr hy2 7 (by decide) (by decide)
            have o2 := own_o_irem hy3 192 (by decide)
            have o3 := own_o_iadd hy4
            have o4 := own_o_isub hy13
            have o5 := own_o_mask hy14 6 (by decide) (by decide)
            have o6 := own_o_iushr hy15 6 (by decide) (by decide)
            have o7 := own_o_mask hy16 6 (by decide) (by decide)
            have o8 := own_o_iushr hy17 6 (by decide) (by decide)
            have o9 := own_o_maskL hy1127 1 (by decide) (by decide)
            have o10 := own_o_isub hy1143
            have o11 := own_eq c1095
            have o12 := own_neqL c1128
            have o13 := rng32 i0
            have o14 := rng32 i1
            have o15 := rng32 y1
            have o16 := rng32 y1143
            have o17 := rng32 y14
            have o18 := rng32 y16
            have o19 := rng32 y2
            have o20 := rng32 y3
            have o21 := rng32 y4
            have o22 := rng64 i5
            have o23 := rng64 y1124
            have o24 := rng64 y1125
            have o25 : (127 : Int32).toInt = 127 := by decide
            have o26 : (7 : Int32).toInt = 7 := by decide
            have o27 : (192 : Int32).toInt = 192 := by decide
            have o28 : (63 : Int32).toInt = 63 := by decide
            have o29 : (6 : Int32).toInt = 6 := by decide
            have o30 : (1 : Int32).toInt = 1 := by decide
            have o31 : (2 : Int32).toInt = 2 := by decide
            have o32 : (1 : Int64).toInt = 1 := by decide
            have o33 : (0 : Int32).toInt = 0 := by decide
            have o34 : (0 : Int64).toInt = 0 := by decide
            refine own_nltI ?_
            omega
          refine own_ifNo (pc' := 92) B X1118 at_89 ((if0 _ _).trans (flt c1144).1) rfl ?_
          refine own_iload (pc' := 94) B X1118 at_92 rfl rfl ?_
          refine own_bipush (pc' := 96) B X1118 (z := (64 : Int32)) at_94 rfl (by decide) ?_
          have c1145 : ¬ (y1143 < (64 : Int32)) := by
            have o0 := own_o_mask hy1 7 (by decide) (by decide)
            have o1 := own_o_iushr hy2 7 (by decide) (by decide)
            have o2 := own_o_irem hy3 192 (by decide)
            have o3 := own_o_iadd hy4
            have o4 := own_o_isub hy13
            have o5 := own_o_mask hy14 6 (by decide) (by decide)
            have o6 := own_o_iushr hy15 6 (by decide) (by decide)
            have o7 := own_o_mask hy16 6 (by decide) (by decide)
            have o8 := own_o_iushr hy17 6 (by decide) (by decide)
            have o9 := own_o_maskL hy1127 1 (by decide) (by decide)
            have o10 := own_o_isub hy1143
            have o11 := own_eq c1095
            have o12 := own_neqL c1128
            have o13 := own_nlt c1144
            have o14 := rng32 i0
            have o15 := rng32 i1
            have o16 := rng32 y1
            have o17 := rng32 y1143
            have o18 := rng32 y14
            have o19 := rng32 y16
            have o20 := rng32 y2
            have o21 := rng32 y3
            have o22 := rng32 y4
            have o23 := rng64 i5
            have o24 := rng64 y1124
            have o25 := rng64 y1125
            have o26 : (127 : Int32).toInt = 127 := by decide
            have o27 : (7 : Int32).toInt = 7 := by decide
            have o28 : (192 : Int32).toInt = 192 := by decide
            have o29 : (63 : Int32).toInt = 63 := by decide
            have o30 : (6 : Int32).toInt = 6 := by decide
            have o31 : (1 : Int32).toInt = 1 := by decide
            have o32 : (2 : Int32).toInt = 2 := by decide
            have o33 : (1 : Int64).toInt = 1 := by decide
            have o34 : (0 : Int32).toInt = 0 := by decide
            have o35 : (0 : Int64).toInt = 0 := by decide
            have o36 : (64 : Int32).toInt = 64 := by decide
            refine own_nltI ?_
            omega
          refine own_icmpYes (pc' := 114) B X1118 at_96 (flt c1145).2.1 (by decide) rfl ?_
          refine own_iconst (pc' := 115) B X1118 (z := (0 : Int32)) at_114 rfl rfl ?_
          refine own_istore (pc' := 117) B X1118 (Ls' := #[.val (.int i0), .val (.int i1), .val (.long i2), .second, .val (.long i3), .second, .val (.long i4), .second, .val (.long i5), .second, .val (.int y1), .val (.int y3), .val (.int y4), .val (.ref b5), .val (.ref b9), .val (.int (1 : Int32)), .val (.int y1143), .val (.int (0 : Int32)), .unset]) at_115 rfl rfl ?_
          refine own_aload (pc' := 119) B X1118 at_117 rfl rfl rfl ?_
          refine own_iload (pc' := 121) B X1118 at_119 rfl rfl ?_
          refine own_callS (pc' := 124) B X1118 (own_w hw 5 rfl) (own_w hw 6 rfl) (own_w hw 7 rfl) (own_w hw 8 rfl) (by decide) [(.ref b5), (.int y3)] [] (rm_4 l Z a0 hw [] b5 kb5 (i3) (y1092) (i5) (y3) (y16) h1090 n0 (Nat.le_trans Z0 K.1) E_b5 V_b5 g_b5 hy16 hy17) 0 (by decide) (by decide) rfl pd_1 rfl rfl (Nat.le_of_eq rfl) at_121 rfl (k' := 2) (n' := 6) rfl rfl (by decide) (by decide) ?_
          intro T1146 v1146 h1146 X1146 q1146
          rcases q1146 with ⟨y1147, y1148, hy1149, hy1150, c1151, rfl, rfl⟩ | ⟨y1152, y1153, hy1154, hy1155, c1156, rfl, rfl⟩
          · obtain rfl : y1124 = y1147 := (hy1126 : (i5.toUInt64 >>> (y16 &&& 0x3f).toInt64.toUInt64).toInt64 = y1124).symm.trans hy1149
            obtain rfl : y1125 = y1148 := (hy1127 : y1124 &&& (1 : Int64) = y1125).symm.trans hy1150
            exfalso
            have b0 := own_bitT hy1126 hy1127 rk.1 rk.2 c1128
            have b1 := own_bitF hy1126 hy1127 rk.1 rk.2 c1151
            revert b0 b1
            generalize own_tb i5 y16.toInt.toNat = u0
            revert u0
            decide
          · obtain rfl : y1124 = y1152 := (hy1126 : (i5.toUInt64 >>> (y16 &&& 0x3f).toInt64.toUInt64).toInt64 = y1124).symm.trans hy1154
            obtain rfl : y1125 = y1153 := (hy1127 : y1124 &&& (1 : Int64) = y1125).symm.trans hy1155
            show own_Go p e below (T1146.setTop (mkF m 124 #[.val (.int i0), .val (.int i1), .val (.long i2), .second, .val (.long i3), .second, .val (.long i4), .second, .val (.long i5), .second, .val (.int y1), .val (.int y3), .val (.int y4), .val (.ref b5), .val (.ref b9), .val (.int (1 : Int32)), .val (.int y1143), .val (.int (0 : Int32)), .unset] [(.int (1 : Int32))])) _
            refine own_istore (pc' := 126) B X1146 (Ls' := #[.val (.int i0), .val (.int i1), .val (.long i2), .second, .val (.long i3), .second, .val (.long i4), .second, .val (.long i5), .second, .val (.int y1), .val (.int y3), .val (.int y4), .val (.ref b5), .val (.ref b9), .val (.int (1 : Int32)), .val (.int y1143), .val (.int (0 : Int32)), .val (.int (1 : Int32))]) at_124 rfl rfl ?_
            refine own_iload (pc' := 128) B X1146 at_126 rfl rfl ?_
            refine own_iload (pc' := 130) B X1146 at_128 rfl rfl ?_
            refine own_ifYes (pc' := 138) B X1146 at_130 ((if0 _ _).trans (feq (by decide : ¬ ((1 : Int32) = (0 : Int32)))).2) (by decide) rfl ?_
            refine own_iconst (pc' := 139) B X1146 (z := (1 : Int32)) at_138 rfl rfl ?_
            refine own_goto (pc' := 143) B X1146 at_139 (by decide) rfl ?_
            refine own_icmpNo (pc' := 146) B X1146 at_143 (teq (by decide : (1 : Int32) = (1 : Int32))).2 rfl ?_
            refine own_iconst (pc' := 147) B X1146 (z := (1 : Int32)) at_146 rfl rfl ?_
            refine own_goto (pc' := 151) B X1146 at_147 (by decide) rfl ?_
            exact own_retN B X1146 (t := .boolean) (z' := (1 : Int32)) (by simp) (by decide) at_151 (by decide) (by decide) rfl
      · replace K := K.trans K1090 (allS (Or.inr sz_b5) all0)
        replace E_b9 := E_b9.keep K1090
        replace V_b9 := V_b9.keep K1090 (ninS (Ne.symm ne_b5_b9) nin0)
        show own_Go p e below (T1090.setTop (mkF m 71 #[.val (.int i0), .val (.int i1), .val (.long i2), .second, .val (.long i3), .second, .val (.long i4), .second, .val (.long i5), .second, .val (.int y1), .val (.int y3), .val (.int y4), .val (.ref b5), .val (.ref b9), .unset, .unset, .unset, .unset] [])) _
        refine own_aload (pc' := 73) B X1090 at_71 rfl rfl rfl ?_
        refine own_iload (pc' := 75) B X1090 at_73 rfl rfl ?_
        refine own_callS (pc' := 78) B X1090 (own_w hw 5 rfl) (own_w hw 6 rfl) (own_w hw 7 rfl) (own_w hw 8 rfl) (by decide) [(.ref b9), (.int y3)] [] (rm_4 l Z a0 hw [] b9 kb9 (i3) (i4) (i5) (y3) (y16) h1090 n0 (Nat.le_trans Z0 K.1) E_b9 V_b9 g_b9 hy16 hy17) 0 (by decide) (by decide) rfl pd_1 rfl rfl (Nat.le_of_eq rfl) at_75 rfl (k' := 2) (n' := 6) rfl rfl (by decide) (by decide) ?_
        intro T1157 v1157 h1157 X1157 q1157
        rcases q1157 with ⟨y1158, y1159, hy1160, hy1161, c1162, rfl, rfl⟩ | ⟨y1163, y1164, hy1165, hy1166, c1167, rfl, rfl⟩
        · show own_Go p e below (T1157.setTop (mkF m 78 #[.val (.int i0), .val (.int i1), .val (.long i2), .second, .val (.long i3), .second, .val (.long i4), .second, .val (.long i5), .second, .val (.int y1), .val (.int y3), .val (.int y4), .val (.ref b5), .val (.ref b9), .unset, .unset, .unset, .unset] [(.int (0 : Int32))])) _
          refine own_istore (pc' := 80) B X1157 (Ls' := #[.val (.int i0), .val (.int i1), .val (.long i2), .second, .val (.long i3), .second, .val (.long i4), .second, .val (.long i5), .second, .val (.int y1), .val (.int y3), .val (.int y4), .val (.ref b5), .val (.ref b9), .val (.int (0 : Int32)), .unset, .unset, .unset]) at_78 rfl rfl ?_
          refine own_iload (pc' := 82) B X1157 at_80 rfl rfl ?_
          refine own_iload (pc' := 84) B X1157 at_82 rfl rfl ?_
          obtain ⟨y1168, hy1168⟩ : ∃ z : Int32, y3 - y1 = z := ⟨_, rfl⟩
          refine own_isub (pc' := 85) B X1157 at_84 rfl hy1168 ?_
          refine own_istore (pc' := 87) B X1157 (Ls' := #[.val (.int i0), .val (.int i1), .val (.long i2), .second, .val (.long i3), .second, .val (.long i4), .second, .val (.long i5), .second, .val (.int y1), .val (.int y3), .val (.int y4), .val (.ref b5), .val (.ref b9), .val (.int (0 : Int32)), .val (.int y1168), .unset, .unset]) at_85 rfl rfl ?_
          have rd : y1168.toInt = 64 * 1 + y16.toInt - y14.toInt := own_dist hy1168 rp rq rs rk (by decide) (by decide) (by decide)
          refine own_iload (pc' := 89) B X1157 at_87 rfl rfl ?_
          have c1169 : ¬ (y1168 < (0 : Int32)) := by
            have o0 := own_o_mask hy1 7 (by decide) (by decide)
            have o1 := own_o_iushr hy2 7 (by decide) (by decide)
            have o2 := own_o_irem hy3 192 (by decide)
            have o3 := own_o_iadd hy4
            have o4 := own_o_isub hy13
            have o5 := own_o_mask hy14 6 (by decide) (by decide)
            have o6 := own_o_iushr hy15 6 (by decide) (by decide)
            have o7 := own_o_mask hy16 6 (by decide) (by decide)
            have o8 := own_o_iushr hy17 6 (by decide) (by decide)
            have o9 := own_o_isub hy1103
            have o10 := own_o_maskL hy1161 1 (by decide) (by decide)
            have o11 := own_o_isub hy1168
            have o12 := own_neq c1102
            have o13 := own_eqL c1105
            have o14 := own_eqL c1162
            have o15 := rng32 i0
            have o16 := rng32 i1
            have o17 := rng32 y1
            have o18 := rng32 y1098
            have o19 := rng32 y1168
            have o20 := rng32 y14
            have o21 := rng32 y16
            have o22 := rng32 y2
            have o23 := rng32 y3
            have o24 := rng32 y4
            have o25 := rng64 i2
            have o26 := rng64 i5
            have o27 := rng64 y1099
            have o28 := rng64 y1158
            have o29 := rng64 y1159
            have o30 : (127 : Int32).toInt = 127 := by decide
            have o31 : (7 : Int32).toInt = 7 := by decide
            have o32 : (192 : Int32).toInt = 192 := by decide
            have o33 : (63 : Int32).toInt = 63 := by decide
            have o34 : (6 : Int32).toInt = 6 := by decide
            have o35 : (1 : Int32).toInt = 1 := by decide
            have o36 : (2 : Int32).toInt = 2 := by decide
            have o37 : (64 : Int32).toInt = 64 := by decide
            have o38 : (1 : Int64).toInt = 1 := by decide
            have o39 : (0 : Int32).toInt = 0 := by decide
            have o40 : (0 : Int64).toInt = 0 := by decide
            refine own_nltI ?_
            omega
          refine own_ifNo (pc' := 92) B X1157 at_89 ((if0 _ _).trans (flt c1169).1) rfl ?_
          refine own_iload (pc' := 94) B X1157 at_92 rfl rfl ?_
          refine own_bipush (pc' := 96) B X1157 (z := (64 : Int32)) at_94 rfl (by decide) ?_
          by_cases c1170 : y1168 < (64 : Int32)
          · refine own_icmpNo (pc' := 99) B X1157 at_96 (tlt c1170).2.1 rfl ?_
            refine own_lloadN (pc' := 100) B X1157 at_99 rfl rfl ?_
            refine own_iload (pc' := 102) B X1157 at_100 rfl rfl ?_
            obtain ⟨y1171, hy1171⟩ : ∃ z : Int64, (i2.toUInt64 >>> (y1168 &&& 0x3f).toInt64.toUInt64).toInt64 = z := ⟨_, rfl⟩
            refine own_lushr (pc' := 103) B X1157 at_102 rfl hy1171 ?_
            refine own_lconst (pc' := 104) B X1157 (z := (1 : Int64)) at_103 rfl (by decide) ?_
            obtain ⟨y1172, hy1172⟩ : ∃ z : Int64, y1171 &&& (1 : Int64) = z := ⟨_, rfl⟩
            refine own_land (pc' := 105) B X1157 at_104 rfl hy1172 ?_
            refine own_lconst (pc' := 106) B X1157 (z := (0 : Int64)) at_105 rfl (by decide) ?_
            obtain ⟨y1173, hy1173⟩ : ∃ z : Int32, lcmpW y1172 (0 : Int64) = z := ⟨_, rfl⟩
            refine own_lcmp (pc' := 107) B X1157 at_106 rfl hy1173 ?_
            have c1174 : y1172 = (0 : Int64) := by
              refine Classical.byContradiction fun cg => ?_
              have b0 := own_bitC rs rk rd hy1103 c1102 hy1104 c1105 (own_lt64 c1170)
              have b1 := own_bitF hy1160 hy1161 rk.1 rk.2 c1162
              have b2 := own_bitT hy1171 hy1172 (own_gez c1169) (own_lt64 c1170) cg
              revert b0 b1 b2
              generalize own_tb i2 y1168.toInt.toNat = u0
              generalize own_tb i5 y16.toInt.toNat = u1
              revert u0 u1
              decide
            refine own_ifYes (pc' := 114) B X1157 at_107 ((if0 _ _).trans (teq (own_lcm (P := fun q => (q = (0 : Int32))) hy1173 ((lw_eq y1172 (0 : Int64)).mpr c1174))).1) (by decide) rfl ?_
            refine own_iconst (pc' := 115) B X1157 (z := (0 : Int32)) at_114 rfl rfl ?_
            refine own_istore (pc' := 117) B X1157 (Ls' := #[.val (.int i0), .val (.int i1), .val (.long i2), .second, .val (.long i3), .second, .val (.long i4), .second, .val (.long i5), .second, .val (.int y1), .val (.int y3), .val (.int y4), .val (.ref b5), .val (.ref b9), .val (.int (0 : Int32)), .val (.int y1168), .val (.int (0 : Int32)), .unset]) at_115 rfl rfl ?_
            refine own_aload (pc' := 119) B X1157 at_117 rfl rfl rfl ?_
            refine own_iload (pc' := 121) B X1157 at_119 rfl rfl ?_
            refine own_callS (pc' := 124) B X1157 (own_w hw 5 rfl) (own_w hw 6 rfl) (own_w hw 7 rfl) (own_w hw 8 rfl) (by decide) [(.ref b5), (.int y3)] [] (rm_4 l Z a0 hw [] b5 kb5 (i3) (y1097) (i5) (y3) (y16) h1090 n0 (Nat.le_trans Z0 K.1) E_b5 V_b5 g_b5 hy16 hy17) 0 (by decide) (by decide) rfl pd_1 rfl rfl (Nat.le_of_eq rfl) at_121 rfl (k' := 2) (n' := 6) rfl rfl (by decide) (by decide) ?_
            intro T1175 v1175 h1175 X1175 q1175
            rcases q1175 with ⟨y1176, y1177, hy1178, hy1179, c1180, rfl, rfl⟩ | ⟨y1181, y1182, hy1183, hy1184, c1185, rfl, rfl⟩
            · obtain rfl : y1158 = y1176 := (hy1160 : (i5.toUInt64 >>> (y16 &&& 0x3f).toInt64.toUInt64).toInt64 = y1158).symm.trans hy1178
              obtain rfl : y1159 = y1177 := (hy1161 : y1158 &&& (1 : Int64) = y1159).symm.trans hy1179
              show own_Go p e below (T1175.setTop (mkF m 124 #[.val (.int i0), .val (.int i1), .val (.long i2), .second, .val (.long i3), .second, .val (.long i4), .second, .val (.long i5), .second, .val (.int y1), .val (.int y3), .val (.int y4), .val (.ref b5), .val (.ref b9), .val (.int (0 : Int32)), .val (.int y1168), .val (.int (0 : Int32)), .unset] [(.int (0 : Int32))])) _
              refine own_istore (pc' := 126) B X1175 (Ls' := #[.val (.int i0), .val (.int i1), .val (.long i2), .second, .val (.long i3), .second, .val (.long i4), .second, .val (.long i5), .second, .val (.int y1), .val (.int y3), .val (.int y4), .val (.ref b5), .val (.ref b9), .val (.int (0 : Int32)), .val (.int y1168), .val (.int (0 : Int32)), .val (.int (0 : Int32))]) at_124 rfl rfl ?_
              refine own_iload (pc' := 128) B X1175 at_126 rfl rfl ?_
              refine own_iload (pc' := 130) B X1175 at_128 rfl rfl ?_
              refine own_ifNo (pc' := 133) B X1175 at_130 ((if0 _ _).trans (teq (by decide : (0 : Int32) = (0 : Int32))).2) rfl ?_
              refine own_iload (pc' := 135) B X1175 at_133 rfl rfl ?_
              refine own_ifYes (pc' := 142) B X1175 at_135 ((if0 _ _).trans (teq (by decide : (0 : Int32) = (0 : Int32))).1) (by decide) rfl ?_
              refine own_iconst (pc' := 143) B X1175 (z := (0 : Int32)) at_142 rfl rfl ?_
              refine own_icmpNo (pc' := 146) B X1175 at_143 (teq (by decide : (0 : Int32) = (0 : Int32))).2 rfl ?_
              refine own_iconst (pc' := 147) B X1175 (z := (1 : Int32)) at_146 rfl rfl ?_
              refine own_goto (pc' := 151) B X1175 at_147 (by decide) rfl ?_
              exact own_retN B X1175 (t := .boolean) (z' := (1 : Int32)) (by simp) (by decide) at_151 (by decide) (by decide) rfl
            · obtain rfl : y1158 = y1181 := (hy1160 : (i5.toUInt64 >>> (y16 &&& 0x3f).toInt64.toUInt64).toInt64 = y1158).symm.trans hy1183
              obtain rfl : y1159 = y1182 := (hy1161 : y1158 &&& (1 : Int64) = y1159).symm.trans hy1184
              exfalso
              have b0 := own_bitC rs rk rd hy1103 c1102 hy1104 c1105 (own_lt64 c1170)
              have b1 := own_bitF hy1160 hy1161 rk.1 rk.2 c1162
              have b2 := own_bitF hy1171 hy1172 (own_gez c1169) (own_lt64 c1170) c1174
              have b3 := own_bitT hy1160 hy1161 rk.1 rk.2 c1185
              revert b0 b1 b2 b3
              generalize own_tb i2 y1168.toInt.toNat = u0
              generalize own_tb i5 y16.toInt.toNat = u1
              revert u0 u1
              decide
          · refine own_icmpYes (pc' := 114) B X1157 at_96 (flt c1170).2.1 (by decide) rfl ?_
            refine own_iconst (pc' := 115) B X1157 (z := (0 : Int32)) at_114 rfl rfl ?_
            refine own_istore (pc' := 117) B X1157 (Ls' := #[.val (.int i0), .val (.int i1), .val (.long i2), .second, .val (.long i3), .second, .val (.long i4), .second, .val (.long i5), .second, .val (.int y1), .val (.int y3), .val (.int y4), .val (.ref b5), .val (.ref b9), .val (.int (0 : Int32)), .val (.int y1168), .val (.int (0 : Int32)), .unset]) at_115 rfl rfl ?_
            refine own_aload (pc' := 119) B X1157 at_117 rfl rfl rfl ?_
            refine own_iload (pc' := 121) B X1157 at_119 rfl rfl ?_
            refine own_callS (pc' := 124) B X1157 (own_w hw 5 rfl) (own_w hw 6 rfl) (own_w hw 7 rfl) (own_w hw 8 rfl) (by decide) [(.ref b5), (.int y3)] [] (rm_4 l Z a0 hw [] b5 kb5 (i3) (y1097) (i5) (y3) (y16) h1090 n0 (Nat.le_trans Z0 K.1) E_b5 V_b5 g_b5 hy16 hy17) 0 (by decide) (by decide) rfl pd_1 rfl rfl (Nat.le_of_eq rfl) at_121 rfl (k' := 2) (n' := 6) rfl rfl (by decide) (by decide) ?_
            intro T1186 v1186 h1186 X1186 q1186
            rcases q1186 with ⟨y1187, y1188, hy1189, hy1190, c1191, rfl, rfl⟩ | ⟨y1192, y1193, hy1194, hy1195, c1196, rfl, rfl⟩
            · obtain rfl : y1158 = y1187 := (hy1160 : (i5.toUInt64 >>> (y16 &&& 0x3f).toInt64.toUInt64).toInt64 = y1158).symm.trans hy1189
              obtain rfl : y1159 = y1188 := (hy1161 : y1158 &&& (1 : Int64) = y1159).symm.trans hy1190
              show own_Go p e below (T1186.setTop (mkF m 124 #[.val (.int i0), .val (.int i1), .val (.long i2), .second, .val (.long i3), .second, .val (.long i4), .second, .val (.long i5), .second, .val (.int y1), .val (.int y3), .val (.int y4), .val (.ref b5), .val (.ref b9), .val (.int (0 : Int32)), .val (.int y1168), .val (.int (0 : Int32)), .unset] [(.int (0 : Int32))])) _
              refine own_istore (pc' := 126) B X1186 (Ls' := #[.val (.int i0), .val (.int i1), .val (.long i2), .second, .val (.long i3), .second, .val (.long i4), .second, .val (.long i5), .second, .val (.int y1), .val (.int y3), .val (.int y4), .val (.ref b5), .val (.ref b9), .val (.int (0 : Int32)), .val (.int y1168), .val (.int (0 : Int32)), .val (.int (0 : Int32))]) at_124 rfl rfl ?_
              refine own_iload (pc' := 128) B X1186 at_126 rfl rfl ?_
              refine own_iload (pc' := 130) B X1186 at_128 rfl rfl ?_
              refine own_ifNo (pc' := 133) B X1186 at_130 ((if0 _ _).trans (teq (by decide : (0 : Int32) = (0 : Int32))).2) rfl ?_
              refine own_iload (pc' := 135) B X1186 at_133 rfl rfl ?_
              refine own_ifYes (pc' := 142) B X1186 at_135 ((if0 _ _).trans (teq (by decide : (0 : Int32) = (0 : Int32))).1) (by decide) rfl ?_
              refine own_iconst (pc' := 143) B X1186 (z := (0 : Int32)) at_142 rfl rfl ?_
              refine own_icmpNo (pc' := 146) B X1186 at_143 (teq (by decide : (0 : Int32) = (0 : Int32))).2 rfl ?_
              refine own_iconst (pc' := 147) B X1186 (z := (1 : Int32)) at_146 rfl rfl ?_
              refine own_goto (pc' := 151) B X1186 at_147 (by decide) rfl ?_
              exact own_retN B X1186 (t := .boolean) (z' := (1 : Int32)) (by simp) (by decide) at_151 (by decide) (by decide) rfl
            · obtain rfl : y1158 = y1192 := (hy1160 : (i5.toUInt64 >>> (y16 &&& 0x3f).toInt64.toUInt64).toInt64 = y1158).symm.trans hy1194
              obtain rfl : y1159 = y1193 := (hy1161 : y1158 &&& (1 : Int64) = y1159).symm.trans hy1195
              exfalso
              have b0 := own_bitF hy1160 hy1161 rk.1 rk.2 c1162
              have b1 := own_bitT hy1160 hy1161 rk.1 rk.2 c1196
              revert b0 b1
              generalize own_tb i5 y16.toInt.toNat = u0
              revert u0
              decide
        · show own_Go p e below (T1157.setTop (mkF m 78 #[.val (.int i0), .val (.int i1), .val (.long i2), .second, .val (.long i3), .second, .val (.long i4), .second, .val (.long i5), .second, .val (.int y1), .val (.int y3), .val (.int y4), .val (.ref b5), .val (.ref b9), .unset, .unset, .unset, .unset] [(.int (1 : Int32))])) _
          refine own_istore (pc' := 80) B X1157 (Ls' := #[.val (.int i0), .val (.int i1), .val (.long i2), .second, .val (.long i3), .second, .val (.long i4), .second, .val (.long i5), .second, .val (.int y1), .val (.int y3), .val (.int y4), .val (.ref b5), .val (.ref b9), .val (.int (1 : Int32)), .unset, .unset, .unset]) at_78 rfl rfl ?_
          refine own_iload (pc' := 82) B X1157 at_80 rfl rfl ?_
          refine own_iload (pc' := 84) B X1157 at_82 rfl rfl ?_
          obtain ⟨y1197, hy1197⟩ : ∃ z : Int32, y3 - y1 = z := ⟨_, rfl⟩
          refine own_isub (pc' := 85) B X1157 at_84 rfl hy1197 ?_
          refine own_istore (pc' := 87) B X1157 (Ls' := #[.val (.int i0), .val (.int i1), .val (.long i2), .second, .val (.long i3), .second, .val (.long i4), .second, .val (.long i5), .second, .val (.int y1), .val (.int y3), .val (.int y4), .val (.ref b5), .val (.ref b9), .val (.int (1 : Int32)), .val (.int y1197), .unset, .unset]) at_85 rfl rfl ?_
          have rd : y1197.toInt = 64 * 1 + y16.toInt - y14.toInt := own_dist hy1197 rp rq rs rk (by decide) (by decide) (by decide)
          refine own_iload (pc' := 89) B X1157 at_87 rfl rfl ?_
          have c1198 : ¬ (y1197 < (0 : Int32)) := by
            have o0 := own_o_mask hy1 7 (by decide) (by decide)
            have o1 := own_o_iushr hy2 7 (by decide) (by decide)
            have o2 := own_o_irem hy3 192 (by decide)
            have o3 := own_o_iadd hy4
            have o4 := own_o_isub hy13
            have o5 := own_o_mask hy14 6 (by decide) (by decide)
            have o6 := own_o_iushr hy15 6 (by decide) (by decide)
            have o7 := own_o_mask hy16 6 (by decide) (by decide)
            have o8 := own_o_iushr hy17 6 (by decide) (by decide)
            have o9 := own_o_isub hy1103
            have o10 := own_o_maskL hy1166 1 (by decide) (by decide)
            have o11 := own_o_isub hy1197
            have o12 := own_neq c1102
            have o13 := own_eqL c1105
            have o14 := own_neqL c1167
            have o15 := rng32 i0
            have o16 := rng32 i1
            have o17 := rng32 y1
            have o18 := rng32 y1098
            have o19 := rng32 y1197
            have o20 := rng32 y14
            have o21 := rng32 y16
            have o22 := rng32 y2
            have o23 := rng32 y3
            have o24 := rng32 y4
            have o25 := rng64 i2
            have o26 := rng64 i5
            have o27 := rng64 y1099
            have o28 := rng64 y1163
            have o29 := rng64 y1164
            have o30 : (127 : Int32).toInt = 127 := by decide
            have o31 : (7 : Int32).toInt = 7 := by decide
            have o32 : (192 : Int32).toInt = 192 := by decide
            have o33 : (63 : Int32).toInt = 63 := by decide
            have o34 : (6 : Int32).toInt = 6 := by decide
            have o35 : (1 : Int32).toInt = 1 := by decide
            have o36 : (2 : Int32).toInt = 2 := by decide
            have o37 : (64 : Int32).toInt = 64 := by decide
            have o38 : (1 : Int64).toInt = 1 := by decide
            have o39 : (0 : Int32).toInt = 0 := by decide
            have o40 : (0 : Int64).toInt = 0 := by decide
            refine own_nltI ?_
            omega
          refine own_ifNo (pc' := 92) B X1157 at_89 ((if0 _ _).trans (flt c1198).1) rfl ?_
          refine own_iload (pc' := 94) B X1157 at_92 rfl rfl ?_
          refine own_bipush (pc' := 96) B X1157 (z := (64 : Int32)) at_94 rfl (by decide) ?_
          by_cases c1199 : y1197 < (64 : Int32)
          · refine own_icmpNo (pc' := 99) B X1157 at_96 (tlt c1199).2.1 rfl ?_
            refine own_lloadN (pc' := 100) B X1157 at_99 rfl rfl ?_
            refine own_iload (pc' := 102) B X1157 at_100 rfl rfl ?_
            obtain ⟨y1200, hy1200⟩ : ∃ z : Int64, (i2.toUInt64 >>> (y1197 &&& 0x3f).toInt64.toUInt64).toInt64 = z := ⟨_, rfl⟩
            refine own_lushr (pc' := 103) B X1157 at_102 rfl hy1200 ?_
            refine own_lconst (pc' := 104) B X1157 (z := (1 : Int64)) at_103 rfl (by decide) ?_
            obtain ⟨y1201, hy1201⟩ : ∃ z : Int64, y1200 &&& (1 : Int64) = z := ⟨_, rfl⟩
            refine own_land (pc' := 105) B X1157 at_104 rfl hy1201 ?_
            refine own_lconst (pc' := 106) B X1157 (z := (0 : Int64)) at_105 rfl (by decide) ?_
            obtain ⟨y1202, hy1202⟩ : ∃ z : Int32, lcmpW y1201 (0 : Int64) = z := ⟨_, rfl⟩
            refine own_lcmp (pc' := 107) B X1157 at_106 rfl hy1202 ?_
            have c1203 : y1201 = (0 : Int64) := by
              refine Classical.byContradiction fun cg => ?_
              have b0 := own_bitC rs rk rd hy1103 c1102 hy1104 c1105 (own_lt64 c1199)
              have b1 := own_bitT hy1165 hy1166 rk.1 rk.2 c1167
              have b2 := own_bitT hy1200 hy1201 (own_gez c1198) (own_lt64 c1199) cg
              revert b0 b1 b2
              generalize own_tb i2 y1197.toInt.toNat = u0
              generalize own_tb i5 y16.toInt.toNat = u1
              revert u0 u1
              decide
            refine own_ifYes (pc' := 114) B X1157 at_107 ((if0 _ _).trans (teq (own_lcm (P := fun q => (q = (0 : Int32))) hy1202 ((lw_eq y1201 (0 : Int64)).mpr c1203))).1) (by decide) rfl ?_
            refine own_iconst (pc' := 115) B X1157 (z := (0 : Int32)) at_114 rfl rfl ?_
            refine own_istore (pc' := 117) B X1157 (Ls' := #[.val (.int i0), .val (.int i1), .val (.long i2), .second, .val (.long i3), .second, .val (.long i4), .second, .val (.long i5), .second, .val (.int y1), .val (.int y3), .val (.int y4), .val (.ref b5), .val (.ref b9), .val (.int (1 : Int32)), .val (.int y1197), .val (.int (0 : Int32)), .unset]) at_115 rfl rfl ?_
            refine own_aload (pc' := 119) B X1157 at_117 rfl rfl rfl ?_
            refine own_iload (pc' := 121) B X1157 at_119 rfl rfl ?_
            refine own_callS (pc' := 124) B X1157 (own_w hw 5 rfl) (own_w hw 6 rfl) (own_w hw 7 rfl) (own_w hw 8 rfl) (by decide) [(.ref b5), (.int y3)] [] (rm_4 l Z a0 hw [] b5 kb5 (i3) (y1097) (i5) (y3) (y16) h1090 n0 (Nat.le_trans Z0 K.1) E_b5 V_b5 g_b5 hy16 hy17) 0 (by decide) (by decide) rfl pd_1 rfl rfl (Nat.le_of_eq rfl) at_121 rfl (k' := 2) (n' := 6) rfl rfl (by decide) (by decide) ?_
            intro T1204 v1204 h1204 X1204 q1204
            rcases q1204 with ⟨y1205, y1206, hy1207, hy1208, c1209, rfl, rfl⟩ | ⟨y1210, y1211, hy1212, hy1213, c1214, rfl, rfl⟩
            · obtain rfl : y1163 = y1205 := (hy1165 : (i5.toUInt64 >>> (y16 &&& 0x3f).toInt64.toUInt64).toInt64 = y1163).symm.trans hy1207
              obtain rfl : y1164 = y1206 := (hy1166 : y1163 &&& (1 : Int64) = y1164).symm.trans hy1208
              exfalso
              have b0 := own_bitC rs rk rd hy1103 c1102 hy1104 c1105 (own_lt64 c1199)
              have b1 := own_bitT hy1165 hy1166 rk.1 rk.2 c1167
              have b2 := own_bitF hy1200 hy1201 (own_gez c1198) (own_lt64 c1199) c1203
              have b3 := own_bitF hy1165 hy1166 rk.1 rk.2 c1209
              revert b0 b1 b2 b3
              generalize own_tb i2 y1197.toInt.toNat = u0
              generalize own_tb i5 y16.toInt.toNat = u1
              revert u0 u1
              decide
            · obtain rfl : y1163 = y1210 := (hy1165 : (i5.toUInt64 >>> (y16 &&& 0x3f).toInt64.toUInt64).toInt64 = y1163).symm.trans hy1212
              obtain rfl : y1164 = y1211 := (hy1166 : y1163 &&& (1 : Int64) = y1164).symm.trans hy1213
              show own_Go p e below (T1204.setTop (mkF m 124 #[.val (.int i0), .val (.int i1), .val (.long i2), .second, .val (.long i3), .second, .val (.long i4), .second, .val (.long i5), .second, .val (.int y1), .val (.int y3), .val (.int y4), .val (.ref b5), .val (.ref b9), .val (.int (1 : Int32)), .val (.int y1197), .val (.int (0 : Int32)), .unset] [(.int (1 : Int32))])) _
              refine own_istore (pc' := 126) B X1204 (Ls' := #[.val (.int i0), .val (.int i1), .val (.long i2), .second, .val (.long i3), .second, .val (.long i4), .second, .val (.long i5), .second, .val (.int y1), .val (.int y3), .val (.int y4), .val (.ref b5), .val (.ref b9), .val (.int (1 : Int32)), .val (.int y1197), .val (.int (0 : Int32)), .val (.int (1 : Int32))]) at_124 rfl rfl ?_
              refine own_iload (pc' := 128) B X1204 at_126 rfl rfl ?_
              refine own_iload (pc' := 130) B X1204 at_128 rfl rfl ?_
              refine own_ifYes (pc' := 138) B X1204 at_130 ((if0 _ _).trans (feq (by decide : ¬ ((1 : Int32) = (0 : Int32)))).2) (by decide) rfl ?_
              refine own_iconst (pc' := 139) B X1204 (z := (1 : Int32)) at_138 rfl rfl ?_
              refine own_goto (pc' := 143) B X1204 at_139 (by decide) rfl ?_
              refine own_icmpNo (pc' := 146) B X1204 at_143 (teq (by decide : (1 : Int32) = (1 : Int32))).2 rfl ?_
              refine own_iconst (pc' := 147) B X1204 (z := (1 : Int32)) at_146 rfl rfl ?_
              refine own_goto (pc' := 151) B X1204 at_147 (by decide) rfl ?_
              exact own_retN B X1204 (t := .boolean) (z' := (1 : Int32)) (by simp) (by decide) at_151 (by decide) (by decide) rfl
          · refine own_icmpYes (pc' := 114) B X1157 at_96 (flt c1199).2.1 (by decide) rfl ?_
            refine own_iconst (pc' := 115) B X1157 (z := (0 : Int32)) at_114 rfl rfl ?_
            refine own_istore (pc' := 117) B X1157 (Ls' := #[.val (.int i0), .val (.int i1), .val (.long i2), .second, .val (.long i3), .second, .val (.long i4), .second, .val (.long i5), .second, .val (.int y1), .val (.int y3), .val (.int y4), .val (.ref b5), .val (.ref b9), .val (.int (1 : Int32)), .val (.int y1197), .val (.int (0 : Int32)), .unset]) at_115 rfl rfl ?_
            refine own_aload (pc' := 119) B X1157 at_117 rfl rfl rfl ?_
            refine own_iload (pc' := 121) B X1157 at_119 rfl rfl ?_
            refine own_callS (pc' := 124) B X1157 (own_w hw 5 rfl) (own_w hw 6 rfl) (own_w hw 7 rfl) (own_w hw 8 rfl) (by decide) [(.ref b5), (.int y3)] [] (rm_4 l Z a0 hw [] b5 kb5 (i3) (y1097) (i5) (y3) (y16) h1090 n0 (Nat.le_trans Z0 K.1) E_b5 V_b5 g_b5 hy16 hy17) 0 (by decide) (by decide) rfl pd_1 rfl rfl (Nat.le_of_eq rfl) at_121 rfl (k' := 2) (n' := 6) rfl rfl (by decide) (by decide) ?_
            intro T1215 v1215 h1215 X1215 q1215
            rcases q1215 with ⟨y1216, y1217, hy1218, hy1219, c1220, rfl, rfl⟩ | ⟨y1221, y1222, hy1223, hy1224, c1225, rfl, rfl⟩
            · obtain rfl : y1163 = y1216 := (hy1165 : (i5.toUInt64 >>> (y16 &&& 0x3f).toInt64.toUInt64).toInt64 = y1163).symm.trans hy1218
              obtain rfl : y1164 = y1217 := (hy1166 : y1163 &&& (1 : Int64) = y1164).symm.trans hy1219
              exfalso
              have b0 := own_bitT hy1165 hy1166 rk.1 rk.2 c1167
              have b1 := own_bitF hy1165 hy1166 rk.1 rk.2 c1220
              revert b0 b1
              generalize own_tb i5 y16.toInt.toNat = u0
              revert u0
              decide
            · obtain rfl : y1163 = y1221 := (hy1165 : (i5.toUInt64 >>> (y16 &&& 0x3f).toInt64.toUInt64).toInt64 = y1163).symm.trans hy1223
              obtain rfl : y1164 = y1222 := (hy1166 : y1163 &&& (1 : Int64) = y1164).symm.trans hy1224
              show own_Go p e below (T1215.setTop (mkF m 124 #[.val (.int i0), .val (.int i1), .val (.long i2), .second, .val (.long i3), .second, .val (.long i4), .second, .val (.long i5), .second, .val (.int y1), .val (.int y3), .val (.int y4), .val (.ref b5), .val (.ref b9), .val (.int (1 : Int32)), .val (.int y1197), .val (.int (0 : Int32)), .unset] [(.int (1 : Int32))])) _
              refine own_istore (pc' := 126) B X1215 (Ls' := #[.val (.int i0), .val (.int i1), .val (.long i2), .second, .val (.long i3), .second, .val (.long i4), .second, .val (.long i5), .second, .val (.int y1), .val (.int y3), .val (.int y4), .val (.ref b5), .val (.ref b9), .val (.int (1 : Int32)), .val (.int y1197), .val (.int (0 : Int32)), .val (.int (1 : Int32))]) at_124 rfl rfl ?_
              refine own_iload (pc' := 128) B X1215 at_126 rfl rfl ?_
              refine own_iload (pc' := 130) B X1215 at_128 rfl rfl ?_
              refine own_ifYes (pc' := 138) B X1215 at_130 ((if0 _ _).trans (feq (by decide : ¬ ((1 : Int32) = (0 : Int32)))).2) (by decide) rfl ?_
              refine own_iconst (pc' := 139) B X1215 (z := (1 : Int32)) at_138 rfl rfl ?_
              refine own_goto (pc' := 143) B X1215 at_139 (by decide) rfl ?_
              refine own_icmpNo (pc' := 146) B X1215 at_143 (teq (by decide : (1 : Int32) = (1 : Int32))).2 rfl ?_
              refine own_iconst (pc' := 147) B X1215 (z := (1 : Int32)) at_146 rfl rfl ?_
              refine own_goto (pc' := 151) B X1215 at_147 (by decide) rfl ?_
              exact own_retN B X1215 (t := .boolean) (z' := (1 : Int32)) (by simp) (by decide) at_151 (by decide) (by decide) rfl
      · replace K := K.trans K1090 (allS (Or.inr sz_b5) all0)
        replace E_b9 := E_b9.keep K1090
        replace V_b9 := V_b9.keep K1090 (ninS (Ne.symm ne_b5_b9) nin0)
        show own_Go p e below (T1090.setTop (mkF m 71 #[.val (.int i0), .val (.int i1), .val (.long i2), .second, .val (.long i3), .second, .val (.long i4), .second, .val (.long i5), .second, .val (.int y1), .val (.int y3), .val (.int y4), .val (.ref b5), .val (.ref b9), .unset, .unset, .unset, .unset] [])) _
        refine own_aload (pc' := 73) B X1090 at_71 rfl rfl rfl ?_
        refine own_iload (pc' := 75) B X1090 at_73 rfl rfl ?_
        refine own_callS (pc' := 78) B X1090 (own_w hw 5 rfl) (own_w hw 6 rfl) (own_w hw 7 rfl) (own_w hw 8 rfl) (by decide) [(.ref b9), (.int y3)] [] (rm_4 l Z a0 hw [] b9 kb9 (i3) (i4) (i5) (y3) (y16) h1090 n0 (Nat.le_trans Z0 K.1) E_b9 V_b9 g_b9 hy16 hy17) 0 (by decide) (by decide) rfl pd_1 rfl rfl (Nat.le_of_eq rfl) at_75 rfl (k' := 2) (n' := 6) rfl rfl (by decide) (by decide) ?_
        intro T1226 v1226 h1226 X1226 q1226
        rcases q1226 with ⟨y1227, y1228, hy1229, hy1230, c1231, rfl, rfl⟩ | ⟨y1232, y1233, hy1234, hy1235, c1236, rfl, rfl⟩
        · show own_Go p e below (T1226.setTop (mkF m 78 #[.val (.int i0), .val (.int i1), .val (.long i2), .second, .val (.long i3), .second, .val (.long i4), .second, .val (.long i5), .second, .val (.int y1), .val (.int y3), .val (.int y4), .val (.ref b5), .val (.ref b9), .unset, .unset, .unset, .unset] [(.int (0 : Int32))])) _
          refine own_istore (pc' := 80) B X1226 (Ls' := #[.val (.int i0), .val (.int i1), .val (.long i2), .second, .val (.long i3), .second, .val (.long i4), .second, .val (.long i5), .second, .val (.int y1), .val (.int y3), .val (.int y4), .val (.ref b5), .val (.ref b9), .val (.int (0 : Int32)), .unset, .unset, .unset]) at_78 rfl rfl ?_
          refine own_iload (pc' := 82) B X1226 at_80 rfl rfl ?_
          refine own_iload (pc' := 84) B X1226 at_82 rfl rfl ?_
          obtain ⟨y1237, hy1237⟩ : ∃ z : Int32, y3 - y1 = z := ⟨_, rfl⟩
          refine own_isub (pc' := 85) B X1226 at_84 rfl hy1237 ?_
          refine own_istore (pc' := 87) B X1226 (Ls' := #[.val (.int i0), .val (.int i1), .val (.long i2), .second, .val (.long i3), .second, .val (.long i4), .second, .val (.long i5), .second, .val (.int y1), .val (.int y3), .val (.int y4), .val (.ref b5), .val (.ref b9), .val (.int (0 : Int32)), .val (.int y1237), .unset, .unset]) at_85 rfl rfl ?_
          have rd : y1237.toInt = 64 * 1 + y16.toInt - y14.toInt := own_dist hy1237 rp rq rs rk (by decide) (by decide) (by decide)
          refine own_iload (pc' := 89) B X1226 at_87 rfl rfl ?_
          have c1238 : ¬ (y1237 < (0 : Int32)) := by
            have o0 := own_o_mask hy1 7 (by decide) (by decide)
            have o1 := own_o_iushr hy2 7 (by decide) (by decide)
            have o2 := own_o_irem hy3 192 (by decide)
            have o3 := own_o_iadd hy4
            have o4 := own_o_isub hy13
            have o5 := own_o_mask hy14 6 (by decide) (by decide)
            have o6 := own_o_iushr hy15 6 (by decide) (by decide)
            have o7 := own_o_mask hy16 6 (by decide) (by decide)
            have o8 := own_o_iushr hy17 6 (by decide) (by decide)
            have o9 := own_o_isub hy1114
            have o10 := own_o_maskL hy1230 1 (by decide) (by decide)
            have o11 := own_o_isub hy1237
            have o12 := own_neq c1113
            have o13 := own_neqL c1116
            have o14 := own_eqL c1231
            have o15 := rng32 i0
            have o16 := rng32 i1
            have o17 := rng32 y1
            have o18 := rng32 y1108
            have o19 := rng32 y1237
            have o20 := rng32 y14
            have o21 := rng32 y16
            have o22 := rng32 y2
            have o23 := rng32 y3
            have o24 := rng32 y4
            have o25 := rng64 i2
            have o26 := rng64 i5
            have o27 := rng64 y1109
            have o28 := rng64 y1227
            have o29 := rng64 y1228
            have o30 : (127 : Int32).toInt = 127 := by decide
            have o31 : (7 : Int32).toInt = 7 := by decide
            have o32 : (192 : Int32).toInt = 192 := by decide
            have o33 : (63 : Int32).toInt = 63 := by decide
            have o34 : (6 : Int32).toInt = 6 := by decide
            have o35 : (1 : Int32).toInt = 1 := by decide
            have o36 : (2 : Int32).toInt = 2 := by decide
            have o37 : (64 : Int32).toInt = 64 := by decide
            have o38 : (1 : Int64).toInt = 1 := by decide
            have o39 : (0 : Int32).toInt = 0 := by decide
            have o40 : (0 : Int64).toInt = 0 := by decide
            refine own_nltI ?_
            omega
          refine own_ifNo (pc' := 92) B X1226 at_89 ((if0 _ _).trans (flt c1238).1) rfl ?_
          refine own_iload (pc' := 94) B X1226 at_92 rfl rfl ?_
          refine own_bipush (pc' := 96) B X1226 (z := (64 : Int32)) at_94 rfl (by decide) ?_
          by_cases c1239 : y1237 < (64 : Int32)
          · refine own_icmpNo (pc' := 99) B X1226 at_96 (tlt c1239).2.1 rfl ?_
            refine own_lloadN (pc' := 100) B X1226 at_99 rfl rfl ?_
            refine own_iload (pc' := 102) B X1226 at_100 rfl rfl ?_
            obtain ⟨y1240, hy1240⟩ : ∃ z : Int64, (i2.toUInt64 >>> (y1237 &&& 0x3f).toInt64.toUInt64).toInt64 = z := ⟨_, rfl⟩
            refine own_lushr (pc' := 103) B X1226 at_102 rfl hy1240 ?_
            refine own_lconst (pc' := 104) B X1226 (z := (1 : Int64)) at_103 rfl (by decide) ?_
            obtain ⟨y1241, hy1241⟩ : ∃ z : Int64, y1240 &&& (1 : Int64) = z := ⟨_, rfl⟩
            refine own_land (pc' := 105) B X1226 at_104 rfl hy1241 ?_
            refine own_lconst (pc' := 106) B X1226 (z := (0 : Int64)) at_105 rfl (by decide) ?_
            obtain ⟨y1242, hy1242⟩ : ∃ z : Int32, lcmpW y1241 (0 : Int64) = z := ⟨_, rfl⟩
            refine own_lcmp (pc' := 107) B X1226 at_106 rfl hy1242 ?_
            by_cases c1243 : y1241 = (0 : Int64)
            · refine own_ifYes (pc' := 114) B X1226 at_107 ((if0 _ _).trans (teq (own_lcm (P := fun q => (q = (0 : Int32))) hy1242 ((lw_eq y1241 (0 : Int64)).mpr c1243))).1) (by decide) rfl ?_
              refine own_iconst (pc' := 115) B X1226 (z := (0 : Int32)) at_114 rfl rfl ?_
              refine own_istore (pc' := 117) B X1226 (Ls' := #[.val (.int i0), .val (.int i1), .val (.long i2), .second, .val (.long i3), .second, .val (.long i4), .second, .val (.long i5), .second, .val (.int y1), .val (.int y3), .val (.int y4), .val (.ref b5), .val (.ref b9), .val (.int (0 : Int32)), .val (.int y1237), .val (.int (0 : Int32)), .unset]) at_115 rfl rfl ?_
              refine own_aload (pc' := 119) B X1226 at_117 rfl rfl rfl ?_
              refine own_iload (pc' := 121) B X1226 at_119 rfl rfl ?_
              refine own_callS (pc' := 124) B X1226 (own_w hw 5 rfl) (own_w hw 6 rfl) (own_w hw 7 rfl) (own_w hw 8 rfl) (by decide) [(.ref b5), (.int y3)] [] (rm_4 l Z a0 hw [] b5 kb5 (i3) (y1107) (y1110) (y3) (y16) h1090 n0 (Nat.le_trans Z0 K.1) E_b5 V_b5 g_b5 hy16 hy17) 0 (by decide) (by decide) rfl pd_1 rfl rfl (Nat.le_of_eq rfl) at_121 rfl (k' := 2) (n' := 6) rfl rfl (by decide) (by decide) ?_
              intro T1244 v1244 h1244 X1244 q1244
              rcases q1244 with ⟨y1245, y1246, hy1247, hy1248, c1249, rfl, rfl⟩ | ⟨y1250, y1251, hy1252, hy1253, c1254, rfl, rfl⟩
              · show own_Go p e below (T1244.setTop (mkF m 124 #[.val (.int i0), .val (.int i1), .val (.long i2), .second, .val (.long i3), .second, .val (.long i4), .second, .val (.long i5), .second, .val (.int y1), .val (.int y3), .val (.int y4), .val (.ref b5), .val (.ref b9), .val (.int (0 : Int32)), .val (.int y1237), .val (.int (0 : Int32)), .unset] [(.int (0 : Int32))])) _
                refine own_istore (pc' := 126) B X1244 (Ls' := #[.val (.int i0), .val (.int i1), .val (.long i2), .second, .val (.long i3), .second, .val (.long i4), .second, .val (.long i5), .second, .val (.int y1), .val (.int y3), .val (.int y4), .val (.ref b5), .val (.ref b9), .val (.int (0 : Int32)), .val (.int y1237), .val (.int (0 : Int32)), .val (.int (0 : Int32))]) at_124 rfl rfl ?_
                refine own_iload (pc' := 128) B X1244 at_126 rfl rfl ?_
                refine own_iload (pc' := 130) B X1244 at_128 rfl rfl ?_
                refine own_ifNo (pc' := 133) B X1244 at_130 ((if0 _ _).trans (teq (by decide : (0 : Int32) = (0 : Int32))).2) rfl ?_
                refine own_iload (pc' := 135) B X1244 at_133 rfl rfl ?_
                refine own_ifYes (pc' := 142) B X1244 at_135 ((if0 _ _).trans (teq (by decide : (0 : Int32) = (0 : Int32))).1) (by decide) rfl ?_
                refine own_iconst (pc' := 143) B X1244 (z := (0 : Int32)) at_142 rfl rfl ?_
                refine own_icmpNo (pc' := 146) B X1244 at_143 (teq (by decide : (0 : Int32) = (0 : Int32))).2 rfl ?_
                refine own_iconst (pc' := 147) B X1244 (z := (1 : Int32)) at_146 rfl rfl ?_
                refine own_goto (pc' := 151) B X1244 at_147 (by decide) rfl ?_
                exact own_retN B X1244 (t := .boolean) (z' := (1 : Int32)) (by simp) (by decide) at_151 (by decide) (by decide) rfl
              · exfalso
                have b0 := own_bitF hy1229 hy1230 rk.1 rk.2 c1231
                have b1 := own_bitF hy1240 hy1241 (own_gez c1238) (own_lt64 c1239) c1243
                have b2 := own_bitT hy1252 hy1253 rk.1 rk.2 c1254
                rw [own_bitB rs rk rd hy1114 c1113 hy1115 hy1117, decide_eq_true (own_lt64 c1239)] at b2
                revert b0 b1 b2
                generalize own_tb i5 y16.toInt.toNat = u0
                generalize own_tb i2 y1237.toInt.toNat = u1
                revert u0 u1
                decide
            · refine own_ifNo (pc' := 110) B X1226 at_107 ((if0 _ _).trans (feq (own_lcm (P := fun q => ¬ (q = (0 : Int32))) hy1242 (fun q => c1243 ((lw_eq y1241 (0 : Int64)).mp q)))).1) rfl ?_
              refine own_iconst (pc' := 111) B X1226 (z := (1 : Int32)) at_110 rfl rfl ?_
              refine own_goto (pc' := 115) B X1226 at_111 (by decide) rfl ?_
              refine own_istore (pc' := 117) B X1226 (Ls' := #[.val (.int i0), .val (.int i1), .val (.long i2), .second, .val (.long i3), .second, .val (.long i4), .second, .val (.long i5), .second, .val (.int y1), .val (.int y3), .val (.int y4), .val (.ref b5), .val (.ref b9), .val (.int (0 : Int32)), .val (.int y1237), .val (.int (1 : Int32)), .unset]) at_115 rfl rfl ?_
              refine own_aload (pc' := 119) B X1226 at_117 rfl rfl rfl ?_
              refine own_iload (pc' := 121) B X1226 at_119 rfl rfl ?_
              refine own_callS (pc' := 124) B X1226 (own_w hw 5 rfl) (own_w hw 6 rfl) (own_w hw 7 rfl) (own_w hw 8 rfl) (by decide) [(.ref b5), (.int y3)] [] (rm_4 l Z a0 hw [] b5 kb5 (i3) (y1107) (y1110) (y3) (y16) h1090 n0 (Nat.le_trans Z0 K.1) E_b5 V_b5 g_b5 hy16 hy17) 0 (by decide) (by decide) rfl pd_1 rfl rfl (Nat.le_of_eq rfl) at_121 rfl (k' := 2) (n' := 6) rfl rfl (by decide) (by decide) ?_
              intro T1255 v1255 h1255 X1255 q1255
              rcases q1255 with ⟨y1256, y1257, hy1258, hy1259, c1260, rfl, rfl⟩ | ⟨y1261, y1262, hy1263, hy1264, c1265, rfl, rfl⟩
              · exfalso
                have b0 := own_bitF hy1229 hy1230 rk.1 rk.2 c1231
                have b1 := own_bitT hy1240 hy1241 (own_gez c1238) (own_lt64 c1239) c1243
                have b2 := own_bitF hy1258 hy1259 rk.1 rk.2 c1260
                rw [own_bitB rs rk rd hy1114 c1113 hy1115 hy1117, decide_eq_true (own_lt64 c1239)] at b2
                revert b0 b1 b2
                generalize own_tb i5 y16.toInt.toNat = u0
                generalize own_tb i2 y1237.toInt.toNat = u1
                revert u0 u1
                decide
              · show own_Go p e below (T1255.setTop (mkF m 124 #[.val (.int i0), .val (.int i1), .val (.long i2), .second, .val (.long i3), .second, .val (.long i4), .second, .val (.long i5), .second, .val (.int y1), .val (.int y3), .val (.int y4), .val (.ref b5), .val (.ref b9), .val (.int (0 : Int32)), .val (.int y1237), .val (.int (1 : Int32)), .unset] [(.int (1 : Int32))])) _
                refine own_istore (pc' := 126) B X1255 (Ls' := #[.val (.int i0), .val (.int i1), .val (.long i2), .second, .val (.long i3), .second, .val (.long i4), .second, .val (.long i5), .second, .val (.int y1), .val (.int y3), .val (.int y4), .val (.ref b5), .val (.ref b9), .val (.int (0 : Int32)), .val (.int y1237), .val (.int (1 : Int32)), .val (.int (1 : Int32))]) at_124 rfl rfl ?_
                refine own_iload (pc' := 128) B X1255 at_126 rfl rfl ?_
                refine own_iload (pc' := 130) B X1255 at_128 rfl rfl ?_
                refine own_ifNo (pc' := 133) B X1255 at_130 ((if0 _ _).trans (teq (by decide : (0 : Int32) = (0 : Int32))).2) rfl ?_
                refine own_iload (pc' := 135) B X1255 at_133 rfl rfl ?_
                refine own_ifNo (pc' := 138) B X1255 at_135 ((if0 _ _).trans (feq (by decide : ¬ ((1 : Int32) = (0 : Int32)))).1) rfl ?_
                refine own_iconst (pc' := 139) B X1255 (z := (1 : Int32)) at_138 rfl rfl ?_
                refine own_goto (pc' := 143) B X1255 at_139 (by decide) rfl ?_
                refine own_icmpNo (pc' := 146) B X1255 at_143 (teq (by decide : (1 : Int32) = (1 : Int32))).2 rfl ?_
                refine own_iconst (pc' := 147) B X1255 (z := (1 : Int32)) at_146 rfl rfl ?_
                refine own_goto (pc' := 151) B X1255 at_147 (by decide) rfl ?_
                exact own_retN B X1255 (t := .boolean) (z' := (1 : Int32)) (by simp) (by decide) at_151 (by decide) (by decide) rfl
          · refine own_icmpYes (pc' := 114) B X1226 at_96 (flt c1239).2.1 (by decide) rfl ?_
            refine own_iconst (pc' := 115) B X1226 (z := (0 : Int32)) at_114 rfl rfl ?_
            refine own_istore (pc' := 117) B X1226 (Ls' := #[.val (.int i0), .val (.int i1), .val (.long i2), .second, .val (.long i3), .second, .val (.long i4), .second, .val (.long i5), .second, .val (.int y1), .val (.int y3), .val (.int y4), .val (.ref b5), .val (.ref b9), .val (.int (0 : Int32)), .val (.int y1237), .val (.int (0 : Int32)), .unset]) at_115 rfl rfl ?_
            refine own_aload (pc' := 119) B X1226 at_117 rfl rfl rfl ?_
            refine own_iload (pc' := 121) B X1226 at_119 rfl rfl ?_
            refine own_callS (pc' := 124) B X1226 (own_w hw 5 rfl) (own_w hw 6 rfl) (own_w hw 7 rfl) (own_w hw 8 rfl) (by decide) [(.ref b5), (.int y3)] [] (rm_4 l Z a0 hw [] b5 kb5 (i3) (y1107) (y1110) (y3) (y16) h1090 n0 (Nat.le_trans Z0 K.1) E_b5 V_b5 g_b5 hy16 hy17) 0 (by decide) (by decide) rfl pd_1 rfl rfl (Nat.le_of_eq rfl) at_121 rfl (k' := 2) (n' := 6) rfl rfl (by decide) (by decide) ?_
            intro T1266 v1266 h1266 X1266 q1266
            rcases q1266 with ⟨y1267, y1268, hy1269, hy1270, c1271, rfl, rfl⟩ | ⟨y1272, y1273, hy1274, hy1275, c1276, rfl, rfl⟩
            · show own_Go p e below (T1266.setTop (mkF m 124 #[.val (.int i0), .val (.int i1), .val (.long i2), .second, .val (.long i3), .second, .val (.long i4), .second, .val (.long i5), .second, .val (.int y1), .val (.int y3), .val (.int y4), .val (.ref b5), .val (.ref b9), .val (.int (0 : Int32)), .val (.int y1237), .val (.int (0 : Int32)), .unset] [(.int (0 : Int32))])) _
              refine own_istore (pc' := 126) B X1266 (Ls' := #[.val (.int i0), .val (.int i1), .val (.long i2), .second, .val (.long i3), .second, .val (.long i4), .second, .val (.long i5), .second, .val (.int y1), .val (.int y3), .val (.int y4), .val (.ref b5), .val (.ref b9), .val (.int (0 : Int32)), .val (.int y1237), .val (.int (0 : Int32)), .val (.int (0 : Int32))]) at_124 rfl rfl ?_
              refine own_iload (pc' := 128) B X1266 at_126 rfl rfl ?_
              refine own_iload (pc' := 130) B X1266 at_128 rfl rfl ?_
              refine own_ifNo (pc' := 133) B X1266 at_130 ((if0 _ _).trans (teq (by decide : (0 : Int32) = (0 : Int32))).2) rfl ?_
              refine own_iload (pc' := 135) B X1266 at_133 rfl rfl ?_
              refine own_ifYes (pc' := 142) B X1266 at_135 ((if0 _ _).trans (teq (by decide : (0 : Int32) = (0 : Int32))).1) (by decide) rfl ?_
              refine own_iconst (pc' := 143) B X1266 (z := (0 : Int32)) at_142 rfl rfl ?_
              refine own_icmpNo (pc' := 146) B X1266 at_143 (teq (by decide : (0 : Int32) = (0 : Int32))).2 rfl ?_
              refine own_iconst (pc' := 147) B X1266 (z := (1 : Int32)) at_146 rfl rfl ?_
              refine own_goto (pc' := 151) B X1266 at_147 (by decide) rfl ?_
              exact own_retN B X1266 (t := .boolean) (z' := (1 : Int32)) (by simp) (by decide) at_151 (by decide) (by decide) rfl
            · exfalso
              have b0 := own_bitF hy1229 hy1230 rk.1 rk.2 c1231
              have b1 := own_bitT hy1274 hy1275 rk.1 rk.2 c1276
              rw [own_bitB rs rk rd hy1114 c1113 hy1115 hy1117, decide_eq_false (own_nlt64 c1239)] at b1
              revert b0 b1
              generalize own_tb i5 y16.toInt.toNat = u0
              generalize own_tb i2 y1237.toInt.toNat = u1
              revert u0 u1
              decide
        · show own_Go p e below (T1226.setTop (mkF m 78 #[.val (.int i0), .val (.int i1), .val (.long i2), .second, .val (.long i3), .second, .val (.long i4), .second, .val (.long i5), .second, .val (.int y1), .val (.int y3), .val (.int y4), .val (.ref b5), .val (.ref b9), .unset, .unset, .unset, .unset] [(.int (1 : Int32))])) _
          refine own_istore (pc' := 80) B X1226 (Ls' := #[.val (.int i0), .val (.int i1), .val (.long i2), .second, .val (.long i3), .second, .val (.long i4), .second, .val (.long i5), .second, .val (.int y1), .val (.int y3), .val (.int y4), .val (.ref b5), .val (.ref b9), .val (.int (1 : Int32)), .unset, .unset, .unset]) at_78 rfl rfl ?_
          refine own_iload (pc' := 82) B X1226 at_80 rfl rfl ?_
          refine own_iload (pc' := 84) B X1226 at_82 rfl rfl ?_
          obtain ⟨y1277, hy1277⟩ : ∃ z : Int32, y3 - y1 = z := ⟨_, rfl⟩
          refine own_isub (pc' := 85) B X1226 at_84 rfl hy1277 ?_
          refine own_istore (pc' := 87) B X1226 (Ls' := #[.val (.int i0), .val (.int i1), .val (.long i2), .second, .val (.long i3), .second, .val (.long i4), .second, .val (.long i5), .second, .val (.int y1), .val (.int y3), .val (.int y4), .val (.ref b5), .val (.ref b9), .val (.int (1 : Int32)), .val (.int y1277), .unset, .unset]) at_85 rfl rfl ?_
          have rd : y1277.toInt = 64 * 1 + y16.toInt - y14.toInt := own_dist hy1277 rp rq rs rk (by decide) (by decide) (by decide)
          refine own_iload (pc' := 89) B X1226 at_87 rfl rfl ?_
          have c1278 : ¬ (y1277 < (0 : Int32)) := by
            have o0 := own_o_mask hy1 7 (by decide) (by decide)
            have o1 := own_o_iushr hy2 7 (by decide) (by decide)
            have o2 := own_o_irem hy3 192 (by decide)
            have o3 := own_o_iadd hy4
            have o4 := own_o_isub hy13
            have o5 := own_o_mask hy14 6 (by decide) (by decide)
            have o6 := own_o_iushr hy15 6 (by decide) (by decide)
            have o7 := own_o_mask hy16 6 (by decide) (by decide)
            have o8 := own_o_iushr hy17 6 (by decide) (by decide)
            have o9 := own_o_isub hy1114
            have o10 := own_o_maskL hy1235 1 (by decide) (by decide)
            have o11 := own_o_isub hy1277
            have o12 := own_neq c1113
            have o13 := own_neqL c1116
            have o14 := own_neqL c1236
            have o15 := rng32 i0
            have o16 := rng32 i1
            have o17 := rng32 y1
            have o18 := rng32 y1108
            have o19 := rng32 y1277
            have o20 := rng32 y14
            have o21 := rng32 y16
            have o22 := rng32 y2
            have o23 := rng32 y3
            have o24 := rng32 y4
            have o25 := rng64 i2
            have o26 := rng64 i5
            have o27 := rng64 y1109
            have o28 := rng64 y1232
            have o29 := rng64 y1233
            have o30 : (127 : Int32).toInt = 127 := by decide
            have o31 : (7 : Int32).toInt = 7 := by decide
            have o32 : (192 : Int32).toInt = 192 := by decide
            have o33 : (63 : Int32).toInt = 63 := by decide
            have o34 : (6 : Int32).toInt = 6 := by decide
            have o35 : (1 : Int32).toInt = 1 := by decide
            have o36 : (2 : Int32).toInt = 2 := by decide
            have o37 : (64 : Int32).toInt = 64 := by decide
            have o38 : (1 : Int64).toInt = 1 := by decide
            have o39 : (0 : Int32).toInt = 0 := by decide
            have o40 : (0 : Int64).toInt = 0 := by decide
            refine own_nltI ?_
            omega
          refine own_ifNo (pc' := 92) B X1226 at_89 ((if0 _ _).trans (flt c1278).1) rfl ?_
          refine own_iload (pc' := 94) B X1226 at_92 rfl rfl ?_
          refine own_bipush (pc' := 96) B X1226 (z := (64 : Int32)) at_94 rfl (by decide) ?_
          by_cases c1279 : y1277 < (64 : Int32)
          · refine own_icmpNo (pc' := 99) B X1226 at_96 (tlt c1279).2.1 rfl ?_
            refine own_lloadN (pc' := 100) B X1226 at_99 rfl rfl ?_
            refine own_iload (pc' := 102) B X1226 at_100 rfl rfl ?_
            obtain ⟨y1280, hy1280⟩ : ∃ z : Int64, (i2.toUInt64 >>> (y1277 &&& 0x3f).toInt64.toUInt64).toInt64 = z := ⟨_, rfl⟩
            refine own_lushr (pc' := 103) B X1226 at_102 rfl hy1280 ?_
            refine own_lconst (pc' := 104) B X1226 (z := (1 : Int64)) at_103 rfl (by decide) ?_
            obtain ⟨y1281, hy1281⟩ : ∃ z : Int64, y1280 &&& (1 : Int64) = z := ⟨_, rfl⟩
            refine own_land (pc' := 105) B X1226 at_104 rfl hy1281 ?_
            refine own_lconst (pc' := 106) B X1226 (z := (0 : Int64)) at_105 rfl (by decide) ?_
            obtain ⟨y1282, hy1282⟩ : ∃ z : Int32, lcmpW y1281 (0 : Int64) = z := ⟨_, rfl⟩
            refine own_lcmp (pc' := 107) B X1226 at_106 rfl hy1282 ?_
            by_cases c1283 : y1281 = (0 : Int64)
            · refine own_ifYes (pc' := 114) B X1226 at_107 ((if0 _ _).trans (teq (own_lcm (P := fun q => (q = (0 : Int32))) hy1282 ((lw_eq y1281 (0 : Int64)).mpr c1283))).1) (by decide) rfl ?_
              refine own_iconst (pc' := 115) B X1226 (z := (0 : Int32)) at_114 rfl rfl ?_
              refine own_istore (pc' := 117) B X1226 (Ls' := #[.val (.int i0), .val (.int i1), .val (.long i2), .second, .val (.long i3), .second, .val (.long i4), .second, .val (.long i5), .second, .val (.int y1), .val (.int y3), .val (.int y4), .val (.ref b5), .val (.ref b9), .val (.int (1 : Int32)), .val (.int y1277), .val (.int (0 : Int32)), .unset]) at_115 rfl rfl ?_
              refine own_aload (pc' := 119) B X1226 at_117 rfl rfl rfl ?_
              refine own_iload (pc' := 121) B X1226 at_119 rfl rfl ?_
              refine own_callS (pc' := 124) B X1226 (own_w hw 5 rfl) (own_w hw 6 rfl) (own_w hw 7 rfl) (own_w hw 8 rfl) (by decide) [(.ref b5), (.int y3)] [] (rm_4 l Z a0 hw [] b5 kb5 (i3) (y1107) (y1110) (y3) (y16) h1090 n0 (Nat.le_trans Z0 K.1) E_b5 V_b5 g_b5 hy16 hy17) 0 (by decide) (by decide) rfl pd_1 rfl rfl (Nat.le_of_eq rfl) at_121 rfl (k' := 2) (n' := 6) rfl rfl (by decide) (by decide) ?_
              intro T1284 v1284 h1284 X1284 q1284
              rcases q1284 with ⟨y1285, y1286, hy1287, hy1288, c1289, rfl, rfl⟩ | ⟨y1290, y1291, hy1292, hy1293, c1294, rfl, rfl⟩
              · exfalso
                have b0 := own_bitT hy1234 hy1235 rk.1 rk.2 c1236
                have b1 := own_bitF hy1280 hy1281 (own_gez c1278) (own_lt64 c1279) c1283
                have b2 := own_bitF hy1287 hy1288 rk.1 rk.2 c1289
                rw [own_bitB rs rk rd hy1114 c1113 hy1115 hy1117, decide_eq_true (own_lt64 c1279)] at b2
                revert b0 b1 b2
                generalize own_tb i5 y16.toInt.toNat = u0
                generalize own_tb i2 y1277.toInt.toNat = u1
                revert u0 u1
                decide
              · show own_Go p e below (T1284.setTop (mkF m 124 #[.val (.int i0), .val (.int i1), .val (.long i2), .second, .val (.long i3), .second, .val (.long i4), .second, .val (.long i5), .second, .val (.int y1), .val (.int y3), .val (.int y4), .val (.ref b5), .val (.ref b9), .val (.int (1 : Int32)), .val (.int y1277), .val (.int (0 : Int32)), .unset] [(.int (1 : Int32))])) _
                refine own_istore (pc' := 126) B X1284 (Ls' := #[.val (.int i0), .val (.int i1), .val (.long i2), .second, .val (.long i3), .second, .val (.long i4), .second, .val (.long i5), .second, .val (.int y1), .val (.int y3), .val (.int y4), .val (.ref b5), .val (.ref b9), .val (.int (1 : Int32)), .val (.int y1277), .val (.int (0 : Int32)), .val (.int (1 : Int32))]) at_124 rfl rfl ?_
                refine own_iload (pc' := 128) B X1284 at_126 rfl rfl ?_
                refine own_iload (pc' := 130) B X1284 at_128 rfl rfl ?_
                refine own_ifYes (pc' := 138) B X1284 at_130 ((if0 _ _).trans (feq (by decide : ¬ ((1 : Int32) = (0 : Int32)))).2) (by decide) rfl ?_
                refine own_iconst (pc' := 139) B X1284 (z := (1 : Int32)) at_138 rfl rfl ?_
                refine own_goto (pc' := 143) B X1284 at_139 (by decide) rfl ?_
                refine own_icmpNo (pc' := 146) B X1284 at_143 (teq (by decide : (1 : Int32) = (1 : Int32))).2 rfl ?_
                refine own_iconst (pc' := 147) B X1284 (z := (1 : Int32)) at_146 rfl rfl ?_
                refine own_goto (pc' := 151) B X1284 at_147 (by decide) rfl ?_
                exact own_retN B X1284 (t := .boolean) (z' := (1 : Int32)) (by simp) (by decide) at_151 (by decide) (by decide) rfl
            · refine own_ifNo (pc' := 110) B X1226 at_107 ((if0 _ _).trans (feq (own_lcm (P := fun q => ¬ (q = (0 : Int32))) hy1282 (fun q => c1283 ((lw_eq y1281 (0 : Int64)).mp q)))).1) rfl ?_
              refine own_iconst (pc' := 111) B X1226 (z := (1 : Int32)) at_110 rfl rfl ?_
              refine own_goto (pc' := 115) B X1226 at_111 (by decide) rfl ?_
              refine own_istore (pc' := 117) B X1226 (Ls' := #[.val (.int i0), .val (.int i1), .val (.long i2), .second, .val (.long i3), .second, .val (.long i4), .second, .val (.long i5), .second, .val (.int y1), .val (.int y3), .val (.int y4), .val (.ref b5), .val (.ref b9), .val (.int (1 : Int32)), .val (.int y1277), .val (.int (1 : Int32)), .unset]) at_115 rfl rfl ?_
              refine own_aload (pc' := 119) B X1226 at_117 rfl rfl rfl ?_
              refine own_iload (pc' := 121) B X1226 at_119 rfl rfl ?_
              refine own_callS (pc' := 124) B X1226 (own_w hw 5 rfl) (own_w hw 6 rfl) (own_w hw 7 rfl) (own_w hw 8 rfl) (by decide) [(.ref b5), (.int y3)] [] (rm_4 l Z a0 hw [] b5 kb5 (i3) (y1107) (y1110) (y3) (y16) h1090 n0 (Nat.le_trans Z0 K.1) E_b5 V_b5 g_b5 hy16 hy17) 0 (by decide) (by decide) rfl pd_1 rfl rfl (Nat.le_of_eq rfl) at_121 rfl (k' := 2) (n' := 6) rfl rfl (by decide) (by decide) ?_
              intro T1295 v1295 h1295 X1295 q1295
              rcases q1295 with ⟨y1296, y1297, hy1298, hy1299, c1300, rfl, rfl⟩ | ⟨y1301, y1302, hy1303, hy1304, c1305, rfl, rfl⟩
              · exfalso
                have b0 := own_bitT hy1234 hy1235 rk.1 rk.2 c1236
                have b1 := own_bitT hy1280 hy1281 (own_gez c1278) (own_lt64 c1279) c1283
                have b2 := own_bitF hy1298 hy1299 rk.1 rk.2 c1300
                rw [own_bitB rs rk rd hy1114 c1113 hy1115 hy1117, decide_eq_true (own_lt64 c1279)] at b2
                revert b0 b1 b2
                generalize own_tb i5 y16.toInt.toNat = u0
                generalize own_tb i2 y1277.toInt.toNat = u1
                revert u0 u1
                decide
              · show own_Go p e below (T1295.setTop (mkF m 124 #[.val (.int i0), .val (.int i1), .val (.long i2), .second, .val (.long i3), .second, .val (.long i4), .second, .val (.long i5), .second, .val (.int y1), .val (.int y3), .val (.int y4), .val (.ref b5), .val (.ref b9), .val (.int (1 : Int32)), .val (.int y1277), .val (.int (1 : Int32)), .unset] [(.int (1 : Int32))])) _
                refine own_istore (pc' := 126) B X1295 (Ls' := #[.val (.int i0), .val (.int i1), .val (.long i2), .second, .val (.long i3), .second, .val (.long i4), .second, .val (.long i5), .second, .val (.int y1), .val (.int y3), .val (.int y4), .val (.ref b5), .val (.ref b9), .val (.int (1 : Int32)), .val (.int y1277), .val (.int (1 : Int32)), .val (.int (1 : Int32))]) at_124 rfl rfl ?_
                refine own_iload (pc' := 128) B X1295 at_126 rfl rfl ?_
                refine own_iload (pc' := 130) B X1295 at_128 rfl rfl ?_
                refine own_ifYes (pc' := 138) B X1295 at_130 ((if0 _ _).trans (feq (by decide : ¬ ((1 : Int32) = (0 : Int32)))).2) (by decide) rfl ?_
                refine own_iconst (pc' := 139) B X1295 (z := (1 : Int32)) at_138 rfl rfl ?_
                refine own_goto (pc' := 143) B X1295 at_139 (by decide) rfl ?_
                refine own_icmpNo (pc' := 146) B X1295 at_143 (teq (by decide : (1 : Int32) = (1 : Int32))).2 rfl ?_
                refine own_iconst (pc' := 147) B X1295 (z := (1 : Int32)) at_146 rfl rfl ?_
                refine own_goto (pc' := 151) B X1295 at_147 (by decide) rfl ?_
                exact own_retN B X1295 (t := .boolean) (z' := (1 : Int32)) (by simp) (by decide) at_151 (by decide) (by decide) rfl
          · refine own_icmpYes (pc' := 114) B X1226 at_96 (flt c1279).2.1 (by decide) rfl ?_
            refine own_iconst (pc' := 115) B X1226 (z := (0 : Int32)) at_114 rfl rfl ?_
            refine own_istore (pc' := 117) B X1226 (Ls' := #[.val (.int i0), .val (.int i1), .val (.long i2), .second, .val (.long i3), .second, .val (.long i4), .second, .val (.long i5), .second, .val (.int y1), .val (.int y3), .val (.int y4), .val (.ref b5), .val (.ref b9), .val (.int (1 : Int32)), .val (.int y1277), .val (.int (0 : Int32)), .unset]) at_115 rfl rfl ?_
            refine own_aload (pc' := 119) B X1226 at_117 rfl rfl rfl ?_
            refine own_iload (pc' := 121) B X1226 at_119 rfl rfl ?_
            refine own_callS (pc' := 124) B X1226 (own_w hw 5 rfl) (own_w hw 6 rfl) (own_w hw 7 rfl) (own_w hw 8 rfl) (by decide) [(.ref b5), (.int y3)] [] (rm_4 l Z a0 hw [] b5 kb5 (i3) (y1107) (y1110) (y3) (y16) h1090 n0 (Nat.le_trans Z0 K.1) E_b5 V_b5 g_b5 hy16 hy17) 0 (by decide) (by decide) rfl pd_1 rfl rfl (Nat.le_of_eq rfl) at_121 rfl (k' := 2) (n' := 6) rfl rfl (by decide) (by decide) ?_
            intro T1306 v1306 h1306 X1306 q1306
            rcases q1306 with ⟨y1307, y1308, hy1309, hy1310, c1311, rfl, rfl⟩ | ⟨y1312, y1313, hy1314, hy1315, c1316, rfl, rfl⟩
            · exfalso
              have b0 := own_bitT hy1234 hy1235 rk.1 rk.2 c1236
              have b1 := own_bitF hy1309 hy1310 rk.1 rk.2 c1311
              rw [own_bitB rs rk rd hy1114 c1113 hy1115 hy1117, decide_eq_false (own_nlt64 c1279)] at b1
              revert b0 b1
              generalize own_tb i5 y16.toInt.toNat = u0
              generalize own_tb i2 y1277.toInt.toNat = u1
              revert u0 u1
              decide
            · show own_Go p e below (T1306.setTop (mkF m 124 #[.val (.int i0), .val (.int i1), .val (.long i2), .second, .val (.long i3), .second, .val (.long i4), .second, .val (.long i5), .second, .val (.int y1), .val (.int y3), .val (.int y4), .val (.ref b5), .val (.ref b9), .val (.int (1 : Int32)), .val (.int y1277), .val (.int (0 : Int32)), .unset] [(.int (1 : Int32))])) _
              refine own_istore (pc' := 126) B X1306 (Ls' := #[.val (.int i0), .val (.int i1), .val (.long i2), .second, .val (.long i3), .second, .val (.long i4), .second, .val (.long i5), .second, .val (.int y1), .val (.int y3), .val (.int y4), .val (.ref b5), .val (.ref b9), .val (.int (1 : Int32)), .val (.int y1277), .val (.int (0 : Int32)), .val (.int (1 : Int32))]) at_124 rfl rfl ?_
              refine own_iload (pc' := 128) B X1306 at_126 rfl rfl ?_
              refine own_iload (pc' := 130) B X1306 at_128 rfl rfl ?_
              refine own_ifYes (pc' := 138) B X1306 at_130 ((if0 _ _).trans (feq (by decide : ¬ ((1 : Int32) = (0 : Int32)))).2) (by decide) rfl ?_
              refine own_iconst (pc' := 139) B X1306 (z := (1 : Int32)) at_138 rfl rfl ?_
              refine own_goto (pc' := 143) B X1306 at_139 (by decide) rfl ?_
              refine own_icmpNo (pc' := 146) B X1306 at_143 (teq (by decide : (1 : Int32) = (1 : Int32))).2 rfl ?_
              refine own_iconst (pc' := 147) B X1306 (z := (1 : Int32)) at_146 rfl rfl ?_
              refine own_goto (pc' := 151) B X1306 at_147 (by decide) rfl ?_
              exact own_retN B X1306 (t := .boolean) (z' := (1 : Int32)) (by simp) (by decide) at_151 (by decide) (by decide) rfl
set_option maxRecDepth 65536 in
set_option maxHeartbeats 40000000 in
theorem comes_1 {Post : Tables → Env → Array Value → State → Outcome → State → Prop} (hpost : ∀ tb e args s v u, (limb_1_1.after args s (.returned v) u = true ∧ limb_1_2.after args s (.returned v) u = true ∧ True) → FrameEnd s (.returned v) u (Jvm.fieldLocs frame_1_writes args s ++ Jvm.arrayLocs frame_1_arrays args s ++ Jvm.staticLocs frame_1_statics s) 16 128 → Post tb e args s (.returned v) u) :
    ArmFor flags0 classFile x code maxLocals ret World_1 tables_1 room_1 Calls_1 rest_1 Pre_1 Post := by
  intro l hfl _ _ p e ha hc hk s m args below hf hA hF happ hP
  obtain ⟨hcalls, hrest, hpre⟩ := hP
  obtain ⟨-, -, -, hnamed, -, -, -, hat⟩ := (Spec.applies_iff hf).mp happ
  obtain ⟨hg, hn⟩ := and_e (Cond.before_iff.mp (show (Jvm.Cond.and given_1 narrow_1).before args s = true from hpre))
  obtain ⟨g1, g2⟩ := and_e hg
  obtain ⟨g3, g4⟩ := and_e g2
  obtain ⟨g5, g6⟩ := and_e g4
  obtain ⟨g7, g8⟩ := and_e g6
  obtain ⟨g9, g10⟩ := and_e g8
  obtain ⟨g11, g12⟩ := and_e g10
  obtain ⟨w0, w1, w2, w3, w4, w5, rfl⟩ : ∃ w0 w1 w2 w3 w4 w5 : Value, args = #[w0, w1, w2, w3, w4, w5] := by
    have hs : args.size = 6 := by simpa [Cond.value, given_1] using g1
    obtain ⟨L⟩ := args
    match L, hs with
    | [w0, w1, w2, w3, w4, w5], _ => exact ⟨w0, w1, w2, w3, w4, w5, rfl⟩
  have hw := fun d (hd : d ∈ tables_1) => atoms_spec (ws := Jvm.Cond.code x code maxLocals ret :: tables_1) hat d (List.mem_cons_of_mem _ hd)
  obtain ⟨i0, ei0⟩ := is_v g3
  obtain rfl : w0 = (.int i0) := Option.some.inj ei0
  obtain ⟨i1, ei1⟩ := is_v g5
  obtain rfl : w1 = (.int i1) := Option.some.inj ei1
  obtain ⟨i2, ei2⟩ := isL_v g7
  obtain rfl : w2 = (.long i2) := Option.some.inj ei2
  obtain ⟨i3, ei3⟩ := isL_v g9
  obtain rfl : w3 = (.long i3) := Option.some.inj ei3
  obtain ⟨i4, ei4⟩ := isL_v g11
  obtain rfl : w4 = (.long i4) := Option.some.inj ei4
  obtain ⟨i5, ei5⟩ := isL_v g12
  obtain rfl : w5 = (.long i5) := Option.some.inj ei5
  obtain ⟨n, o, h1, h2, h3, _, L, rfl, ⟨N, rfl⟩, hq⟩ := rm_0 l s _ hw tables_1 i0 i1 i2 i3 i4 i5 s.heap s.heap.size (Nat.le_refl _)  p e ha hc hk s m _ below hf ((Spec.applies_iff_loose hf).mp happ).1 ⟨rfl, State.Warmed39.refl s, rfl⟩ trivial
  refine ⟨n, _, h1, h2, h3, hpost _ _ _ _ _ _ ⟨Cond.after_iff.mpr rfl, Cond.after_iff.mpr (eq_i res_at (Term.int_eval (1)) rfl), trivial⟩ ⟨hq.1, hq.2.1, (hq.2.2.sift fun y hy => Or.inr (N y hy)).mono (by decide) (by decide)⟩⟩
theorem main_1_1 : Claimed_1_1 := comes_1 fun _ _ _ _ _ _ h hF => ⟨h.1, hF⟩
theorem main_1_2 : Claimed_1_2 := comes_1 fun _ _ _ _ _ _ h hF => ⟨h.2.1, hF⟩
end Jvm.Pilot.@@N@@
namespace Jvm.Pilot.@@N@@
open Jvm Jvm.ClassFile Sem Op Lib Jvm.Free Jvm.Stand Jvm.Pilot.@@N@@.Jvm.D
/-! MADE BY PROGRAM (witnessworld.py) out of the Statement's table words and the real class files: 11 classes; the members and pool entries that the words name. The judged class is class 1, her method 2. -/
namespace start1
open Jvm.ClassFile
def u (s : String) : CpInfo := .utf8 (stringToUtf16 s)
/-- a pool by its gaps: so many unusable entries, then the entry; so many at the end -/
def gap : Nat → List CpInfo → List CpInfo
  | 0, r => r
  | n + 1, r => .unusable :: gap n r
def poolList (es : List (Nat × CpInfo)) (last : Nat) : List CpInfo := es.foldr (fun e r => gap e.1 (e.2 :: r)) (gap last [])
def pool (es : List (Nat × CpInfo)) (last : Nat) : Array CpInfo := ⟨poolList es last⟩
def fileOf (pool : Array CpInfo) (this : Nat) (attrs : Array Attribute := #[]) (ms : Array MethodInfo := #[]) (fl : Nat := 33) (sup : Nat := 0) (ifs : Array Nat := #[]) (fds : Array FieldInfo := #[]) : ClassFile where
  minorVersion := 0
  majorVersion := 65
  constantPool := pool
  accessFlags := fl
  thisClass := this
  superClass := sup
  interfaces := ifs
  fields := fds
  methods := ms
  attributes := attrs
def plain (name : String) (sup : Option ClassId) : Class where
  name := name
  kind := .ordinary
  loader := none
  accessFlags := 33
  super := sup
  interfaces := #[]
  cf := none
  fields := #[]
  methods := #[]
  instanceTypes := #[]
  staticTypes := #[]
  resolved := #[]
  callSites := []
  init := .initialized
  statics := none
  mirror := none

def pool0 : Array CpInfo := pool [(5, u "<init>"), (0, u "()V"), (1, .class_ 10), (1, u "java/lang/Object")] 113

def k0m0 : Method := { name := "<init>", desc := "()V", sig := { parameters := [], returnType := none }, accessFlags := 1, code := none }
/-- java/lang/Object -/
def k0 : Class := { plain "java/lang/Object" none with
  accessFlags := 33
  interfaces := #[]
  cf := some (fileOf pool0 8 #[] #[{ accessFlags := 1, nameIndex := 5, descriptorIndex := 6, attributes := #[] }] 33 0 #[] #[])
  fields := #[]
  methods := #[k0m0]
  instanceTypes := #[]
  staticTypes := #[]
  resolved := Array.replicate 124 none
  statics := none }

def pool1 : Array CpInfo := pool [(2, .class_ 4), (1, u "java/lang/Object"), (0, u "<init>"), (0, u "()V"), (0, .methodref 8 9), (0, .class_ 10), (0, .nameAndType 11 12), (0, u "com/example/tideline/tideline/model/BitTable"), (0, u "or"), (0, u "([JIIJ)V"), (0, .methodref 14 15), (0, .class_ 16), (0, .nameAndType 17 18), (0, u "com/example/tideline/tideline/model/BitTableOrPinLaw"), (0, u "bitOf"), (0, u "([JI)Z"), (3, u "law"), (0, u "(IIJJJJ)Z")] 4

def k1m0 : Method := { name := "<init>", desc := "()V", sig := { parameters := [], returnType := none }, accessFlags := 2, code := none }
def k1c1 : Code := { maxStack := 4, maxLocals := 2, code := method_2_code, exceptionTable := #[], attributes := #[] }
def k1m1 : Method := { name := "bitOf", desc := "([JI)Z", sig := { parameters := [(.array .long), .int], returnType := some .boolean }, accessFlags := 10, code := some k1c1 }
def k1c2 : Code := { maxStack := 5, maxLocals := 19, code := code, exceptionTable := #[], attributes := #[] }
def k1m2 : Method := { name := "law", desc := "(IIJJJJ)Z", sig := { parameters := [.int, .int, .long, .long, .long, .long], returnType := some .boolean }, accessFlags := 9, code := some k1c2 }
/-- com/example/tideline/tideline/model/BitTableOrPinLaw -/
def k1 : Class := { plain "com/example/tideline/tideline/model/BitTableOrPinLaw" (some 0) with
  accessFlags := 49
  interfaces := #[]
  cf := some (fileOf pool1 14 #[] #[{ accessFlags := 2, nameIndex := 5, descriptorIndex := 6, attributes := #[] }, { accessFlags := 10, nameIndex := 17, descriptorIndex := 18, attributes := #[] }, { accessFlags := 9, nameIndex := 22, descriptorIndex := 23, attributes := #[] }] 49 2 #[] #[])
  fields := #[]
  methods := #[k1m0, k1m1, k1m2]
  instanceTypes := #[]
  staticTypes := #[]
  resolved := Array.replicate 28 none
  statics := none }

def pool2 : Array CpInfo := pool [(2, .class_ 4), (1, u "java/lang/Object"), (0, u "<init>"), (0, u "()V"), (5, u "([JIIJ)V"), (11, .class_ 26), (1, u "com/example/tideline/tideline/model/BitTable"), (0, u "or")] 20

def k2m0 : Method := { name := "<init>", desc := "()V", sig := { parameters := [], returnType := none }, accessFlags := 2, code := none }
def k2c1 : Code := { maxStack := 7, maxLocals := 10, code := prog_165_method_5_code, exceptionTable := #[], attributes := #[] }
def k2m1 : Method := { name := "or", desc := "([JIIJ)V", sig := { parameters := [(.array .long), .int, .int, .long], returnType := none }, accessFlags := 9, code := some k2c1 }
/-- com/example/tideline/tideline/model/BitTable -/
def k2 : Class := { plain "com/example/tideline/tideline/model/BitTable" (some 0) with
  accessFlags := 49
  interfaces := #[]
  cf := some (fileOf pool2 24 #[] #[{ accessFlags := 2, nameIndex := 5, descriptorIndex := 6, attributes := #[] }, { accessFlags := 9, nameIndex := 27, descriptorIndex := 12, attributes := #[] }] 49 2 #[] #[])
  fields := #[]
  methods := #[k2m0, k2m1]
  instanceTypes := #[]
  staticTypes := #[]
  resolved := Array.replicate 48 none
  statics := none }

def pool3 : Array CpInfo := pool [(1, u "java/lang/Cloneable"), (0, .class_ 1), (0, u "java/lang/Object"), (0, .class_ 3)] 3

/-- java/lang/Cloneable -/
def k3 : Class := { plain "java/lang/Cloneable" (some 0) with
  accessFlags := 1537
  interfaces := #[]
  cf := some (fileOf pool3 2 #[] #[] 1537 4 #[] #[])
  fields := #[]
  methods := #[]
  instanceTypes := #[]
  staticTypes := #[]
  resolved := Array.replicate 8 none
  statics := none }

def pool4 : Array CpInfo := pool [(1, u "java/io/Serializable"), (0, .class_ 1), (0, u "java/lang/Object"), (0, .class_ 3)] 3

/-- java/io/Serializable -/
def k4 : Class := { plain "java/io/Serializable" (some 0) with
  accessFlags := 1537
  interfaces := #[]
  cf := some (fileOf pool4 2 #[] #[] 1537 4 #[] #[])
  fields := #[]
  methods := #[]
  instanceTypes := #[]
  staticTypes := #[]
  resolved := Array.replicate 8 none
  statics := none }

/-- the primitive byte -/
def k5 : Class := { plain "byte" none with kind := .primitive 'B', accessFlags := 0x411 }
/-- [B -/
def k6 : Class := { plain "[B" (some 0) with kind := .array 5 .byte, interfaces := #[3, 4], accessFlags := 1041 }

/-- the primitive int -/
def k7 : Class := { plain "int" none with kind := .primitive 'I', accessFlags := 0x411 }
/-- [I -/
def k8 : Class := { plain "[I" (some 0) with kind := .array 7 .int, interfaces := #[3, 4], accessFlags := 1041 }

/-- the primitive long -/
def k9 : Class := { plain "long" none with kind := .primitive 'J', accessFlags := 0x411 }
/-- [J -/
def k10 : Class := { plain "[J" (some 0) with kind := .array 9 .long, interfaces := #[3, 4], accessFlags := 1041 }

def heap : Heap := #[]
def classes : Array Class := #[k0, k1, k2, k3, k4, k5, k6, k7, k8, k9, k10]
def interned : List (Array UInt16 × Addr) := []
def slotsUsed : Nat := 0
def theMethod : MethodId := ⟨1, 2⟩
def args0 : Array Value := #[.int 0, .int 70, .long 5, .long 1, .long 2, .long 3]
def aboutOver (below : List Frame) : State where
  vm := { classes := classes, interned := interned.toArray }
  heap := heap
  slotsUsed := slotsUsed
  threads := #[{ frames := .invoking theMethod args0 :: below }]
def below0 : List Frame := [.native { method := ⟨0, 0⟩, args := #[] }]
def about1 : State := aboutOver below0
def p0 : Program := .bare "" "" ""
def e0 : Env := launch0.env 0 0 0
theorem w_frames : about1.frames = Frame.invoking theMethod args0 :: below0 := rfl
set_option maxRecDepth 65536 in
theorem w_args : argsFit about1.vm theMethod args0 = true := by decide +kernel
set_option maxRecDepth 65536 in
theorem w_heap : heapFits about1 = true := by decide +kernel
set_option maxRecDepth 65536 in
theorem w_runnable : about1.curStatus? = some .runnable := by decide +kernel
set_option maxRecDepth 65536 in
theorem w_alone : about1.alone = true := by decide +kernel
set_option maxRecDepth 65536 in
theorem w_named : about1.methodNamed? x = some theMethod := by decide +kernel
set_option maxRecDepth 65536 in
theorem w_hears : about1.hears theMethod below0 = true := by decide +kernel
set_option maxRecDepth 65536 in
theorem w_ripe : about1.ripe theMethod args0 below0 = true := by decide +kernel
theorem w_running : about1.status = .running := rfl
set_option maxRecDepth 65536 in
theorem w_room : about1.hasRoom e0.platform room_1 = true :=
  launch0.hasRoom_least _ room_1 (by decide +kernel) (by decide +kernel) (by decide +kernel) (by decide +kernel) (by decide +kernel) (by decide +kernel)
theorem allAtoms_all (ts : List Jvm.Cond) (a : Array Jvm.Value) (st : Jvm.State) : (allAtoms ts).before a st = ts.all (fun c => c.before a st) := by
  induction ts with
  | nil => rfl
  | cons c t ih =>
    show (Jvm.Cond.and c (allAtoms t)).before a st = _
    rw [Jvm.Cond.before_and, ih, List.all_cons]
def words1 : List Jvm.Cond := Jvm.Cond.code x code maxLocals ret :: tables_1
/-- a 'code' word, met by the world's own term for the bytes: nothing is compared byte by byte -/
theorem code_word {y : MethodName} {bytes : ByteArray} {mx : Nat} {rt : Option FieldType} {a : Array Value} {s : State} {m : MethodId} {meth : Method} {c : Code} (h1 : s.methodNamed? y = some m) (h2 : s.vm.method? m = some meth) (h3 : meth.code = some c) (h4 : c.code = bytes)
    (h5 : (c.maxLocals == mx && c.exceptionTable.isEmpty && decide (c.maxStack ≤ mostOperands) && decide (meth.sig.returnType = rt) && !meth.locks && decide (parseMethodDescriptor y.desc = some meth.sig)) = true) : (Jvm.Cond.code y bytes mx rt).before a s = true := by
  simp only [Bool.and_eq_true, beq_iff_eq, Bool.not_eq_true', decide_eq_true_eq] at h5
  obtain ⟨⟨⟨⟨⟨g1, g2⟩, g3⟩, g4⟩, g5⟩, g6⟩ := h5
  simp [Cond.before, Cond.holds, Cond.value, h1, h2, h3, h4, g1, g2, g3, g4, g5, g6]
def isCode : Jvm.Cond → Bool
  | .code _ _ _ _ => true
  | _ => false
theorem all_split {L : List Jvm.Cond} {P : Jvm.Cond → Bool} (h1 : L.all (fun c => isCode c || P c) = true) (h2 : ∀ c ∈ L.filter isCode, P c = true) : L.all P = true := by
  refine List.all_eq_true.mpr fun c hc => ?_
  have h := List.all_eq_true.mp h1 c hc
  rcases Bool.eq_false_or_eq_true (isCode c) with hi | hi
  · exact h2 c (List.mem_filter.mpr ⟨hc, hi⟩)
  · simpa [hi] using h
set_option maxRecDepth 65536 in
theorem w_c0 : (Jvm.Cond.code x code maxLocals ret).before args0 about1 = true := code_word (m := ⟨1, 2⟩) (meth := k1m2) (c := k1c2) (by decide +kernel) rfl rfl rfl (by decide +kernel)
set_option maxRecDepth 65536 in
theorem w_c1 : (Jvm.Cond.code ({ cls := "com/example/tideline/tideline/model/BitTable", name := "or", desc := "([JIIJ)V" } : Jvm.MethodName) prog_165_method_5_code (10 : Nat) (Option.none : Option Jvm.ClassFile.FieldType)).before args0 about1 = true := code_word (m := ⟨2, 1⟩) (meth := k2m1) (c := k2c1) (by decide +kernel) rfl rfl rfl (by decide +kernel)
set_option maxRecDepth 65536 in
theorem w_c2 : (Jvm.Cond.code ({ cls := "com/example/tideline/tideline/model/BitTableOrPinLaw", name := "bitOf", desc := "([JI)Z" } : Jvm.MethodName) method_2_code (2 : Nat) (Option.some Jvm.ClassFile.FieldType.boolean)).before args0 about1 = true := code_word (m := ⟨1, 1⟩) (meth := k1m1) (c := k1c1) (by decide +kernel) rfl rfl rfl (by decide +kernel)
def codes1 : List Jvm.Cond := [Jvm.Cond.code x code maxLocals ret, Jvm.Cond.code ({ cls := "com/example/tideline/tideline/model/BitTable", name := "or", desc := "([JIIJ)V" } : Jvm.MethodName) prog_165_method_5_code (10 : Nat) (Option.none : Option Jvm.ClassFile.FieldType), Jvm.Cond.code ({ cls := "com/example/tideline/tideline/model/BitTableOrPinLaw", name := "bitOf", desc := "([JI)Z" } : Jvm.MethodName) method_2_code (2 : Nat) (Option.some Jvm.ClassFile.FieldType.boolean)]
set_option maxRecDepth 65536 in
theorem codes_eq : words1.filter isCode = codes1 := rfl
theorem w_codes : ∀ c ∈ words1.filter isCode, c.before args0 about1 = true := by
  rw [codes_eq]
  intro c hc
  simp only [codes1, List.mem_cons, List.not_mem_nil, or_false] at hc
  rcases hc with rfl | rfl | rfl
  · exact w_c0
  · exact w_c1
  · exact w_c2
set_option maxRecDepth 65536 in
theorem w_t1 : words1.all (fun c => isCode c || c.before args0 about1) = true := by decide +kernel
theorem w_tables : (allAtoms (Jvm.Cond.code x code maxLocals ret :: tables_1)).before args0 about1 = true := by
  rw [allAtoms_all]
  show words1.all (fun c => c.before args0 about1) = true
  refine all_split ?_ w_codes
  rw [w_t1]
set_option maxRecDepth 65536 in
theorem w_case : (Jvm.Cond.and given_1 narrow_1).before args0 about1 = true := by decide +kernel
theorem w_applies : (headSpec (Jvm.Cond.code x code maxLocals ret :: tables_1) room_1).applies x e0.platform about1 = true :=
  (Spec.applies_iff w_frames).mpr ⟨w_running, w_runnable, w_alone, w_named, w_hears, w_ripe, w_room, w_tables⟩
theorem atStart : AtStart classFile x code maxLocals ret World_1 tables_1 room_1 Calls_1 rest_1 Pre_1 launch0 p0 e0 about1 theMethod args0 below0 :=
  ⟨lists_1, trivial, launch0.admits_env _ _ _, launch0.least_env, fairChoices_fair.cas, fairChoices_fair.clock, w_frames, w_args, w_heap, w_applies, trivial, trivial, w_case⟩
end start1
theorem witness_1 : WitnessClaimed_1 := ⟨start1.p0, start1.e0, start1.about1, start1.theMethod, start1.args0, start1.below0, start1.atStart⟩
end Jvm.Pilot.@@N@@
