import JvmDerived
import JvmDerived.Pilot.@@N@@Statement
import JvmDerived.Pilot.@@N@@Code
set_option linter.unusedVariables false
set_option linter.unusedSimpArgs false
namespace Jvm.Pilot.@@N@@
open Jvm Jvm.ClassFile Sem Op Lib Jvm.Free Jvm.Stand Jvm.LawKit Jvm.RoadKit Bundle Jvm.Pilot.@@N@@.Jvm.D
section OwnKit
variable {p : Program} {l : Launch} {e : Env} {R : Room} {s : State} {m : MethodId} {args : Array Value} {below : List Frame} {meth : Method} {c : Code} {T : State} {cells slots : Nat} {P : State → Outcome → Prop}
variable {Z : State} {a0 : Array Value} {h h0 : Heap} {n0 : Nat} {own nm : String} {bytes : ByteArray} {maxL : Nat} {ret : Option FieldType}
variable {pc pc' : Nat} {Ls : Array Slot} {st : List Value}
/-- from the state U the run comes to an end that P allows -/
def own_Go (p : Program) (e : Env) (below : List Frame) (U : State) (P : State → Outcome → Prop) : Prop := ∃ a o, Steps p.tables e below U a ∧ P a o
theorem own_by {U U' : State} (q : ∀ t, Steps p.tables e below U' t → Steps p.tables e below U t) (G : own_Go p e below U' P) : own_Go p e below U P := by
  obtain ⟨a, o, h1, h2⟩ := G
  exact ⟨a, o, q a h1, h2⟩
/-- what stays the same in one body -/
def own_B (p : Program) (s : State) (m : MethodId) (meth : Method) (c : Code) (Z : State) (own nm : String) (bytes : ByteArray) (maxL : Nat) (ret : Option FieldType) : Prop :=
  p.tables.exec = Jvm.exec ∧ Z.Warmed39 s.vm ∧ c.maxLocals = maxL ∧ s.vm.findClass own = some m.cls ∧ meth.sig.returnType = ret ∧ meth.locks = false ∧ meth.name = nm ∧ c.code = bytes
/-- where the run stands: the state T, its heap h; nothing below n0 has been written -/
def own_S (p : Program) (l : Launch) (e : Env) (R : Room) (s : State) (m : MethodId) (args : Array Value) (below : List Frame) (meth : Method) (c : Code) (n0 : Nat) (T : State) (h : Heap) (cells slots : Nat) : Prop :=
  ∃ locs, Stand p l e R s m args below meth c T locs cells slots ∧ T.heap = h ∧ Fr n0 locs
/-- what a body owes at its end -/
def own_P (s : State) (below : List Frame) (n0 : Nat) (Q : Option Value → Heap → Prop) (k n : Nat) (a : State) (o : Outcome) : Prop :=
  a.status = .running ∧ Ended a below o ∧ ∃ v L, o = .returned v ∧ (Fr n0 L ∧ Q v a.heap) ∧ FrameEnd s o a L k n
theorem own_iloadN (B : own_B p s m meth c Z own nm bytes maxL ret) (X : own_S p l e R s m args below meth c n0 T h cells slots) {k : Fin 4} {v : Int32} (d : decode bytes pc = .ok (.iload_n k, 1)) (hp : pc + 1 = pc') (hl : Ls[k.val]? = some (.val (.int v)))
    (G : own_Go p e below (T.setTop (mkF m pc' Ls (.int v :: st))) P) : own_Go p e below (T.setTop (mkF m pc Ls (st))) P := by
  obtain ⟨locs, X, -, -⟩ := X
  subst hp
  exact own_by (fun _ => XS.iloadN X.here B.1 rfl (hb B.2.2.2.2.2.2.2 d) hl) G
theorem own_istoreN (B : own_B p s m meth c Z own nm bytes maxL ret) (X : own_S p l e R s m args below meth c n0 T h cells slots) {k : Fin 4} {v : Int32} {Ls' : Array Slot} (d : decode bytes pc = .ok (.istore_n k, 1)) (hp : pc + 1 = pc') (hl : storeLocals Ls k.val (.int v) = some Ls')
    (G : own_Go p e below (T.setTop (mkF m pc' Ls' st)) P) : own_Go p e below (T.setTop (mkF m pc Ls (.int v :: st))) P := by
  obtain ⟨locs, X, -, -⟩ := X
  subst hp
  exact own_by (fun _ => XS.istoreN X.here B.1 rfl (hb B.2.2.2.2.2.2.2 d) rfl hl) G
theorem own_iconst (B : own_B p s m meth c Z own nm bytes maxL ret) (X : own_S p l e R s m args below meth c n0 T h cells slots) {i : Int} {z : Int32} (d : decode bytes pc = .ok (.iconst i, 1)) (hp : pc + 1 = pc') (hz : Int32.ofInt i = z)
    (G : own_Go p e below (T.setTop (mkF m pc' Ls (.int z :: st))) P) : own_Go p e below (T.setTop (mkF m pc Ls (st))) P := by
  obtain ⟨locs, X, -, -⟩ := X
  subst hp
  subst hz
  exact own_by (fun _ => XS.iconst X.here B.1 rfl (hb B.2.2.2.2.2.2.2 d)) G
theorem own_sipush (B : own_B p s m meth c Z own nm bytes maxL ret) (X : own_S p l e R s m args below meth c n0 T h cells slots) {i : Int} {z : Int32} (d : decode bytes pc = .ok (.sipush i, 3)) (hp : pc + 3 = pc') (hz : (Int16.ofInt i).toInt32 = z)
    (G : own_Go p e below (T.setTop (mkF m pc' Ls (.int z :: st))) P) : own_Go p e below (T.setTop (mkF m pc Ls (st))) P := by
  obtain ⟨locs, X, -, -⟩ := X
  subst hp
  subst hz
  exact own_by (fun _ => XS.sipush X.here B.1 rfl (hb B.2.2.2.2.2.2.2 d)) G
theorem own_iand (B : own_B p s m meth c Z own nm bytes maxL ret) (X : own_S p l e R s m args below meth c n0 T h cells slots) {x y z : Int32} (d : decode bytes pc = .ok (.iand, 1)) (hp : pc + 1 = pc') (hz : x &&& y = z)
    (G : own_Go p e below (T.setTop (mkF m pc' Ls (.int z :: st))) P) : own_Go p e below (T.setTop (mkF m pc Ls (.int y :: .int x :: st))) P := by
  obtain ⟨locs, X, -, -⟩ := X
  subst hp
  subst hz
  exact own_by (fun _ => XS.iand X.here B.1 rfl (hb B.2.2.2.2.2.2.2 d) rfl) G
theorem own_goto (B : own_B p s m meth c Z own nm bytes maxL ret) (X : own_S p l e R s m args below meth c n0 T h cells slots) {o : Int} (d : decode bytes pc = .ok (.goto o, 3)) (ho : 0 ≤ (pc : Int) + o) (hp : ((pc : Int) + o).toNat = pc')
    (G : own_Go p e below (T.setTop (mkF m pc' Ls st)) P) : own_Go p e below (T.setTop (mkF m pc Ls st)) P := by
  obtain ⟨locs, X, -, -⟩ := X
  exact own_by (fun _ => XS.goto X.here B.1 rfl (pc0 := pc) rfl (hb B.2.2.2.2.2.2.2 d) ho hp) G
theorem own_icmpYes (B : own_B p s m meth c Z own nm bytes maxL ret) (X : own_S p l e R s m args below meth c n0 T h cells slots) {cd : ClassFile.Cond} {o : Int} {x y : Int32} (d : decode bytes pc = .ok (.if_icmp cd o, 3)) (hc : if_icmp.holds cd x y = true) (ho : 0 ≤ (pc : Int) + o) (hp : ((pc : Int) + o).toNat = pc')
    (G : own_Go p e below (T.setTop (mkF m pc' Ls st)) P) : own_Go p e below (T.setTop (mkF m pc Ls (.int y :: .int x :: st))) P := by
  obtain ⟨locs, X, -, -⟩ := X
  exact own_by (fun _ => XS.icmpYes X.here B.1 rfl (pc0 := pc) rfl (hb B.2.2.2.2.2.2.2 d) rfl hc ho hp) G
theorem own_icmpNo (B : own_B p s m meth c Z own nm bytes maxL ret) (X : own_S p l e R s m args below meth c n0 T h cells slots) {cd : ClassFile.Cond} {o : Int} {x y : Int32} (d : decode bytes pc = .ok (.if_icmp cd o, 3)) (hc : if_icmp.holds cd x y = false) (hp : pc + 3 = pc')
    (G : own_Go p e below (T.setTop (mkF m pc' Ls st)) P) : own_Go p e below (T.setTop (mkF m pc Ls (.int y :: .int x :: st))) P := by
  obtain ⟨locs, X, -, -⟩ := X
  subst hp
  exact own_by (fun _ => XS.icmpNo X.here B.1 rfl (hb B.2.2.2.2.2.2.2 d) rfl hc) G
theorem own_lswHit (B : own_B p s m meth c Z own nm bytes maxL ret) (X : own_S p l e R s m args below meth c n0 T h cells slots) {k : Int32} {df : Int} {pairs : Array (Int × Int)} {len : Nat} (d : decode bytes pc = .ok (.lookupswitch df pairs, len)) (hs : (pairs.toList.zip (pairs.toList.drop 1)).all (fun (a, next) => a.1 < next.1) = true) {a off : Int} (hf : pairs.find? (·.1 == k.toInt) = some (a, off)) (ho : 0 ≤ (pc : Int) + off) (hp : ((pc : Int) + off).toNat = pc')
    (G : own_Go p e below (T.setTop (mkF m pc' Ls st)) P) : own_Go p e below (T.setTop (mkF m pc Ls (.int k :: st))) P := by
  obtain ⟨locs, X, -, -⟩ := X
  subst hp
  exact own_by (fun t => X.lookupswitchHit B.1 (g := mkF m pc Ls (.int k :: st)) rfl rfl (hb B.2.2.2.2.2.2.2 d) hs hf ho t) G
theorem own_lswMiss (B : own_B p s m meth c Z own nm bytes maxL ret) (X : own_S p l e R s m args below meth c n0 T h cells slots) {k : Int32} {df : Int} {pairs : Array (Int × Int)} {len : Nat} (d : decode bytes pc = .ok (.lookupswitch df pairs, len)) (hs : (pairs.toList.zip (pairs.toList.drop 1)).all (fun (a, next) => a.1 < next.1) = true) (hf : pairs.find? (·.1 == k.toInt) = none) (ho : 0 ≤ (pc : Int) + df) (hp : ((pc : Int) + df).toNat = pc')
    (G : own_Go p e below (T.setTop (mkF m pc' Ls st)) P) : own_Go p e below (T.setTop (mkF m pc Ls (.int k :: st))) P := by
  obtain ⟨locs, X, -, -⟩ := X
  subst hp
  exact own_by (fun t => X.lookupswitchMiss B.1 (g := mkF m pc Ls (.int k :: st)) rfl rfl (hb B.2.2.2.2.2.2.2 d) hs hf ho t) G
theorem own_retN {t : FieldType} (B : own_B p s m meth c Z own nm bytes maxL (some t)) (X : own_S p l e R s m args below meth c n0 T h cells slots) {Q : Option Value → Heap → Prop} {k n : Nat} {z z' : Int32} (ht : t = .boolean ∨ t = .byte ∨ t = .char ∨ t = .short) (hz : nar t z = z') (d : decode bytes pc = .ok (.ireturn, 1)) (hk : cells ≤ k) (hn : slots ≤ n) (hq : Q (some (.int z')) h) : own_Go p e below (T.setTop (mkF m pc Ls (.int z :: st))) (own_P s below n0 Q k n) := by
  subst hz
  obtain ⟨locs, X, eT, N0⟩ := X
  obtain ⟨fs, hr, hrun, hended, hW, hsame⟩ := X.leave (v := (some (.int (nar t z)))) (fun h => by rw [B.2.2.2.2.1] at h; cases h) B.2.2.2.2.2.1
  exact ⟨_, _, retN X B.1 B.2.2.2.2.1 ht (hb B.2.2.2.2.2.2.2 d) hr, hrun, hended, _, _, rfl, ⟨N0, by show Q _ T.heap; rw [eT]; exact hq⟩, ⟨_, rfl⟩, hW, hsame.mono hk hn⟩
theorem own_enter {y : MethodName} {rm : Room} {ws : List Jvm.Cond} {as' : Array Value} {Q : Option Value → Heap → Prop} {F : MethodId → JFrame} (hpl : plainFor y = true) (hF : ∀ m, entryFrame m as' maxL = F m)
    (body : ∀ p e s m below meth c s₁, own_B p s m meth c Z y.cls y.name bytes maxL ret → own_S p l e rm s m as' below meth c n0 s₁ h0 0 0 → own_Go p e below (s₁.setTop (F m)) (own_P s below n0 Q rm.cells rm.slots)) :
    MetFree l y (head1 (Jvm.Cond.code y bytes maxL ret :: ws) rm) (fun a U => a = as' ∧ Z.Warmed39 U.vm ∧ U.heap = h0) (fun _ _ _ _ _ => True) (fun _ U o U' => ∃ v L, o = .returned v ∧ (Fr n0 L ∧ Q v U'.heap) ∧ FrameEnd U o U' L rm.cells rm.slots) := by
  refine MetFree.of_bodySF hpl hisR ?_
  intro p e s m args below meth c s₁ Bd hml0 hP hK
  obtain ⟨rfl, hZ, hh⟩ := hP
  have e0 : s₁.heap = h0 := by rw [← hh, Bd.state]; rfl
  have nm := (name_of_methodNamed Bd.named Bd.method).1
  obtain ⟨a, o, h1, h2⟩ := body p e s m below meth c s₁ ⟨Bd.exec, hZ, hml0, findClass_of_methodNamed Bd.named, Bd.returns, Bd.notSynchronized, nm, Bd.bytes⟩ ⟨[], Stand.of_body Bd, e0, Fr.nil n0⟩
  exact ⟨a, o, castTop (hF m) h1, h2⟩
theorem own_callS (B : own_B p s m meth c Z own nm bytes maxL ret) (X : own_S p l e R s m args below meth c n0 T h cells slots) {i : Nat} {y : MethodName} {yb : ByteArray} {yl : Nat} {yr : Option FieldType} (w1 : (Cond.methodLink own i y).before a0 Z = true) (w2 : (Cond.static y).before a0 Z = true) (w3 : (Cond.initialized y.cls).before a0 Z = true) (w4 : (Cond.code y yb yl yr).before a0 Z = true) (hy : y.cls ≠ "java/lang/invoke/MethodHandle" ∧ y.cls ≠ "java/lang/invoke/VarHandle") {rm : Room} {Q : Option Value → Heap → Prop} (argsL rest : List Value)
    (hM : MetFree l y (head1 [Jvm.Cond.code y yb yl yr] rm) (fun b U => b = argsL.toArray ∧ Z.Warmed39 U.vm ∧ U.heap = h) (fun _ _ _ _ _ => True) (fun _ U o U' => ∃ v L, o = .returned v ∧ (Fr n0 L ∧ Q v U'.heap) ∧ FrameEnd U o U' L rm.cells rm.slots))
    (W : Nat) (hf : rm.frames + 1 ≤ R.frames) (hl : W + (yl + 11) + rm.locals ≤ R.locals) (hsz : Ls.size = maxL) {ps : List FieldType} {rt : Option FieldType} (hpd : parseMethodDescriptor y.desc = some ⟨ps, rt⟩) (hln : argsL.length = ps.length) (hst : st = argsL.reverse ++ rest) (hW : (rest.map fun v => v.category).sum ≤ W) (d : decode bytes pc = .ok (.invokestatic i, 3)) (hp : pc + 3 = pc') {k' n' : Nat} (hk : cells + rm.cells = k') (hn : slots + rm.slots = n') (hkR : k' ≤ R.cells) (hnR : n' ≤ R.slots)
    (G : ∀ T' v h', own_S p l e R s m args below meth c n0 T' h' k' n' → Q v h' → own_Go p e below (T'.setTop (mkF m pc' Ls (v.toList ++ rest))) P) : own_Go p e below (T.setTop (mkF m pc Ls st)) P := by
  obtain ⟨locs, X, eT, N0⟩ := X
  subst hp hk hn
  have bk := backOf (p := p) (e := e) (below := below) (args := args) (len := 3) (W := W) (Q := fun v h' L => Fr n0 L ∧ Q v h') hM B.2.1 w4 w3 hf hl
  obtain ⟨v, vm₁, ⟨T', L', k1, n1⟩, hW1, X', ⟨Lc, hQ, l1, y1, z1⟩, stp⟩ := Jvm.LawKit.callS X B.1 (y := y) B.2.2.2.1 (mvT B.2.1 w1) (mvT B.2.1 w2) (mvT B.2.1 w3) (mvT B.2.1 w4) hy bk (g := mkF m pc Ls st) rfl (by rw [B.2.2.1]; exact hsz) (argsL := argsL) (rest := rest) (lenOf hpd hln) hst (by show 2 * 0 + _ ≤ _; omega) (hb B.2.2.2.2.2.2.2 d) (fun _ _ => ⟨rfl, eT, hkR, hnR⟩)
  dsimp only [Pt.U, Pt.locs, Pt.cells, Pt.slots] at X' l1 y1 z1 stp hQ
  subst l1 y1 z1
  exact own_by stp (G T' v _ ⟨_, X', rfl, N0.app hQ.1⟩ hQ.2)
end OwnKit
section OwnNum
theorem own_w {a0 : Array Value} {Z : State} (hw : ∀ d ∈ tables_1, d.before a0 Z = true) (i : Nat) {d : Jvm.Cond} (hd : tables_1[i]? = some d) : d.before a0 Z = true := hw _ (List.mem_of_getElem? hd)
theorem own_lt {x y : Int32} (h : x < y) : x.toInt < y.toInt := Int32.lt_iff_toInt_lt.mp h
theorem own_nlt {x y : Int32} (h : ¬ x < y) : ¬ x.toInt < y.toInt := fun q => h (Int32.lt_iff_toInt_lt.mpr q)
theorem own_eq {x y : Int32} (h : x = y) : x.toInt = y.toInt := congrArg Int32.toInt h
theorem own_neq {x y : Int32} (h : ¬ x = y) : ¬ x.toInt = y.toInt := fun q => h (Int32.toInt_inj.mp q)
theorem own_ltI {x y : Int32} (h : x.toInt < y.toInt) : x < y := Int32.lt_iff_toInt_lt.mpr h
theorem own_neq' {x k : Int32} {i : Int} (h : ¬ x = k) (hk : k.toInt = i) : i ≠ x.toInt := fun q => h (Int32.toInt_inj.mp (q.symm.trans hk.symm))
theorem own_find0 {pairs : Array (Int × Int)} {k : Int} (h : ∀ q ∈ pairs, q.1 ≠ k) : pairs.find? (·.1 == k) = none := by
  rw [Array.find?_eq_none]; intro q hq; simpa using h q hq
theorem own_o_mask {x m z : Int32} (h : x &&& m = z) (k : Nat) (hk : k ≤ 31) (hm : m.toBitVec.toNat = 2 ^ k - 1) : z.toInt = x.toInt % (2 ^ k : Nat) := h ▸ c_mask x m k hk hm
end OwnNum

theorem d1_0 : decode prog_25_method_3_code 0 = .ok (.iload_n 0, 1) := by decide +kernel
theorem d1_1 : decode prog_25_method_3_code 1 = .ok (.lookupswitch 71 #[(1, 67), (2, 67), (3, 67), (4, 67), (128, 67), (129, 67), (130, 67)], 67) := by decide +kernel
theorem d1_68 : decode prog_25_method_3_code 68 = .ok (.iconst 1, 1) := by decide +kernel
theorem d1_69 : decode prog_25_method_3_code 69 = .ok (.goto 4, 3) := by decide +kernel
theorem d1_73 : decode prog_25_method_3_code 73 = .ok (.ireturn, 1) := by decide +kernel
theorem d1_72 : decode prog_25_method_3_code 72 = .ok (.iconst 0, 1) := by decide +kernel
theorem pn_0 : plainName "com/example/octet/octet/protocol/MessageType" = true := by first | (simp [plainName, overriddenIn]; done) | decide +kernel
theorem pd_0 : parseMethodDescriptor "(I)Z" = some ⟨[.int], some .boolean⟩ := by decide +kernel
theorem pn_1 : plainName "com/example/octet/octet/protocol/MessageTypeCarriesQueryIdPinLaw" = true := by first | (simp [plainName, overriddenIn]; done) | decide +kernel
def Q_1 (Z : State) (p0 : Int32) (h0 : Heap) (n0 : Nat) (v : Option Value) (h : Heap) : Prop :=
  (p0 = (1 : Int32) ∧ v = some (.int (1 : Int32)) ∧ h0 = h) ∨
  (¬ (p0 = (1 : Int32)) ∧ p0 = (2 : Int32) ∧ v = some (.int (1 : Int32)) ∧ h0 = h) ∨
  (¬ (p0 = (1 : Int32)) ∧ ¬ (p0 = (2 : Int32)) ∧ p0 = (3 : Int32) ∧ v = some (.int (1 : Int32)) ∧ h0 = h) ∨
  (¬ (p0 = (1 : Int32)) ∧ ¬ (p0 = (2 : Int32)) ∧ ¬ (p0 = (3 : Int32)) ∧ p0 = (4 : Int32) ∧ v = some (.int (1 : Int32)) ∧ h0 = h) ∨
  (¬ (p0 = (1 : Int32)) ∧ ¬ (p0 = (2 : Int32)) ∧ ¬ (p0 = (3 : Int32)) ∧ ¬ (p0 = (4 : Int32)) ∧ p0 = (128 : Int32) ∧ v = some (.int (1 : Int32)) ∧ h0 = h) ∨
  (¬ (p0 = (1 : Int32)) ∧ ¬ (p0 = (2 : Int32)) ∧ ¬ (p0 = (3 : Int32)) ∧ ¬ (p0 = (4 : Int32)) ∧ ¬ (p0 = (128 : Int32)) ∧ p0 = (129 : Int32) ∧ v = some (.int (1 : Int32)) ∧ h0 = h) ∨
  (¬ (p0 = (1 : Int32)) ∧ ¬ (p0 = (2 : Int32)) ∧ ¬ (p0 = (3 : Int32)) ∧ ¬ (p0 = (4 : Int32)) ∧ ¬ (p0 = (128 : Int32)) ∧ ¬ (p0 = (129 : Int32)) ∧ p0 = (130 : Int32) ∧ v = some (.int (1 : Int32)) ∧ h0 = h) ∨
  (¬ (p0 = (1 : Int32)) ∧ ¬ (p0 = (2 : Int32)) ∧ ¬ (p0 = (3 : Int32)) ∧ ¬ (p0 = (4 : Int32)) ∧ ¬ (p0 = (128 : Int32)) ∧ ¬ (p0 = (129 : Int32)) ∧ ¬ (p0 = (130 : Int32)) ∧ v = some (.int (0 : Int32)) ∧ h0 = h)
set_option maxRecDepth 65536 in
set_option maxHeartbeats 40000000 in
theorem rm_1 (l : Launch) (Z : State) (a0 : Array Value) (hw : ∀ d ∈ tables_1, d.before a0 Z = true) (ws : List Jvm.Cond) (p0 : Int32) (h0 : Heap) (n0 : Nat) (Z0 : n0 ≤ h0.size)  :
    MetFree l (⟨"com/example/octet/octet/protocol/MessageType", "carriesQueryId", "(I)Z"⟩ : MethodName) (head1 (Jvm.Cond.code (⟨"com/example/octet/octet/protocol/MessageType", "carriesQueryId", "(I)Z"⟩ : MethodName) prog_25_method_3_code 1 (some .boolean) :: ws) ({ frames := 0, cells := 0, slots := 0, locals := 0 } : Room)) (fun a U => a = #[(.int p0)] ∧ Z.Warmed39 U.vm ∧ U.heap = h0) (fun _ _ _ _ _ => True) (fun _ U o U' => ∃ v L, o = .returned v ∧ (Fr n0 L ∧ Q_1 Z p0 h0 n0 v U'.heap) ∧ FrameEnd U o U' L ({ frames := 0, cells := 0, slots := 0, locals := 0 } : Room).cells ({ frames := 0, cells := 0, slots := 0, locals := 0 } : Room).slots) := by
  refine own_enter (Q := Q_1 Z p0 h0 n0) (F := fun m => mkF m 0 #[.val (.int p0)] []) (plainFor_of_name pn_0) (fun m => by first | (simp [entryFrame, mkF, argsToLocals, Value.category]; done) | rfl) ?_
  intro p e s m below meth c s₁ B X0
  have K : Keep h0 h0 [] := Keep.refl h0 _
  refine own_iloadN (pc' := 1) B X0 d1_0 rfl rfl ?_
  by_cases c1 : p0 = (1 : Int32)
  · refine own_lswHit (pc' := 68) B X0 d1_1 (by decide) (a := 1) (off := 67) (by rw [c1]; decide) (by decide) rfl ?_
    refine own_iconst (pc' := 69) B X0 (z := (1 : Int32)) d1_68 rfl rfl ?_
    refine own_goto (pc' := 73) B X0 d1_69 (by decide) rfl ?_
    exact own_retN B X0 (t := .boolean) (z' := (1 : Int32)) (by simp) (by decide) d1_73 (by decide) (by decide) (Or.inl ⟨c1, rfl, rfl⟩)
  · by_cases c2 : p0 = (2 : Int32)
    · refine own_lswHit (pc' := 68) B X0 d1_1 (by decide) (a := 2) (off := 67) (by rw [c2]; decide) (by decide) rfl ?_
      refine own_iconst (pc' := 69) B X0 (z := (1 : Int32)) d1_68 rfl rfl ?_
      refine own_goto (pc' := 73) B X0 d1_69 (by decide) rfl ?_
      exact own_retN B X0 (t := .boolean) (z' := (1 : Int32)) (by simp) (by decide) d1_73 (by decide) (by decide) (Or.inr (Or.inl ⟨c1, c2, rfl, rfl⟩))
    · by_cases c3 : p0 = (3 : Int32)
      · refine own_lswHit (pc' := 68) B X0 d1_1 (by decide) (a := 3) (off := 67) (by rw [c3]; decide) (by decide) rfl ?_
        refine own_iconst (pc' := 69) B X0 (z := (1 : Int32)) d1_68 rfl rfl ?_
        refine own_goto (pc' := 73) B X0 d1_69 (by decide) rfl ?_
        exact own_retN B X0 (t := .boolean) (z' := (1 : Int32)) (by simp) (by decide) d1_73 (by decide) (by decide) (Or.inr (Or.inr (Or.inl ⟨c1, c2, c3, rfl, rfl⟩)))
      · by_cases c4 : p0 = (4 : Int32)
        · refine own_lswHit (pc' := 68) B X0 d1_1 (by decide) (a := 4) (off := 67) (by rw [c4]; decide) (by decide) rfl ?_
          refine own_iconst (pc' := 69) B X0 (z := (1 : Int32)) d1_68 rfl rfl ?_
          refine own_goto (pc' := 73) B X0 d1_69 (by decide) rfl ?_
          exact own_retN B X0 (t := .boolean) (z' := (1 : Int32)) (by simp) (by decide) d1_73 (by decide) (by decide) (Or.inr (Or.inr (Or.inr (Or.inl ⟨c1, c2, c3, c4, rfl, rfl⟩))))
        · by_cases c5 : p0 = (128 : Int32)
          · refine own_lswHit (pc' := 68) B X0 d1_1 (by decide) (a := 128) (off := 67) (by rw [c5]; decide) (by decide) rfl ?_
            refine own_iconst (pc' := 69) B X0 (z := (1 : Int32)) d1_68 rfl rfl ?_
            refine own_goto (pc' := 73) B X0 d1_69 (by decide) rfl ?_
            exact own_retN B X0 (t := .boolean) (z' := (1 : Int32)) (by simp) (by decide) d1_73 (by decide) (by decide) (Or.inr (Or.inr (Or.inr (Or.inr (Or.inl ⟨c1, c2, c3, c4, c5, rfl, rfl⟩)))))
          · by_cases c6 : p0 = (129 : Int32)
            · refine own_lswHit (pc' := 68) B X0 d1_1 (by decide) (a := 129) (off := 67) (by rw [c6]; decide) (by decide) rfl ?_
              refine own_iconst (pc' := 69) B X0 (z := (1 : Int32)) d1_68 rfl rfl ?_
              refine own_goto (pc' := 73) B X0 d1_69 (by decide) rfl ?_
              exact own_retN B X0 (t := .boolean) (z' := (1 : Int32)) (by simp) (by decide) d1_73 (by decide) (by decide) (Or.inr (Or.inr (Or.inr (Or.inr (Or.inr (Or.inl ⟨c1, c2, c3, c4, c5, c6, rfl, rfl⟩))))))
            · by_cases c7 : p0 = (130 : Int32)
              · refine own_lswHit (pc' := 68) B X0 d1_1 (by decide) (a := 130) (off := 67) (by rw [c7]; decide) (by decide) rfl ?_
                refine own_iconst (pc' := 69) B X0 (z := (1 : Int32)) d1_68 rfl rfl ?_
                refine own_goto (pc' := 73) B X0 d1_69 (by decide) rfl ?_
                exact own_retN B X0 (t := .boolean) (z' := (1 : Int32)) (by simp) (by decide) d1_73 (by decide) (by decide) (Or.inr (Or.inr (Or.inr (Or.inr (Or.inr (Or.inr (Or.inl ⟨c1, c2, c3, c4, c5, c6, c7, rfl, rfl⟩)))))))
              · refine own_lswMiss (pc' := 72) B X0 d1_1 (by decide) (own_find0 (by intro q hq; simp at hq; rcases hq with rfl | rfl | rfl | rfl | rfl | rfl | rfl <;> first | exact own_neq' c1 (by decide) | exact own_neq' c2 (by decide) | exact own_neq' c3 (by decide) | exact own_neq' c4 (by decide) | exact own_neq' c5 (by decide) | exact own_neq' c6 (by decide) | exact own_neq' c7 (by decide))) (by decide) rfl ?_
                refine own_iconst (pc' := 73) B X0 (z := (0 : Int32)) d1_72 rfl rfl ?_
                exact own_retN B X0 (t := .boolean) (z' := (0 : Int32)) (by simp) (by decide) d1_73 (by decide) (by decide) (Or.inr (Or.inr (Or.inr (Or.inr (Or.inr (Or.inr (Or.inr (⟨c1, c2, c3, c4, c5, c6, c7, rfl, rfl⟩))))))))
def Q_0 (Z : State) (i0 : Int32) (h0 : Heap) (n0 : Nat) (v : Option Value) (h : Heap) : Prop :=
  (v = some (.int (1 : Int32)))
set_option maxRecDepth 65536 in
set_option maxHeartbeats 40000000 in
theorem rm_0 (l : Launch) (Z : State) (a0 : Array Value) (hw : ∀ d ∈ tables_1, d.before a0 Z = true) (ws : List Jvm.Cond) (i0 : Int32) (h0 : Heap) (n0 : Nat) (Z0 : n0 ≤ h0.size)  :
    MetFree l x (head1 (Jvm.Cond.code x code maxLocals ret :: ws) room_1) (fun a U => a = #[(.int i0)] ∧ Z.Warmed39 U.vm ∧ U.heap = h0) (fun _ _ _ _ _ => True) (fun _ U o U' => ∃ v L, o = .returned v ∧ (Fr n0 L ∧ Q_0 Z i0 h0 n0 v U'.heap) ∧ FrameEnd U o U' L room_1.cells room_1.slots) := by
  refine own_enter (Q := Q_0 Z i0 h0 n0) (F := fun m => mkF m 0 #[.val (.int i0), .unset, .unset] []) (plainFor_of_name pn_1) (fun m => by first | (simp [entryFrame, mkF, argsToLocals, Value.category, maxLocals]; done) | rfl) ?_
  intro p e s m below meth c s₁ B X0
  have K : Keep h0 h0 [] := Keep.refl h0 _
  refine own_iloadN (pc' := 1) B X0 at_0 rfl rfl ?_
  refine own_sipush (pc' := 4) B X0 (z := (255 : Int32)) at_1 rfl (by decide) ?_
  obtain ⟨y1, hy1⟩ : ∃ z : Int32, i0 &&& (255 : Int32) = z := ⟨_, rfl⟩
  refine own_iand (pc' := 5) B X0 at_4 rfl hy1 ?_
  refine own_istoreN (pc' := 6) B X0 (Ls' := #[.val (.int i0), .val (.int y1), .unset]) at_5 rfl rfl ?_
  refine own_iloadN (pc' := 7) B X0 at_6 rfl rfl ?_
  refine own_iconst (pc' := 8) B X0 (z := (1 : Int32)) at_7 rfl rfl ?_
  by_cases c2 : y1 < (1 : Int32)
  · refine own_icmpYes (pc' := 16) B X0 at_8 (tlt c2).1 (by decide) rfl ?_
    refine own_iloadN (pc' := 17) B X0 at_16 rfl rfl ?_
    refine own_sipush (pc' := 20) B X0 (z := (128 : Int32)) at_17 rfl (by decide) ?_
    have c3 : y1 < (128 : Int32) := by
      have o0 := own_o_mask hy1 8 (by decide) (by decide)
      have o1 := own_lt c2
      have o2 := rng32 i0
      have o3 := rng32 y1
      have o4 : (255 : Int32).toInt = 255 := by decide
      have o5 : (1 : Int32).toInt = 1 := by decide
      have o6 : (128 : Int32).toInt = 128 := by decide
      refine own_ltI ?_
      omega
    refine own_icmpYes (pc' := 34) B X0 at_20 (tlt c3).1 (by decide) rfl ?_
    refine own_iconst (pc' := 35) B X0 (z := (0 : Int32)) at_34 rfl rfl ?_
    refine own_istoreN (pc' := 36) B X0 (Ls' := #[.val (.int i0), .val (.int y1), .val (.int (0 : Int32))]) at_35 rfl rfl ?_
    refine own_iloadN (pc' := 37) B X0 at_36 rfl rfl ?_
    refine own_callS (pc' := 40) B X0 (own_w hw 0 rfl) (own_w hw 1 rfl) (own_w hw 2 rfl) (own_w hw 3 rfl) (by decide) [(.int y1)] [] (rm_1 l Z a0 hw [] (y1) h0 n0 (Nat.le_trans Z0 K.1) ) 0 (by decide) (by decide) rfl pd_0 rfl rfl (Nat.le_of_eq rfl) at_37 rfl (k' := 0) (n' := 0) rfl rfl (by decide) (by decide) ?_
    intro T4 v4 h4 X4 q4
    rcases q4 with ⟨c5, rfl, rfl⟩ | ⟨c6, c7, rfl, rfl⟩ | ⟨c8, c9, c10, rfl, rfl⟩ | ⟨c11, c12, c13, c14, rfl, rfl⟩ | ⟨c15, c16, c17, c18, c19, rfl, rfl⟩ | ⟨c20, c21, c22, c23, c24, c25, rfl, rfl⟩ | ⟨c26, c27, c28, c29, c30, c31, c32, rfl, rfl⟩ | ⟨c33, c34, c35, c36, c37, c38, c39, rfl, rfl⟩
    · exfalso
      have o0 := own_o_mask hy1 8 (by decide) (by decide)
      have o1 := own_lt c2
      have o2 := own_lt c3
      have o3 := own_eq c5
      have o4 := rng32 i0
      have o5 := rng32 y1
      have o6 : (255 : Int32).toInt = 255 := by decide
      have o7 : (1 : Int32).toInt = 1 := by decide
      have o8 : (128 : Int32).toInt = 128 := by decide
      exfalso
      omega
    · exfalso
      have o0 := own_o_mask hy1 8 (by decide) (by decide)
      have o1 := own_lt c2
      have o2 := own_lt c3
      have o3 := own_neq c6
      have o4 := own_eq c7
      have o5 := rng32 i0
      have o6 := rng32 y1
      have o7 : (255 : Int32).toInt = 255 := by decide
      have o8 : (1 : Int32).toInt = 1 := by decide
      have o9 : (128 : Int32).toInt = 128 := by decide
      have o10 : (2 : Int32).toInt = 2 := by decide
      exfalso
      omega
    · exfalso
      have o0 := own_o_mask hy1 8 (by decide) (by decide)
      have o1 := own_lt c2
      have o2 := own_lt c3
      have o3 := own_neq c8
      have o4 := own_neq c9
      have o5 := own_eq c10
      have o6 := rng32 i0
      have o7 := rng32 y1
      have o8 : (255 : Int32).toInt = 255 := by decide
      have o9 : (1 : Int32).toInt = 1 := by decide
      have o10 : (128 : Int32).toInt = 128 := by decide
      have o11 : (2 : Int32).toInt = 2 := by decide
      have o12 : (3 : Int32).toInt = 3 := by decide
      exfalso
      omega
    · exfalso
      have o0 := own_o_mask hy1 8 (by decide) (by decide)
      have o1 := own_lt c2
      have o2 := own_lt c3
      have o3 := own_neq c11
      have o4 := own_neq c12
      have o5 := own_neq c13
      have o6 := own_eq c14
      have o7 := rng32 i0
      have o8 := rng32 y1
      have o9 : (255 : Int32).toInt = 255 := by decide
      have o10 : (1 : Int32).toInt = 1 := by decide
      have o11 : (128 : Int32).toInt = 128 := by decide
      have o12 : (2 : Int32).toInt = 2 := by decide
      have o13 : (3 : Int32).toInt = 3 := by decide
      have o14 : (4 : Int32).toInt = 4 := by decide
      exfalso
      omega
    · exfalso
      have o0 := own_o_mask hy1 8 (by decide) (by decide)
      have o1 := own_lt c2
      have o2 := own_lt c3
      have o3 := own_neq c15
      have o4 := own_neq c16
      have o5 := own_neq c17
      have o6 := own_neq c18
      have o7 := own_eq c19
      have o8 := rng32 i0
      have o9 := rng32 y1
      have o10 : (255 : Int32).toInt = 255 := by decide
      have o11 : (1 : Int32).toInt = 1 := by decide
      have o12 : (128 : Int32).toInt = 128 := by decide
      have o13 : (2 : Int32).toInt = 2 := by decide
      have o14 : (3 : Int32).toInt = 3 := by decide
      have o15 : (4 : Int32).toInt = 4 := by decide
      exfalso
      omega
    · exfalso
      have o0 := own_o_mask hy1 8 (by decide) (by decide)
      have o1 := own_lt c2
      have o2 := own_lt c3
      have o3 := own_neq c20
      have o4 := own_neq c21
      have o5 := own_neq c22
      have o6 := own_neq c23
      have o7 := own_neq c24
      have o8 := own_eq c25
      have o9 := rng32 i0
      have o10 := rng32 y1
      have o11 : (255 : Int32).toInt = 255 := by decide
      have o12 : (1 : Int32).toInt = 1 := by decide
      have o13 : (128 : Int32).toInt = 128 := by decide
      have o14 : (2 : Int32).toInt = 2 := by decide
      have o15 : (3 : Int32).toInt = 3 := by decide
      have o16 : (4 : Int32).toInt = 4 := by decide
      have o17 : (129 : Int32).toInt = 129 := by decide
      exfalso
      omega
    · exfalso
      have o0 := own_o_mask hy1 8 (by decide) (by decide)
      have o1 := own_lt c2
      have o2 := own_lt c3
      have o3 := own_neq c26
      have o4 := own_neq c27
      have o5 := own_neq c28
      have o6 := own_neq c29
      have o7 := own_neq c30
      have o8 := own_neq c31
      have o9 := own_eq c32
      have o10 := rng32 i0
      have o11 := rng32 y1
      have o12 : (255 : Int32).toInt = 255 := by decide
      have o13 : (1 : Int32).toInt = 1 := by decide
      have o14 : (128 : Int32).toInt = 128 := by decide
      have o15 : (2 : Int32).toInt = 2 := by decide
      have o16 : (3 : Int32).toInt = 3 := by decide
      have o17 : (4 : Int32).toInt = 4 := by decide
      have o18 : (129 : Int32).toInt = 129 := by decide
      have o19 : (130 : Int32).toInt = 130 := by decide
      exfalso
      omega
    · show own_Go p e below (T4.setTop (mkF m 40 #[.val (.int i0), .val (.int y1), .val (.int (0 : Int32))] [(.int (0 : Int32))])) _
      refine own_iloadN (pc' := 41) B X4 at_40 rfl rfl ?_
      refine own_icmpNo (pc' := 44) B X4 at_41 (teq (by decide : (0 : Int32) = (0 : Int32))).2 rfl ?_
      refine own_iconst (pc' := 45) B X4 (z := (1 : Int32)) at_44 rfl rfl ?_
      refine own_goto (pc' := 49) B X4 at_45 (by decide) rfl ?_
      exact own_retN B X4 (t := .boolean) (z' := (1 : Int32)) (by simp) (by decide) at_49 (by decide) (by decide) rfl
  · refine own_icmpNo (pc' := 11) B X0 at_8 (flt c2).1 rfl ?_
    refine own_iloadN (pc' := 12) B X0 at_11 rfl rfl ?_
    refine own_iconst (pc' := 13) B X0 (z := (4 : Int32)) at_12 rfl rfl ?_
    by_cases c40 : (4 : Int32) < y1
    · refine own_icmpNo (pc' := 16) B X0 at_13 (tlt c40).2.2.2 rfl ?_
      refine own_iloadN (pc' := 17) B X0 at_16 rfl rfl ?_
      refine own_sipush (pc' := 20) B X0 (z := (128 : Int32)) at_17 rfl (by decide) ?_
      by_cases c41 : y1 < (128 : Int32)
      · refine own_icmpYes (pc' := 34) B X0 at_20 (tlt c41).1 (by decide) rfl ?_
        refine own_iconst (pc' := 35) B X0 (z := (0 : Int32)) at_34 rfl rfl ?_
        refine own_istoreN (pc' := 36) B X0 (Ls' := #[.val (.int i0), .val (.int y1), .val (.int (0 : Int32))]) at_35 rfl rfl ?_
        refine own_iloadN (pc' := 37) B X0 at_36 rfl rfl ?_
        refine own_callS (pc' := 40) B X0 (own_w hw 0 rfl) (own_w hw 1 rfl) (own_w hw 2 rfl) (own_w hw 3 rfl) (by decide) [(.int y1)] [] (rm_1 l Z a0 hw [] (y1) h0 n0 (Nat.le_trans Z0 K.1) ) 0 (by decide) (by decide) rfl pd_0 rfl rfl (Nat.le_of_eq rfl) at_37 rfl (k' := 0) (n' := 0) rfl rfl (by decide) (by decide) ?_
        intro T42 v42 h42 X42 q42
        rcases q42 with ⟨c43, rfl, rfl⟩ | ⟨c44, c45, rfl, rfl⟩ | ⟨c46, c47, c48, rfl, rfl⟩ | ⟨c49, c50, c51, c52, rfl, rfl⟩ | ⟨c53, c54, c55, c56, c57, rfl, rfl⟩ | ⟨c58, c59, c60, c61, c62, c63, rfl, rfl⟩ | ⟨c64, c65, c66, c67, c68, c69, c70, rfl, rfl⟩ | ⟨c71, c72, c73, c74, c75, c76, c77, rfl, rfl⟩
        · exfalso
          have o0 := own_o_mask hy1 8 (by decide) (by decide)
          have o1 := own_nlt c2
          have o2 := own_lt c40
          have o3 := own_lt c41
          have o4 := own_eq c43
          have o5 := rng32 i0
          have o6 := rng32 y1
          have o7 : (255 : Int32).toInt = 255 := by decide
          have o8 : (1 : Int32).toInt = 1 := by decide
          have o9 : (4 : Int32).toInt = 4 := by decide
          have o10 : (128 : Int32).toInt = 128 := by decide
          exfalso
          omega
        · exfalso
          have o0 := own_o_mask hy1 8 (by decide) (by decide)
          have o1 := own_nlt c2
          have o2 := own_lt c40
          have o3 := own_lt c41
          have o4 := own_neq c44
          have o5 := own_eq c45
          have o6 := rng32 i0
          have o7 := rng32 y1
          have o8 : (255 : Int32).toInt = 255 := by decide
          have o9 : (1 : Int32).toInt = 1 := by decide
          have o10 : (4 : Int32).toInt = 4 := by decide
          have o11 : (128 : Int32).toInt = 128 := by decide
          have o12 : (2 : Int32).toInt = 2 := by decide
          exfalso
          omega
        · exfalso
          have o0 := own_o_mask hy1 8 (by decide) (by decide)
          have o1 := own_nlt c2
          have o2 := own_lt c40
          have o3 := own_lt c41
          have o4 := own_neq c46
          have o5 := own_neq c47
          have o6 := own_eq c48
          have o7 := rng32 i0
          have o8 := rng32 y1
          have o9 : (255 : Int32).toInt = 255 := by decide
          have o10 : (1 : Int32).toInt = 1 := by decide
          have o11 : (4 : Int32).toInt = 4 := by decide
          have o12 : (128 : Int32).toInt = 128 := by decide
          have o13 : (2 : Int32).toInt = 2 := by decide
          have o14 : (3 : Int32).toInt = 3 := by decide
          exfalso
          omega
        · exfalso
          have o0 := own_o_mask hy1 8 (by decide) (by decide)
          have o1 := own_nlt c2
          have o2 := own_lt c40
          have o3 := own_lt c41
          have o4 := own_neq c49
          have o5 := own_neq c50
          have o6 := own_neq c51
          have o7 := own_eq c52
          have o8 := rng32 i0
          have o9 := rng32 y1
          have o10 : (255 : Int32).toInt = 255 := by decide
          have o11 : (1 : Int32).toInt = 1 := by decide
          have o12 : (4 : Int32).toInt = 4 := by decide
          have o13 : (128 : Int32).toInt = 128 := by decide
          have o14 : (2 : Int32).toInt = 2 := by decide
          have o15 : (3 : Int32).toInt = 3 := by decide
          exfalso
          omega
        · exfalso
          have o0 := own_o_mask hy1 8 (by decide) (by decide)
          have o1 := own_nlt c2
          have o2 := own_lt c40
          have o3 := own_lt c41
          have o4 := own_neq c53
          have o5 := own_neq c54
          have o6 := own_neq c55
          have o7 := own_neq c56
          have o8 := own_eq c57
          have o9 := rng32 i0
          have o10 := rng32 y1
          have o11 : (255 : Int32).toInt = 255 := by decide
          have o12 : (1 : Int32).toInt = 1 := by decide
          have o13 : (4 : Int32).toInt = 4 := by decide
          have o14 : (128 : Int32).toInt = 128 := by decide
          have o15 : (2 : Int32).toInt = 2 := by decide
          have o16 : (3 : Int32).toInt = 3 := by decide
          exfalso
          omega
        · exfalso
          have o0 := own_o_mask hy1 8 (by decide) (by decide)
          have o1 := own_nlt c2
          have o2 := own_lt c40
          have o3 := own_lt c41
          have o4 := own_neq c58
          have o5 := own_neq c59
          have o6 := own_neq c60
          have o7 := own_neq c61
          have o8 := own_neq c62
          have o9 := own_eq c63
          have o10 := rng32 i0
          have o11 := rng32 y1
          have o12 : (255 : Int32).toInt = 255 := by decide
          have o13 : (1 : Int32).toInt = 1 := by decide
          have o14 : (4 : Int32).toInt = 4 := by decide
          have o15 : (128 : Int32).toInt = 128 := by decide
          have o16 : (2 : Int32).toInt = 2 := by decide
          have o17 : (3 : Int32).toInt = 3 := by decide
          have o18 : (129 : Int32).toInt = 129 := by decide
          exfalso
          omega
        · exfalso
          have o0 := own_o_mask hy1 8 (by decide) (by decide)
          have o1 := own_nlt c2
          have o2 := own_lt c40
          have o3 := own_lt c41
          have o4 := own_neq c64
          have o5 := own_neq c65
          have o6 := own_neq c66
          have o7 := own_neq c67
          have o8 := own_neq c68
          have o9 := own_neq c69
          have o10 := own_eq c70
          have o11 := rng32 i0
          have o12 := rng32 y1
          have o13 : (255 : Int32).toInt = 255 := by decide
          have o14 : (1 : Int32).toInt = 1 := by decide
          have o15 : (4 : Int32).toInt = 4 := by decide
          have o16 : (128 : Int32).toInt = 128 := by decide
          have o17 : (2 : Int32).toInt = 2 := by decide
          have o18 : (3 : Int32).toInt = 3 := by decide
          have o19 : (129 : Int32).toInt = 129 := by decide
          have o20 : (130 : Int32).toInt = 130 := by decide
          exfalso
          omega
        · show own_Go p e below (T42.setTop (mkF m 40 #[.val (.int i0), .val (.int y1), .val (.int (0 : Int32))] [(.int (0 : Int32))])) _
          refine own_iloadN (pc' := 41) B X42 at_40 rfl rfl ?_
          refine own_icmpNo (pc' := 44) B X42 at_41 (teq (by decide : (0 : Int32) = (0 : Int32))).2 rfl ?_
          refine own_iconst (pc' := 45) B X42 (z := (1 : Int32)) at_44 rfl rfl ?_
          refine own_goto (pc' := 49) B X42 at_45 (by decide) rfl ?_
          exact own_retN B X42 (t := .boolean) (z' := (1 : Int32)) (by simp) (by decide) at_49 (by decide) (by decide) rfl
      · refine own_icmpNo (pc' := 23) B X0 at_20 (flt c41).1 rfl ?_
        refine own_iloadN (pc' := 24) B X0 at_23 rfl rfl ?_
        refine own_sipush (pc' := 27) B X0 (z := (130 : Int32)) at_24 rfl (by decide) ?_
        by_cases c78 : (130 : Int32) < y1
        · refine own_icmpYes (pc' := 34) B X0 at_27 (tlt c78).2.2.1 (by decide) rfl ?_
          refine own_iconst (pc' := 35) B X0 (z := (0 : Int32)) at_34 rfl rfl ?_
          refine own_istoreN (pc' := 36) B X0 (Ls' := #[.val (.int i0), .val (.int y1), .val (.int (0 : Int32))]) at_35 rfl rfl ?_
          refine own_iloadN (pc' := 37) B X0 at_36 rfl rfl ?_
          refine own_callS (pc' := 40) B X0 (own_w hw 0 rfl) (own_w hw 1 rfl) (own_w hw 2 rfl) (own_w hw 3 rfl) (by decide) [(.int y1)] [] (rm_1 l Z a0 hw [] (y1) h0 n0 (Nat.le_trans Z0 K.1) ) 0 (by decide) (by decide) rfl pd_0 rfl rfl (Nat.le_of_eq rfl) at_37 rfl (k' := 0) (n' := 0) rfl rfl (by decide) (by decide) ?_
          intro T79 v79 h79 X79 q79
          rcases q79 with ⟨c80, rfl, rfl⟩ | ⟨c81, c82, rfl, rfl⟩ | ⟨c83, c84, c85, rfl, rfl⟩ | ⟨c86, c87, c88, c89, rfl, rfl⟩ | ⟨c90, c91, c92, c93, c94, rfl, rfl⟩ | ⟨c95, c96, c97, c98, c99, c100, rfl, rfl⟩ | ⟨c101, c102, c103, c104, c105, c106, c107, rfl, rfl⟩ | ⟨c108, c109, c110, c111, c112, c113, c114, rfl, rfl⟩
          · exfalso
            have o0 := own_o_mask hy1 8 (by decide) (by decide)
            have o1 := own_nlt c2
            have o2 := own_lt c40
            have o3 := own_nlt c41
            have o4 := own_lt c78
            have o5 := own_eq c80
            have o6 := rng32 i0
            have o7 := rng32 y1
            have o8 : (255 : Int32).toInt = 255 := by decide
            have o9 : (1 : Int32).toInt = 1 := by decide
            have o10 : (4 : Int32).toInt = 4 := by decide
            have o11 : (128 : Int32).toInt = 128 := by decide
            have o12 : (130 : Int32).toInt = 130 := by decide
            exfalso
            omega
          · exfalso
            have o0 := own_o_mask hy1 8 (by decide) (by decide)
            have o1 := own_nlt c2
            have o2 := own_lt c40
            have o3 := own_nlt c41
            have o4 := own_lt c78
            have o5 := own_neq c81
            have o6 := own_eq c82
            have o7 := rng32 i0
            have o8 := rng32 y1
            have o9 : (255 : Int32).toInt = 255 := by decide
            have o10 : (1 : Int32).toInt = 1 := by decide
            have o11 : (4 : Int32).toInt = 4 := by decide
            have o12 : (128 : Int32).toInt = 128 := by decide
            have o13 : (130 : Int32).toInt = 130 := by decide
            have o14 : (2 : Int32).toInt = 2 := by decide
            exfalso
            omega
          · exfalso
            have o0 := own_o_mask hy1 8 (by decide) (by decide)
            have o1 := own_nlt c2
            have o2 := own_lt c40
            have o3 := own_nlt c41
            have o4 := own_lt c78
            have o5 := own_neq c83
            have o6 := own_neq c84
            have o7 := own_eq c85
            have o8 := rng32 i0
            have o9 := rng32 y1
            have o10 : (255 : Int32).toInt = 255 := by decide
            have o11 : (1 : Int32).toInt = 1 := by decide
            have o12 : (4 : Int32).toInt = 4 := by decide
            have o13 : (128 : Int32).toInt = 128 := by decide
            have o14 : (130 : Int32).toInt = 130 := by decide
            have o15 : (2 : Int32).toInt = 2 := by decide
            have o16 : (3 : Int32).toInt = 3 := by decide
            exfalso
            omega
          · exfalso
            have o0 := own_o_mask hy1 8 (by decide) (by decide)
            have o1 := own_nlt c2
            have o2 := own_lt c40
            have o3 := own_nlt c41
            have o4 := own_lt c78
            have o5 := own_neq c86
            have o6 := own_neq c87
            have o7 := own_neq c88
            have o8 := own_eq c89
            have o9 := rng32 i0
            have o10 := rng32 y1
            have o11 : (255 : Int32).toInt = 255 := by decide
            have o12 : (1 : Int32).toInt = 1 := by decide
            have o13 : (4 : Int32).toInt = 4 := by decide
            have o14 : (128 : Int32).toInt = 128 := by decide
            have o15 : (130 : Int32).toInt = 130 := by decide
            have o16 : (2 : Int32).toInt = 2 := by decide
            have o17 : (3 : Int32).toInt = 3 := by decide
            exfalso
            omega
          · exfalso
            have o0 := own_o_mask hy1 8 (by decide) (by decide)
            have o1 := own_nlt c2
            have o2 := own_lt c40
            have o3 := own_nlt c41
            have o4 := own_lt c78
            have o5 := own_neq c90
            have o6 := own_neq c91
            have o7 := own_neq c92
            have o8 := own_neq c93
            have o9 := own_eq c94
            have o10 := rng32 i0
            have o11 := rng32 y1
            have o12 : (255 : Int32).toInt = 255 := by decide
            have o13 : (1 : Int32).toInt = 1 := by decide
            have o14 : (4 : Int32).toInt = 4 := by decide
            have o15 : (128 : Int32).toInt = 128 := by decide
            have o16 : (130 : Int32).toInt = 130 := by decide
            have o17 : (2 : Int32).toInt = 2 := by decide
            have o18 : (3 : Int32).toInt = 3 := by decide
            exfalso
            omega
          · exfalso
            have o0 := own_o_mask hy1 8 (by decide) (by decide)
            have o1 := own_nlt c2
            have o2 := own_lt c40
            have o3 := own_nlt c41
            have o4 := own_lt c78
            have o5 := own_neq c95
            have o6 := own_neq c96
            have o7 := own_neq c97
            have o8 := own_neq c98
            have o9 := own_neq c99
            have o10 := own_eq c100
            have o11 := rng32 i0
            have o12 := rng32 y1
            have o13 : (255 : Int32).toInt = 255 := by decide
            have o14 : (1 : Int32).toInt = 1 := by decide
            have o15 : (4 : Int32).toInt = 4 := by decide
            have o16 : (128 : Int32).toInt = 128 := by decide
            have o17 : (130 : Int32).toInt = 130 := by decide
            have o18 : (2 : Int32).toInt = 2 := by decide
            have o19 : (3 : Int32).toInt = 3 := by decide
            have o20 : (129 : Int32).toInt = 129 := by decide
            exfalso
            omega
          · exfalso
            have o0 := own_o_mask hy1 8 (by decide) (by decide)
            have o1 := own_nlt c2
            have o2 := own_lt c40
            have o3 := own_nlt c41
            have o4 := own_lt c78
            have o5 := own_neq c101
            have o6 := own_neq c102
            have o7 := own_neq c103
            have o8 := own_neq c104
            have o9 := own_neq c105
            have o10 := own_neq c106
            have o11 := own_eq c107
            have o12 := rng32 i0
            have o13 := rng32 y1
            have o14 : (255 : Int32).toInt = 255 := by decide
            have o15 : (1 : Int32).toInt = 1 := by decide
            have o16 : (4 : Int32).toInt = 4 := by decide
            have o17 : (128 : Int32).toInt = 128 := by decide
            have o18 : (130 : Int32).toInt = 130 := by decide
            have o19 : (2 : Int32).toInt = 2 := by decide
            have o20 : (3 : Int32).toInt = 3 := by decide
            have o21 : (129 : Int32).toInt = 129 := by decide
            exfalso
            omega
          · show own_Go p e below (T79.setTop (mkF m 40 #[.val (.int i0), .val (.int y1), .val (.int (0 : Int32))] [(.int (0 : Int32))])) _
            refine own_iloadN (pc' := 41) B X79 at_40 rfl rfl ?_
            refine own_icmpNo (pc' := 44) B X79 at_41 (teq (by decide : (0 : Int32) = (0 : Int32))).2 rfl ?_
            refine own_iconst (pc' := 45) B X79 (z := (1 : Int32)) at_44 rfl rfl ?_
            refine own_goto (pc' := 49) B X79 at_45 (by decide) rfl ?_
            exact own_retN B X79 (t := .boolean) (z' := (1 : Int32)) (by simp) (by decide) at_49 (by decide) (by decide) rfl
        · refine own_icmpNo (pc' := 30) B X0 at_27 (flt c78).2.2.1 rfl ?_
          refine own_iconst (pc' := 31) B X0 (z := (1 : Int32)) at_30 rfl rfl ?_
          refine own_goto (pc' := 35) B X0 at_31 (by decide) rfl ?_
          refine own_istoreN (pc' := 36) B X0 (Ls' := #[.val (.int i0), .val (.int y1), .val (.int (1 : Int32))]) at_35 rfl rfl ?_
          refine own_iloadN (pc' := 37) B X0 at_36 rfl rfl ?_
          refine own_callS (pc' := 40) B X0 (own_w hw 0 rfl) (own_w hw 1 rfl) (own_w hw 2 rfl) (own_w hw 3 rfl) (by decide) [(.int y1)] [] (rm_1 l Z a0 hw [] (y1) h0 n0 (Nat.le_trans Z0 K.1) ) 0 (by decide) (by decide) rfl pd_0 rfl rfl (Nat.le_of_eq rfl) at_37 rfl (k' := 0) (n' := 0) rfl rfl (by decide) (by decide) ?_
          intro T115 v115 h115 X115 q115
          rcases q115 with ⟨c116, rfl, rfl⟩ | ⟨c117, c118, rfl, rfl⟩ | ⟨c119, c120, c121, rfl, rfl⟩ | ⟨c122, c123, c124, c125, rfl, rfl⟩ | ⟨c126, c127, c128, c129, c130, rfl, rfl⟩ | ⟨c131, c132, c133, c134, c135, c136, rfl, rfl⟩ | ⟨c137, c138, c139, c140, c141, c142, c143, rfl, rfl⟩ | ⟨c144, c145, c146, c147, c148, c149, c150, rfl, rfl⟩
          · exfalso
            have o0 := own_o_mask hy1 8 (by decide) (by decide)
            have o1 := own_nlt c2
            have o2 := own_lt c40
            have o3 := own_nlt c41
            have o4 := own_nlt c78
            have o5 := own_eq c116
            have o6 := rng32 i0
            have o7 := rng32 y1
            have o8 : (255 : Int32).toInt = 255 := by decide
            have o9 : (1 : Int32).toInt = 1 := by decide
            have o10 : (4 : Int32).toInt = 4 := by decide
            have o11 : (128 : Int32).toInt = 128 := by decide
            have o12 : (130 : Int32).toInt = 130 := by decide
            exfalso
            omega
          · exfalso
            have o0 := own_o_mask hy1 8 (by decide) (by decide)
            have o1 := own_nlt c2
            have o2 := own_lt c40
            have o3 := own_nlt c41
            have o4 := own_nlt c78
            have o5 := own_neq c117
            have o6 := own_eq c118
            have o7 := rng32 i0
            have o8 := rng32 y1
            have o9 : (255 : Int32).toInt = 255 := by decide
            have o10 : (1 : Int32).toInt = 1 := by decide
            have o11 : (4 : Int32).toInt = 4 := by decide
            have o12 : (128 : Int32).toInt = 128 := by decide
            have o13 : (130 : Int32).toInt = 130 := by decide
            have o14 : (2 : Int32).toInt = 2 := by decide
            exfalso
            omega
          · exfalso
            have o0 := own_o_mask hy1 8 (by decide) (by decide)
            have o1 := own_nlt c2
            have o2 := own_lt c40
            have o3 := own_nlt c41
            have o4 := own_nlt c78
            have o5 := own_neq c119
            have o6 := own_neq c120
            have o7 := own_eq c121
            have o8 := rng32 i0
            have o9 := rng32 y1
            have o10 : (255 : Int32).toInt = 255 := by decide
            have o11 : (1 : Int32).toInt = 1 := by decide
            have o12 : (4 : Int32).toInt = 4 := by decide
            have o13 : (128 : Int32).toInt = 128 := by decide
            have o14 : (130 : Int32).toInt = 130 := by decide
            have o15 : (2 : Int32).toInt = 2 := by decide
            have o16 : (3 : Int32).toInt = 3 := by decide
            exfalso
            omega
          · exfalso
            have o0 := own_o_mask hy1 8 (by decide) (by decide)
            have o1 := own_nlt c2
            have o2 := own_lt c40
            have o3 := own_nlt c41
            have o4 := own_nlt c78
            have o5 := own_neq c122
            have o6 := own_neq c123
            have o7 := own_neq c124
            have o8 := own_eq c125
            have o9 := rng32 i0
            have o10 := rng32 y1
            have o11 : (255 : Int32).toInt = 255 := by decide
            have o12 : (1 : Int32).toInt = 1 := by decide
            have o13 : (4 : Int32).toInt = 4 := by decide
            have o14 : (128 : Int32).toInt = 128 := by decide
            have o15 : (130 : Int32).toInt = 130 := by decide
            have o16 : (2 : Int32).toInt = 2 := by decide
            have o17 : (3 : Int32).toInt = 3 := by decide
            exfalso
            omega
          · show own_Go p e below (T115.setTop (mkF m 40 #[.val (.int i0), .val (.int y1), .val (.int (1 : Int32))] [(.int (1 : Int32))])) _
            refine own_iloadN (pc' := 41) B X115 at_40 rfl rfl ?_
            refine own_icmpNo (pc' := 44) B X115 at_41 (teq (by decide : (1 : Int32) = (1 : Int32))).2 rfl ?_
            refine own_iconst (pc' := 45) B X115 (z := (1 : Int32)) at_44 rfl rfl ?_
            refine own_goto (pc' := 49) B X115 at_45 (by decide) rfl ?_
            exact own_retN B X115 (t := .boolean) (z' := (1 : Int32)) (by simp) (by decide) at_49 (by decide) (by decide) rfl
          · show own_Go p e below (T115.setTop (mkF m 40 #[.val (.int i0), .val (.int y1), .val (.int (1 : Int32))] [(.int (1 : Int32))])) _
            refine own_iloadN (pc' := 41) B X115 at_40 rfl rfl ?_
            refine own_icmpNo (pc' := 44) B X115 at_41 (teq (by decide : (1 : Int32) = (1 : Int32))).2 rfl ?_
            refine own_iconst (pc' := 45) B X115 (z := (1 : Int32)) at_44 rfl rfl ?_
            refine own_goto (pc' := 49) B X115 at_45 (by decide) rfl ?_
            exact own_retN B X115 (t := .boolean) (z' := (1 : Int32)) (by simp) (by decide) at_49 (by decide) (by decide) rfl
          · show own_Go p e below (T115.setTop (mkF m 40 #[.val (.int i0), .val (.int y1), .val (.int (1 : Int32))] [(.int (1 : Int32))])) _
            refine own_iloadN (pc' := 41) B X115 at_40 rfl rfl ?_
            refine own_icmpNo (pc' := 44) B X115 at_41 (teq (by decide : (1 : Int32) = (1 : Int32))).2 rfl ?_
            refine own_iconst (pc' := 45) B X115 (z := (1 : Int32)) at_44 rfl rfl ?_
            refine own_goto (pc' := 49) B X115 at_45 (by decide) rfl ?_
            exact own_retN B X115 (t := .boolean) (z' := (1 : Int32)) (by simp) (by decide) at_49 (by decide) (by decide) rfl
          · exfalso
            have o0 := own_o_mask hy1 8 (by decide) (by decide)
            have o1 := own_nlt c2
            have o2 := own_lt c40
            have o3 := own_nlt c41
            have o4 := own_nlt c78
            have o5 := own_neq c144
            have o6 := own_neq c145
            have o7 := own_neq c146
            have o8 := own_neq c147
            have o9 := own_neq c148
            have o10 := own_neq c149
            have o11 := own_neq c150
            have o12 := rng32 i0
            have o13 := rng32 y1
            have o14 : (255 : Int32).toInt = 255 := by decide
            have o15 : (1 : Int32).toInt = 1 := by decide
            have o16 : (4 : Int32).toInt = 4 := by decide
            have o17 : (128 : Int32).toInt = 128 := by decide
            have o18 : (130 : Int32).toInt = 130 := by decide
            have o19 : (2 : Int32).toInt = 2 := by decide
            have o20 : (3 : Int32).toInt = 3 := by decide
            have o21 : (129 : Int32).toInt = 129 := by decide
            exfalso
            omega
    · refine own_icmpYes (pc' := 30) B X0 at_13 (flt c40).2.2.2 (by decide) rfl ?_
      refine own_iconst (pc' := 31) B X0 (z := (1 : Int32)) at_30 rfl rfl ?_
      refine own_goto (pc' := 35) B X0 at_31 (by decide) rfl ?_
      refine own_istoreN (pc' := 36) B X0 (Ls' := #[.val (.int i0), .val (.int y1), .val (.int (1 : Int32))]) at_35 rfl rfl ?_
      refine own_iloadN (pc' := 37) B X0 at_36 rfl rfl ?_
      refine own_callS (pc' := 40) B X0 (own_w hw 0 rfl) (own_w hw 1 rfl) (own_w hw 2 rfl) (own_w hw 3 rfl) (by decide) [(.int y1)] [] (rm_1 l Z a0 hw [] (y1) h0 n0 (Nat.le_trans Z0 K.1) ) 0 (by decide) (by decide) rfl pd_0 rfl rfl (Nat.le_of_eq rfl) at_37 rfl (k' := 0) (n' := 0) rfl rfl (by decide) (by decide) ?_
      intro T151 v151 h151 X151 q151
      rcases q151 with ⟨c152, rfl, rfl⟩ | ⟨c153, c154, rfl, rfl⟩ | ⟨c155, c156, c157, rfl, rfl⟩ | ⟨c158, c159, c160, c161, rfl, rfl⟩ | ⟨c162, c163, c164, c165, c166, rfl, rfl⟩ | ⟨c167, c168, c169, c170, c171, c172, rfl, rfl⟩ | ⟨c173, c174, c175, c176, c177, c178, c179, rfl, rfl⟩ | ⟨c180, c181, c182, c183, c184, c185, c186, rfl, rfl⟩
      · show own_Go p e below (T151.setTop (mkF m 40 #[.val (.int i0), .val (.int y1), .val (.int (1 : Int32))] [(.int (1 : Int32))])) _
        refine own_iloadN (pc' := 41) B X151 at_40 rfl rfl ?_
        refine own_icmpNo (pc' := 44) B X151 at_41 (teq (by decide : (1 : Int32) = (1 : Int32))).2 rfl ?_
        refine own_iconst (pc' := 45) B X151 (z := (1 : Int32)) at_44 rfl rfl ?_
        refine own_goto (pc' := 49) B X151 at_45 (by decide) rfl ?_
        exact own_retN B X151 (t := .boolean) (z' := (1 : Int32)) (by simp) (by decide) at_49 (by decide) (by decide) rfl
      · show own_Go p e below (T151.setTop (mkF m 40 #[.val (.int i0), .val (.int y1), .val (.int (1 : Int32))] [(.int (1 : Int32))])) _
        refine own_iloadN (pc' := 41) B X151 at_40 rfl rfl ?_
        refine own_icmpNo (pc' := 44) B X151 at_41 (teq (by decide : (1 : Int32) = (1 : Int32))).2 rfl ?_
        refine own_iconst (pc' := 45) B X151 (z := (1 : Int32)) at_44 rfl rfl ?_
        refine own_goto (pc' := 49) B X151 at_45 (by decide) rfl ?_
        exact own_retN B X151 (t := .boolean) (z' := (1 : Int32)) (by simp) (by decide) at_49 (by decide) (by decide) rfl
      · show own_Go p e below (T151.setTop (mkF m 40 #[.val (.int i0), .val (.int y1), .val (.int (1 : Int32))] [(.int (1 : Int32))])) _
        refine own_iloadN (pc' := 41) B X151 at_40 rfl rfl ?_
        refine own_icmpNo (pc' := 44) B X151 at_41 (teq (by decide : (1 : Int32) = (1 : Int32))).2 rfl ?_
        refine own_iconst (pc' := 45) B X151 (z := (1 : Int32)) at_44 rfl rfl ?_
        refine own_goto (pc' := 49) B X151 at_45 (by decide) rfl ?_
        exact own_retN B X151 (t := .boolean) (z' := (1 : Int32)) (by simp) (by decide) at_49 (by decide) (by decide) rfl
      · show own_Go p e below (T151.setTop (mkF m 40 #[.val (.int i0), .val (.int y1), .val (.int (1 : Int32))] [(.int (1 : Int32))])) _
        refine own_iloadN (pc' := 41) B X151 at_40 rfl rfl ?_
        refine own_icmpNo (pc' := 44) B X151 at_41 (teq (by decide : (1 : Int32) = (1 : Int32))).2 rfl ?_
        refine own_iconst (pc' := 45) B X151 (z := (1 : Int32)) at_44 rfl rfl ?_
        refine own_goto (pc' := 49) B X151 at_45 (by decide) rfl ?_
        exact own_retN B X151 (t := .boolean) (z' := (1 : Int32)) (by simp) (by decide) at_49 (by decide) (by decide) rfl
      · exfalso
        have o0 := own_o_mask hy1 8 (by decide) (by decide)
        have o1 := own_nlt c2
        have o2 := own_nlt c40
        have o3 := own_neq c162
        have o4 := own_neq c163
        have o5 := own_neq c164
        have o6 := own_neq c165
        have o7 := own_eq c166
        have o8 := rng32 i0
        have o9 := rng32 y1
        have o10 : (255 : Int32).toInt = 255 := by decide
        have o11 : (1 : Int32).toInt = 1 := by decide
        have o12 : (4 : Int32).toInt = 4 := by decide
        have o13 : (2 : Int32).toInt = 2 := by decide
        have o14 : (3 : Int32).toInt = 3 := by decide
        have o15 : (128 : Int32).toInt = 128 := by decide
        exfalso
        omega
      · exfalso
        have o0 := own_o_mask hy1 8 (by decide) (by decide)
        have o1 := own_nlt c2
        have o2 := own_nlt c40
        have o3 := own_neq c167
        have o4 := own_neq c168
        have o5 := own_neq c169
        have o6 := own_neq c170
        have o7 := own_neq c171
        have o8 := own_eq c172
        have o9 := rng32 i0
        have o10 := rng32 y1
        have o11 : (255 : Int32).toInt = 255 := by decide
        have o12 : (1 : Int32).toInt = 1 := by decide
        have o13 : (4 : Int32).toInt = 4 := by decide
        have o14 : (2 : Int32).toInt = 2 := by decide
        have o15 : (3 : Int32).toInt = 3 := by decide
        have o16 : (128 : Int32).toInt = 128 := by decide
        have o17 : (129 : Int32).toInt = 129 := by decide
        exfalso
        omega
      · exfalso
        have o0 := own_o_mask hy1 8 (by decide) (by decide)
        have o1 := own_nlt c2
        have o2 := own_nlt c40
        have o3 := own_neq c173
        have o4 := own_neq c174
        have o5 := own_neq c175
        have o6 := own_neq c176
        have o7 := own_neq c177
        have o8 := own_neq c178
        have o9 := own_eq c179
        have o10 := rng32 i0
        have o11 := rng32 y1
        have o12 : (255 : Int32).toInt = 255 := by decide
        have o13 : (1 : Int32).toInt = 1 := by decide
        have o14 : (4 : Int32).toInt = 4 := by decide
        have o15 : (2 : Int32).toInt = 2 := by decide
        have o16 : (3 : Int32).toInt = 3 := by decide
        have o17 : (128 : Int32).toInt = 128 := by decide
        have o18 : (129 : Int32).toInt = 129 := by decide
        have o19 : (130 : Int32).toInt = 130 := by decide
        exfalso
        omega
      · exfalso
        have o0 := own_o_mask hy1 8 (by decide) (by decide)
        have o1 := own_nlt c2
        have o2 := own_nlt c40
        have o3 := own_neq c180
        have o4 := own_neq c181
        have o5 := own_neq c182
        have o6 := own_neq c183
        have o7 := own_neq c184
        have o8 := own_neq c185
        have o9 := own_neq c186
        have o10 := rng32 i0
        have o11 := rng32 y1
        have o12 : (255 : Int32).toInt = 255 := by decide
        have o13 : (1 : Int32).toInt = 1 := by decide
        have o14 : (4 : Int32).toInt = 4 := by decide
        have o15 : (2 : Int32).toInt = 2 := by decide
        have o16 : (3 : Int32).toInt = 3 := by decide
        have o17 : (128 : Int32).toInt = 128 := by decide
        have o18 : (129 : Int32).toInt = 129 := by decide
        have o19 : (130 : Int32).toInt = 130 := by decide
        exfalso
        omega
set_option maxRecDepth 65536 in
set_option maxHeartbeats 40000000 in
theorem comes_1 {Post : Tables → Env → Array Value → State → Outcome → State → Prop} (hpost : ∀ tb e args s v u, (limb_1_1.after args s (.returned v) u = true ∧ limb_1_2.after args s (.returned v) u = true ∧ True) → FrameEnd s (.returned v) u (Jvm.fieldLocs frame_1_writes args s ++ Jvm.arrayLocs frame_1_arrays args s ++ Jvm.staticLocs frame_1_statics s) 0 0 → Post tb e args s (.returned v) u) :
    ArmFor flags0 classFile x code maxLocals ret World_1 tables_1 room_1 Calls_1 rest_1 Pre_1 Post := by
  intro l hfl _ _ p e ha hc hk s m args below hf hA hF happ hP
  obtain ⟨hcalls, hrest, hpre⟩ := hP
  obtain ⟨-, -, -, hnamed, -, -, -, hat⟩ := (Spec.applies_iff hf).mp happ
  obtain ⟨hg, hn⟩ := and_e (Cond.before_iff.mp (show (Jvm.Cond.and given_1 narrow_1).before args s = true from hpre))
  obtain ⟨g1, g2⟩ := and_e hg
  obtain ⟨w0, rfl⟩ : ∃ w0 : Value, args = #[w0] := by
    have hs : args.size = 1 := by simpa [Cond.value, given_1] using g1
    obtain ⟨L⟩ := args
    match L, hs with
    | [w0], _ => exact ⟨w0, rfl⟩
  have hw := fun d (hd : d ∈ tables_1) => atoms_spec (ws := Jvm.Cond.code x code maxLocals ret :: tables_1) hat d (List.mem_cons_of_mem _ hd)
  obtain ⟨i0, ei0⟩ := is_v g2
  obtain rfl : w0 = (.int i0) := Option.some.inj ei0
  obtain ⟨n, o, h1, h2, h3, _, L, rfl, ⟨N, rfl⟩, hq⟩ := rm_0 l s _ hw tables_1 i0 s.heap s.heap.size (Nat.le_refl _)  p e ha hc hk s m _ below hf ((Spec.applies_iff_loose hf).mp happ).1 ⟨rfl, State.Warmed39.refl s, rfl⟩ trivial
  refine ⟨n, _, h1, h2, h3, hpost _ _ _ _ _ _ ⟨Cond.after_iff.mpr rfl, Cond.after_iff.mpr (eq_i res_at (Term.int_eval (1)) rfl), trivial⟩ ⟨hq.1, hq.2.1, (hq.2.2.sift fun y hy => Or.inr (N y hy)).mono (by decide) (by decide)⟩⟩
theorem main_1_1 : Claimed_1_1 := comes_1 fun _ _ _ _ _ _ h hF => ⟨h.1, hF⟩
theorem main_1_2 : Claimed_1_2 := comes_1 fun _ _ _ _ _ _ h hF => ⟨h.2.1, hF⟩
end Jvm.Pilot.@@N@@
namespace Jvm.Pilot.@@N@@
open Jvm Jvm.ClassFile Sem Op Lib Jvm.Free Jvm.Stand Jvm.Pilot.@@N@@.Jvm.D
/-! MADE BY PROGRAM (witnessworld.py) out of the Statement's table words and the real class files: 9 classes; the members and pool entries that the words name. The judged class is class 1, her method 1. -/
namespace start1
open Jvm.ClassFile
def u (s : String) : CpInfo := .utf8 (stringToUtf16 s)
/-- a pool by its gaps: so many unusable entries, then the entry; so many at the end -/
def gap : Nat → List CpInfo → List CpInfo
  | 0, r => r
  | n + 1, r => .unusable :: gap n r
def poolList (es : List (Nat × CpInfo)) (last : Nat) : List CpInfo := es.foldr (fun e r => gap e.1 (e.2 :: r)) (gap last [])
def pool (es : List (Nat × CpInfo)) (last : Nat) : Array CpInfo := ⟨poolList es last⟩
def fileOf (pool : Array CpInfo) (this : Nat) (attrs : Array Attribute := #[]) (ms : Array MethodInfo := #[]) (fl : Nat := 33) (sup : Nat := 0) (ifs : Array Nat := #[]) (fds : Array FieldInfo := #[]) : ClassFile where
  minorVersion := 0
  majorVersion := 65
  constantPool := pool
  accessFlags := fl
  thisClass := this
  superClass := sup
  interfaces := ifs
  fields := fds
  methods := ms
  attributes := attrs
def plain (name : String) (sup : Option ClassId) : Class where
  name := name
  kind := .ordinary
  loader := none
  accessFlags := 33
  super := sup
  interfaces := #[]
  cf := none
  fields := #[]
  methods := #[]
  instanceTypes := #[]
  staticTypes := #[]
  resolved := #[]
  callSites := []
  init := .initialized
  statics := none
  mirror := none

def pool0 : Array CpInfo := pool [(5, u "<init>"), (0, u "()V"), (1, .class_ 10), (1, u "java/lang/Object")] 113

def k0m0 : Method := { name := "<init>", desc := "()V", sig := { parameters := [], returnType := none }, accessFlags := 1, code := none }
/-- java/lang/Object -/
def k0 : Class := { plain "java/lang/Object" none with
  accessFlags := 33
  interfaces := #[]
  cf := some (fileOf pool0 8 #[] #[{ accessFlags := 1, nameIndex := 5, descriptorIndex := 6, attributes := #[] }] 33 0 #[] #[])
  fields := #[]
  methods := #[k0m0]
  instanceTypes := #[]
  staticTypes := #[]
  resolved := Array.replicate 124 none
  statics := none }

def pool1 : Array CpInfo := pool [(2, .class_ 4), (1, u "java/lang/Object"), (0, u "<init>"), (0, u "()V"), (0, .methodref 8 9), (0, .class_ 10), (0, .nameAndType 11 12), (0, u "com/example/octet/octet/protocol/MessageType"), (0, u "carriesQueryId"), (0, u "(I)Z"), (0, .class_ 14), (0, u "com/example/octet/octet/protocol/MessageTypeCarriesQueryIdPinLaw"), (2, u "law")] 3

def k1m0 : Method := { name := "<init>", desc := "()V", sig := { parameters := [], returnType := none }, accessFlags := 2, code := none }
def k1c1 : Code := { maxStack := 2, maxLocals := 3, code := code, exceptionTable := #[], attributes := #[] }
def k1m1 : Method := { name := "law", desc := "(I)Z", sig := { parameters := [.int], returnType := some .boolean }, accessFlags := 9, code := some k1c1 }
/-- com/example/octet/octet/protocol/MessageTypeCarriesQueryIdPinLaw -/
def k1 : Class := { plain "com/example/octet/octet/protocol/MessageTypeCarriesQueryIdPinLaw" (some 0) with
  accessFlags := 49
  interfaces := #[]
  cf := some (fileOf pool1 13 #[] #[{ accessFlags := 2, nameIndex := 5, descriptorIndex := 6, attributes := #[] }, { accessFlags := 9, nameIndex := 17, descriptorIndex := 12, attributes := #[] }] 49 2 #[] #[])
  fields := #[]
  methods := #[k1m0, k1m1]
  instanceTypes := #[]
  staticTypes := #[]
  resolved := Array.replicate 21 none
  statics := none }

def pool2 : Array CpInfo := pool [(2, .class_ 4), (1, u "java/lang/Object"), (0, u "<init>"), (0, u "()V"), (54, .class_ 62), (0, u "com/example/octet/octet/protocol/MessageType"), (0, u "GET"), (0, u "I"), (2, u "QUERY"), (1, u "SUBSCRIBE"), (1, u "UNSUBSCRIBE"), (1, u "SUBMISSION"), (1, u "DHT_LOOKUP"), (1, u "BLOB_SUBMISSION"), (1, u "BLOB_GET"), (1, u "HELLO"), (1, u "HELLO_AUTH"), (1, u "RECORD"), (1, u "LOCALLY_COMPLETE"), (1, u "QUERY_CLOSED"), (1, u "SUBMISSION_RESULT"), (1, u "DHT_RESPONSE"), (1, u "BLOB_SUBMISSION_RESULT"), (1, u "BLOB_RESULT"), (1, u "HELLO_ACK"), (1, u "CLOSING"), (1, u "UNRECOGNIZED"), (6, u "carriesQueryId"), (0, u "(I)Z")] 2

def k2m0 : Method := { name := "<init>", desc := "()V", sig := { parameters := [], returnType := none }, accessFlags := 2, code := none }
def k2c1 : Code := { maxStack := 1, maxLocals := 1, code := prog_25_method_3_code, exceptionTable := #[], attributes := #[] }
def k2m1 : Method := { name := "carriesQueryId", desc := "(I)Z", sig := { parameters := [.int], returnType := some .boolean }, accessFlags := 9, code := some k2c1 }
/-- com/example/octet/octet/protocol/MessageType -/
def k2 : Class := { plain "com/example/octet/octet/protocol/MessageType" (some 0) with
  accessFlags := 49
  interfaces := #[]
  cf := some (fileOf pool2 61 #[] #[{ accessFlags := 2, nameIndex := 5, descriptorIndex := 6, attributes := #[] }, { accessFlags := 9, nameIndex := 110, descriptorIndex := 111, attributes := #[] }] 49 2 #[] #[{ accessFlags := 25, nameIndex := 63, descriptorIndex := 64, attributes := #[] }, { accessFlags := 25, nameIndex := 67, descriptorIndex := 64, attributes := #[] }, { accessFlags := 25, nameIndex := 69, descriptorIndex := 64, attributes := #[] }, { accessFlags := 25, nameIndex := 71, descriptorIndex := 64, attributes := #[] }, { accessFlags := 25, nameIndex := 73, descriptorIndex := 64, attributes := #[] }, { accessFlags := 25, nameIndex := 75, descriptorIndex := 64, attributes := #[] }, { accessFlags := 25, nameIndex := 77, descriptorIndex := 64, attributes := #[] }, { accessFlags := 25, nameIndex := 79, descriptorIndex := 64, attributes := #[] }, { accessFlags := 25, nameIndex := 81, descriptorIndex := 64, attributes := #[] }, { accessFlags := 25, nameIndex := 83, descriptorIndex := 64, attributes := #[] }, { accessFlags := 25, nameIndex := 85, descriptorIndex := 64, attributes := #[] }, { accessFlags := 25, nameIndex := 87, descriptorIndex := 64, attributes := #[] }, { accessFlags := 25, nameIndex := 89, descriptorIndex := 64, attributes := #[] }, { accessFlags := 25, nameIndex := 91, descriptorIndex := 64, attributes := #[] }, { accessFlags := 25, nameIndex := 93, descriptorIndex := 64, attributes := #[] }, { accessFlags := 25, nameIndex := 95, descriptorIndex := 64, attributes := #[] }, { accessFlags := 25, nameIndex := 97, descriptorIndex := 64, attributes := #[] }, { accessFlags := 25, nameIndex := 99, descriptorIndex := 64, attributes := #[] }, { accessFlags := 25, nameIndex := 101, descriptorIndex := 64, attributes := #[] }, { accessFlags := 25, nameIndex := 103, descriptorIndex := 64, attributes := #[] }])
  fields := #[{ name := "GET", type := .int, accessFlags := 25, slot := 0, constantValue := 0 }, { name := "QUERY", type := .int, accessFlags := 25, slot := 1, constantValue := 0 }, { name := "SUBSCRIBE", type := .int, accessFlags := 25, slot := 2, constantValue := 0 }, { name := "UNSUBSCRIBE", type := .int, accessFlags := 25, slot := 3, constantValue := 0 }, { name := "SUBMISSION", type := .int, accessFlags := 25, slot := 4, constantValue := 0 }, { name := "DHT_LOOKUP", type := .int, accessFlags := 25, slot := 5, constantValue := 0 }, { name := "BLOB_SUBMISSION", type := .int, accessFlags := 25, slot := 6, constantValue := 0 }, { name := "BLOB_GET", type := .int, accessFlags := 25, slot := 7, constantValue := 0 }, { name := "HELLO", type := .int, accessFlags := 25, slot := 8, constantValue := 0 }, { name := "HELLO_AUTH", type := .int, accessFlags := 25, slot := 9, constantValue := 0 }, { name := "RECORD", type := .int, accessFlags := 25, slot := 10, constantValue := 0 }, { name := "LOCALLY_COMPLETE", type := .int, accessFlags := 25, slot := 11, constantValue := 0 }, { name := "QUERY_CLOSED", type := .int, accessFlags := 25, slot := 12, constantValue := 0 }, { name := "SUBMISSION_RESULT", type := .int, accessFlags := 25, slot := 13, constantValue := 0 }, { name := "DHT_RESPONSE", type := .int, accessFlags := 25, slot := 14, constantValue := 0 }, { name := "BLOB_SUBMISSION_RESULT", type := .int, accessFlags := 25, slot := 15, constantValue := 0 }, { name := "BLOB_RESULT", type := .int, accessFlags := 25, slot := 16, constantValue := 0 }, { name := "HELLO_ACK", type := .int, accessFlags := 25, slot := 17, constantValue := 0 }, { name := "CLOSING", type := .int, accessFlags := 25, slot := 18, constantValue := 0 }, { name := "UNRECOGNIZED", type := .int, accessFlags := 25, slot := 19, constantValue := 0 }]
  methods := #[k2m0, k2m1]
  instanceTypes := #[]
  staticTypes := #[.int, .int, .int, .int, .int, .int, .int, .int, .int, .int, .int, .int, .int, .int, .int, .int, .int, .int, .int, .int]
  resolved := Array.replicate 114 none
  statics := none }

def pool3 : Array CpInfo := pool [(1, u "java/lang/Cloneable"), (0, .class_ 1), (0, u "java/lang/Object"), (0, .class_ 3)] 3

/-- java/lang/Cloneable -/
def k3 : Class := { plain "java/lang/Cloneable" (some 0) with
  accessFlags := 1537
  interfaces := #[]
  cf := some (fileOf pool3 2 #[] #[] 1537 4 #[] #[])
  fields := #[]
  methods := #[]
  instanceTypes := #[]
  staticTypes := #[]
  resolved := Array.replicate 8 none
  statics := none }

def pool4 : Array CpInfo := pool [(1, u "java/io/Serializable"), (0, .class_ 1), (0, u "java/lang/Object"), (0, .class_ 3)] 3

/-- java/io/Serializable -/
def k4 : Class := { plain "java/io/Serializable" (some 0) with
  accessFlags := 1537
  interfaces := #[]
  cf := some (fileOf pool4 2 #[] #[] 1537 4 #[] #[])
  fields := #[]
  methods := #[]
  instanceTypes := #[]
  staticTypes := #[]
  resolved := Array.replicate 8 none
  statics := none }

/-- the primitive byte -/
def k5 : Class := { plain "byte" none with kind := .primitive 'B', accessFlags := 0x411 }
/-- [B -/
def k6 : Class := { plain "[B" (some 0) with kind := .array 5 .byte, interfaces := #[3, 4], accessFlags := 1041 }

/-- the primitive int -/
def k7 : Class := { plain "int" none with kind := .primitive 'I', accessFlags := 0x411 }
/-- [I -/
def k8 : Class := { plain "[I" (some 0) with kind := .array 7 .int, interfaces := #[3, 4], accessFlags := 1041 }

def heap : Heap := #[]
def classes : Array Class := #[k0, k1, k2, k3, k4, k5, k6, k7, k8]
def interned : List (Array UInt16 × Addr) := []
def slotsUsed : Nat := 0
def theMethod : MethodId := ⟨1, 1⟩
def args0 : Array Value := #[.int 2]
def aboutOver (below : List Frame) : State where
  vm := { classes := classes, interned := interned.toArray }
  heap := heap
  slotsUsed := slotsUsed
  threads := #[{ frames := .invoking theMethod args0 :: below }]
def below0 : List Frame := [.native { method := ⟨0, 0⟩, args := #[] }]
def about1 : State := aboutOver below0
def p0 : Program := .bare "" "" ""
def e0 : Env := launch0.env 0 0 0
theorem w_frames : about1.frames = Frame.invoking theMethod args0 :: below0 := rfl
set_option maxRecDepth 65536 in
theorem w_args : argsFit about1.vm theMethod args0 = true := by decide +kernel
set_option maxRecDepth 65536 in
theorem w_heap : heapFits about1 = true := by decide +kernel
set_option maxRecDepth 65536 in
theorem w_runnable : about1.curStatus? = some .runnable := by decide +kernel
set_option maxRecDepth 65536 in
theorem w_alone : about1.alone = true := by decide +kernel
set_option maxRecDepth 65536 in
theorem w_named : about1.methodNamed? x = some theMethod := by decide +kernel
set_option maxRecDepth 65536 in
theorem w_hears : about1.hears theMethod below0 = true := by decide +kernel
set_option maxRecDepth 65536 in
theorem w_ripe : about1.ripe theMethod args0 below0 = true := by decide +kernel
theorem w_running : about1.status = .running := rfl
set_option maxRecDepth 65536 in
theorem w_room : about1.hasRoom e0.platform room_1 = true :=
  launch0.hasRoom_least _ room_1 (by decide +kernel) (by decide +kernel) (by decide +kernel) (by decide +kernel) (by decide +kernel) (by decide +kernel)
theorem allAtoms_all (ts : List Jvm.Cond) (a : Array Jvm.Value) (st : Jvm.State) : (allAtoms ts).before a st = ts.all (fun c => c.before a st) := by
  induction ts with
  | nil => rfl
  | cons c t ih =>
    show (Jvm.Cond.and c (allAtoms t)).before a st = _
    rw [Jvm.Cond.before_and, ih, List.all_cons]
def words1 : List Jvm.Cond := Jvm.Cond.code x code maxLocals ret :: tables_1
/-- a 'code' word, met by the world's own term for the bytes: nothing is compared byte by byte -/
theorem code_word {y : MethodName} {bytes : ByteArray} {mx : Nat} {rt : Option FieldType} {a : Array Value} {s : State} {m : MethodId} {meth : Method} {c : Code} (h1 : s.methodNamed? y = some m) (h2 : s.vm.method? m = some meth) (h3 : meth.code = some c) (h4 : c.code = bytes)
    (h5 : (c.maxLocals == mx && c.exceptionTable.isEmpty && decide (c.maxStack ≤ mostOperands) && decide (meth.sig.returnType = rt) && !meth.locks && decide (parseMethodDescriptor y.desc = some meth.sig)) = true) : (Jvm.Cond.code y bytes mx rt).before a s = true := by
  simp only [Bool.and_eq_true, beq_iff_eq, Bool.not_eq_true', decide_eq_true_eq] at h5
  obtain ⟨⟨⟨⟨⟨g1, g2⟩, g3⟩, g4⟩, g5⟩, g6⟩ := h5
  simp [Cond.before, Cond.holds, Cond.value, h1, h2, h3, h4, g1, g2, g3, g4, g5, g6]
def isCode : Jvm.Cond → Bool
  | .code _ _ _ _ => true
  | _ => false
theorem all_split {L : List Jvm.Cond} {P : Jvm.Cond → Bool} (h1 : L.all (fun c => isCode c || P c) = true) (h2 : ∀ c ∈ L.filter isCode, P c = true) : L.all P = true := by
  refine List.all_eq_true.mpr fun c hc => ?_
  have h := List.all_eq_true.mp h1 c hc
  rcases Bool.eq_false_or_eq_true (isCode c) with hi | hi
  · exact h2 c (List.mem_filter.mpr ⟨hc, hi⟩)
  · simpa [hi] using h
set_option maxRecDepth 65536 in
theorem w_c0 : (Jvm.Cond.code x code maxLocals ret).before args0 about1 = true := code_word (m := ⟨1, 1⟩) (meth := k1m1) (c := k1c1) (by decide +kernel) rfl rfl rfl (by decide +kernel)
set_option maxRecDepth 65536 in
theorem w_c1 : (Jvm.Cond.code ({ cls := "com/example/octet/octet/protocol/MessageType", name := "carriesQueryId", desc := "(I)Z" } : Jvm.MethodName) prog_25_method_3_code (1 : Nat) (Option.some Jvm.ClassFile.FieldType.boolean)).before args0 about1 = true := code_word (m := ⟨2, 1⟩) (meth := k2m1) (c := k2c1) (by decide +kernel) rfl rfl rfl (by decide +kernel)
def codes1 : List Jvm.Cond := [Jvm.Cond.code x code maxLocals ret, Jvm.Cond.code ({ cls := "com/example/octet/octet/protocol/MessageType", name := "carriesQueryId", desc := "(I)Z" } : Jvm.MethodName) prog_25_method_3_code (1 : Nat) (Option.some Jvm.ClassFile.FieldType.boolean)]
set_option maxRecDepth 65536 in
theorem codes_eq : words1.filter isCode = codes1 := rfl
theorem w_codes : ∀ c ∈ words1.filter isCode, c.before args0 about1 = true := by
  rw [codes_eq]
  intro c hc
  simp only [codes1, List.mem_cons, List.not_mem_nil, or_false] at hc
  rcases hc with rfl | rfl
  · exact w_c0
  · exact w_c1
set_option maxRecDepth 65536 in
theorem w_t1 : words1.all (fun c => isCode c || c.before args0 about1) = true := by decide +kernel
theorem w_tables : (allAtoms (Jvm.Cond.code x code maxLocals ret :: tables_1)).before args0 about1 = true := by
  rw [allAtoms_all]
  show words1.all (fun c => c.before args0 about1) = true
  refine all_split ?_ w_codes
  rw [w_t1]
set_option maxRecDepth 65536 in
theorem w_case : (Jvm.Cond.and given_1 narrow_1).before args0 about1 = true := by decide +kernel
theorem w_applies : (headSpec (Jvm.Cond.code x code maxLocals ret :: tables_1) room_1).applies x e0.platform about1 = true :=
  (Spec.applies_iff w_frames).mpr ⟨w_running, w_runnable, w_alone, w_named, w_hears, w_ripe, w_room, w_tables⟩
theorem atStart : AtStart classFile x code maxLocals ret World_1 tables_1 room_1 Calls_1 rest_1 Pre_1 launch0 p0 e0 about1 theMethod args0 below0 :=
  ⟨lists_1, trivial, launch0.admits_env _ _ _, launch0.least_env, fairChoices_fair.cas, fairChoices_fair.clock, w_frames, w_args, w_heap, w_applies, trivial, trivial, w_case⟩
end start1
theorem witness_1 : WitnessClaimed_1 := ⟨start1.p0, start1.e0, start1.about1, start1.theMethod, start1.args0, start1.below0, start1.atStart⟩
end Jvm.Pilot.@@N@@
