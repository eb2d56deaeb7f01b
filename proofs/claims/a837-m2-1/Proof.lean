import JvmDerived
import JvmDerived.Pilot.@@N@@Statement
import JvmDerived.Pilot.@@N@@Code
set_option linter.unusedVariables false
set_option linter.unusedSimpArgs false
namespace Jvm.Pilot.@@N@@
open Jvm Jvm.ClassFile Sem Op Lib Jvm.Free Jvm.Stand Jvm.LawKit Jvm.RoadKit Bundle Jvm.Pilot.@@N@@.Jvm.D
/-- from S the method comes to its end, and what it leaves answers Q -/
def Rest (tb : Tables) (e : Env) (below : List Frame) (s : State) (Q : Option Value → Heap → List Loc → Prop) (k n : Nat) (S : State) : Prop :=
  ∃ t o, Steps tb e below S t ∧ t.status = .running ∧ Ended t below o ∧ ∃ v L, o = .returned v ∧ Q v t.heap L ∧ FrameEnd s o t L k n
theorem Rest.via {tb : Tables} {e : Env} {below : List Frame} {s : State} {Q : Option Value → Heap → List Loc → Prop} {k n : Nat} {S S' : State} (h : ∀ t, Steps tb e below S' t → Steps tb e below S t) (r : Rest tb e below s Q k n S') : Rest tb e below s Q k n S := by
  obtain ⟨t, o, h1, h2⟩ := r; exact ⟨t, o, h t h1, h2⟩
theorem Rest.ret {p : Program} {l : Launch} {e : Env} {R : Room} {s : State} {m : MethodId} {args : Array Value} {below : List Frame} {meth : Method} {c : Code} {T : State} {locs : List Loc} {cells slots : Nat} {Q : Option Value → Heap → List Loc → Prop} {k n : Nat} {S : State} {v : Option Value}
    (X : Stand p l e R s m args below meth c T locs cells slots) (hv : meth.sig.returnType = none → v = none) (hlocks : meth.locks = false)
    (st : ∀ fs, (∀ (f : JFrame) (acts : List Action), f.method = m → f.locked = none → f.entered = [] → (doReturn e (T.setTop f) acts v).1 = T.setFrames fs) → Steps p.tables e below S (T.setFrames fs))
    (hq : Q v T.heap locs) (hk : cells ≤ k) (hn : slots ≤ n) : Rest p.tables e below s Q k n S := by
  obtain ⟨fs, hr, hrun, hended, hW, hsame⟩ := X.leave (v := v) hv hlocks
  exact ⟨_, _, st fs hr, hrun, hended, _, _, rfl, hq, ⟨_, rfl⟩, hW, hsame.mono hk hn⟩
theorem own_arrk {Z : State} {h h' : Heap} {y : Addr} {cl : Cell} {ty : FieldType} {ws : List Addr} (A : Arr Z h y cl ty) (K : Keep h h' ws) : ∃ cl' : Cell, Arr Z h' y cl' ty ∧ cl'.cls = cl.cls ∧ cl'.slots.size = cl.slots.size := by
  obtain ⟨c', h1, h2, h3, h4⟩ := K.2.2 y cl A.1
  exact ⟨c', ⟨h1, ⟨fun k => h3 ▸ A.2.1.1 k, h2 ▸ A.2.1.2⟩, h3 ▸ A.2.2⟩, h2, h4⟩
def own_BA (Z : State) (h : Heap) (y : Addr) (n : Int32) : Prop := Exa Z h y "[B" ∧ ∃ cl : Cell, Arr Z h y cl .byte ∧ cl.slots.size = n.toNatClampNeg ∧ ¬ n < 0
theorem own_BA_keep {Z : State} {h h' : Heap} {y : Addr} {n : Int32} {ws : List Addr} (F : own_BA Z h y n) (K : Keep h h' ws) : own_BA Z h' y n := by
  obtain ⟨E, cl, A, s, q⟩ := F
  obtain ⟨cl', A', -, s'⟩ := own_arrk A K
  exact ⟨E.keep K, cl', A', s'.trans s, q⟩
def own_OA (Z : State) (h : Heap) (y : Addr) (n : Int32) : Prop := ∃ cl : Cell, Arr Z h y cl (.object "java/lang/Object") ∧ cl.slots.size = n.toNatClampNeg ∧ ¬ n < 0 ∧ Ovr Z cl.cls "java/lang/Object"
theorem own_OA_keep {Z : State} {h h' : Heap} {y : Addr} {n : Int32} {ws : List Addr} (F : own_OA Z h y n) (K : Keep h h' ws) : own_OA Z h' y n := by
  obtain ⟨cl, A, s, q, O⟩ := F
  obtain ⟨cl', A', e, s'⟩ := own_arrk A K
  exact ⟨cl', A', s'.trans s, q, e ▸ O⟩
def own_DE (Z : State) (h : Heap) (de : Addr) : Prop := Sta Z h "java/util/ArrayList" "DEFAULTCAPACITY_EMPTY_ELEMENTDATA" "[Ljava/lang/Object;" (.ref de) ∧ ∃ cl : Cell, Arr Z h de cl (.object "java/lang/Object") ∧ cl.slots.size = (0 : Int32).toNatClampNeg ∧ ¬ (0 : Int32) < 0
theorem own_DE_ext {Z : State} {h h' : Heap} {de : Addr} (E : Ext h h') (F : own_DE Z h de) : own_DE Z h' de := by
  obtain ⟨S, cl, A, r⟩ := F
  exact ⟨S.ext E, cl, A.ext E, r⟩
def own_AL (Z : State) (h : Heap) (a ed : Addr) (sz : Int32) : Prop := Exa Z h a "java/util/ArrayList" ∧ (∃ mc : Int32, Fld Z h a "java/util/AbstractList" "modCount" "I" (.int mc)) ∧ Fld Z h a "java/util/ArrayList" "elementData" "[Ljava/lang/Object;" (.ref ed) ∧ Fld Z h a "java/util/ArrayList" "size" "I" (.int sz)
theorem own_AL_keep {Z : State} {h h' : Heap} {a ed : Addr} {sz : Int32} {ws : List Addr} (F : own_AL Z h a ed sz) (K : Keep h h' ws) (q : a ∉ ws) : own_AL Z h' a ed sz := by
  obtain ⟨E, ⟨mc, M⟩, D, S⟩ := F
  exact ⟨E.keep K, ⟨mc, M.keep K q⟩, D.keep K q, S.keep K q⟩
def own_LF (Z : State) (h : Heap) (r : Addr) (lk wb : Int64) (pt : Value) : Prop := Exa Z h r "com/example/reknit/reknit/LogRecord" ∧ Fld Z h r "com/example/reknit/reknit/LogRecord" "link" "J" (.long lk) ∧ Fld Z h r "com/example/reknit/reknit/LogRecord" "writeBytes" "J" (.long wb) ∧ Fld Z h r "com/example/reknit/reknit/LogRecord" "partner" "Lcom/example/reknit/reknit/LogRecord;" pt
theorem own_LF_keep {Z : State} {h h' : Heap} {r : Addr} {lk wb : Int64} {pt : Value} {ws : List Addr} (F : own_LF Z h r lk wb pt) (K : Keep h h' ws) (q : r ∉ ws) : own_LF Z h' r lk wb pt := by
  obtain ⟨E, a, b, d⟩ := F
  exact ⟨E.keep K, a.keep K q, b.keep K q, d.keep K q⟩
def own_LK (Z : State) (h : Heap) (r ks vs : Addr) : Prop := Fld Z h r "com/example/reknit/reknit/LogRecord" "keys" "Ljava/util/List;" (.ref ks) ∧ Fld Z h r "com/example/reknit/reknit/LogRecord" "values" "Ljava/util/List;" (.ref vs) ∧ r ≠ ks ∧ r ≠ vs ∧ ks ≠ vs
def own_LR0 (Z : State) (h : Heap) (r ks vs de : Addr) (lk wb : Int64) (pt : Value) : Prop := own_LF Z h r lk wb pt ∧ own_LK Z h r ks vs ∧ own_AL Z h ks de 0 ∧ own_AL Z h vs de 0
theorem own_LR0_keep {Z : State} {h h' : Heap} {r ks vs de : Addr} {lk wb : Int64} {pt : Value} {ws : List Addr} (F : own_LR0 Z h r ks vs de lk wb pt) (K : Keep h h' ws) (q1 : r ∉ ws) (q2 : ks ∉ ws) (q3 : vs ∉ ws) : own_LR0 Z h' r ks vs de lk wb pt := by
  obtain ⟨a, ⟨b1, b2, b3⟩, d, e⟩ := F
  exact ⟨own_LF_keep a K q1, ⟨b1.keep K q1, b2.keep K q1, b3⟩, own_AL_keep d K q2, own_AL_keep e K q3⟩
def own_LR1 (Z : State) (h : Heap) (r ks vs kb vb : Addr) (lk wb : Int64) (pt : Value) : Prop := own_LF Z h r lk wb pt ∧ own_LK Z h r ks vs ∧ own_AL Z h ks kb 1 ∧ own_OA Z h kb 10 ∧ own_AL Z h vs vb 1 ∧ own_OA Z h vb 10 ∧ r ≠ kb ∧ ks ≠ kb ∧ vs ≠ kb ∧ r ≠ vb ∧ ks ≠ vb ∧ vs ≠ vb ∧ kb ≠ vb
def own_ws (z k v : Int32) : Int64 := if z = (0 : Int32) then (((5 : Int32) + k).toInt64) else (((((5 : Int32) + k) + (4 : Int32)) + v).toInt64)
def own_bb (lk wb pw : Int64) : Int64 := ((if lk = (0 : Int64) then (0 : Int32) else (13 : Int32)).toInt64 + wb) + pw
def own_lk (b : Int32) (l : Int64) : Int64 := if b = (0 : Int32) then 0 else l
def own_x1 (b : Int32) (l : Int64) : Int64 := if b = (0 : Int32) then 0 else if l = (0 : Int64) then 0 else ((0 : Int64) + (13 : Int64))
def own_wn (i n b k v : Int32) : Int64 := if n < i then 0 else own_ws b k v
def own_wp (c b k v : Int32) : Int64 := if c = (0 : Int32) then 0 else own_ws b k v
def own_wc (d c b k v : Int32) : Int64 := if d = (0 : Int32) then 0 else own_wp c b k v
theorem own_x1_eq (b : Int32) (l : Int64) : (if own_lk b l = (0 : Int64) then (0 : Int32) else (13 : Int32)).toInt64 = own_x1 b l := by
  unfold own_lk own_x1
  by_cases h : b = (0 : Int32)
  · rw [if_pos h, if_pos h]; decide
  · rw [if_neg h, if_neg h]
    by_cases g : l = (0 : Int64)
    · rw [if_pos g, if_pos g]; decide
    · rw [if_neg g, if_neg g]; decide
theorem own_final {b12 b13 b14 b15 b16 b18 n k1 v1 k2 v2 pk pv : Int32} {l lk wR wP pw x : Int64} (hlk : lk = own_lk b12 l) (hwR : wR = own_wn 1 n b13 k1 v1 + own_wn 2 n b14 k2 v2) (hwP : wP = own_wp b18 b16 pk pv) (hpw : pw = if b15 = (0 : Int32) then 0 else wP) (hx : x = ((own_x1 b12 l + own_wn 1 n b13 k1 v1) + own_wn 2 n b14 k2 v2) + own_wc b15 b18 b16 pk pv) : own_bb lk wR pw = x := by
  subst hlk hwR hx
  have hp : pw = own_wc b15 b18 b16 pk pv := by rw [hpw, hwP]; rfl
  rw [hp]
  unfold own_bb
  rw [own_x1_eq]
  simp only [Int64.add_assoc]
theorem own_m15 (x : Int32) : ¬ (x &&& (15 : Int32)) < (0 : Int32) ∧ (x &&& (15 : Int32)).toNatClampNeg ≤ 15 := by
  have e := c_mask x 15 4 (by decide) (by decide)
  have h1 := Int.emod_nonneg x.toInt (b := ((2 ^ 4 : Nat) : Int)) (by decide)
  have h2 := Int.emod_lt_of_pos x.toInt (b := ((2 ^ 4 : Nat) : Int)) (by decide)
  have e0 : (0 : Int32).toInt = 0 := by decide
  have hn : ¬ (x &&& (15 : Int32)) < (0 : Int32) := by rw [Int32.lt_iff_toInt_lt]; omega
  have h := nat_of hn
  exact ⟨hn, by omega⟩
theorem d5_0 : decode jdk_22_method_1_code 0 = .ok (.aload_n 0, 1) := by decide +kernel
theorem d5_1 : decode jdk_22_method_1_code 1 = .ok (.invokespecial 1, 3) := by decide +kernel
theorem d5_4 : decode jdk_22_method_1_code 4 = .ok (.return_, 1) := by decide +kernel
theorem pn_0 : plainName "java/util/AbstractCollection" = true := by first | (simp [plainName, overriddenIn]; done) | decide +kernel
theorem ef_AC (m : MethodId) (a0 : Addr) : entryFrame m #[(.ref a0)] 1 = mkF m 0 #[.val (.ref a0)] [] := by first | (simp [entryFrame, mkF, argsToLocals, Value.category, maxLocals]; done) | rfl
def QAC (Z : State) (a0 : Addr) (h0 : Heap) (n0 : Nat) (v : Option Value) (h : Heap) (L : List Loc) : Prop := v = none ∧ Fr n0 L ∧ h = h0
set_option maxRecDepth 65536 in
set_option maxHeartbeats 40000000 in
theorem rmAC (l : Launch) (Z : State) (aw : Array Value) (hw : ∀ d ∈ tables_1, d.before aw Z = true) (ws : List Jvm.Cond) (a0 : Addr) (h0 : Heap) (n0 : Nat) (Z0 : n0 ≤ h0.size)  :
    MetFree l (⟨"java/util/AbstractCollection", "<init>", "()V"⟩ : MethodName) (head1 (Jvm.Cond.code (⟨"java/util/AbstractCollection", "<init>", "()V"⟩ : MethodName) jdk_22_method_1_code 1 none :: ws) ({ frames := 1, cells := 0, slots := 0, locals := 12 } : Room)) (fun a U => a = #[(.ref a0)] ∧ Z.Warmed39 U.vm ∧ U.heap = h0) (fun _ _ _ _ _ => True) (fun _ U o U' => ∃ v L, o = .returned v ∧ QAC Z a0 h0 n0 v U'.heap L ∧ FrameEnd U o U' L ({ frames := 1, cells := 0, slots := 0, locals := 12 } : Room).cells ({ frames := 1, cells := 0, slots := 0, locals := 12 } : Room).slots) := by
  refine MetFree.of_bodySF (plainFor_of_name pn_0) hisR ?_
  intro p e s m args below meth c s₁ Bd hml0 hP hK
  obtain ⟨rfl, hZ, hh⟩ := hP
  have hx := Bd.exec
  have hby := Bd.bytes
  have hml : c.maxLocals = 1 := hml0
  have hown : s.vm.findClass "java/util/AbstractCollection" = some m.cls := findClass_of_methodNamed Bd.named
  have hnm := (name_of_methodNamed Bd.named Bd.method).1
  have hlk : meth.locks = false := BodyLoose.notSynchronized Bd
  have X0 : Stand p l e ({ frames := 1, cells := 0, slots := 0, locals := 12 } : Room) s m #[(.ref a0)] below meth c s₁ [] 0 0 := Stand.of_body Bd
  have eh0 : s₁.heap = h0 := by rw [← hh, Bd.state]; rfl
  have N0 := Fr.nil n0
  show Rest p.tables e below s (QAC Z a0 h0 n0) _ _ (s₁.setTop (entryFrame m #[(.ref a0)] 1))
  refine Rest.via (fun t k => castTop (ef_AC m a0) k) ?_
  show Rest p.tables e below s _ _ _ (s₁.setTop (mkF m 0 #[.val (.ref a0)] []))
  refine Rest.via (fun t k => XS.aloadN X0.here hx rfl (hb hby d5_0) rfl rfl k) ?_
  show Rest p.tables e below s _ _ _ (s₁.setTop (mkF m 1 #[.val (.ref a0)] [(.ref a0)]))
  obtain ⟨T1, X1, e1, st1⟩ := initO X0 hx hZ hown (hw _ (List.mem_of_getElem? (i := 28) rfl)) (hw _ (List.mem_of_getElem? (i := 8) rfl)) (hw _ (List.mem_of_getElem? (i := 9) rfl)) eh0 (g := (mkF m 1 #[.val (.ref a0)] [(.ref a0)])) rfl (by rw [hml]; rfl) rfl (hb hby d5_1) (by decide) (W := 0) (by show 2 * 0 + _ ≤ _; exact Nat.le_of_eq rfl) (by decide)
  refine Rest.via (fun t k => st1 t k) ?_
  show Rest p.tables e below s _ _ _ (T1.setTop (mkF m 4 #[.val (.ref a0)] []))
  refine Rest.ret X1 (v := none) (fun _ => rfl) hlk (fun fs hr => X1.returnOut hx Bd.returns (hb hby d5_4) hr) ?_ (by decide) (by decide)
  rw [e1]
  exact ⟨rfl, N0, rfl⟩
theorem pd_0 : parseMethodDescriptor "()V" = some ⟨[], none⟩ := by decide +kernel
theorem d4_0 : decode jdk_39_method_1_code 0 = .ok (.aload_n 0, 1) := by decide +kernel
theorem d4_1 : decode jdk_39_method_1_code 1 = .ok (.invokespecial 1, 3) := by decide +kernel
theorem d4_4 : decode jdk_39_method_1_code 4 = .ok (.aload_n 0, 1) := by decide +kernel
theorem d4_5 : decode jdk_39_method_1_code 5 = .ok (.iconst 0, 1) := by decide +kernel
theorem d4_6 : decode jdk_39_method_1_code 6 = .ok (.putfield 7, 3) := by decide +kernel
theorem d4_9 : decode jdk_39_method_1_code 9 = .ok (.return_, 1) := by decide +kernel
theorem pn_1 : plainName "java/util/AbstractList" = true := by first | (simp [plainName, overriddenIn]; done) | decide +kernel
theorem ef_AB (m : MethodId) (a0 : Addr) : entryFrame m #[(.ref a0)] 1 = mkF m 0 #[.val (.ref a0)] [] := by first | (simp [entryFrame, mkF, argsToLocals, Value.category, maxLocals]; done) | rfl
def QAB (Z : State) (a0 : Addr) (h0 : Heap) (n0 : Nat) (v : Option Value) (h : Heap) (L : List Loc) : Prop := v = none ∧ Fr n0 L ∧ Keep h0 h [a0] ∧ Fld Z h a0 "java/util/AbstractList" "modCount" "I" (.int (0 : Int32)) ∧ Fld Z h a0 "java/util/ArrayList" "elementData" "[Ljava/lang/Object;" .null ∧ Fld Z h a0 "java/util/ArrayList" "size" "I" (.int (0 : Int32))
set_option maxRecDepth 65536 in
set_option maxHeartbeats 40000000 in
theorem rmAB (l : Launch) (Z : State) (aw : Array Value) (hw : ∀ d ∈ tables_1, d.before aw Z = true) (ws : List Jvm.Cond) (a0 : Addr) (h0 : Heap) (n0 : Nat) (Z0 : n0 ≤ h0.size) (E_a0 : Exa Z h0 a0 "java/util/ArrayList") (F_mc : Fld Z h0 a0 "java/util/AbstractList" "modCount" "I" (.int (0 : Int32))) (F_ed : Fld Z h0 a0 "java/util/ArrayList" "elementData" "[Ljava/lang/Object;" .null) (F_sz : Fld Z h0 a0 "java/util/ArrayList" "size" "I" (.int (0 : Int32))) (g_a0 : n0 ≤ a0) :
    MetFree l (⟨"java/util/AbstractList", "<init>", "()V"⟩ : MethodName) (head1 (Jvm.Cond.code (⟨"java/util/AbstractList", "<init>", "()V"⟩ : MethodName) jdk_39_method_1_code 1 none :: ws) ({ frames := 2, cells := 0, slots := 0, locals := 24 } : Room)) (fun a U => a = #[(.ref a0)] ∧ Z.Warmed39 U.vm ∧ U.heap = h0) (fun _ _ _ _ _ => True) (fun _ U o U' => ∃ v L, o = .returned v ∧ QAB Z a0 h0 n0 v U'.heap L ∧ FrameEnd U o U' L ({ frames := 2, cells := 0, slots := 0, locals := 24 } : Room).cells ({ frames := 2, cells := 0, slots := 0, locals := 24 } : Room).slots) := by
  refine MetFree.of_bodySF (plainFor_of_name pn_1) hisR ?_
  intro p e s m args below meth c s₁ Bd hml0 hP hK
  obtain ⟨rfl, hZ, hh⟩ := hP
  have hx := Bd.exec
  have hby := Bd.bytes
  have hml : c.maxLocals = 1 := hml0
  have hown : s.vm.findClass "java/util/AbstractList" = some m.cls := findClass_of_methodNamed Bd.named
  have hnm := (name_of_methodNamed Bd.named Bd.method).1
  have hlk : meth.locks = false := BodyLoose.notSynchronized Bd
  have X0 : Stand p l e ({ frames := 2, cells := 0, slots := 0, locals := 24 } : Room) s m #[(.ref a0)] below meth c s₁ [] 0 0 := Stand.of_body Bd
  have eh0 : s₁.heap = h0 := by rw [← hh, Bd.state]; rfl
  have N0 := Fr.nil n0
  show Rest p.tables e below s (QAB Z a0 h0 n0) _ _ (s₁.setTop (entryFrame m #[(.ref a0)] 1))
  refine Rest.via (fun t k => castTop (ef_AB m a0) k) ?_
  show Rest p.tables e below s _ _ _ (s₁.setTop (mkF m 0 #[.val (.ref a0)] []))
  refine Rest.via (fun t k => XS.aloadN X0.here hx rfl (hb hby d4_0) rfl rfl k) ?_
  show Rest p.tables e below s _ _ _ (s₁.setTop (mkF m 1 #[.val (.ref a0)] [(.ref a0)]))
  obtain ⟨_, _, ⟨T1, L1, k1, n1⟩, -, X1, ⟨Lc1, hQ1, l1, y1, z1⟩, st1⟩ := X0.specialBack hx (y := (⟨"java/util/AbstractCollection", "<init>", "()V"⟩ : MethodName)) rfl hown (mvT hZ (hw _ (List.mem_of_getElem? (i := 22) rfl))) (mvT hZ (hw _ (List.mem_of_getElem? (i := 23) rfl))) (mvT hZ (hw _ (List.mem_of_getElem? (i := 27) rfl))) (by decide) (backOf (W := 0) (rmAC l Z aw hw [] a0  h0 n0 (Nat.le_trans Z0 (Keep.refl h0 [a0]).1) ) hZ (hw _ (List.mem_of_getElem? (i := 27) rfl)) (hw _ (List.mem_of_getElem? (i := 26) rfl)) (by decide) (by decide)) (g := (mkF m 1 #[.val (.ref a0)] [(.ref a0)])) rfl (by rw [hml]; rfl) (Steps.refl _) (a := a0) (argsL := []) (rest := []) (lenOf pd_0 rfl) rfl (by show 2 * 0 + _ ≤ _; exact Nat.le_of_eq rfl) (hb hby d4_1) (fun _ _ => ⟨rfl, eh0, (by decide : 0 + 0 ≤ _), (by decide : 0 + 0 ≤ _)⟩)
  dsimp only [Pt.U, Pt.locs, Pt.cells, Pt.slots] at X1 l1 y1 z1 st1 hQ1
  subst l1 y1 z1
  obtain ⟨rfl, Nq1, e1⟩ := hQ1
  have N1 := Fr.app N0 Nq1
  refine Rest.via (fun t k => st1.trans k) ?_
  show Rest p.tables e below s _ _ _ (T1.setTop (mkF m 4 #[.val (.ref a0)] []))
  refine Rest.via (fun t k => XS.aloadN X1.here hx rfl (hb hby d4_4) rfl rfl k) ?_
  show Rest p.tables e below s _ _ _ (T1.setTop (mkF m 5 #[.val (.ref a0)] [(.ref a0)]))
  refine Rest.via (fun t k => XS.iconst X1.here hx rfl (hb hby d4_5) k) ?_
  show Rest p.tables e below s _ _ _ (T1.setTop (mkF m 6 #[.val (.ref a0)] [(.int (0 : Int32)), (.ref a0)]))
  have Fo2 := F_mc
  obtain ⟨T2, h2, X2, e2, W2, st2⟩ := putF X1 hx hZ hown (host := "") (Or.inl (hw _ (List.mem_of_getElem? (i := 29) rfl))) Via.refl e1 Fo2 E_a0 (Or.inl (hw _ (List.mem_of_getElem? (i := 30) rfl))) (hw _ (List.mem_of_getElem? (i := 11) rfl)) (ty := .int) (by decide) rfl rfl (g := (mkF m 6 #[.val (.ref a0)] [(.int (0 : Int32)), (.ref a0)])) rfl rfl (hb hby d4_6)
  refine Rest.via (fun t k => st2 t k) ?_
  have N2 := Fr.snoc X2 N1 g_a0
  have K2 : Keep h0 h2 [a0] := (Keep.refl h0 [a0]).wr W2 (Or.inl (List.mem_of_getElem? (i := 0) rfl))
  have Fw2 := Fo2.same W2
  show Rest p.tables e below s _ _ _ (T2.setTop (mkF m 9 #[.val (.ref a0)] []))
  refine Rest.ret X2 (v := none) (fun _ => rfl) hlk (fun fs hr => X2.returnOut hx Bd.returns (hb hby d4_9) hr) ?_ (by decide) (by decide)
  rw [e2]
  exact ⟨rfl, N2, K2, Fw2, (F_ed.other W2 (Or.inr (slot_ne (Or.inl (hw _ (List.mem_of_getElem? (i := 33) rfl))) (Or.inl (hw _ (List.mem_of_getElem? (i := 30) rfl))) (by decide) (t := (.array (.object "java/lang/Object"))) (t' := .int) (by decide) (by decide)))), (F_sz.other W2 (Or.inr (slot_ne (Or.inl (hw _ (List.mem_of_getElem? (i := 77) rfl))) (Or.inl (hw _ (List.mem_of_getElem? (i := 30) rfl))) (by decide) (t := .int) (t' := .int) (by decide) (by decide))))⟩
theorem d3_0 : decode jdk_38_method_2_code 0 = .ok (.aload_n 0, 1) := by decide +kernel
theorem d3_1 : decode jdk_38_method_2_code 1 = .ok (.invokespecial 1, 3) := by decide +kernel
theorem d3_4 : decode jdk_38_method_2_code 4 = .ok (.aload_n 0, 1) := by decide +kernel
theorem d3_5 : decode jdk_38_method_2_code 5 = .ok (.getstatic 39, 3) := by decide +kernel
theorem d3_8 : decode jdk_38_method_2_code 8 = .ok (.putfield 9, 3) := by decide +kernel
theorem d3_11 : decode jdk_38_method_2_code 11 = .ok (.return_, 1) := by decide +kernel
theorem pn_2 : plainName "java/util/ArrayList" = true := by first | (simp [plainName, overriddenIn]; done) | decide +kernel
theorem ef_AI (m : MethodId) (a0 : Addr) : entryFrame m #[(.ref a0)] 1 = mkF m 0 #[.val (.ref a0)] [] := by first | (simp [entryFrame, mkF, argsToLocals, Value.category, maxLocals]; done) | rfl
def QAI (Z : State) (a0 : Addr) (de : Addr) (h0 : Heap) (n0 : Nat) (v : Option Value) (h : Heap) (L : List Loc) : Prop := v = none ∧ Fr n0 L ∧ Keep h0 h [a0] ∧ own_AL Z h a0 de 0
set_option maxRecDepth 65536 in
set_option maxHeartbeats 40000000 in
theorem rmAI (l : Launch) (Z : State) (aw : Array Value) (hw : ∀ d ∈ tables_1, d.before aw Z = true) (ws : List Jvm.Cond) (a0 : Addr) (de : Addr) (h0 : Heap) (n0 : Nat) (Z0 : n0 ≤ h0.size) (E_a0 : Exa Z h0 a0 "java/util/ArrayList") (F_mc : Fld Z h0 a0 "java/util/AbstractList" "modCount" "I" (.int (0 : Int32))) (F_ed : Fld Z h0 a0 "java/util/ArrayList" "elementData" "[Ljava/lang/Object;" .null) (F_sz : Fld Z h0 a0 "java/util/ArrayList" "size" "I" (.int (0 : Int32))) (g_a0 : n0 ≤ a0) (O : Old Z n0 h0) (DE0 : own_DE Z Z.heap de) :
    MetFree l (⟨"java/util/ArrayList", "<init>", "()V"⟩ : MethodName) (head1 (Jvm.Cond.code (⟨"java/util/ArrayList", "<init>", "()V"⟩ : MethodName) jdk_38_method_2_code 1 none :: ws) ({ frames := 3, cells := 0, slots := 0, locals := 36 } : Room)) (fun a U => a = #[(.ref a0)] ∧ Z.Warmed39 U.vm ∧ U.heap = h0) (fun _ _ _ _ _ => True) (fun _ U o U' => ∃ v L, o = .returned v ∧ QAI Z a0 de h0 n0 v U'.heap L ∧ FrameEnd U o U' L ({ frames := 3, cells := 0, slots := 0, locals := 36 } : Room).cells ({ frames := 3, cells := 0, slots := 0, locals := 36 } : Room).slots) := by
  refine MetFree.of_bodySF (plainFor_of_name pn_2) hisR ?_
  intro p e s m args below meth c s₁ Bd hml0 hP hK
  obtain ⟨rfl, hZ, hh⟩ := hP
  have hx := Bd.exec
  have hby := Bd.bytes
  have hml : c.maxLocals = 1 := hml0
  have hown : s.vm.findClass "java/util/ArrayList" = some m.cls := findClass_of_methodNamed Bd.named
  have hnm := (name_of_methodNamed Bd.named Bd.method).1
  have hlk : meth.locks = false := BodyLoose.notSynchronized Bd
  have X0 : Stand p l e ({ frames := 3, cells := 0, slots := 0, locals := 36 } : Room) s m #[(.ref a0)] below meth c s₁ [] 0 0 := Stand.of_body Bd
  have eh0 : s₁.heap = h0 := by rw [← hh, Bd.state]; rfl
  have N0 := Fr.nil n0
  show Rest p.tables e below s (QAI Z a0 de h0 n0) _ _ (s₁.setTop (entryFrame m #[(.ref a0)] 1))
  refine Rest.via (fun t k => castTop (ef_AI m a0) k) ?_
  show Rest p.tables e below s _ _ _ (s₁.setTop (mkF m 0 #[.val (.ref a0)] []))
  refine Rest.via (fun t k => XS.aloadN X0.here hx rfl (hb hby d3_0) rfl rfl k) ?_
  show Rest p.tables e below s _ _ _ (s₁.setTop (mkF m 1 #[.val (.ref a0)] [(.ref a0)]))
  obtain ⟨_, _, ⟨T1, L1, k1, n1⟩, -, X1, ⟨Lc1, hQ1, l1, y1, z1⟩, st1⟩ := X0.specialBack hx (y := (⟨"java/util/AbstractList", "<init>", "()V"⟩ : MethodName)) rfl hown (mvT hZ (hw _ (List.mem_of_getElem? (i := 16) rfl))) (mvT hZ (hw _ (List.mem_of_getElem? (i := 17) rfl))) (mvT hZ (hw _ (List.mem_of_getElem? (i := 21) rfl))) (by decide) (backOf (W := 0) (rmAB l Z aw hw [] a0  h0 n0 (Nat.le_trans Z0 (Keep.refl h0 [a0]).1) E_a0 F_mc F_ed F_sz g_a0) hZ (hw _ (List.mem_of_getElem? (i := 21) rfl)) (hw _ (List.mem_of_getElem? (i := 20) rfl)) (by decide) (by decide)) (g := (mkF m 1 #[.val (.ref a0)] [(.ref a0)])) rfl (by rw [hml]; rfl) (Steps.refl _) (a := a0) (argsL := []) (rest := []) (lenOf pd_0 rfl) rfl (by show 2 * 0 + _ ≤ _; exact Nat.le_of_eq rfl) (hb hby d3_1) (fun _ _ => ⟨rfl, eh0, (by decide : 0 + 0 ≤ _), (by decide : 0 + 0 ≤ _)⟩)
  dsimp only [Pt.U, Pt.locs, Pt.cells, Pt.slots] at X1 l1 y1 z1 st1 hQ1
  subst l1 y1 z1
  obtain ⟨h1, e1⟩ : ∃ z, T1.heap = z := ⟨_, rfl⟩
  rw [e1] at hQ1
  obtain ⟨rfl, Nq1, Kq1, Fm1, Fe1, Fs1⟩ := hQ1
  have N1 := Fr.app N0 Nq1
  have K1 : Keep h0 h1 [a0] := (Keep.refl h0 [a0]).trans Kq1 (allS (Or.inl (List.mem_of_getElem? (i := 0) rfl)) all0)
  refine Rest.via (fun t k => st1.trans k) ?_
  show Rest p.tables e below s _ _ _ (T1.setTop (mkF m 4 #[.val (.ref a0)] []))
  refine Rest.via (fun t k => XS.aloadN X1.here hx rfl (hb hby d3_4) rfl rfl k) ?_
  show Rest p.tables e below s _ _ _ (T1.setTop (mkF m 5 #[.val (.ref a0)] [(.ref a0)]))
  obtain ⟨T2, X2, e2, st2⟩ := getS2 X1 hx hZ hown (host := "") (Or.inl (hw _ (List.mem_of_getElem? (i := 31) rfl))) Via.refl e1 (own_DE_ext (O.keep K1 (allS g_a0 all0)).2 DE0).1 (g := (mkF m 5 #[.val (.ref a0)] [(.ref a0)])) rfl (hb hby d3_5)
  refine Rest.via (fun t k => st2 t k) ?_
  show Rest p.tables e below s _ _ _ (T2.setTop (mkF m 8 #[.val (.ref a0)] [(.ref de), (.ref a0)]))
  have Fo3 := Fe1
  obtain ⟨T3, h3, X3, e3, W3, st3⟩ := putF X2 hx hZ hown (host := "") (Or.inl (hw _ (List.mem_of_getElem? (i := 32) rfl))) Via.refl e2 Fo3 (E_a0.keep Kq1) (Or.inl (hw _ (List.mem_of_getElem? (i := 33) rfl))) (hw _ (List.mem_of_getElem? (i := 11) rfl)) (ty := (.array (.object "java/lang/Object"))) (by decide) rfl rfl (g := (mkF m 8 #[.val (.ref a0)] [(.ref de), (.ref a0)])) rfl rfl (hb hby d3_8)
  refine Rest.via (fun t k => st3 t k) ?_
  have N3 := Fr.snoc X3 N1 g_a0
  have K3 : Keep h0 h3 [a0] := K1.wr W3 (Or.inl (List.mem_of_getElem? (i := 0) rfl))
  have Fw3 := Fo3.same W3
  show Rest p.tables e below s _ _ _ (T3.setTop (mkF m 11 #[.val (.ref a0)] []))
  refine Rest.ret X3 (v := none) (fun _ => rfl) hlk (fun fs hr => X3.returnOut hx Bd.returns (hb hby d3_11) hr) ?_ (by decide) (by decide)
  rw [e3]
  exact ⟨rfl, N3, K3, ⟨((E_a0.keep Kq1).wr W3), ⟨_, (Fm1.other W3 (Or.inr (slot_ne (Or.inl (hw _ (List.mem_of_getElem? (i := 30) rfl))) (Or.inl (hw _ (List.mem_of_getElem? (i := 33) rfl))) (by decide) (t := .int) (t' := (.array (.object "java/lang/Object"))) (by decide) (by decide))))⟩, Fw3, (Fs1.other W3 (Or.inr (slot_ne (Or.inl (hw _ (List.mem_of_getElem? (i := 77) rfl))) (Or.inl (hw _ (List.mem_of_getElem? (i := 33) rfl))) (by decide) (t := .int) (t' := (.array (.object "java/lang/Object"))) (by decide) (by decide))))⟩⟩
theorem d14_0 : decode jdk_29_method_65_code 0 = .ok (.iload_n 0, 1) := by decide +kernel
theorem d14_1 : decode jdk_29_method_65_code 1 = .ok (.iload_n 1, 1) := by decide +kernel
theorem d14_2 : decode jdk_29_method_65_code 2 = .ok (.if_icmp .lt 7, 3) := by decide +kernel
theorem d14_5 : decode jdk_29_method_65_code 5 = .ok (.iload_n 0, 1) := by decide +kernel
theorem d14_6 : decode jdk_29_method_65_code 6 = .ok (.goto 4, 3) := by decide +kernel
theorem d14_10 : decode jdk_29_method_65_code 10 = .ok (.ireturn, 1) := by decide +kernel
theorem ef_MX (m : MethodId)  : entryFrame m #[(.int (10 : Int32)), (.int (1 : Int32))] 2 = mkF m 0 #[.val (.int (10 : Int32)), .val (.int (1 : Int32))] [] := by first | (simp [entryFrame, mkF, argsToLocals, Value.category, maxLocals]; done) | rfl
def QMX (Z : State)  (h0 : Heap) (n0 : Nat) (v : Option Value) (h : Heap) (L : List Loc) : Prop := v = some (.int (10 : Int32)) ∧ Fr n0 L ∧ h = h0
set_option maxRecDepth 65536 in
set_option maxHeartbeats 40000000 in
theorem rmMX (l : Launch) (Z : State) (aw : Array Value) (hw : ∀ d ∈ tables_1, d.before aw Z = true) (ws : List Jvm.Cond)  (h0 : Heap) (n0 : Nat) (Z0 : n0 ≤ h0.size)  :
    MetFree l (⟨"java/lang/Math", "max", "(II)I"⟩ : MethodName) (head1 (Jvm.Cond.code (⟨"java/lang/Math", "max", "(II)I"⟩ : MethodName) jdk_29_method_65_code 2 (some .int) :: ws) ({ frames := 0, cells := 0, slots := 0, locals := 0 } : Room)) (fun a U => a = #[(.int (10 : Int32)), (.int (1 : Int32))] ∧ Z.Warmed39 U.vm ∧ U.heap = h0) (fun _ _ _ _ _ => True) (fun _ U o U' => ∃ v L, o = .returned v ∧ QMX Z  h0 n0 v U'.heap L ∧ FrameEnd U o U' L ({ frames := 0, cells := 0, slots := 0, locals := 0 } : Room).cells ({ frames := 0, cells := 0, slots := 0, locals := 0 } : Room).slots) := by
  refine MetFree.of_bodySF (by decide +kernel) hisR ?_
  intro p e s m args below meth c s₁ Bd hml0 hP hK
  obtain ⟨rfl, hZ, hh⟩ := hP
  have hx := Bd.exec
  have hby := Bd.bytes
  have hml : c.maxLocals = 2 := hml0
  have hown : s.vm.findClass "java/lang/Math" = some m.cls := findClass_of_methodNamed Bd.named
  have hnm := (name_of_methodNamed Bd.named Bd.method).1
  have hlk : meth.locks = false := BodyLoose.notSynchronized Bd
  have X0 : Stand p l e ({ frames := 0, cells := 0, slots := 0, locals := 0 } : Room) s m #[(.int (10 : Int32)), (.int (1 : Int32))] below meth c s₁ [] 0 0 := Stand.of_body Bd
  have eh0 : s₁.heap = h0 := by rw [← hh, Bd.state]; rfl
  have N0 := Fr.nil n0
  show Rest p.tables e below s (QMX Z  h0 n0) _ _ (s₁.setTop (entryFrame m #[(.int (10 : Int32)), (.int (1 : Int32))] 2))
  refine Rest.via (fun t k => castTop (ef_MX m ) k) ?_
  show Rest p.tables e below s _ _ _ (s₁.setTop (mkF m 0 #[.val (.int (10 : Int32)), .val (.int (1 : Int32))] []))
  refine Rest.via (fun t k => XS.iloadN X0.here hx rfl (hb hby d14_0) rfl k) ?_
  show Rest p.tables e below s _ _ _ (s₁.setTop (mkF m 1 #[.val (.int (10 : Int32)), .val (.int (1 : Int32))] [(.int (10 : Int32))]))
  refine Rest.via (fun t k => XS.iloadN X0.here hx rfl (hb hby d14_1) rfl k) ?_
  show Rest p.tables e below s _ _ _ (s₁.setTop (mkF m 2 #[.val (.int (10 : Int32)), .val (.int (1 : Int32))] [(.int (1 : Int32)), (.int (10 : Int32))]))
  refine Rest.via (fun t k => XS.icmpNo X0.here hx rfl (hb hby d14_2) rfl (flt (by decide : ¬ ((10 : Int32) < (1 : Int32)))).1 k) ?_
  show Rest p.tables e below s _ _ _ (s₁.setTop (mkF m 5 #[.val (.int (10 : Int32)), .val (.int (1 : Int32))] []))
  refine Rest.via (fun t k => XS.iloadN X0.here hx rfl (hb hby d14_5) rfl k) ?_
  show Rest p.tables e below s _ _ _ (s₁.setTop (mkF m 6 #[.val (.int (10 : Int32)), .val (.int (1 : Int32))] [(.int (10 : Int32))]))
  refine Rest.via (fun t k => XS.goto X0.here hx rfl (pc0 := 6) (pc' := 10) rfl (hb hby d14_6) (by decide) (by decide) k) ?_
  show Rest p.tables e below s _ _ _ (s₁.setTop (mkF m 10 #[.val (.int (10 : Int32)), .val (.int (1 : Int32))] [(.int (10 : Int32))]))
  refine Rest.ret X0 (v := some (.int (10 : Int32))) (fun h => by rw [Bd.returns] at h; cases h) hlk (fun fs hr => retOut X0 hx Bd.returns rfl (Or.inl ⟨rfl, Or.inl rfl, _, rfl⟩) (hb hby d14_10) hr) ?_ (by decide) (by decide)
  rw [eh0]
  exact ⟨rfl, N0, rfl⟩
theorem pd_1 : parseMethodDescriptor "(II)I" = some ⟨[.int, .int], some .int⟩ := by decide +kernel
theorem d13_0 : decode jdk_38_method_6_code 0 = .ok (.aload_n 0, 1) := by decide +kernel
theorem d13_1 : decode jdk_38_method_6_code 1 = .ok (.getfield 9, 3) := by decide +kernel
theorem d13_4 : decode jdk_38_method_6_code 4 = .ok (.arraylength, 1) := by decide +kernel
theorem d13_5 : decode jdk_38_method_6_code 5 = .ok (.istore_n 2, 1) := by decide +kernel
theorem d13_6 : decode jdk_38_method_6_code 6 = .ok (.iload_n 2, 1) := by decide +kernel
theorem d13_7 : decode jdk_38_method_6_code 7 = .ok (.ifCond .gt 13, 3) := by decide +kernel
theorem d13_10 : decode jdk_38_method_6_code 10 = .ok (.aload_n 0, 1) := by decide +kernel
theorem d13_11 : decode jdk_38_method_6_code 11 = .ok (.getfield 9, 3) := by decide +kernel
theorem d13_14 : decode jdk_38_method_6_code 14 = .ok (.getstatic 39, 3) := by decide +kernel
theorem d13_17 : decode jdk_38_method_6_code 17 = .ok (.if_acmp .eq 28, 3) := by decide +kernel
theorem d13_45 : decode jdk_38_method_6_code 45 = .ok (.aload_n 0, 1) := by decide +kernel
theorem d13_46 : decode jdk_38_method_6_code 46 = .ok (.bipush 10, 2) := by decide +kernel
theorem d13_48 : decode jdk_38_method_6_code 48 = .ok (.iload_n 1, 1) := by decide +kernel
theorem d13_49 : decode jdk_38_method_6_code 49 = .ok (.invokestatic 79, 3) := by decide +kernel
theorem d13_52 : decode jdk_38_method_6_code 52 = .ok (.anewarray 7, 3) := by decide +kernel
theorem d13_55 : decode jdk_38_method_6_code 55 = .ok (.dup_x1, 1) := by decide +kernel
theorem d13_56 : decode jdk_38_method_6_code 56 = .ok (.putfield 9, 3) := by decide +kernel
theorem d13_59 : decode jdk_38_method_6_code 59 = .ok (.areturn, 1) := by decide +kernel
theorem ef_G1 (m : MethodId) (a0 : Addr) : entryFrame m #[(.ref a0), (.int (1 : Int32))] 4 = mkF m 0 #[.val (.ref a0), .val (.int (1 : Int32)), .unset, .unset] [] := by first | (simp [entryFrame, mkF, argsToLocals, Value.category, maxLocals]; done) | rfl
def QG1 (Z : State) (a0 : Addr) (de : Addr) (h0 : Heap) (n0 : Nat) (v : Option Value) (h : Heap) (L : List Loc) : Prop := ∃ b, v = some (.ref b) ∧ Fr n0 L ∧ Keep h0 h [a0] ∧ h0.size ≤ b ∧ own_AL Z h a0 b 0 ∧ own_OA Z h b 10 ∧ a0 ≠ b
set_option maxRecDepth 65536 in
set_option maxHeartbeats 40000000 in
theorem rmG1 (l : Launch) (Z : State) (aw : Array Value) (hw : ∀ d ∈ tables_1, d.before aw Z = true) (ws : List Jvm.Cond) (a0 : Addr) (de : Addr) (h0 : Heap) (n0 : Nat) (Z0 : n0 ≤ h0.size) (A : own_AL Z h0 a0 de 0) (g_a0 : n0 ≤ a0) (O : Old Z n0 h0) (DE0 : own_DE Z Z.heap de) :
    MetFree l (⟨"java/util/ArrayList", "grow", "(I)[Ljava/lang/Object;"⟩ : MethodName) (head1 (Jvm.Cond.code (⟨"java/util/ArrayList", "grow", "(I)[Ljava/lang/Object;"⟩ : MethodName) jdk_38_method_6_code 4 (some (.array (.object "java/lang/Object"))) :: ws) ({ frames := 1, cells := 1, slots := 10, locals := 14 } : Room)) (fun a U => a = #[(.ref a0), (.int (1 : Int32))] ∧ Z.Warmed39 U.vm ∧ U.heap = h0) (fun _ _ _ _ _ => True) (fun _ U o U' => ∃ v L, o = .returned v ∧ QG1 Z a0 de h0 n0 v U'.heap L ∧ FrameEnd U o U' L ({ frames := 1, cells := 1, slots := 10, locals := 14 } : Room).cells ({ frames := 1, cells := 1, slots := 10, locals := 14 } : Room).slots) := by
  refine MetFree.of_bodySF (plainFor_of_name pn_2) hisR ?_
  intro p e s m args below meth c s₁ Bd hml0 hP hK
  obtain ⟨rfl, hZ, hh⟩ := hP
  have hx := Bd.exec
  have hby := Bd.bytes
  have hml : c.maxLocals = 4 := hml0
  have hown : s.vm.findClass "java/util/ArrayList" = some m.cls := findClass_of_methodNamed Bd.named
  have hnm := (name_of_methodNamed Bd.named Bd.method).1
  have hlk : meth.locks = false := BodyLoose.notSynchronized Bd
  have X0 : Stand p l e ({ frames := 1, cells := 1, slots := 10, locals := 14 } : Room) s m #[(.ref a0), (.int (1 : Int32))] below meth c s₁ [] 0 0 := Stand.of_body Bd
  have eh0 : s₁.heap = h0 := by rw [← hh, Bd.state]; rfl
  have N0 := Fr.nil n0
  show Rest p.tables e below s (QG1 Z a0 de h0 n0) _ _ (s₁.setTop (entryFrame m #[(.ref a0), (.int (1 : Int32))] 4))
  refine Rest.via (fun t k => castTop (ef_G1 m a0) k) ?_
  obtain ⟨E_a0, ⟨mc, F_mc⟩, F_ed, F_sz⟩ := id A
  show Rest p.tables e below s _ _ _ (s₁.setTop (mkF m 0 #[.val (.ref a0), .val (.int (1 : Int32)), .unset, .unset] []))
  refine Rest.via (fun t k => XS.aloadN X0.here hx rfl (hb hby d13_0) rfl rfl k) ?_
  show Rest p.tables e below s _ _ _ (s₁.setTop (mkF m 1 #[.val (.ref a0), .val (.int (1 : Int32)), .unset, .unset] [(.ref a0)]))
  obtain ⟨T1, X1, e1, st1⟩ := getF X0 hx hZ hown (host := "") (Or.inl (hw _ (List.mem_of_getElem? (i := 32) rfl))) Via.refl eh0 F_ed (g := (mkF m 1 #[.val (.ref a0), .val (.int (1 : Int32)), .unset, .unset] [(.ref a0)])) rfl rfl (hb hby d13_1)
  refine Rest.via (fun t k => st1 t k) ?_
  show Rest p.tables e below s _ _ _ (T1.setTop (mkF m 4 #[.val (.ref a0), .val (.int (1 : Int32)), .unset, .unset] [(.ref de)]))
  obtain ⟨-, cl2, Ar2, S2, P2⟩ := id (own_DE_ext (O.keep (Keep.refl h0 [a0]) (allS g_a0 all0)).2 DE0)
  refine Rest.via (fun t k => X1.arraylength hx (by rw [e1]; exact Ar2.1) (State.isArrayOf_alike hZ.alike Ar2.2.1) (g := (mkF m 4 #[.val (.ref a0), .val (.int (1 : Int32)), .unset, .unset] [(.ref de)])) rfl rfl (hb hby d13_4) t k) ?_
  rw [len_of S2 P2]
  show Rest p.tables e below s _ _ _ (T1.setTop (mkF m 5 #[.val (.ref a0), .val (.int (1 : Int32)), .unset, .unset] [(.int (0 : Int32))]))
  refine Rest.via (fun t k => XS.istoreN X1.here hx rfl (hb hby d13_5) rfl (l' := #[.val (.ref a0), .val (.int (1 : Int32)), .val (.int (0 : Int32)), .unset]) rfl k) ?_
  show Rest p.tables e below s _ _ _ (T1.setTop (mkF m 6 #[.val (.ref a0), .val (.int (1 : Int32)), .val (.int (0 : Int32)), .unset] []))
  refine Rest.via (fun t k => XS.iloadN X1.here hx rfl (hb hby d13_6) rfl k) ?_
  show Rest p.tables e below s _ _ _ (T1.setTop (mkF m 7 #[.val (.ref a0), .val (.int (1 : Int32)), .val (.int (0 : Int32)), .unset] [(.int (0 : Int32))]))
  refine Rest.via (fun t k => XS.ifNo X1.here hx rfl (hb hby d13_7) rfl ((if0 _ _).trans (flt (by decide : ¬ ((0 : Int32) < (0 : Int32)))).2.2.1) k) ?_
  show Rest p.tables e below s _ _ _ (T1.setTop (mkF m 10 #[.val (.ref a0), .val (.int (1 : Int32)), .val (.int (0 : Int32)), .unset] []))
  refine Rest.via (fun t k => XS.aloadN X1.here hx rfl (hb hby d13_10) rfl rfl k) ?_
  show Rest p.tables e below s _ _ _ (T1.setTop (mkF m 11 #[.val (.ref a0), .val (.int (1 : Int32)), .val (.int (0 : Int32)), .unset] [(.ref a0)]))
  obtain ⟨T3, X3, e3, st3⟩ := getF X1 hx hZ hown (host := "") (Or.inl (hw _ (List.mem_of_getElem? (i := 32) rfl))) Via.refl e1 F_ed (g := (mkF m 11 #[.val (.ref a0), .val (.int (1 : Int32)), .val (.int (0 : Int32)), .unset] [(.ref a0)])) rfl rfl (hb hby d13_11)
  refine Rest.via (fun t k => st3 t k) ?_
  show Rest p.tables e below s _ _ _ (T3.setTop (mkF m 14 #[.val (.ref a0), .val (.int (1 : Int32)), .val (.int (0 : Int32)), .unset] [(.ref de)]))
  obtain ⟨T4, X4, e4, st4⟩ := getS2 X3 hx hZ hown (host := "") (Or.inl (hw _ (List.mem_of_getElem? (i := 31) rfl))) Via.refl e3 (own_DE_ext (O.keep (Keep.refl h0 [a0]) (allS g_a0 all0)).2 DE0).1 (g := (mkF m 14 #[.val (.ref a0), .val (.int (1 : Int32)), .val (.int (0 : Int32)), .unset] [(.ref de)])) rfl (hb hby d13_14)
  refine Rest.via (fun t k => st4 t k) ?_
  show Rest p.tables e below s _ _ _ (T4.setTop (mkF m 17 #[.val (.ref a0), .val (.int (1 : Int32)), .val (.int (0 : Int32)), .unset] [(.ref de), (.ref de)]))
  refine Rest.via (fun t k => Jvm.RoadKit.acmp (g := (mkF m 17 #[.val (.ref a0), .val (.int (1 : Int32)), .val (.int (0 : Int32)), .unset] [(.ref de), (.ref de)])) X4 hx rfl rfl rfl (pc0 := 17) (pc' := 45) (same := true) rfl (hb hby d13_17) rfl (decide_eq_true rfl) (by decide) (by decide) k) ?_
  show Rest p.tables e below s _ _ _ (T4.setTop (mkF m 45 #[.val (.ref a0), .val (.int (1 : Int32)), .val (.int (0 : Int32)), .unset] []))
  refine Rest.via (fun t k => XS.aloadN X4.here hx rfl (hb hby d13_45) rfl rfl k) ?_
  show Rest p.tables e below s _ _ _ (T4.setTop (mkF m 46 #[.val (.ref a0), .val (.int (1 : Int32)), .val (.int (0 : Int32)), .unset] [(.ref a0)]))
  refine Rest.via (fun t k => XS.bipush X4.here hx rfl (hb hby d13_46) k) ?_
  show Rest p.tables e below s _ _ _ (T4.setTop (mkF m 48 #[.val (.ref a0), .val (.int (1 : Int32)), .val (.int (0 : Int32)), .unset] [(.int (10 : Int32)), (.ref a0)]))
  refine Rest.via (fun t k => XS.iloadN X4.here hx rfl (hb hby d13_48) rfl k) ?_
  show Rest p.tables e below s _ _ _ (T4.setTop (mkF m 49 #[.val (.ref a0), .val (.int (1 : Int32)), .val (.int (0 : Int32)), .unset] [(.int (1 : Int32)), (.int (10 : Int32)), (.ref a0)]))
  obtain ⟨_, _, ⟨T5, L5, k5, n5⟩, -, X5, ⟨Lc5, hQ5, l5, y5, z5⟩, st5⟩ := Jvm.LawKit.callS X4 hx (y := (⟨"java/lang/Math", "max", "(II)I"⟩ : MethodName)) hown (mvT hZ (hw _ (List.mem_of_getElem? (i := 93) rfl))) (mvT hZ (hw _ (List.mem_of_getElem? (i := 94) rfl))) (mvT hZ (hw _ (List.mem_of_getElem? (i := 95) rfl))) (mvT hZ (hw _ (List.mem_of_getElem? (i := 96) rfl))) (by decide) (backOf (W := 1) (rmMX l Z aw hw []   h0 n0 (Nat.le_trans Z0 (Keep.refl h0 [a0]).1) ) hZ (hw _ (List.mem_of_getElem? (i := 96) rfl)) (hw _ (List.mem_of_getElem? (i := 95) rfl)) (by decide) (by decide)) (g := (mkF m 49 #[.val (.ref a0), .val (.int (1 : Int32)), .val (.int (0 : Int32)), .unset] [(.int (1 : Int32)), (.int (10 : Int32)), (.ref a0)])) rfl (by rw [hml]; rfl) (argsL := [(.int (10 : Int32)), (.int (1 : Int32))]) (rest := [(.ref a0)]) (lenOf pd_1 rfl) rfl (by show 2 * 0 + _ ≤ _; exact Nat.le_of_eq rfl) (hb hby d13_49) (fun _ _ => ⟨rfl, e4, (by decide : 0 + 0 ≤ _), (by decide : 0 + 0 ≤ _)⟩)
  dsimp only [Pt.U, Pt.locs, Pt.cells, Pt.slots] at X5 l5 y5 z5 st5 hQ5
  subst l5 y5 z5
  obtain ⟨rfl, Nq5, e5⟩ := hQ5
  have N5 := Fr.app N0 Nq5
  refine Rest.via (fun t k => st5 t k) ?_
  show Rest p.tables e below s _ _ _ (T5.setTop (mkF m 52 #[.val (.ref a0), .val (.int (1 : Int32)), .val (.int (0 : Int32)), .unset] [(.int (10 : Int32)), (.ref a0)]))
  obtain ⟨T6, h6, k6, X6, e6, E6, A6, O6, st6⟩ := newR X5 hx hZ hown (hw _ (List.mem_of_getElem? (i := 97) rfl)) (hw _ (List.mem_of_getElem? (i := 98) rfl)) e5 (g := (mkF m 52 #[.val (.ref a0), .val (.int (1 : Int32)), .val (.int (0 : Int32)), .unset] [(.int (10 : Int32)), (.ref a0)])) rfl (hb hby d13_52) rfl (by decide) (cap := 10) (by decide) (by decide) (by decide) (by decide)
  obtain ⟨b6, gq6⟩ : ∃ z, z = h0.size := ⟨_, rfl⟩
  rw [← gq6] at A6 st6
  have sz_b6 : h0.size ≤ b6 := Nat.le_trans (Keep.refl h0 [a0]).1 (Nat.le_of_eq gq6.symm)
  have g_b6 : n0 ≤ b6 := Nat.le_trans Z0 sz_b6
  have ne_a0_b6 : a0 ≠ b6 := Nat.ne_of_lt (Nat.lt_of_lt_of_le E_a0.lt (Nat.le_of_eq gq6.symm))
  have K6 : Keep h0 h6 [a0] := (Keep.refl h0 [a0]).ext E6
  refine Rest.via (fun t k => st6 t k) ?_
  have V_b6 : own_OA Z h6 b6 10 := ⟨_, A6, sz_new _ _ _, by decide, O6⟩
  show Rest p.tables e below s _ _ _ (T6.setTop (mkF m 55 #[.val (.ref a0), .val (.int (1 : Int32)), .val (.int (0 : Int32)), .unset] [(.ref b6), (.ref a0)]))
  refine Rest.via (fun t k => XS.dupX1 X6.here hx rfl (hb hby d13_55) rfl rfl rfl k) ?_
  show Rest p.tables e below s _ _ _ (T6.setTop (mkF m 56 #[.val (.ref a0), .val (.int (1 : Int32)), .val (.int (0 : Int32)), .unset] [(.ref b6), (.ref a0), (.ref b6)]))
  have Fo7 := (F_ed.ext E6)
  obtain ⟨T7, h7, X7, e7, W7, st7⟩ := putF X6 hx hZ hown (host := "") (Or.inl (hw _ (List.mem_of_getElem? (i := 32) rfl))) Via.refl e6 Fo7 (E_a0.ext E6) (Or.inl (hw _ (List.mem_of_getElem? (i := 33) rfl))) (hw _ (List.mem_of_getElem? (i := 11) rfl)) (ty := (.array (.object "java/lang/Object"))) (by decide) rfl rfl (g := (mkF m 56 #[.val (.ref a0), .val (.int (1 : Int32)), .val (.int (0 : Int32)), .unset] [(.ref b6), (.ref a0), (.ref b6)])) rfl rfl (hb hby d13_56)
  refine Rest.via (fun t k => st7 t k) ?_
  have N7 := Fr.snoc X7 N5 g_a0
  have K7 : Keep h0 h7 [a0] := K6.wr W7 (Or.inl (List.mem_of_getElem? (i := 0) rfl))
  have Fw7 := Fo7.same W7
  show Rest p.tables e below s _ _ _ (T7.setTop (mkF m 59 #[.val (.ref a0), .val (.int (1 : Int32)), .val (.int (0 : Int32)), .unset] [(.ref b6)]))
  refine Rest.ret X7 (v := some (.ref b6)) (fun h => by rw [Bd.returns] at h; cases h) hlk (fun fs hr => retOut X7 hx Bd.returns rfl (Or.inr (Or.inr (Or.inr (Or.inr ⟨rfl, rfl, rfl⟩)))) (hb hby d13_59) hr) ?_ (by decide) (by decide)
  rw [e7]
  exact ⟨b6, rfl, N7, K7, sz_b6, ⟨((E_a0.ext E6).wr W7), ⟨_, ((F_mc.ext E6).other W7 (Or.inr (slot_ne (Or.inl (hw _ (List.mem_of_getElem? (i := 30) rfl))) (Or.inl (hw _ (List.mem_of_getElem? (i := 33) rfl))) (by decide) (t := .int) (t' := (.array (.object "java/lang/Object"))) (by decide) (by decide))))⟩, Fw7, ((F_sz.ext E6).other W7 (Or.inr (slot_ne (Or.inl (hw _ (List.mem_of_getElem? (i := 77) rfl))) (Or.inl (hw _ (List.mem_of_getElem? (i := 33) rfl))) (by decide) (t := .int) (t' := (.array (.object "java/lang/Object"))) (by decide) (by decide))))⟩, (own_OA_keep V_b6 (Keep.of_wr W7)), ne_a0_b6⟩
theorem pd_2 : parseMethodDescriptor "(I)[Ljava/lang/Object;" = some ⟨[.int], some (.array (.object "java/lang/Object"))⟩ := by decide +kernel
theorem d12_0 : decode jdk_38_method_7_code 0 = .ok (.aload_n 0, 1) := by decide +kernel
theorem d12_1 : decode jdk_38_method_7_code 1 = .ok (.aload_n 0, 1) := by decide +kernel
theorem d12_2 : decode jdk_38_method_7_code 2 = .ok (.getfield 48, 3) := by decide +kernel
theorem d12_5 : decode jdk_38_method_7_code 5 = .ok (.iconst 1, 1) := by decide +kernel
theorem d12_6 : decode jdk_38_method_7_code 6 = .ok (.iadd, 1) := by decide +kernel
theorem d12_7 : decode jdk_38_method_7_code 7 = .ok (.invokevirtual 69, 3) := by decide +kernel
theorem d12_10 : decode jdk_38_method_7_code 10 = .ok (.areturn, 1) := by decide +kernel
theorem ef_G0 (m : MethodId) (a0 : Addr) : entryFrame m #[(.ref a0)] 1 = mkF m 0 #[.val (.ref a0)] [] := by first | (simp [entryFrame, mkF, argsToLocals, Value.category, maxLocals]; done) | rfl
def QG0 (Z : State) (a0 : Addr) (de : Addr) (h0 : Heap) (n0 : Nat) (v : Option Value) (h : Heap) (L : List Loc) : Prop := ∃ b, v = some (.ref b) ∧ Fr n0 L ∧ Keep h0 h [a0] ∧ h0.size ≤ b ∧ own_AL Z h a0 b 0 ∧ own_OA Z h b 10 ∧ a0 ≠ b
set_option maxRecDepth 65536 in
set_option maxHeartbeats 40000000 in
theorem rmG0 (l : Launch) (Z : State) (aw : Array Value) (hw : ∀ d ∈ tables_1, d.before aw Z = true) (ws : List Jvm.Cond) (a0 : Addr) (de : Addr) (h0 : Heap) (n0 : Nat) (Z0 : n0 ≤ h0.size) (A : own_AL Z h0 a0 de 0) (g_a0 : n0 ≤ a0) (O : Old Z n0 h0) (DE0 : own_DE Z Z.heap de) :
    MetFree l (⟨"java/util/ArrayList", "grow", "()[Ljava/lang/Object;"⟩ : MethodName) (head1 (Jvm.Cond.code (⟨"java/util/ArrayList", "grow", "()[Ljava/lang/Object;"⟩ : MethodName) jdk_38_method_7_code 1 (some (.array (.object "java/lang/Object"))) :: ws) ({ frames := 2, cells := 1, slots := 10, locals := 29 } : Room)) (fun a U => a = #[(.ref a0)] ∧ Z.Warmed39 U.vm ∧ U.heap = h0) (fun _ _ _ _ _ => True) (fun _ U o U' => ∃ v L, o = .returned v ∧ QG0 Z a0 de h0 n0 v U'.heap L ∧ FrameEnd U o U' L ({ frames := 2, cells := 1, slots := 10, locals := 29 } : Room).cells ({ frames := 2, cells := 1, slots := 10, locals := 29 } : Room).slots) := by
  refine MetFree.of_bodySF (plainFor_of_name pn_2) hisR ?_
  intro p e s m args below meth c s₁ Bd hml0 hP hK
  obtain ⟨rfl, hZ, hh⟩ := hP
  have hx := Bd.exec
  have hby := Bd.bytes
  have hml : c.maxLocals = 1 := hml0
  have hown : s.vm.findClass "java/util/ArrayList" = some m.cls := findClass_of_methodNamed Bd.named
  have hnm := (name_of_methodNamed Bd.named Bd.method).1
  have hlk : meth.locks = false := BodyLoose.notSynchronized Bd
  have X0 : Stand p l e ({ frames := 2, cells := 1, slots := 10, locals := 29 } : Room) s m #[(.ref a0)] below meth c s₁ [] 0 0 := Stand.of_body Bd
  have eh0 : s₁.heap = h0 := by rw [← hh, Bd.state]; rfl
  have N0 := Fr.nil n0
  show Rest p.tables e below s (QG0 Z a0 de h0 n0) _ _ (s₁.setTop (entryFrame m #[(.ref a0)] 1))
  refine Rest.via (fun t k => castTop (ef_G0 m a0) k) ?_
  obtain ⟨E_a0, ⟨mc, F_mc⟩, F_ed, F_sz⟩ := id A
  show Rest p.tables e below s _ _ _ (s₁.setTop (mkF m 0 #[.val (.ref a0)] []))
  refine Rest.via (fun t k => XS.aloadN X0.here hx rfl (hb hby d12_0) rfl rfl k) ?_
  show Rest p.tables e below s _ _ _ (s₁.setTop (mkF m 1 #[.val (.ref a0)] [(.ref a0)]))
  refine Rest.via (fun t k => XS.aloadN X0.here hx rfl (hb hby d12_1) rfl rfl k) ?_
  show Rest p.tables e below s _ _ _ (s₁.setTop (mkF m 2 #[.val (.ref a0)] [(.ref a0), (.ref a0)]))
  obtain ⟨T1, X1, e1, st1⟩ := getF X0 hx hZ hown (host := "") (Or.inl (hw _ (List.mem_of_getElem? (i := 76) rfl))) Via.refl eh0 F_sz (g := (mkF m 2 #[.val (.ref a0)] [(.ref a0), (.ref a0)])) rfl rfl (hb hby d12_2)
  refine Rest.via (fun t k => st1 t k) ?_
  show Rest p.tables e below s _ _ _ (T1.setTop (mkF m 5 #[.val (.ref a0)] [(.int (0 : Int32)), (.ref a0)]))
  refine Rest.via (fun t k => XS.iconst X1.here hx rfl (hb hby d12_5) k) ?_
  show Rest p.tables e below s _ _ _ (T1.setTop (mkF m 6 #[.val (.ref a0)] [(.int (1 : Int32)), (.int (0 : Int32)), (.ref a0)]))
  refine Rest.via (fun t k => XS.iadd X1.here hx rfl (hb hby d12_6) rfl k) ?_
  show Rest p.tables e below s _ _ _ (T1.setTop (mkF m 7 #[.val (.ref a0)] [(.int ((0 : Int32) + (1 : Int32))), (.ref a0)]))
  rw [(by decide : (0 : Int32) + (1 : Int32) = (1 : Int32))]
  show Rest p.tables e below s _ _ _ (T1.setTop (mkF m 7 #[.val (.ref a0)] [(.int (1 : Int32)), (.ref a0)]))
  obtain ⟨cq2, q2, q2'⟩ := (E_a0).cell
  obtain ⟨_, _, ⟨T2, L2, k2, n2⟩, -, X2, ⟨Lc2, hQ2, l2, y2, z2⟩, st2⟩ := X1.privateBack hx (y := (⟨"java/util/ArrayList", "grow", "(I)[Ljava/lang/Object;"⟩ : MethodName)) hown (mvT hZ (hw _ (List.mem_of_getElem? (i := 88) rfl))) (mvT hZ (hw _ (List.mem_of_getElem? (i := 89) rfl))) (mvT hZ (hw _ (List.mem_of_getElem? (i := 91) rfl))) (Cond.privateMethod_at (mvP hZ (hw _ (List.mem_of_getElem? (i := 90) rfl)) (args := #[]))) (mvT hZ (hw _ (List.mem_of_getElem? (i := 92) rfl))) (by decide) (backOf (W := 0) (rmG1 l Z aw hw [] a0 de h0 n0 (Nat.le_trans Z0 (Keep.refl h0 [a0]).1) ⟨E_a0, ⟨_, F_mc⟩, F_ed, F_sz⟩ g_a0 (O.keep (Keep.refl h0 [a0]) (allS g_a0 all0)) DE0) hZ (hw _ (List.mem_of_getElem? (i := 92) rfl)) (hw _ (List.mem_of_getElem? (i := 12) rfl)) (by decide) (by decide)) (g := (mkF m 7 #[.val (.ref a0)] [(.int (1 : Int32)), (.ref a0)])) rfl (by rw [hml]; rfl) (Steps.refl _) (a := a0) (by rw [e1]; exact q2) q2' (argsL := [(.int (1 : Int32))]) (rest := []) (lenOf pd_2 rfl) rfl (by show 2 * 0 + _ ≤ _; exact Nat.le_of_eq rfl) (hb hby d12_7) (fun _ _ => ⟨rfl, e1, (by decide : 0 + 1 ≤ _), (by decide : 0 + 10 ≤ _)⟩)
  dsimp only [Pt.U, Pt.locs, Pt.cells, Pt.slots] at X2 l2 y2 z2 st2 hQ2
  subst l2 y2 z2
  obtain ⟨h2, e2⟩ : ∃ z, T2.heap = z := ⟨_, rfl⟩
  rw [e2] at hQ2
  obtain ⟨b2, rfl, Nq2, Kq2, sd2, Aq2, Oq2, nb2⟩ := hQ2
  have N2 := Fr.app N0 Nq2
  have sz_b2 : h0.size ≤ b2 := Nat.le_trans (Keep.refl h0 [a0]).1 sd2
  have g_b2 : n0 ≤ b2 := Nat.le_trans Z0 sz_b2
  have K2 : Keep h0 h2 [a0] := (Keep.refl h0 [a0]).trans Kq2 (allS (Or.inl (List.mem_of_getElem? (i := 0) rfl)) all0)
  obtain ⟨E2a, ⟨mc2, Fm2⟩, Fe2, Fs2⟩ := Aq2
  refine Rest.via (fun t k => st2.trans k) ?_
  show Rest p.tables e below s _ _ _ (T2.setTop (mkF m 10 #[.val (.ref a0)] [(.ref b2)]))
  refine Rest.ret X2 (v := some (.ref b2)) (fun h => by rw [Bd.returns] at h; cases h) hlk (fun fs hr => retOut X2 hx Bd.returns rfl (Or.inr (Or.inr (Or.inr (Or.inr ⟨rfl, rfl, rfl⟩)))) (hb hby d12_10) hr) ?_ (by decide) (by decide)
  rw [e2]
  exact ⟨b2, rfl, N2, K2, sz_b2, ⟨E2a, ⟨_, Fm2⟩, Fe2, Fs2⟩, Oq2, nb2⟩
theorem pd_3 : parseMethodDescriptor "()[Ljava/lang/Object;" = some ⟨[], some (.array (.object "java/lang/Object"))⟩ := by decide +kernel
theorem d11_0 : decode jdk_38_method_24_code 0 = .ok (.iload_n 3, 1) := by decide +kernel
theorem d11_1 : decode jdk_38_method_24_code 1 = .ok (.aload_n 2, 1) := by decide +kernel
theorem d11_2 : decode jdk_38_method_24_code 2 = .ok (.arraylength, 1) := by decide +kernel
theorem d11_3 : decode jdk_38_method_24_code 3 = .ok (.if_icmp .ne 8, 3) := by decide +kernel
theorem d11_6 : decode jdk_38_method_24_code 6 = .ok (.aload_n 0, 1) := by decide +kernel
theorem d11_7 : decode jdk_38_method_24_code 7 = .ok (.invokevirtual 129, 3) := by decide +kernel
theorem d11_10 : decode jdk_38_method_24_code 10 = .ok (.astore_n 2, 1) := by decide +kernel
theorem d11_11 : decode jdk_38_method_24_code 11 = .ok (.aload_n 2, 1) := by decide +kernel
theorem d11_12 : decode jdk_38_method_24_code 12 = .ok (.iload_n 3, 1) := by decide +kernel
theorem d11_13 : decode jdk_38_method_24_code 13 = .ok (.aload_n 1, 1) := by decide +kernel
theorem d11_14 : decode jdk_38_method_24_code 14 = .ok (.aastore, 1) := by decide +kernel
theorem d11_15 : decode jdk_38_method_24_code 15 = .ok (.aload_n 0, 1) := by decide +kernel
theorem d11_16 : decode jdk_38_method_24_code 16 = .ok (.iload_n 3, 1) := by decide +kernel
theorem d11_17 : decode jdk_38_method_24_code 17 = .ok (.iconst 1, 1) := by decide +kernel
theorem d11_18 : decode jdk_38_method_24_code 18 = .ok (.iadd, 1) := by decide +kernel
theorem d11_19 : decode jdk_38_method_24_code 19 = .ok (.putfield 48, 3) := by decide +kernel
theorem d11_22 : decode jdk_38_method_24_code 22 = .ok (.return_, 1) := by decide +kernel
theorem ef_H0r (m : MethodId) (a0 : Addr) (a1 : Addr) : entryFrame m #[(.ref a0), (.ref a1), (.ref de), (.int (0 : Int32))] 4 = mkF m 0 #[.val (.ref a0), .val (.ref a1), .val (.ref de), .val (.int (0 : Int32))] [] := by first | (simp [entryFrame, mkF, argsToLocals, Value.category, maxLocals]; done) | rfl
def QH0r (Z : State) (a0 : Addr) (a1 : Addr) (de : Addr) (h0 : Heap) (n0 : Nat) (v : Option Value) (h : Heap) (L : List Loc) : Prop := v = none ∧ Fr n0 L ∧ Keep h0 h [a0] ∧ ∃ b, h0.size ≤ b ∧ own_AL Z h a0 b 1 ∧ own_OA Z h b 10 ∧ a0 ≠ b
set_option maxRecDepth 65536 in
set_option maxHeartbeats 40000000 in
theorem rmH0r (l : Launch) (Z : State) (aw : Array Value) (hw : ∀ d ∈ tables_1, d.before aw Z = true) (ws : List Jvm.Cond) (a0 : Addr) (a1 : Addr) (de : Addr) (h0 : Heap) (n0 : Nat) (Z0 : n0 ≤ h0.size) (A : own_AL Z h0 a0 de 0) (g_a0 : n0 ≤ a0) (O : Old Z n0 h0) (DE0 : own_DE Z Z.heap de) (E1 : Exa Z h0 a1 "[B") :
    MetFree l (⟨"java/util/ArrayList", "add", "(Ljava/lang/Object;[Ljava/lang/Object;I)V"⟩ : MethodName) (head1 (Jvm.Cond.code (⟨"java/util/ArrayList", "add", "(Ljava/lang/Object;[Ljava/lang/Object;I)V"⟩ : MethodName) jdk_38_method_24_code 4 none :: ws) ({ frames := 3, cells := 1, slots := 10, locals := 41 } : Room)) (fun a U => a = #[(.ref a0), (.ref a1), (.ref de), (.int (0 : Int32))] ∧ Z.Warmed39 U.vm ∧ U.heap = h0) (fun _ _ _ _ _ => True) (fun _ U o U' => ∃ v L, o = .returned v ∧ QH0r Z a0 a1 de h0 n0 v U'.heap L ∧ FrameEnd U o U' L ({ frames := 3, cells := 1, slots := 10, locals := 41 } : Room).cells ({ frames := 3, cells := 1, slots := 10, locals := 41 } : Room).slots) := by
  refine MetFree.of_bodySF (plainFor_of_name pn_2) hisR ?_
  intro p e s m args below meth c s₁ Bd hml0 hP hK
  obtain ⟨rfl, hZ, hh⟩ := hP
  have hx := Bd.exec
  have hby := Bd.bytes
  have hml : c.maxLocals = 4 := hml0
  have hown : s.vm.findClass "java/util/ArrayList" = some m.cls := findClass_of_methodNamed Bd.named
  have hnm := (name_of_methodNamed Bd.named Bd.method).1
  have hlk : meth.locks = false := BodyLoose.notSynchronized Bd
  have X0 : Stand p l e ({ frames := 3, cells := 1, slots := 10, locals := 41 } : Room) s m #[(.ref a0), (.ref a1), (.ref de), (.int (0 : Int32))] below meth c s₁ [] 0 0 := Stand.of_body Bd
  have eh0 : s₁.heap = h0 := by rw [← hh, Bd.state]; rfl
  have N0 := Fr.nil n0
  show Rest p.tables e below s (QH0r Z a0 a1 de h0 n0) _ _ (s₁.setTop (entryFrame m #[(.ref a0), (.ref a1), (.ref de), (.int (0 : Int32))] 4))
  refine Rest.via (fun t k => castTop (ef_H0r m a0 a1) k) ?_
  obtain ⟨E_a0, ⟨mc, F_mc⟩, F_ed, F_sz⟩ := id A
  show Rest p.tables e below s _ _ _ (s₁.setTop (mkF m 0 #[.val (.ref a0), .val (.ref a1), .val (.ref de), .val (.int (0 : Int32))] []))
  refine Rest.via (fun t k => XS.iloadN X0.here hx rfl (hb hby d11_0) rfl k) ?_
  show Rest p.tables e below s _ _ _ (s₁.setTop (mkF m 1 #[.val (.ref a0), .val (.ref a1), .val (.ref de), .val (.int (0 : Int32))] [(.int (0 : Int32))]))
  refine Rest.via (fun t k => XS.aloadN X0.here hx rfl (hb hby d11_1) rfl rfl k) ?_
  show Rest p.tables e below s _ _ _ (s₁.setTop (mkF m 2 #[.val (.ref a0), .val (.ref a1), .val (.ref de), .val (.int (0 : Int32))] [(.ref de), (.int (0 : Int32))]))
  obtain ⟨-, cl1, Ar1, S1, P1⟩ := id (own_DE_ext (O.keep (Keep.refl h0 [a0]) (allS g_a0 all0)).2 DE0)
  refine Rest.via (fun t k => X0.arraylength hx (by rw [eh0]; exact Ar1.1) (State.isArrayOf_alike hZ.alike Ar1.2.1) (g := (mkF m 2 #[.val (.ref a0), .val (.ref a1), .val (.ref de), .val (.int (0 : Int32))] [(.ref de), (.int (0 : Int32))])) rfl rfl (hb hby d11_2) t k) ?_
  rw [len_of S1 P1]
  show Rest p.tables e below s _ _ _ (s₁.setTop (mkF m 3 #[.val (.ref a0), .val (.ref a1), .val (.ref de), .val (.int (0 : Int32))] [(.int (0 : Int32)), (.int (0 : Int32))]))
  refine Rest.via (fun t k => XS.icmpNo X0.here hx rfl (hb hby d11_3) rfl (teq (by decide : (0 : Int32) = (0 : Int32))).2 k) ?_
  show Rest p.tables e below s _ _ _ (s₁.setTop (mkF m 6 #[.val (.ref a0), .val (.ref a1), .val (.ref de), .val (.int (0 : Int32))] []))
  refine Rest.via (fun t k => XS.aloadN X0.here hx rfl (hb hby d11_6) rfl rfl k) ?_
  show Rest p.tables e below s _ _ _ (s₁.setTop (mkF m 7 #[.val (.ref a0), .val (.ref a1), .val (.ref de), .val (.int (0 : Int32))] [(.ref a0)]))
  obtain ⟨cq2, q2, q2'⟩ := (E_a0).cell
  obtain ⟨_, _, ⟨T2, L2, k2, n2⟩, -, X2, ⟨Lc2, hQ2, l2, y2, z2⟩, st2⟩ := X0.privateBack hx (y := (⟨"java/util/ArrayList", "grow", "()[Ljava/lang/Object;"⟩ : MethodName)) hown (mvT hZ (hw _ (List.mem_of_getElem? (i := 83) rfl))) (mvT hZ (hw _ (List.mem_of_getElem? (i := 84) rfl))) (mvT hZ (hw _ (List.mem_of_getElem? (i := 86) rfl))) (Cond.privateMethod_at (mvP hZ (hw _ (List.mem_of_getElem? (i := 85) rfl)) (args := #[]))) (mvT hZ (hw _ (List.mem_of_getElem? (i := 87) rfl))) (by decide) (backOf (W := 0) (rmG0 l Z aw hw [] a0 de h0 n0 (Nat.le_trans Z0 (Keep.refl h0 [a0]).1) ⟨E_a0, ⟨_, F_mc⟩, F_ed, F_sz⟩ g_a0 (O.keep (Keep.refl h0 [a0]) (allS g_a0 all0)) DE0) hZ (hw _ (List.mem_of_getElem? (i := 87) rfl)) (hw _ (List.mem_of_getElem? (i := 12) rfl)) (by decide) (by decide)) (g := (mkF m 7 #[.val (.ref a0), .val (.ref a1), .val (.ref de), .val (.int (0 : Int32))] [(.ref a0)])) rfl (by rw [hml]; rfl) (Steps.refl _) (a := a0) (by rw [eh0]; exact q2) q2' (argsL := []) (rest := []) (lenOf pd_3 rfl) rfl (by show 2 * 0 + _ ≤ _; exact Nat.le_of_eq rfl) (hb hby d11_7) (fun _ _ => ⟨rfl, eh0, (by decide : 0 + 1 ≤ _), (by decide : 0 + 10 ≤ _)⟩)
  dsimp only [Pt.U, Pt.locs, Pt.cells, Pt.slots] at X2 l2 y2 z2 st2 hQ2
  subst l2 y2 z2
  obtain ⟨h2, e2⟩ : ∃ z, T2.heap = z := ⟨_, rfl⟩
  rw [e2] at hQ2
  obtain ⟨b2, rfl, Nq2, Kq2, sd2, Aq2, Oq2, nb2⟩ := hQ2
  have N2 := Fr.app N0 Nq2
  have sz_b2 : h0.size ≤ b2 := Nat.le_trans (Keep.refl h0 [a0]).1 sd2
  have g_b2 : n0 ≤ b2 := Nat.le_trans Z0 sz_b2
  have K2 : Keep h0 h2 [a0] := (Keep.refl h0 [a0]).trans Kq2 (allS (Or.inl (List.mem_of_getElem? (i := 0) rfl)) all0)
  obtain ⟨E2a, ⟨mc2, Fm2⟩, Fe2, Fs2⟩ := Aq2
  refine Rest.via (fun t k => st2.trans k) ?_
  show Rest p.tables e below s _ _ _ (T2.setTop (mkF m 10 #[.val (.ref a0), .val (.ref a1), .val (.ref de), .val (.int (0 : Int32))] [(.ref b2)]))
  refine Rest.via (fun t k => XS.astoreN X2.here hx rfl (hb hby d11_10) rfl rfl (l' := #[.val (.ref a0), .val (.ref a1), .val (.ref b2), .val (.int (0 : Int32))]) rfl k) ?_
  show Rest p.tables e below s _ _ _ (T2.setTop (mkF m 11 #[.val (.ref a0), .val (.ref a1), .val (.ref b2), .val (.int (0 : Int32))] []))
  refine Rest.via (fun t k => XS.aloadN X2.here hx rfl (hb hby d11_11) rfl rfl k) ?_
  show Rest p.tables e below s _ _ _ (T2.setTop (mkF m 12 #[.val (.ref a0), .val (.ref a1), .val (.ref b2), .val (.int (0 : Int32))] [(.ref b2)]))
  refine Rest.via (fun t k => XS.iloadN X2.here hx rfl (hb hby d11_12) rfl k) ?_
  show Rest p.tables e below s _ _ _ (T2.setTop (mkF m 13 #[.val (.ref a0), .val (.ref a1), .val (.ref b2), .val (.int (0 : Int32))] [(.int (0 : Int32)), (.ref b2)]))
  refine Rest.via (fun t k => XS.aloadN X2.here hx rfl (hb hby d11_13) rfl rfl k) ?_
  show Rest p.tables e below s _ _ _ (T2.setTop (mkF m 14 #[.val (.ref a0), .val (.ref a1), .val (.ref b2), .val (.int (0 : Int32))] [(.ref a1), (.int (0 : Int32)), (.ref b2)]))
  obtain ⟨cl3, Ar3, Sa3, Pa3, Ov3⟩ := id Oq2
  have hin3 := inb_of (j := (0 : Int32)) Sa3 ⟨by decide, by decide⟩
  obtain ⟨T3, h3, X3, e3, W3, st3⟩ := stR X2 hx hZ e2 Ar3 (j := (0 : Int32)) hin3 rfl (Sto.of Ar3 Ov3 (Ins.of_exa (E1.keep Kq2) (hw _ (List.mem_of_getElem? (i := 99) rfl)))) (g := (mkF m 14 #[.val (.ref a0), .val (.ref a1), .val (.ref b2), .val (.int (0 : Int32))] [(.ref a1), (.int (0 : Int32)), (.ref b2)])) rfl rfl (hb hby d11_14)
  refine Rest.via (fun t k => st3 t k) ?_
  have N3 := Fr.snoc X3 N2 g_b2
  have K3 : Keep h0 h3 [a0] := K2.wr W3 (Or.inr sz_b2)
  show Rest p.tables e below s _ _ _ (T3.setTop (mkF m 15 #[.val (.ref a0), .val (.ref a1), .val (.ref b2), .val (.int (0 : Int32))] []))
  refine Rest.via (fun t k => XS.aloadN X3.here hx rfl (hb hby d11_15) rfl rfl k) ?_
  show Rest p.tables e below s _ _ _ (T3.setTop (mkF m 16 #[.val (.ref a0), .val (.ref a1), .val (.ref b2), .val (.int (0 : Int32))] [(.ref a0)]))
  refine Rest.via (fun t k => XS.iloadN X3.here hx rfl (hb hby d11_16) rfl k) ?_
  show Rest p.tables e below s _ _ _ (T3.setTop (mkF m 17 #[.val (.ref a0), .val (.ref a1), .val (.ref b2), .val (.int (0 : Int32))] [(.int (0 : Int32)), (.ref a0)]))
  refine Rest.via (fun t k => XS.iconst X3.here hx rfl (hb hby d11_17) k) ?_
  show Rest p.tables e below s _ _ _ (T3.setTop (mkF m 18 #[.val (.ref a0), .val (.ref a1), .val (.ref b2), .val (.int (0 : Int32))] [(.int (1 : Int32)), (.int (0 : Int32)), (.ref a0)]))
  refine Rest.via (fun t k => XS.iadd X3.here hx rfl (hb hby d11_18) rfl k) ?_
  show Rest p.tables e below s _ _ _ (T3.setTop (mkF m 19 #[.val (.ref a0), .val (.ref a1), .val (.ref b2), .val (.int (0 : Int32))] [(.int ((0 : Int32) + (1 : Int32))), (.ref a0)]))
  rw [(by decide : (0 : Int32) + (1 : Int32) = (1 : Int32))]
  show Rest p.tables e below s _ _ _ (T3.setTop (mkF m 19 #[.val (.ref a0), .val (.ref a1), .val (.ref b2), .val (.int (0 : Int32))] [(.int (1 : Int32)), (.ref a0)]))
  have Fo4 := (Fs2.other W3 (Or.inl nb2))
  obtain ⟨T4, h4, X4, e4, W4, st4⟩ := putF X3 hx hZ hown (host := "") (Or.inl (hw _ (List.mem_of_getElem? (i := 76) rfl))) Via.refl e3 Fo4 (E2a.wr W3) (Or.inl (hw _ (List.mem_of_getElem? (i := 77) rfl))) (hw _ (List.mem_of_getElem? (i := 11) rfl)) (ty := .int) (by decide) rfl rfl (g := (mkF m 19 #[.val (.ref a0), .val (.ref a1), .val (.ref b2), .val (.int (0 : Int32))] [(.int (1 : Int32)), (.ref a0)])) rfl rfl (hb hby d11_19)
  refine Rest.via (fun t k => st4 t k) ?_
  have N4 := Fr.snoc X4 N3 g_a0
  have K4 : Keep h0 h4 [a0] := K3.wr W4 (Or.inl (List.mem_of_getElem? (i := 0) rfl))
  have Fw4 := Fo4.same W4
  show Rest p.tables e below s _ _ _ (T4.setTop (mkF m 22 #[.val (.ref a0), .val (.ref a1), .val (.ref b2), .val (.int (0 : Int32))] []))
  refine Rest.ret X4 (v := none) (fun _ => rfl) hlk (fun fs hr => X4.returnOut hx Bd.returns (hb hby d11_22) hr) ?_ (by decide) (by decide)
  rw [e4]
  exact ⟨rfl, N4, K4, b2, sz_b2, ⟨((E2a.wr W3).wr W4), ⟨_, ((Fm2.other W3 (Or.inl nb2)).other W4 (Or.inr (slot_ne (Or.inl (hw _ (List.mem_of_getElem? (i := 30) rfl))) (Or.inl (hw _ (List.mem_of_getElem? (i := 77) rfl))) (by decide) (t := .int) (t' := .int) (by decide) (by decide))))⟩, ((Fe2.other W3 (Or.inl nb2)).other W4 (Or.inr (slot_ne (Or.inl (hw _ (List.mem_of_getElem? (i := 33) rfl))) (Or.inl (hw _ (List.mem_of_getElem? (i := 77) rfl))) (by decide) (t := (.array (.object "java/lang/Object"))) (t' := .int) (by decide) (by decide)))), Fw4⟩, (own_OA_keep (own_OA_keep Oq2 (Keep.of_wr W3)) (Keep.of_wr W4)), nb2⟩
theorem ef_H1r (m : MethodId) (a0 : Addr) (a1 : Addr) : entryFrame m #[(.ref a0), (.ref a1), (.ref bb), (.int (1 : Int32))] 4 = mkF m 0 #[.val (.ref a0), .val (.ref a1), .val (.ref bb), .val (.int (1 : Int32))] [] := by first | (simp [entryFrame, mkF, argsToLocals, Value.category, maxLocals]; done) | rfl
def QH1r (Z : State) (a0 : Addr) (a1 : Addr) (bb : Addr) (h0 : Heap) (n0 : Nat) (v : Option Value) (h : Heap) (L : List Loc) : Prop := v = none ∧ Fr n0 L ∧ Keep h0 h [a0, bb]
set_option maxRecDepth 65536 in
set_option maxHeartbeats 40000000 in
theorem rmH1r (l : Launch) (Z : State) (aw : Array Value) (hw : ∀ d ∈ tables_1, d.before aw Z = true) (ws : List Jvm.Cond) (a0 : Addr) (a1 : Addr) (bb : Addr) (h0 : Heap) (n0 : Nat) (Z0 : n0 ≤ h0.size) (A : own_AL Z h0 a0 bb 1) (OAb : own_OA Z h0 bb 10) (nab : a0 ≠ bb) (g_a0 : n0 ≤ a0) (g_bb : n0 ≤ bb) (E1 : Exa Z h0 a1 "[B") :
    MetFree l (⟨"java/util/ArrayList", "add", "(Ljava/lang/Object;[Ljava/lang/Object;I)V"⟩ : MethodName) (head1 (Jvm.Cond.code (⟨"java/util/ArrayList", "add", "(Ljava/lang/Object;[Ljava/lang/Object;I)V"⟩ : MethodName) jdk_38_method_24_code 4 none :: ws) ({ frames := 0, cells := 0, slots := 0, locals := 0 } : Room)) (fun a U => a = #[(.ref a0), (.ref a1), (.ref bb), (.int (1 : Int32))] ∧ Z.Warmed39 U.vm ∧ U.heap = h0) (fun _ _ _ _ _ => True) (fun _ U o U' => ∃ v L, o = .returned v ∧ QH1r Z a0 a1 bb h0 n0 v U'.heap L ∧ FrameEnd U o U' L ({ frames := 0, cells := 0, slots := 0, locals := 0 } : Room).cells ({ frames := 0, cells := 0, slots := 0, locals := 0 } : Room).slots) := by
  refine MetFree.of_bodySF (plainFor_of_name pn_2) hisR ?_
  intro p e s m args below meth c s₁ Bd hml0 hP hK
  obtain ⟨rfl, hZ, hh⟩ := hP
  have hx := Bd.exec
  have hby := Bd.bytes
  have hml : c.maxLocals = 4 := hml0
  have hown : s.vm.findClass "java/util/ArrayList" = some m.cls := findClass_of_methodNamed Bd.named
  have hnm := (name_of_methodNamed Bd.named Bd.method).1
  have hlk : meth.locks = false := BodyLoose.notSynchronized Bd
  have X0 : Stand p l e ({ frames := 0, cells := 0, slots := 0, locals := 0 } : Room) s m #[(.ref a0), (.ref a1), (.ref bb), (.int (1 : Int32))] below meth c s₁ [] 0 0 := Stand.of_body Bd
  have eh0 : s₁.heap = h0 := by rw [← hh, Bd.state]; rfl
  have N0 := Fr.nil n0
  show Rest p.tables e below s (QH1r Z a0 a1 bb h0 n0) _ _ (s₁.setTop (entryFrame m #[(.ref a0), (.ref a1), (.ref bb), (.int (1 : Int32))] 4))
  refine Rest.via (fun t k => castTop (ef_H1r m a0 a1) k) ?_
  obtain ⟨E_a0, ⟨mc, F_mc⟩, F_ed, F_sz⟩ := id A
  show Rest p.tables e below s _ _ _ (s₁.setTop (mkF m 0 #[.val (.ref a0), .val (.ref a1), .val (.ref bb), .val (.int (1 : Int32))] []))
  refine Rest.via (fun t k => XS.iloadN X0.here hx rfl (hb hby d11_0) rfl k) ?_
  show Rest p.tables e below s _ _ _ (s₁.setTop (mkF m 1 #[.val (.ref a0), .val (.ref a1), .val (.ref bb), .val (.int (1 : Int32))] [(.int (1 : Int32))]))
  refine Rest.via (fun t k => XS.aloadN X0.here hx rfl (hb hby d11_1) rfl rfl k) ?_
  show Rest p.tables e below s _ _ _ (s₁.setTop (mkF m 2 #[.val (.ref a0), .val (.ref a1), .val (.ref bb), .val (.int (1 : Int32))] [(.ref bb), (.int (1 : Int32))]))
  obtain ⟨cl1, Ar1, S1, P1, Ov1⟩ := id OAb
  refine Rest.via (fun t k => X0.arraylength hx (by rw [eh0]; exact Ar1.1) (State.isArrayOf_alike hZ.alike Ar1.2.1) (g := (mkF m 2 #[.val (.ref a0), .val (.ref a1), .val (.ref bb), .val (.int (1 : Int32))] [(.ref bb), (.int (1 : Int32))])) rfl rfl (hb hby d11_2) t k) ?_
  rw [len_of S1 P1]
  show Rest p.tables e below s _ _ _ (s₁.setTop (mkF m 3 #[.val (.ref a0), .val (.ref a1), .val (.ref bb), .val (.int (1 : Int32))] [(.int (10 : Int32)), (.int (1 : Int32))]))
  refine Rest.via (fun t k => XS.icmpYes X0.here hx rfl (pc0 := 3) (pc' := 11) rfl (hb hby d11_3) rfl (feq (by decide : ¬ ((1 : Int32) = (10 : Int32)))).2 (by decide) (by decide) k) ?_
  show Rest p.tables e below s _ _ _ (s₁.setTop (mkF m 11 #[.val (.ref a0), .val (.ref a1), .val (.ref bb), .val (.int (1 : Int32))] []))
  refine Rest.via (fun t k => XS.aloadN X0.here hx rfl (hb hby d11_11) rfl rfl k) ?_
  show Rest p.tables e below s _ _ _ (s₁.setTop (mkF m 12 #[.val (.ref a0), .val (.ref a1), .val (.ref bb), .val (.int (1 : Int32))] [(.ref bb)]))
  refine Rest.via (fun t k => XS.iloadN X0.here hx rfl (hb hby d11_12) rfl k) ?_
  show Rest p.tables e below s _ _ _ (s₁.setTop (mkF m 13 #[.val (.ref a0), .val (.ref a1), .val (.ref bb), .val (.int (1 : Int32))] [(.int (1 : Int32)), (.ref bb)]))
  refine Rest.via (fun t k => XS.aloadN X0.here hx rfl (hb hby d11_13) rfl rfl k) ?_
  show Rest p.tables e below s _ _ _ (s₁.setTop (mkF m 14 #[.val (.ref a0), .val (.ref a1), .val (.ref bb), .val (.int (1 : Int32))] [(.ref a1), (.int (1 : Int32)), (.ref bb)]))
  obtain ⟨cl2, Ar2, Sa2, Pa2, Ov2⟩ := id OAb
  have hin2 := inb_of (j := (1 : Int32)) Sa2 ⟨by decide, by decide⟩
  obtain ⟨T2, h2, X2, e2, W2, st2⟩ := stR X0 hx hZ eh0 Ar2 (j := (1 : Int32)) hin2 rfl (Sto.of Ar2 Ov2 (Ins.of_exa E1 (hw _ (List.mem_of_getElem? (i := 99) rfl)))) (g := (mkF m 14 #[.val (.ref a0), .val (.ref a1), .val (.ref bb), .val (.int (1 : Int32))] [(.ref a1), (.int (1 : Int32)), (.ref bb)])) rfl rfl (hb hby d11_14)
  refine Rest.via (fun t k => st2 t k) ?_
  have N2 := Fr.snoc X2 N0 g_bb
  have K2 : Keep h0 h2 [a0, bb] := (Keep.refl h0 [a0, bb]).wr W2 (Or.inl (List.mem_of_getElem? (i := 1) rfl))
  show Rest p.tables e below s _ _ _ (T2.setTop (mkF m 15 #[.val (.ref a0), .val (.ref a1), .val (.ref bb), .val (.int (1 : Int32))] []))
  refine Rest.via (fun t k => XS.aloadN X2.here hx rfl (hb hby d11_15) rfl rfl k) ?_
  show Rest p.tables e below s _ _ _ (T2.setTop (mkF m 16 #[.val (.ref a0), .val (.ref a1), .val (.ref bb), .val (.int (1 : Int32))] [(.ref a0)]))
  refine Rest.via (fun t k => XS.iloadN X2.here hx rfl (hb hby d11_16) rfl k) ?_
  show Rest p.tables e below s _ _ _ (T2.setTop (mkF m 17 #[.val (.ref a0), .val (.ref a1), .val (.ref bb), .val (.int (1 : Int32))] [(.int (1 : Int32)), (.ref a0)]))
  refine Rest.via (fun t k => XS.iconst X2.here hx rfl (hb hby d11_17) k) ?_
  show Rest p.tables e below s _ _ _ (T2.setTop (mkF m 18 #[.val (.ref a0), .val (.ref a1), .val (.ref bb), .val (.int (1 : Int32))] [(.int (1 : Int32)), (.int (1 : Int32)), (.ref a0)]))
  refine Rest.via (fun t k => XS.iadd X2.here hx rfl (hb hby d11_18) rfl k) ?_
  show Rest p.tables e below s _ _ _ (T2.setTop (mkF m 19 #[.val (.ref a0), .val (.ref a1), .val (.ref bb), .val (.int (1 : Int32))] [(.int ((1 : Int32) + (1 : Int32))), (.ref a0)]))
  have Fo3 := (F_sz.other W2 (Or.inl nab))
  obtain ⟨T3, h3, X3, e3, W3, st3⟩ := putF X2 hx hZ hown (host := "") (Or.inl (hw _ (List.mem_of_getElem? (i := 76) rfl))) Via.refl e2 Fo3 (E_a0.wr W2) (Or.inl (hw _ (List.mem_of_getElem? (i := 77) rfl))) (hw _ (List.mem_of_getElem? (i := 11) rfl)) (ty := .int) (by decide) rfl rfl (g := (mkF m 19 #[.val (.ref a0), .val (.ref a1), .val (.ref bb), .val (.int (1 : Int32))] [(.int ((1 : Int32) + (1 : Int32))), (.ref a0)])) rfl rfl (hb hby d11_19)
  refine Rest.via (fun t k => st3 t k) ?_
  have N3 := Fr.snoc X3 N2 g_a0
  have K3 : Keep h0 h3 [a0, bb] := K2.wr W3 (Or.inl (List.mem_of_getElem? (i := 0) rfl))
  have Fw3 := Fo3.same W3
  show Rest p.tables e below s _ _ _ (T3.setTop (mkF m 22 #[.val (.ref a0), .val (.ref a1), .val (.ref bb), .val (.int (1 : Int32))] []))
  refine Rest.ret X3 (v := none) (fun _ => rfl) hlk (fun fs hr => X3.returnOut hx Bd.returns (hb hby d11_22) hr) ?_ (by decide) (by decide)
  rw [e3]
  exact ⟨rfl, N3, K3⟩
theorem pd_4 : parseMethodDescriptor "(Ljava/lang/Object;[Ljava/lang/Object;I)V" = some ⟨[(.object "java/lang/Object"), (.array (.object "java/lang/Object")), .int], none⟩ := by decide +kernel
theorem d10_0 : decode jdk_38_method_25_code 0 = .ok (.aload_n 0, 1) := by decide +kernel
theorem d10_1 : decode jdk_38_method_25_code 1 = .ok (.dup, 1) := by decide +kernel
theorem d10_2 : decode jdk_38_method_25_code 2 = .ok (.getfield 63, 3) := by decide +kernel
theorem d10_5 : decode jdk_38_method_25_code 5 = .ok (.iconst 1, 1) := by decide +kernel
theorem d10_6 : decode jdk_38_method_25_code 6 = .ok (.iadd, 1) := by decide +kernel
theorem d10_7 : decode jdk_38_method_25_code 7 = .ok (.putfield 63, 3) := by decide +kernel
theorem d10_10 : decode jdk_38_method_25_code 10 = .ok (.aload_n 0, 1) := by decide +kernel
theorem d10_11 : decode jdk_38_method_25_code 11 = .ok (.aload_n 1, 1) := by decide +kernel
theorem d10_12 : decode jdk_38_method_25_code 12 = .ok (.aload_n 0, 1) := by decide +kernel
theorem d10_13 : decode jdk_38_method_25_code 13 = .ok (.getfield 9, 3) := by decide +kernel
theorem d10_16 : decode jdk_38_method_25_code 16 = .ok (.aload_n 0, 1) := by decide +kernel
theorem d10_17 : decode jdk_38_method_25_code 17 = .ok (.getfield 48, 3) := by decide +kernel
theorem d10_20 : decode jdk_38_method_25_code 20 = .ok (.invokevirtual 131, 3) := by decide +kernel
theorem d10_23 : decode jdk_38_method_25_code 23 = .ok (.iconst 1, 1) := by decide +kernel
theorem d10_24 : decode jdk_38_method_25_code 24 = .ok (.ireturn, 1) := by decide +kernel
theorem ef_D0r (m : MethodId) (a0 : Addr) (a1 : Addr) : entryFrame m #[(.ref a0), (.ref a1)] 2 = mkF m 0 #[.val (.ref a0), .val (.ref a1)] [] := by first | (simp [entryFrame, mkF, argsToLocals, Value.category, maxLocals]; done) | rfl
def QD0r (Z : State) (a0 : Addr) (a1 : Addr) (de : Addr) (h0 : Heap) (n0 : Nat) (v : Option Value) (h : Heap) (L : List Loc) : Prop := v = some (.int (1 : Int32)) ∧ Fr n0 L ∧ Keep h0 h [a0] ∧ ∃ b, h0.size ≤ b ∧ own_AL Z h a0 b 1 ∧ own_OA Z h b 10 ∧ a0 ≠ b
set_option maxRecDepth 65536 in
set_option maxHeartbeats 40000000 in
theorem rmD0r (l : Launch) (Z : State) (aw : Array Value) (hw : ∀ d ∈ tables_1, d.before aw Z = true) (ws : List Jvm.Cond) (a0 : Addr) (a1 : Addr) (de : Addr) (h0 : Heap) (n0 : Nat) (Z0 : n0 ≤ h0.size) (A : own_AL Z h0 a0 de 0) (g_a0 : n0 ≤ a0) (O : Old Z n0 h0) (DE0 : own_DE Z Z.heap de) (E1 : Exa Z h0 a1 "[B") :
    MetFree l (⟨"java/util/ArrayList", "add", "(Ljava/lang/Object;)Z"⟩ : MethodName) (head1 (Jvm.Cond.code (⟨"java/util/ArrayList", "add", "(Ljava/lang/Object;)Z"⟩ : MethodName) jdk_38_method_25_code 2 (some .boolean) :: ws) ({ frames := 4, cells := 1, slots := 10, locals := 56 } : Room)) (fun a U => a = #[(.ref a0), (.ref a1)] ∧ Z.Warmed39 U.vm ∧ U.heap = h0) (fun _ _ _ _ _ => True) (fun _ U o U' => ∃ v L, o = .returned v ∧ QD0r Z a0 a1 de h0 n0 v U'.heap L ∧ FrameEnd U o U' L ({ frames := 4, cells := 1, slots := 10, locals := 56 } : Room).cells ({ frames := 4, cells := 1, slots := 10, locals := 56 } : Room).slots) := by
  refine MetFree.of_bodySF (plainFor_of_name pn_2) hisR ?_
  intro p e s m args below meth c s₁ Bd hml0 hP hK
  obtain ⟨rfl, hZ, hh⟩ := hP
  have hx := Bd.exec
  have hby := Bd.bytes
  have hml : c.maxLocals = 2 := hml0
  have hown : s.vm.findClass "java/util/ArrayList" = some m.cls := findClass_of_methodNamed Bd.named
  have hnm := (name_of_methodNamed Bd.named Bd.method).1
  have hlk : meth.locks = false := BodyLoose.notSynchronized Bd
  have X0 : Stand p l e ({ frames := 4, cells := 1, slots := 10, locals := 56 } : Room) s m #[(.ref a0), (.ref a1)] below meth c s₁ [] 0 0 := Stand.of_body Bd
  have eh0 : s₁.heap = h0 := by rw [← hh, Bd.state]; rfl
  have N0 := Fr.nil n0
  show Rest p.tables e below s (QD0r Z a0 a1 de h0 n0) _ _ (s₁.setTop (entryFrame m #[(.ref a0), (.ref a1)] 2))
  refine Rest.via (fun t k => castTop (ef_D0r m a0 a1) k) ?_
  obtain ⟨E_a0, ⟨mc, F_mc⟩, F_ed, F_sz⟩ := id A
  show Rest p.tables e below s _ _ _ (s₁.setTop (mkF m 0 #[.val (.ref a0), .val (.ref a1)] []))
  refine Rest.via (fun t k => XS.aloadN X0.here hx rfl (hb hby d10_0) rfl rfl k) ?_
  show Rest p.tables e below s _ _ _ (s₁.setTop (mkF m 1 #[.val (.ref a0), .val (.ref a1)] [(.ref a0)]))
  refine Rest.via (fun t k => XS.dup X0.here hx rfl (hb hby d10_1) rfl rfl k) ?_
  show Rest p.tables e below s _ _ _ (s₁.setTop (mkF m 2 #[.val (.ref a0), .val (.ref a1)] [(.ref a0), (.ref a0)]))
  obtain ⟨T1, X1, e1, st1⟩ := getF X0 hx hZ hown (host := "") (Or.inl (hw _ (List.mem_of_getElem? (i := 74) rfl))) (Via.of (hw _ (List.mem_of_getElem? (i := 75) rfl))) eh0 F_mc (g := (mkF m 2 #[.val (.ref a0), .val (.ref a1)] [(.ref a0), (.ref a0)])) rfl rfl (hb hby d10_2)
  refine Rest.via (fun t k => st1 t k) ?_
  show Rest p.tables e below s _ _ _ (T1.setTop (mkF m 5 #[.val (.ref a0), .val (.ref a1)] [(.int mc), (.ref a0)]))
  refine Rest.via (fun t k => XS.iconst X1.here hx rfl (hb hby d10_5) k) ?_
  show Rest p.tables e below s _ _ _ (T1.setTop (mkF m 6 #[.val (.ref a0), .val (.ref a1)] [(.int (1 : Int32)), (.int mc), (.ref a0)]))
  refine Rest.via (fun t k => XS.iadd X1.here hx rfl (hb hby d10_6) rfl k) ?_
  show Rest p.tables e below s _ _ _ (T1.setTop (mkF m 7 #[.val (.ref a0), .val (.ref a1)] [(.int (mc + (1 : Int32))), (.ref a0)]))
  have Fo2 := F_mc
  obtain ⟨T2, h2, X2, e2, W2, st2⟩ := putF X1 hx hZ hown (host := "") (Or.inl (hw _ (List.mem_of_getElem? (i := 74) rfl))) (Via.of (hw _ (List.mem_of_getElem? (i := 75) rfl))) e1 Fo2 E_a0 (Or.inl (hw _ (List.mem_of_getElem? (i := 30) rfl))) (hw _ (List.mem_of_getElem? (i := 11) rfl)) (ty := .int) (by decide) rfl rfl (g := (mkF m 7 #[.val (.ref a0), .val (.ref a1)] [(.int (mc + (1 : Int32))), (.ref a0)])) rfl rfl (hb hby d10_7)
  refine Rest.via (fun t k => st2 t k) ?_
  have N2 := Fr.snoc X2 N0 g_a0
  have K2 : Keep h0 h2 [a0] := (Keep.refl h0 [a0]).wr W2 (Or.inl (List.mem_of_getElem? (i := 0) rfl))
  have Fw2 := Fo2.same W2
  show Rest p.tables e below s _ _ _ (T2.setTop (mkF m 10 #[.val (.ref a0), .val (.ref a1)] []))
  refine Rest.via (fun t k => XS.aloadN X2.here hx rfl (hb hby d10_10) rfl rfl k) ?_
  show Rest p.tables e below s _ _ _ (T2.setTop (mkF m 11 #[.val (.ref a0), .val (.ref a1)] [(.ref a0)]))
  refine Rest.via (fun t k => XS.aloadN X2.here hx rfl (hb hby d10_11) rfl rfl k) ?_
  show Rest p.tables e below s _ _ _ (T2.setTop (mkF m 12 #[.val (.ref a0), .val (.ref a1)] [(.ref a1), (.ref a0)]))
  refine Rest.via (fun t k => XS.aloadN X2.here hx rfl (hb hby d10_12) rfl rfl k) ?_
  show Rest p.tables e below s _ _ _ (T2.setTop (mkF m 13 #[.val (.ref a0), .val (.ref a1)] [(.ref a0), (.ref a1), (.ref a0)]))
  obtain ⟨T3, X3, e3, st3⟩ := getF X2 hx hZ hown (host := "") (Or.inl (hw _ (List.mem_of_getElem? (i := 32) rfl))) Via.refl e2 (F_ed.other W2 (Or.inr (slot_ne (Or.inl (hw _ (List.mem_of_getElem? (i := 33) rfl))) (Or.inl (hw _ (List.mem_of_getElem? (i := 30) rfl))) (by decide) (t := (.array (.object "java/lang/Object"))) (t' := .int) (by decide) (by decide)))) (g := (mkF m 13 #[.val (.ref a0), .val (.ref a1)] [(.ref a0), (.ref a1), (.ref a0)])) rfl rfl (hb hby d10_13)
  refine Rest.via (fun t k => st3 t k) ?_
  show Rest p.tables e below s _ _ _ (T3.setTop (mkF m 16 #[.val (.ref a0), .val (.ref a1)] [(.ref de), (.ref a1), (.ref a0)]))
  refine Rest.via (fun t k => XS.aloadN X3.here hx rfl (hb hby d10_16) rfl rfl k) ?_
  show Rest p.tables e below s _ _ _ (T3.setTop (mkF m 17 #[.val (.ref a0), .val (.ref a1)] [(.ref a0), (.ref de), (.ref a1), (.ref a0)]))
  obtain ⟨T4, X4, e4, st4⟩ := getF X3 hx hZ hown (host := "") (Or.inl (hw _ (List.mem_of_getElem? (i := 76) rfl))) Via.refl e3 (F_sz.other W2 (Or.inr (slot_ne (Or.inl (hw _ (List.mem_of_getElem? (i := 77) rfl))) (Or.inl (hw _ (List.mem_of_getElem? (i := 30) rfl))) (by decide) (t := .int) (t' := .int) (by decide) (by decide)))) (g := (mkF m 17 #[.val (.ref a0), .val (.ref a1)] [(.ref a0), (.ref de), (.ref a1), (.ref a0)])) rfl rfl (hb hby d10_17)
  refine Rest.via (fun t k => st4 t k) ?_
  show Rest p.tables e below s _ _ _ (T4.setTop (mkF m 20 #[.val (.ref a0), .val (.ref a1)] [(.int (0 : Int32)), (.ref de), (.ref a1), (.ref a0)]))
  obtain ⟨cq5, q5, q5'⟩ := ((E_a0.wr W2)).cell
  obtain ⟨_, _, ⟨T5, L5, k5, n5⟩, -, X5, ⟨Lc5, hQ5, l5, y5, z5⟩, st5⟩ := X4.privateBack hx (y := (⟨"java/util/ArrayList", "add", "(Ljava/lang/Object;[Ljava/lang/Object;I)V"⟩ : MethodName)) hown (mvT hZ (hw _ (List.mem_of_getElem? (i := 78) rfl))) (mvT hZ (hw _ (List.mem_of_getElem? (i := 79) rfl))) (mvT hZ (hw _ (List.mem_of_getElem? (i := 81) rfl))) (Cond.privateMethod_at (mvP hZ (hw _ (List.mem_of_getElem? (i := 80) rfl)) (args := #[]))) (mvT hZ (hw _ (List.mem_of_getElem? (i := 82) rfl))) (by decide) (backOf (W := 0) (rmH0r l Z aw hw [] a0 a1 de h2 n0 (Nat.le_trans Z0 K2.1) ⟨(E_a0.wr W2), ⟨_, Fw2⟩, (F_ed.other W2 (Or.inr (slot_ne (Or.inl (hw _ (List.mem_of_getElem? (i := 33) rfl))) (Or.inl (hw _ (List.mem_of_getElem? (i := 30) rfl))) (by decide) (t := (.array (.object "java/lang/Object"))) (t' := .int) (by decide) (by decide)))), (F_sz.other W2 (Or.inr (slot_ne (Or.inl (hw _ (List.mem_of_getElem? (i := 77) rfl))) (Or.inl (hw _ (List.mem_of_getElem? (i := 30) rfl))) (by decide) (t := .int) (t' := .int) (by decide) (by decide))))⟩ g_a0 (O.keep K2 (allS g_a0 all0)) DE0 (E1.wr W2)) hZ (hw _ (List.mem_of_getElem? (i := 82) rfl)) (hw _ (List.mem_of_getElem? (i := 12) rfl)) (by decide) (by decide)) (g := (mkF m 20 #[.val (.ref a0), .val (.ref a1)] [(.int (0 : Int32)), (.ref de), (.ref a1), (.ref a0)])) rfl (by rw [hml]; rfl) (Steps.refl _) (a := a0) (by rw [e4]; exact q5) q5' (argsL := [(.ref a1), (.ref de), (.int (0 : Int32))]) (rest := []) (lenOf pd_4 rfl) rfl (by show 2 * 0 + _ ≤ _; exact Nat.le_of_eq rfl) (hb hby d10_20) (fun _ _ => ⟨rfl, e4, (by decide : 0 + 1 ≤ _), (by decide : 0 + 10 ≤ _)⟩)
  dsimp only [Pt.U, Pt.locs, Pt.cells, Pt.slots] at X5 l5 y5 z5 st5 hQ5
  subst l5 y5 z5
  obtain ⟨h5, e5⟩ : ∃ z, T5.heap = z := ⟨_, rfl⟩
  rw [e5] at hQ5
  obtain ⟨rfl, Nq5, Kq5, b5, sd5, Aq5, Oq5, nb5⟩ := hQ5
  have N5 := Fr.app N2 Nq5
  have sz_b5 : h0.size ≤ b5 := Nat.le_trans K2.1 sd5
  have K5 : Keep h0 h5 [a0] := K2.trans Kq5 (allS (Or.inl (List.mem_of_getElem? (i := 0) rfl)) all0)
  refine Rest.via (fun t k => st5.trans k) ?_
  show Rest p.tables e below s _ _ _ (T5.setTop (mkF m 23 #[.val (.ref a0), .val (.ref a1)] []))
  refine Rest.via (fun t k => XS.iconst X5.here hx rfl (hb hby d10_23) k) ?_
  show Rest p.tables e below s _ _ _ (T5.setTop (mkF m 24 #[.val (.ref a0), .val (.ref a1)] [(.int (1 : Int32))]))
  refine Rest.ret X5 (v := some (.int (nar .boolean (1 : Int32)))) (fun h => by rw [Bd.returns] at h; cases h) hlk (fun fs hr => retN X5 hx (t := .boolean) Bd.returns (by simp) (hb hby d10_24) hr) ?_ (by decide) (by decide)
  rw [e5]
  exact ⟨rfl, N5, K5, b5, sz_b5, Aq5, Oq5, nb5⟩
theorem ef_D1r (m : MethodId) (a0 : Addr) (a1 : Addr) : entryFrame m #[(.ref a0), (.ref a1)] 2 = mkF m 0 #[.val (.ref a0), .val (.ref a1)] [] := by first | (simp [entryFrame, mkF, argsToLocals, Value.category, maxLocals]; done) | rfl
def QD1r (Z : State) (a0 : Addr) (a1 : Addr) (bb : Addr) (h0 : Heap) (n0 : Nat) (v : Option Value) (h : Heap) (L : List Loc) : Prop := v = some (.int (1 : Int32)) ∧ Fr n0 L ∧ Keep h0 h [a0, bb]
set_option maxRecDepth 65536 in
set_option maxHeartbeats 40000000 in
theorem rmD1r (l : Launch) (Z : State) (aw : Array Value) (hw : ∀ d ∈ tables_1, d.before aw Z = true) (ws : List Jvm.Cond) (a0 : Addr) (a1 : Addr) (bb : Addr) (h0 : Heap) (n0 : Nat) (Z0 : n0 ≤ h0.size) (A : own_AL Z h0 a0 bb 1) (OAb : own_OA Z h0 bb 10) (nab : a0 ≠ bb) (g_a0 : n0 ≤ a0) (g_bb : n0 ≤ bb) (E1 : Exa Z h0 a1 "[B") :
    MetFree l (⟨"java/util/ArrayList", "add", "(Ljava/lang/Object;)Z"⟩ : MethodName) (head1 (Jvm.Cond.code (⟨"java/util/ArrayList", "add", "(Ljava/lang/Object;)Z"⟩ : MethodName) jdk_38_method_25_code 2 (some .boolean) :: ws) ({ frames := 1, cells := 0, slots := 0, locals := 15 } : Room)) (fun a U => a = #[(.ref a0), (.ref a1)] ∧ Z.Warmed39 U.vm ∧ U.heap = h0) (fun _ _ _ _ _ => True) (fun _ U o U' => ∃ v L, o = .returned v ∧ QD1r Z a0 a1 bb h0 n0 v U'.heap L ∧ FrameEnd U o U' L ({ frames := 1, cells := 0, slots := 0, locals := 15 } : Room).cells ({ frames := 1, cells := 0, slots := 0, locals := 15 } : Room).slots) := by
  refine MetFree.of_bodySF (plainFor_of_name pn_2) hisR ?_
  intro p e s m args below meth c s₁ Bd hml0 hP hK
  obtain ⟨rfl, hZ, hh⟩ := hP
  have hx := Bd.exec
  have hby := Bd.bytes
  have hml : c.maxLocals = 2 := hml0
  have hown : s.vm.findClass "java/util/ArrayList" = some m.cls := findClass_of_methodNamed Bd.named
  have hnm := (name_of_methodNamed Bd.named Bd.method).1
  have hlk : meth.locks = false := BodyLoose.notSynchronized Bd
  have X0 : Stand p l e ({ frames := 1, cells := 0, slots := 0, locals := 15 } : Room) s m #[(.ref a0), (.ref a1)] below meth c s₁ [] 0 0 := Stand.of_body Bd
  have eh0 : s₁.heap = h0 := by rw [← hh, Bd.state]; rfl
  have N0 := Fr.nil n0
  show Rest p.tables e below s (QD1r Z a0 a1 bb h0 n0) _ _ (s₁.setTop (entryFrame m #[(.ref a0), (.ref a1)] 2))
  refine Rest.via (fun t k => castTop (ef_D1r m a0 a1) k) ?_
  obtain ⟨E_a0, ⟨mc, F_mc⟩, F_ed, F_sz⟩ := id A
  show Rest p.tables e below s _ _ _ (s₁.setTop (mkF m 0 #[.val (.ref a0), .val (.ref a1)] []))
  refine Rest.via (fun t k => XS.aloadN X0.here hx rfl (hb hby d10_0) rfl rfl k) ?_
  show Rest p.tables e below s _ _ _ (s₁.setTop (mkF m 1 #[.val (.ref a0), .val (.ref a1)] [(.ref a0)]))
  refine Rest.via (fun t k => XS.dup X0.here hx rfl (hb hby d10_1) rfl rfl k) ?_
  show Rest p.tables e below s _ _ _ (s₁.setTop (mkF m 2 #[.val (.ref a0), .val (.ref a1)] [(.ref a0), (.ref a0)]))
  obtain ⟨T1, X1, e1, st1⟩ := getF X0 hx hZ hown (host := "") (Or.inl (hw _ (List.mem_of_getElem? (i := 74) rfl))) (Via.of (hw _ (List.mem_of_getElem? (i := 75) rfl))) eh0 F_mc (g := (mkF m 2 #[.val (.ref a0), .val (.ref a1)] [(.ref a0), (.ref a0)])) rfl rfl (hb hby d10_2)
  refine Rest.via (fun t k => st1 t k) ?_
  show Rest p.tables e below s _ _ _ (T1.setTop (mkF m 5 #[.val (.ref a0), .val (.ref a1)] [(.int mc), (.ref a0)]))
  refine Rest.via (fun t k => XS.iconst X1.here hx rfl (hb hby d10_5) k) ?_
  show Rest p.tables e below s _ _ _ (T1.setTop (mkF m 6 #[.val (.ref a0), .val (.ref a1)] [(.int (1 : Int32)), (.int mc), (.ref a0)]))
  refine Rest.via (fun t k => XS.iadd X1.here hx rfl (hb hby d10_6) rfl k) ?_
  show Rest p.tables e below s _ _ _ (T1.setTop (mkF m 7 #[.val (.ref a0), .val (.ref a1)] [(.int (mc + (1 : Int32))), (.ref a0)]))
  have Fo2 := F_mc
  obtain ⟨T2, h2, X2, e2, W2, st2⟩ := putF X1 hx hZ hown (host := "") (Or.inl (hw _ (List.mem_of_getElem? (i := 74) rfl))) (Via.of (hw _ (List.mem_of_getElem? (i := 75) rfl))) e1 Fo2 E_a0 (Or.inl (hw _ (List.mem_of_getElem? (i := 30) rfl))) (hw _ (List.mem_of_getElem? (i := 11) rfl)) (ty := .int) (by decide) rfl rfl (g := (mkF m 7 #[.val (.ref a0), .val (.ref a1)] [(.int (mc + (1 : Int32))), (.ref a0)])) rfl rfl (hb hby d10_7)
  refine Rest.via (fun t k => st2 t k) ?_
  have N2 := Fr.snoc X2 N0 g_a0
  have K2 : Keep h0 h2 [a0, bb] := (Keep.refl h0 [a0, bb]).wr W2 (Or.inl (List.mem_of_getElem? (i := 0) rfl))
  have Fw2 := Fo2.same W2
  show Rest p.tables e below s _ _ _ (T2.setTop (mkF m 10 #[.val (.ref a0), .val (.ref a1)] []))
  refine Rest.via (fun t k => XS.aloadN X2.here hx rfl (hb hby d10_10) rfl rfl k) ?_
  show Rest p.tables e below s _ _ _ (T2.setTop (mkF m 11 #[.val (.ref a0), .val (.ref a1)] [(.ref a0)]))
  refine Rest.via (fun t k => XS.aloadN X2.here hx rfl (hb hby d10_11) rfl rfl k) ?_
  show Rest p.tables e below s _ _ _ (T2.setTop (mkF m 12 #[.val (.ref a0), .val (.ref a1)] [(.ref a1), (.ref a0)]))
  refine Rest.via (fun t k => XS.aloadN X2.here hx rfl (hb hby d10_12) rfl rfl k) ?_
  show Rest p.tables e below s _ _ _ (T2.setTop (mkF m 13 #[.val (.ref a0), .val (.ref a1)] [(.ref a0), (.ref a1), (.ref a0)]))
  obtain ⟨T3, X3, e3, st3⟩ := getF X2 hx hZ hown (host := "") (Or.inl (hw _ (List.mem_of_getElem? (i := 32) rfl))) Via.refl e2 (F_ed.other W2 (Or.inr (slot_ne (Or.inl (hw _ (List.mem_of_getElem? (i := 33) rfl))) (Or.inl (hw _ (List.mem_of_getElem? (i := 30) rfl))) (by decide) (t := (.array (.object "java/lang/Object"))) (t' := .int) (by decide) (by decide)))) (g := (mkF m 13 #[.val (.ref a0), .val (.ref a1)] [(.ref a0), (.ref a1), (.ref a0)])) rfl rfl (hb hby d10_13)
  refine Rest.via (fun t k => st3 t k) ?_
  show Rest p.tables e below s _ _ _ (T3.setTop (mkF m 16 #[.val (.ref a0), .val (.ref a1)] [(.ref bb), (.ref a1), (.ref a0)]))
  refine Rest.via (fun t k => XS.aloadN X3.here hx rfl (hb hby d10_16) rfl rfl k) ?_
  show Rest p.tables e below s _ _ _ (T3.setTop (mkF m 17 #[.val (.ref a0), .val (.ref a1)] [(.ref a0), (.ref bb), (.ref a1), (.ref a0)]))
  obtain ⟨T4, X4, e4, st4⟩ := getF X3 hx hZ hown (host := "") (Or.inl (hw _ (List.mem_of_getElem? (i := 76) rfl))) Via.refl e3 (F_sz.other W2 (Or.inr (slot_ne (Or.inl (hw _ (List.mem_of_getElem? (i := 77) rfl))) (Or.inl (hw _ (List.mem_of_getElem? (i := 30) rfl))) (by decide) (t := .int) (t' := .int) (by decide) (by decide)))) (g := (mkF m 17 #[.val (.ref a0), .val (.ref a1)] [(.ref a0), (.ref bb), (.ref a1), (.ref a0)])) rfl rfl (hb hby d10_17)
  refine Rest.via (fun t k => st4 t k) ?_
  show Rest p.tables e below s _ _ _ (T4.setTop (mkF m 20 #[.val (.ref a0), .val (.ref a1)] [(.int (1 : Int32)), (.ref bb), (.ref a1), (.ref a0)]))
  obtain ⟨cq5, q5, q5'⟩ := ((E_a0.wr W2)).cell
  obtain ⟨_, _, ⟨T5, L5, k5, n5⟩, -, X5, ⟨Lc5, hQ5, l5, y5, z5⟩, st5⟩ := X4.privateBack hx (y := (⟨"java/util/ArrayList", "add", "(Ljava/lang/Object;[Ljava/lang/Object;I)V"⟩ : MethodName)) hown (mvT hZ (hw _ (List.mem_of_getElem? (i := 78) rfl))) (mvT hZ (hw _ (List.mem_of_getElem? (i := 79) rfl))) (mvT hZ (hw _ (List.mem_of_getElem? (i := 81) rfl))) (Cond.privateMethod_at (mvP hZ (hw _ (List.mem_of_getElem? (i := 80) rfl)) (args := #[]))) (mvT hZ (hw _ (List.mem_of_getElem? (i := 82) rfl))) (by decide) (backOf (W := 0) (rmH1r l Z aw hw [] a0 a1 bb h2 n0 (Nat.le_trans Z0 K2.1) ⟨(E_a0.wr W2), ⟨_, Fw2⟩, (F_ed.other W2 (Or.inr (slot_ne (Or.inl (hw _ (List.mem_of_getElem? (i := 33) rfl))) (Or.inl (hw _ (List.mem_of_getElem? (i := 30) rfl))) (by decide) (t := (.array (.object "java/lang/Object"))) (t' := .int) (by decide) (by decide)))), (F_sz.other W2 (Or.inr (slot_ne (Or.inl (hw _ (List.mem_of_getElem? (i := 77) rfl))) (Or.inl (hw _ (List.mem_of_getElem? (i := 30) rfl))) (by decide) (t := .int) (t' := .int) (by decide) (by decide))))⟩ (own_OA_keep OAb (Keep.of_wr W2)) nab g_a0 g_bb (E1.wr W2)) hZ (hw _ (List.mem_of_getElem? (i := 82) rfl)) (hw _ (List.mem_of_getElem? (i := 12) rfl)) (by decide) (by decide)) (g := (mkF m 20 #[.val (.ref a0), .val (.ref a1)] [(.int (1 : Int32)), (.ref bb), (.ref a1), (.ref a0)])) rfl (by rw [hml]; rfl) (Steps.refl _) (a := a0) (by rw [e4]; exact q5) q5' (argsL := [(.ref a1), (.ref bb), (.int (1 : Int32))]) (rest := []) (lenOf pd_4 rfl) rfl (by show 2 * 0 + _ ≤ _; exact Nat.le_of_eq rfl) (hb hby d10_20) (fun _ _ => ⟨rfl, e4, (by decide : 0 + 0 ≤ _), (by decide : 0 + 0 ≤ _)⟩)
  dsimp only [Pt.U, Pt.locs, Pt.cells, Pt.slots] at X5 l5 y5 z5 st5 hQ5
  subst l5 y5 z5
  obtain ⟨h5, e5⟩ : ∃ z, T5.heap = z := ⟨_, rfl⟩
  rw [e5] at hQ5
  obtain ⟨rfl, Nq5, Kq5⟩ := hQ5
  have N5 := Fr.app N2 Nq5
  have K5 : Keep h0 h5 [a0, bb] := K2.trans Kq5 (allS (Or.inl (List.mem_of_getElem? (i := 0) rfl)) (allS (Or.inl (List.mem_of_getElem? (i := 1) rfl)) all0))
  refine Rest.via (fun t k => st5.trans k) ?_
  show Rest p.tables e below s _ _ _ (T5.setTop (mkF m 23 #[.val (.ref a0), .val (.ref a1)] []))
  refine Rest.via (fun t k => XS.iconst X5.here hx rfl (hb hby d10_23) k) ?_
  show Rest p.tables e below s _ _ _ (T5.setTop (mkF m 24 #[.val (.ref a0), .val (.ref a1)] [(.int (1 : Int32))]))
  refine Rest.ret X5 (v := some (.int (nar .boolean (1 : Int32)))) (fun h => by rw [Bd.returns] at h; cases h) hlk (fun fs hr => retN X5 hx (t := .boolean) Bd.returns (by simp) (hb hby d10_24) hr) ?_ (by decide) (by decide)
  rw [e5]
  exact ⟨rfl, N5, K5⟩
theorem ef_H0n (m : MethodId) (a0 : Addr) : entryFrame m #[(.ref a0), .null, (.ref de), (.int (0 : Int32))] 4 = mkF m 0 #[.val (.ref a0), .val .null, .val (.ref de), .val (.int (0 : Int32))] [] := by first | (simp [entryFrame, mkF, argsToLocals, Value.category, maxLocals]; done) | rfl
def QH0n (Z : State) (a0 : Addr) (de : Addr) (h0 : Heap) (n0 : Nat) (v : Option Value) (h : Heap) (L : List Loc) : Prop := v = none ∧ Fr n0 L ∧ Keep h0 h [a0] ∧ ∃ b, h0.size ≤ b ∧ own_AL Z h a0 b 1 ∧ own_OA Z h b 10 ∧ a0 ≠ b
set_option maxRecDepth 65536 in
set_option maxHeartbeats 40000000 in
theorem rmH0n (l : Launch) (Z : State) (aw : Array Value) (hw : ∀ d ∈ tables_1, d.before aw Z = true) (ws : List Jvm.Cond) (a0 : Addr) (de : Addr) (h0 : Heap) (n0 : Nat) (Z0 : n0 ≤ h0.size) (A : own_AL Z h0 a0 de 0) (g_a0 : n0 ≤ a0) (O : Old Z n0 h0) (DE0 : own_DE Z Z.heap de) :
    MetFree l (⟨"java/util/ArrayList", "add", "(Ljava/lang/Object;[Ljava/lang/Object;I)V"⟩ : MethodName) (head1 (Jvm.Cond.code (⟨"java/util/ArrayList", "add", "(Ljava/lang/Object;[Ljava/lang/Object;I)V"⟩ : MethodName) jdk_38_method_24_code 4 none :: ws) ({ frames := 3, cells := 1, slots := 10, locals := 41 } : Room)) (fun a U => a = #[(.ref a0), .null, (.ref de), (.int (0 : Int32))] ∧ Z.Warmed39 U.vm ∧ U.heap = h0) (fun _ _ _ _ _ => True) (fun _ U o U' => ∃ v L, o = .returned v ∧ QH0n Z a0 de h0 n0 v U'.heap L ∧ FrameEnd U o U' L ({ frames := 3, cells := 1, slots := 10, locals := 41 } : Room).cells ({ frames := 3, cells := 1, slots := 10, locals := 41 } : Room).slots) := by
  refine MetFree.of_bodySF (plainFor_of_name pn_2) hisR ?_
  intro p e s m args below meth c s₁ Bd hml0 hP hK
  obtain ⟨rfl, hZ, hh⟩ := hP
  have hx := Bd.exec
  have hby := Bd.bytes
  have hml : c.maxLocals = 4 := hml0
  have hown : s.vm.findClass "java/util/ArrayList" = some m.cls := findClass_of_methodNamed Bd.named
  have hnm := (name_of_methodNamed Bd.named Bd.method).1
  have hlk : meth.locks = false := BodyLoose.notSynchronized Bd
  have X0 : Stand p l e ({ frames := 3, cells := 1, slots := 10, locals := 41 } : Room) s m #[(.ref a0), .null, (.ref de), (.int (0 : Int32))] below meth c s₁ [] 0 0 := Stand.of_body Bd
  have eh0 : s₁.heap = h0 := by rw [← hh, Bd.state]; rfl
  have N0 := Fr.nil n0
  show Rest p.tables e below s (QH0n Z a0 de h0 n0) _ _ (s₁.setTop (entryFrame m #[(.ref a0), .null, (.ref de), (.int (0 : Int32))] 4))
  refine Rest.via (fun t k => castTop (ef_H0n m a0) k) ?_
  obtain ⟨E_a0, ⟨mc, F_mc⟩, F_ed, F_sz⟩ := id A
  show Rest p.tables e below s _ _ _ (s₁.setTop (mkF m 0 #[.val (.ref a0), .val .null, .val (.ref de), .val (.int (0 : Int32))] []))
  refine Rest.via (fun t k => XS.iloadN X0.here hx rfl (hb hby d11_0) rfl k) ?_
  show Rest p.tables e below s _ _ _ (s₁.setTop (mkF m 1 #[.val (.ref a0), .val .null, .val (.ref de), .val (.int (0 : Int32))] [(.int (0 : Int32))]))
  refine Rest.via (fun t k => XS.aloadN X0.here hx rfl (hb hby d11_1) rfl rfl k) ?_
  show Rest p.tables e below s _ _ _ (s₁.setTop (mkF m 2 #[.val (.ref a0), .val .null, .val (.ref de), .val (.int (0 : Int32))] [(.ref de), (.int (0 : Int32))]))
  obtain ⟨-, cl1, Ar1, S1, P1⟩ := id (own_DE_ext (O.keep (Keep.refl h0 [a0]) (allS g_a0 all0)).2 DE0)
  refine Rest.via (fun t k => X0.arraylength hx (by rw [eh0]; exact Ar1.1) (State.isArrayOf_alike hZ.alike Ar1.2.1) (g := (mkF m 2 #[.val (.ref a0), .val .null, .val (.ref de), .val (.int (0 : Int32))] [(.ref de), (.int (0 : Int32))])) rfl rfl (hb hby d11_2) t k) ?_
  rw [len_of S1 P1]
  show Rest p.tables e below s _ _ _ (s₁.setTop (mkF m 3 #[.val (.ref a0), .val .null, .val (.ref de), .val (.int (0 : Int32))] [(.int (0 : Int32)), (.int (0 : Int32))]))
  refine Rest.via (fun t k => XS.icmpNo X0.here hx rfl (hb hby d11_3) rfl (teq (by decide : (0 : Int32) = (0 : Int32))).2 k) ?_
  show Rest p.tables e below s _ _ _ (s₁.setTop (mkF m 6 #[.val (.ref a0), .val .null, .val (.ref de), .val (.int (0 : Int32))] []))
  refine Rest.via (fun t k => XS.aloadN X0.here hx rfl (hb hby d11_6) rfl rfl k) ?_
  show Rest p.tables e below s _ _ _ (s₁.setTop (mkF m 7 #[.val (.ref a0), .val .null, .val (.ref de), .val (.int (0 : Int32))] [(.ref a0)]))
  obtain ⟨cq2, q2, q2'⟩ := (E_a0).cell
  obtain ⟨_, _, ⟨T2, L2, k2, n2⟩, -, X2, ⟨Lc2, hQ2, l2, y2, z2⟩, st2⟩ := X0.privateBack hx (y := (⟨"java/util/ArrayList", "grow", "()[Ljava/lang/Object;"⟩ : MethodName)) hown (mvT hZ (hw _ (List.mem_of_getElem? (i := 83) rfl))) (mvT hZ (hw _ (List.mem_of_getElem? (i := 84) rfl))) (mvT hZ (hw _ (List.mem_of_getElem? (i := 86) rfl))) (Cond.privateMethod_at (mvP hZ (hw _ (List.mem_of_getElem? (i := 85) rfl)) (args := #[]))) (mvT hZ (hw _ (List.mem_of_getElem? (i := 87) rfl))) (by decide) (backOf (W := 0) (rmG0 l Z aw hw [] a0 de h0 n0 (Nat.le_trans Z0 (Keep.refl h0 [a0]).1) ⟨E_a0, ⟨_, F_mc⟩, F_ed, F_sz⟩ g_a0 (O.keep (Keep.refl h0 [a0]) (allS g_a0 all0)) DE0) hZ (hw _ (List.mem_of_getElem? (i := 87) rfl)) (hw _ (List.mem_of_getElem? (i := 12) rfl)) (by decide) (by decide)) (g := (mkF m 7 #[.val (.ref a0), .val .null, .val (.ref de), .val (.int (0 : Int32))] [(.ref a0)])) rfl (by rw [hml]; rfl) (Steps.refl _) (a := a0) (by rw [eh0]; exact q2) q2' (argsL := []) (rest := []) (lenOf pd_3 rfl) rfl (by show 2 * 0 + _ ≤ _; exact Nat.le_of_eq rfl) (hb hby d11_7) (fun _ _ => ⟨rfl, eh0, (by decide : 0 + 1 ≤ _), (by decide : 0 + 10 ≤ _)⟩)
  dsimp only [Pt.U, Pt.locs, Pt.cells, Pt.slots] at X2 l2 y2 z2 st2 hQ2
  subst l2 y2 z2
  obtain ⟨h2, e2⟩ : ∃ z, T2.heap = z := ⟨_, rfl⟩
  rw [e2] at hQ2
  obtain ⟨b2, rfl, Nq2, Kq2, sd2, Aq2, Oq2, nb2⟩ := hQ2
  have N2 := Fr.app N0 Nq2
  have sz_b2 : h0.size ≤ b2 := Nat.le_trans (Keep.refl h0 [a0]).1 sd2
  have g_b2 : n0 ≤ b2 := Nat.le_trans Z0 sz_b2
  have K2 : Keep h0 h2 [a0] := (Keep.refl h0 [a0]).trans Kq2 (allS (Or.inl (List.mem_of_getElem? (i := 0) rfl)) all0)
  obtain ⟨E2a, ⟨mc2, Fm2⟩, Fe2, Fs2⟩ := Aq2
  refine Rest.via (fun t k => st2.trans k) ?_
  show Rest p.tables e below s _ _ _ (T2.setTop (mkF m 10 #[.val (.ref a0), .val .null, .val (.ref de), .val (.int (0 : Int32))] [(.ref b2)]))
  refine Rest.via (fun t k => XS.astoreN X2.here hx rfl (hb hby d11_10) rfl rfl (l' := #[.val (.ref a0), .val .null, .val (.ref b2), .val (.int (0 : Int32))]) rfl k) ?_
  show Rest p.tables e below s _ _ _ (T2.setTop (mkF m 11 #[.val (.ref a0), .val .null, .val (.ref b2), .val (.int (0 : Int32))] []))
  refine Rest.via (fun t k => XS.aloadN X2.here hx rfl (hb hby d11_11) rfl rfl k) ?_
  show Rest p.tables e below s _ _ _ (T2.setTop (mkF m 12 #[.val (.ref a0), .val .null, .val (.ref b2), .val (.int (0 : Int32))] [(.ref b2)]))
  refine Rest.via (fun t k => XS.iloadN X2.here hx rfl (hb hby d11_12) rfl k) ?_
  show Rest p.tables e below s _ _ _ (T2.setTop (mkF m 13 #[.val (.ref a0), .val .null, .val (.ref b2), .val (.int (0 : Int32))] [(.int (0 : Int32)), (.ref b2)]))
  refine Rest.via (fun t k => XS.aloadN X2.here hx rfl (hb hby d11_13) rfl rfl k) ?_
  show Rest p.tables e below s _ _ _ (T2.setTop (mkF m 14 #[.val (.ref a0), .val .null, .val (.ref b2), .val (.int (0 : Int32))] [.null, (.int (0 : Int32)), (.ref b2)]))
  obtain ⟨cl3, Ar3, Sa3, Pa3, Ov3⟩ := id Oq2
  have hin3 := inb_of (j := (0 : Int32)) Sa3 ⟨by decide, by decide⟩
  obtain ⟨T3, h3, X3, e3, W3, st3⟩ := stR X2 hx hZ e2 Ar3 (j := (0 : Int32)) hin3 rfl (Or.inl rfl) (g := (mkF m 14 #[.val (.ref a0), .val .null, .val (.ref b2), .val (.int (0 : Int32))] [.null, (.int (0 : Int32)), (.ref b2)])) rfl rfl (hb hby d11_14)
  refine Rest.via (fun t k => st3 t k) ?_
  have N3 := Fr.snoc X3 N2 g_b2
  have K3 : Keep h0 h3 [a0] := K2.wr W3 (Or.inr sz_b2)
  show Rest p.tables e below s _ _ _ (T3.setTop (mkF m 15 #[.val (.ref a0), .val .null, .val (.ref b2), .val (.int (0 : Int32))] []))
  refine Rest.via (fun t k => XS.aloadN X3.here hx rfl (hb hby d11_15) rfl rfl k) ?_
  show Rest p.tables e below s _ _ _ (T3.setTop (mkF m 16 #[.val (.ref a0), .val .null, .val (.ref b2), .val (.int (0 : Int32))] [(.ref a0)]))
  refine Rest.via (fun t k => XS.iloadN X3.here hx rfl (hb hby d11_16) rfl k) ?_
  show Rest p.tables e below s _ _ _ (T3.setTop (mkF m 17 #[.val (.ref a0), .val .null, .val (.ref b2), .val (.int (0 : Int32))] [(.int (0 : Int32)), (.ref a0)]))
  refine Rest.via (fun t k => XS.iconst X3.here hx rfl (hb hby d11_17) k) ?_
  show Rest p.tables e below s _ _ _ (T3.setTop (mkF m 18 #[.val (.ref a0), .val .null, .val (.ref b2), .val (.int (0 : Int32))] [(.int (1 : Int32)), (.int (0 : Int32)), (.ref a0)]))
  refine Rest.via (fun t k => XS.iadd X3.here hx rfl (hb hby d11_18) rfl k) ?_
  show Rest p.tables e below s _ _ _ (T3.setTop (mkF m 19 #[.val (.ref a0), .val .null, .val (.ref b2), .val (.int (0 : Int32))] [(.int ((0 : Int32) + (1 : Int32))), (.ref a0)]))
  rw [(by decide : (0 : Int32) + (1 : Int32) = (1 : Int32))]
  show Rest p.tables e below s _ _ _ (T3.setTop (mkF m 19 #[.val (.ref a0), .val .null, .val (.ref b2), .val (.int (0 : Int32))] [(.int (1 : Int32)), (.ref a0)]))
  have Fo4 := (Fs2.other W3 (Or.inl nb2))
  obtain ⟨T4, h4, X4, e4, W4, st4⟩ := putF X3 hx hZ hown (host := "") (Or.inl (hw _ (List.mem_of_getElem? (i := 76) rfl))) Via.refl e3 Fo4 (E2a.wr W3) (Or.inl (hw _ (List.mem_of_getElem? (i := 77) rfl))) (hw _ (List.mem_of_getElem? (i := 11) rfl)) (ty := .int) (by decide) rfl rfl (g := (mkF m 19 #[.val (.ref a0), .val .null, .val (.ref b2), .val (.int (0 : Int32))] [(.int (1 : Int32)), (.ref a0)])) rfl rfl (hb hby d11_19)
  refine Rest.via (fun t k => st4 t k) ?_
  have N4 := Fr.snoc X4 N3 g_a0
  have K4 : Keep h0 h4 [a0] := K3.wr W4 (Or.inl (List.mem_of_getElem? (i := 0) rfl))
  have Fw4 := Fo4.same W4
  show Rest p.tables e below s _ _ _ (T4.setTop (mkF m 22 #[.val (.ref a0), .val .null, .val (.ref b2), .val (.int (0 : Int32))] []))
  refine Rest.ret X4 (v := none) (fun _ => rfl) hlk (fun fs hr => X4.returnOut hx Bd.returns (hb hby d11_22) hr) ?_ (by decide) (by decide)
  rw [e4]
  exact ⟨rfl, N4, K4, b2, sz_b2, ⟨((E2a.wr W3).wr W4), ⟨_, ((Fm2.other W3 (Or.inl nb2)).other W4 (Or.inr (slot_ne (Or.inl (hw _ (List.mem_of_getElem? (i := 30) rfl))) (Or.inl (hw _ (List.mem_of_getElem? (i := 77) rfl))) (by decide) (t := .int) (t' := .int) (by decide) (by decide))))⟩, ((Fe2.other W3 (Or.inl nb2)).other W4 (Or.inr (slot_ne (Or.inl (hw _ (List.mem_of_getElem? (i := 33) rfl))) (Or.inl (hw _ (List.mem_of_getElem? (i := 77) rfl))) (by decide) (t := (.array (.object "java/lang/Object"))) (t' := .int) (by decide) (by decide)))), Fw4⟩, (own_OA_keep (own_OA_keep Oq2 (Keep.of_wr W3)) (Keep.of_wr W4)), nb2⟩
theorem ef_H1n (m : MethodId) (a0 : Addr) : entryFrame m #[(.ref a0), .null, (.ref bb), (.int (1 : Int32))] 4 = mkF m 0 #[.val (.ref a0), .val .null, .val (.ref bb), .val (.int (1 : Int32))] [] := by first | (simp [entryFrame, mkF, argsToLocals, Value.category, maxLocals]; done) | rfl
def QH1n (Z : State) (a0 : Addr) (bb : Addr) (h0 : Heap) (n0 : Nat) (v : Option Value) (h : Heap) (L : List Loc) : Prop := v = none ∧ Fr n0 L ∧ Keep h0 h [a0, bb]
set_option maxRecDepth 65536 in
set_option maxHeartbeats 40000000 in
theorem rmH1n (l : Launch) (Z : State) (aw : Array Value) (hw : ∀ d ∈ tables_1, d.before aw Z = true) (ws : List Jvm.Cond) (a0 : Addr) (bb : Addr) (h0 : Heap) (n0 : Nat) (Z0 : n0 ≤ h0.size) (A : own_AL Z h0 a0 bb 1) (OAb : own_OA Z h0 bb 10) (nab : a0 ≠ bb) (g_a0 : n0 ≤ a0) (g_bb : n0 ≤ bb) :
    MetFree l (⟨"java/util/ArrayList", "add", "(Ljava/lang/Object;[Ljava/lang/Object;I)V"⟩ : MethodName) (head1 (Jvm.Cond.code (⟨"java/util/ArrayList", "add", "(Ljava/lang/Object;[Ljava/lang/Object;I)V"⟩ : MethodName) jdk_38_method_24_code 4 none :: ws) ({ frames := 0, cells := 0, slots := 0, locals := 0 } : Room)) (fun a U => a = #[(.ref a0), .null, (.ref bb), (.int (1 : Int32))] ∧ Z.Warmed39 U.vm ∧ U.heap = h0) (fun _ _ _ _ _ => True) (fun _ U o U' => ∃ v L, o = .returned v ∧ QH1n Z a0 bb h0 n0 v U'.heap L ∧ FrameEnd U o U' L ({ frames := 0, cells := 0, slots := 0, locals := 0 } : Room).cells ({ frames := 0, cells := 0, slots := 0, locals := 0 } : Room).slots) := by
  refine MetFree.of_bodySF (plainFor_of_name pn_2) hisR ?_
  intro p e s m args below meth c s₁ Bd hml0 hP hK
  obtain ⟨rfl, hZ, hh⟩ := hP
  have hx := Bd.exec
  have hby := Bd.bytes
  have hml : c.maxLocals = 4 := hml0
  have hown : s.vm.findClass "java/util/ArrayList" = some m.cls := findClass_of_methodNamed Bd.named
  have hnm := (name_of_methodNamed Bd.named Bd.method).1
  have hlk : meth.locks = false := BodyLoose.notSynchronized Bd
  have X0 : Stand p l e ({ frames := 0, cells := 0, slots := 0, locals := 0 } : Room) s m #[(.ref a0), .null, (.ref bb), (.int (1 : Int32))] below meth c s₁ [] 0 0 := Stand.of_body Bd
  have eh0 : s₁.heap = h0 := by rw [← hh, Bd.state]; rfl
  have N0 := Fr.nil n0
  show Rest p.tables e below s (QH1n Z a0 bb h0 n0) _ _ (s₁.setTop (entryFrame m #[(.ref a0), .null, (.ref bb), (.int (1 : Int32))] 4))
  refine Rest.via (fun t k => castTop (ef_H1n m a0) k) ?_
  obtain ⟨E_a0, ⟨mc, F_mc⟩, F_ed, F_sz⟩ := id A
  show Rest p.tables e below s _ _ _ (s₁.setTop (mkF m 0 #[.val (.ref a0), .val .null, .val (.ref bb), .val (.int (1 : Int32))] []))
  refine Rest.via (fun t k => XS.iloadN X0.here hx rfl (hb hby d11_0) rfl k) ?_
  show Rest p.tables e below s _ _ _ (s₁.setTop (mkF m 1 #[.val (.ref a0), .val .null, .val (.ref bb), .val (.int (1 : Int32))] [(.int (1 : Int32))]))
  refine Rest.via (fun t k => XS.aloadN X0.here hx rfl (hb hby d11_1) rfl rfl k) ?_
  show Rest p.tables e below s _ _ _ (s₁.setTop (mkF m 2 #[.val (.ref a0), .val .null, .val (.ref bb), .val (.int (1 : Int32))] [(.ref bb), (.int (1 : Int32))]))
  obtain ⟨cl1, Ar1, S1, P1, Ov1⟩ := id OAb
  refine Rest.via (fun t k => X0.arraylength hx (by rw [eh0]; exact Ar1.1) (State.isArrayOf_alike hZ.alike Ar1.2.1) (g := (mkF m 2 #[.val (.ref a0), .val .null, .val (.ref bb), .val (.int (1 : Int32))] [(.ref bb), (.int (1 : Int32))])) rfl rfl (hb hby d11_2) t k) ?_
  rw [len_of S1 P1]
  show Rest p.tables e below s _ _ _ (s₁.setTop (mkF m 3 #[.val (.ref a0), .val .null, .val (.ref bb), .val (.int (1 : Int32))] [(.int (10 : Int32)), (.int (1 : Int32))]))
  refine Rest.via (fun t k => XS.icmpYes X0.here hx rfl (pc0 := 3) (pc' := 11) rfl (hb hby d11_3) rfl (feq (by decide : ¬ ((1 : Int32) = (10 : Int32)))).2 (by decide) (by decide) k) ?_
  show Rest p.tables e below s _ _ _ (s₁.setTop (mkF m 11 #[.val (.ref a0), .val .null, .val (.ref bb), .val (.int (1 : Int32))] []))
  refine Rest.via (fun t k => XS.aloadN X0.here hx rfl (hb hby d11_11) rfl rfl k) ?_
  show Rest p.tables e below s _ _ _ (s₁.setTop (mkF m 12 #[.val (.ref a0), .val .null, .val (.ref bb), .val (.int (1 : Int32))] [(.ref bb)]))
  refine Rest.via (fun t k => XS.iloadN X0.here hx rfl (hb hby d11_12) rfl k) ?_
  show Rest p.tables e below s _ _ _ (s₁.setTop (mkF m 13 #[.val (.ref a0), .val .null, .val (.ref bb), .val (.int (1 : Int32))] [(.int (1 : Int32)), (.ref bb)]))
  refine Rest.via (fun t k => XS.aloadN X0.here hx rfl (hb hby d11_13) rfl rfl k) ?_
  show Rest p.tables e below s _ _ _ (s₁.setTop (mkF m 14 #[.val (.ref a0), .val .null, .val (.ref bb), .val (.int (1 : Int32))] [.null, (.int (1 : Int32)), (.ref bb)]))
  obtain ⟨cl2, Ar2, Sa2, Pa2, Ov2⟩ := id OAb
  have hin2 := inb_of (j := (1 : Int32)) Sa2 ⟨by decide, by decide⟩
  obtain ⟨T2, h2, X2, e2, W2, st2⟩ := stR X0 hx hZ eh0 Ar2 (j := (1 : Int32)) hin2 rfl (Or.inl rfl) (g := (mkF m 14 #[.val (.ref a0), .val .null, .val (.ref bb), .val (.int (1 : Int32))] [.null, (.int (1 : Int32)), (.ref bb)])) rfl rfl (hb hby d11_14)
  refine Rest.via (fun t k => st2 t k) ?_
  have N2 := Fr.snoc X2 N0 g_bb
  have K2 : Keep h0 h2 [a0, bb] := (Keep.refl h0 [a0, bb]).wr W2 (Or.inl (List.mem_of_getElem? (i := 1) rfl))
  show Rest p.tables e below s _ _ _ (T2.setTop (mkF m 15 #[.val (.ref a0), .val .null, .val (.ref bb), .val (.int (1 : Int32))] []))
  refine Rest.via (fun t k => XS.aloadN X2.here hx rfl (hb hby d11_15) rfl rfl k) ?_
  show Rest p.tables e below s _ _ _ (T2.setTop (mkF m 16 #[.val (.ref a0), .val .null, .val (.ref bb), .val (.int (1 : Int32))] [(.ref a0)]))
  refine Rest.via (fun t k => XS.iloadN X2.here hx rfl (hb hby d11_16) rfl k) ?_
  show Rest p.tables e below s _ _ _ (T2.setTop (mkF m 17 #[.val (.ref a0), .val .null, .val (.ref bb), .val (.int (1 : Int32))] [(.int (1 : Int32)), (.ref a0)]))
  refine Rest.via (fun t k => XS.iconst X2.here hx rfl (hb hby d11_17) k) ?_
  show Rest p.tables e below s _ _ _ (T2.setTop (mkF m 18 #[.val (.ref a0), .val .null, .val (.ref bb), .val (.int (1 : Int32))] [(.int (1 : Int32)), (.int (1 : Int32)), (.ref a0)]))
  refine Rest.via (fun t k => XS.iadd X2.here hx rfl (hb hby d11_18) rfl k) ?_
  show Rest p.tables e below s _ _ _ (T2.setTop (mkF m 19 #[.val (.ref a0), .val .null, .val (.ref bb), .val (.int (1 : Int32))] [(.int ((1 : Int32) + (1 : Int32))), (.ref a0)]))
  have Fo3 := (F_sz.other W2 (Or.inl nab))
  obtain ⟨T3, h3, X3, e3, W3, st3⟩ := putF X2 hx hZ hown (host := "") (Or.inl (hw _ (List.mem_of_getElem? (i := 76) rfl))) Via.refl e2 Fo3 (E_a0.wr W2) (Or.inl (hw _ (List.mem_of_getElem? (i := 77) rfl))) (hw _ (List.mem_of_getElem? (i := 11) rfl)) (ty := .int) (by decide) rfl rfl (g := (mkF m 19 #[.val (.ref a0), .val .null, .val (.ref bb), .val (.int (1 : Int32))] [(.int ((1 : Int32) + (1 : Int32))), (.ref a0)])) rfl rfl (hb hby d11_19)
  refine Rest.via (fun t k => st3 t k) ?_
  have N3 := Fr.snoc X3 N2 g_a0
  have K3 : Keep h0 h3 [a0, bb] := K2.wr W3 (Or.inl (List.mem_of_getElem? (i := 0) rfl))
  have Fw3 := Fo3.same W3
  show Rest p.tables e below s _ _ _ (T3.setTop (mkF m 22 #[.val (.ref a0), .val .null, .val (.ref bb), .val (.int (1 : Int32))] []))
  refine Rest.ret X3 (v := none) (fun _ => rfl) hlk (fun fs hr => X3.returnOut hx Bd.returns (hb hby d11_22) hr) ?_ (by decide) (by decide)
  rw [e3]
  exact ⟨rfl, N3, K3⟩
theorem ef_D0n (m : MethodId) (a0 : Addr) : entryFrame m #[(.ref a0), .null] 2 = mkF m 0 #[.val (.ref a0), .val .null] [] := by first | (simp [entryFrame, mkF, argsToLocals, Value.category, maxLocals]; done) | rfl
def QD0n (Z : State) (a0 : Addr) (de : Addr) (h0 : Heap) (n0 : Nat) (v : Option Value) (h : Heap) (L : List Loc) : Prop := v = some (.int (1 : Int32)) ∧ Fr n0 L ∧ Keep h0 h [a0] ∧ ∃ b, h0.size ≤ b ∧ own_AL Z h a0 b 1 ∧ own_OA Z h b 10 ∧ a0 ≠ b
set_option maxRecDepth 65536 in
set_option maxHeartbeats 40000000 in
theorem rmD0n (l : Launch) (Z : State) (aw : Array Value) (hw : ∀ d ∈ tables_1, d.before aw Z = true) (ws : List Jvm.Cond) (a0 : Addr) (de : Addr) (h0 : Heap) (n0 : Nat) (Z0 : n0 ≤ h0.size) (A : own_AL Z h0 a0 de 0) (g_a0 : n0 ≤ a0) (O : Old Z n0 h0) (DE0 : own_DE Z Z.heap de) :
    MetFree l (⟨"java/util/ArrayList", "add", "(Ljava/lang/Object;)Z"⟩ : MethodName) (head1 (Jvm.Cond.code (⟨"java/util/ArrayList", "add", "(Ljava/lang/Object;)Z"⟩ : MethodName) jdk_38_method_25_code 2 (some .boolean) :: ws) ({ frames := 4, cells := 1, slots := 10, locals := 56 } : Room)) (fun a U => a = #[(.ref a0), .null] ∧ Z.Warmed39 U.vm ∧ U.heap = h0) (fun _ _ _ _ _ => True) (fun _ U o U' => ∃ v L, o = .returned v ∧ QD0n Z a0 de h0 n0 v U'.heap L ∧ FrameEnd U o U' L ({ frames := 4, cells := 1, slots := 10, locals := 56 } : Room).cells ({ frames := 4, cells := 1, slots := 10, locals := 56 } : Room).slots) := by
  refine MetFree.of_bodySF (plainFor_of_name pn_2) hisR ?_
  intro p e s m args below meth c s₁ Bd hml0 hP hK
  obtain ⟨rfl, hZ, hh⟩ := hP
  have hx := Bd.exec
  have hby := Bd.bytes
  have hml : c.maxLocals = 2 := hml0
  have hown : s.vm.findClass "java/util/ArrayList" = some m.cls := findClass_of_methodNamed Bd.named
  have hnm := (name_of_methodNamed Bd.named Bd.method).1
  have hlk : meth.locks = false := BodyLoose.notSynchronized Bd
  have X0 : Stand p l e ({ frames := 4, cells := 1, slots := 10, locals := 56 } : Room) s m #[(.ref a0), .null] below meth c s₁ [] 0 0 := Stand.of_body Bd
  have eh0 : s₁.heap = h0 := by rw [← hh, Bd.state]; rfl
  have N0 := Fr.nil n0
  show Rest p.tables e below s (QD0n Z a0 de h0 n0) _ _ (s₁.setTop (entryFrame m #[(.ref a0), .null] 2))
  refine Rest.via (fun t k => castTop (ef_D0n m a0) k) ?_
  obtain ⟨E_a0, ⟨mc, F_mc⟩, F_ed, F_sz⟩ := id A
  show Rest p.tables e below s _ _ _ (s₁.setTop (mkF m 0 #[.val (.ref a0), .val .null] []))
  refine Rest.via (fun t k => XS.aloadN X0.here hx rfl (hb hby d10_0) rfl rfl k) ?_
  show Rest p.tables e below s _ _ _ (s₁.setTop (mkF m 1 #[.val (.ref a0), .val .null] [(.ref a0)]))
  refine Rest.via (fun t k => XS.dup X0.here hx rfl (hb hby d10_1) rfl rfl k) ?_
  show Rest p.tables e below s _ _ _ (s₁.setTop (mkF m 2 #[.val (.ref a0), .val .null] [(.ref a0), (.ref a0)]))
  obtain ⟨T1, X1, e1, st1⟩ := getF X0 hx hZ hown (host := "") (Or.inl (hw _ (List.mem_of_getElem? (i := 74) rfl))) (Via.of (hw _ (List.mem_of_getElem? (i := 75) rfl))) eh0 F_mc (g := (mkF m 2 #[.val (.ref a0), .val .null] [(.ref a0), (.ref a0)])) rfl rfl (hb hby d10_2)
  refine Rest.via (fun t k => st1 t k) ?_
  show Rest p.tables e below s _ _ _ (T1.setTop (mkF m 5 #[.val (.ref a0), .val .null] [(.int mc), (.ref a0)]))
  refine Rest.via (fun t k => XS.iconst X1.here hx rfl (hb hby d10_5) k) ?_
  show Rest p.tables e below s _ _ _ (T1.setTop (mkF m 6 #[.val (.ref a0), .val .null] [(.int (1 : Int32)), (.int mc), (.ref a0)]))
  refine Rest.via (fun t k => XS.iadd X1.here hx rfl (hb hby d10_6) rfl k) ?_
  show Rest p.tables e below s _ _ _ (T1.setTop (mkF m 7 #[.val (.ref a0), .val .null] [(.int (mc + (1 : Int32))), (.ref a0)]))
  have Fo2 := F_mc
  obtain ⟨T2, h2, X2, e2, W2, st2⟩ := putF X1 hx hZ hown (host := "") (Or.inl (hw _ (List.mem_of_getElem? (i := 74) rfl))) (Via.of (hw _ (List.mem_of_getElem? (i := 75) rfl))) e1 Fo2 E_a0 (Or.inl (hw _ (List.mem_of_getElem? (i := 30) rfl))) (hw _ (List.mem_of_getElem? (i := 11) rfl)) (ty := .int) (by decide) rfl rfl (g := (mkF m 7 #[.val (.ref a0), .val .null] [(.int (mc + (1 : Int32))), (.ref a0)])) rfl rfl (hb hby d10_7)
  refine Rest.via (fun t k => st2 t k) ?_
  have N2 := Fr.snoc X2 N0 g_a0
  have K2 : Keep h0 h2 [a0] := (Keep.refl h0 [a0]).wr W2 (Or.inl (List.mem_of_getElem? (i := 0) rfl))
  have Fw2 := Fo2.same W2
  show Rest p.tables e below s _ _ _ (T2.setTop (mkF m 10 #[.val (.ref a0), .val .null] []))
  refine Rest.via (fun t k => XS.aloadN X2.here hx rfl (hb hby d10_10) rfl rfl k) ?_
  show Rest p.tables e below s _ _ _ (T2.setTop (mkF m 11 #[.val (.ref a0), .val .null] [(.ref a0)]))
  refine Rest.via (fun t k => XS.aloadN X2.here hx rfl (hb hby d10_11) rfl rfl k) ?_
  show Rest p.tables e below s _ _ _ (T2.setTop (mkF m 12 #[.val (.ref a0), .val .null] [.null, (.ref a0)]))
  refine Rest.via (fun t k => XS.aloadN X2.here hx rfl (hb hby d10_12) rfl rfl k) ?_
  show Rest p.tables e below s _ _ _ (T2.setTop (mkF m 13 #[.val (.ref a0), .val .null] [(.ref a0), .null, (.ref a0)]))
  obtain ⟨T3, X3, e3, st3⟩ := getF X2 hx hZ hown (host := "") (Or.inl (hw _ (List.mem_of_getElem? (i := 32) rfl))) Via.refl e2 (F_ed.other W2 (Or.inr (slot_ne (Or.inl (hw _ (List.mem_of_getElem? (i := 33) rfl))) (Or.inl (hw _ (List.mem_of_getElem? (i := 30) rfl))) (by decide) (t := (.array (.object "java/lang/Object"))) (t' := .int) (by decide) (by decide)))) (g := (mkF m 13 #[.val (.ref a0), .val .null] [(.ref a0), .null, (.ref a0)])) rfl rfl (hb hby d10_13)
  refine Rest.via (fun t k => st3 t k) ?_
  show Rest p.tables e below s _ _ _ (T3.setTop (mkF m 16 #[.val (.ref a0), .val .null] [(.ref de), .null, (.ref a0)]))
  refine Rest.via (fun t k => XS.aloadN X3.here hx rfl (hb hby d10_16) rfl rfl k) ?_
  show Rest p.tables e below s _ _ _ (T3.setTop (mkF m 17 #[.val (.ref a0), .val .null] [(.ref a0), (.ref de), .null, (.ref a0)]))
  obtain ⟨T4, X4, e4, st4⟩ := getF X3 hx hZ hown (host := "") (Or.inl (hw _ (List.mem_of_getElem? (i := 76) rfl))) Via.refl e3 (F_sz.other W2 (Or.inr (slot_ne (Or.inl (hw _ (List.mem_of_getElem? (i := 77) rfl))) (Or.inl (hw _ (List.mem_of_getElem? (i := 30) rfl))) (by decide) (t := .int) (t' := .int) (by decide) (by decide)))) (g := (mkF m 17 #[.val (.ref a0), .val .null] [(.ref a0), (.ref de), .null, (.ref a0)])) rfl rfl (hb hby d10_17)
  refine Rest.via (fun t k => st4 t k) ?_
  show Rest p.tables e below s _ _ _ (T4.setTop (mkF m 20 #[.val (.ref a0), .val .null] [(.int (0 : Int32)), (.ref de), .null, (.ref a0)]))
  obtain ⟨cq5, q5, q5'⟩ := ((E_a0.wr W2)).cell
  obtain ⟨_, _, ⟨T5, L5, k5, n5⟩, -, X5, ⟨Lc5, hQ5, l5, y5, z5⟩, st5⟩ := X4.privateBack hx (y := (⟨"java/util/ArrayList", "add", "(Ljava/lang/Object;[Ljava/lang/Object;I)V"⟩ : MethodName)) hown (mvT hZ (hw _ (List.mem_of_getElem? (i := 78) rfl))) (mvT hZ (hw _ (List.mem_of_getElem? (i := 79) rfl))) (mvT hZ (hw _ (List.mem_of_getElem? (i := 81) rfl))) (Cond.privateMethod_at (mvP hZ (hw _ (List.mem_of_getElem? (i := 80) rfl)) (args := #[]))) (mvT hZ (hw _ (List.mem_of_getElem? (i := 82) rfl))) (by decide) (backOf (W := 0) (rmH0n l Z aw hw [] a0 de h2 n0 (Nat.le_trans Z0 K2.1) ⟨(E_a0.wr W2), ⟨_, Fw2⟩, (F_ed.other W2 (Or.inr (slot_ne (Or.inl (hw _ (List.mem_of_getElem? (i := 33) rfl))) (Or.inl (hw _ (List.mem_of_getElem? (i := 30) rfl))) (by decide) (t := (.array (.object "java/lang/Object"))) (t' := .int) (by decide) (by decide)))), (F_sz.other W2 (Or.inr (slot_ne (Or.inl (hw _ (List.mem_of_getElem? (i := 77) rfl))) (Or.inl (hw _ (List.mem_of_getElem? (i := 30) rfl))) (by decide) (t := .int) (t' := .int) (by decide) (by decide))))⟩ g_a0 (O.keep K2 (allS g_a0 all0)) DE0) hZ (hw _ (List.mem_of_getElem? (i := 82) rfl)) (hw _ (List.mem_of_getElem? (i := 12) rfl)) (by decide) (by decide)) (g := (mkF m 20 #[.val (.ref a0), .val .null] [(.int (0 : Int32)), (.ref de), .null, (.ref a0)])) rfl (by rw [hml]; rfl) (Steps.refl _) (a := a0) (by rw [e4]; exact q5) q5' (argsL := [.null, (.ref de), (.int (0 : Int32))]) (rest := []) (lenOf pd_4 rfl) rfl (by show 2 * 0 + _ ≤ _; exact Nat.le_of_eq rfl) (hb hby d10_20) (fun _ _ => ⟨rfl, e4, (by decide : 0 + 1 ≤ _), (by decide : 0 + 10 ≤ _)⟩)
  dsimp only [Pt.U, Pt.locs, Pt.cells, Pt.slots] at X5 l5 y5 z5 st5 hQ5
  subst l5 y5 z5
  obtain ⟨h5, e5⟩ : ∃ z, T5.heap = z := ⟨_, rfl⟩
  rw [e5] at hQ5
  obtain ⟨rfl, Nq5, Kq5, b5, sd5, Aq5, Oq5, nb5⟩ := hQ5
  have N5 := Fr.app N2 Nq5
  have sz_b5 : h0.size ≤ b5 := Nat.le_trans K2.1 sd5
  have K5 : Keep h0 h5 [a0] := K2.trans Kq5 (allS (Or.inl (List.mem_of_getElem? (i := 0) rfl)) all0)
  refine Rest.via (fun t k => st5.trans k) ?_
  show Rest p.tables e below s _ _ _ (T5.setTop (mkF m 23 #[.val (.ref a0), .val .null] []))
  refine Rest.via (fun t k => XS.iconst X5.here hx rfl (hb hby d10_23) k) ?_
  show Rest p.tables e below s _ _ _ (T5.setTop (mkF m 24 #[.val (.ref a0), .val .null] [(.int (1 : Int32))]))
  refine Rest.ret X5 (v := some (.int (nar .boolean (1 : Int32)))) (fun h => by rw [Bd.returns] at h; cases h) hlk (fun fs hr => retN X5 hx (t := .boolean) Bd.returns (by simp) (hb hby d10_24) hr) ?_ (by decide) (by decide)
  rw [e5]
  exact ⟨rfl, N5, K5, b5, sz_b5, Aq5, Oq5, nb5⟩
theorem ef_D1n (m : MethodId) (a0 : Addr) : entryFrame m #[(.ref a0), .null] 2 = mkF m 0 #[.val (.ref a0), .val .null] [] := by first | (simp [entryFrame, mkF, argsToLocals, Value.category, maxLocals]; done) | rfl
def QD1n (Z : State) (a0 : Addr) (bb : Addr) (h0 : Heap) (n0 : Nat) (v : Option Value) (h : Heap) (L : List Loc) : Prop := v = some (.int (1 : Int32)) ∧ Fr n0 L ∧ Keep h0 h [a0, bb]
set_option maxRecDepth 65536 in
set_option maxHeartbeats 40000000 in
theorem rmD1n (l : Launch) (Z : State) (aw : Array Value) (hw : ∀ d ∈ tables_1, d.before aw Z = true) (ws : List Jvm.Cond) (a0 : Addr) (bb : Addr) (h0 : Heap) (n0 : Nat) (Z0 : n0 ≤ h0.size) (A : own_AL Z h0 a0 bb 1) (OAb : own_OA Z h0 bb 10) (nab : a0 ≠ bb) (g_a0 : n0 ≤ a0) (g_bb : n0 ≤ bb) :
    MetFree l (⟨"java/util/ArrayList", "add", "(Ljava/lang/Object;)Z"⟩ : MethodName) (head1 (Jvm.Cond.code (⟨"java/util/ArrayList", "add", "(Ljava/lang/Object;)Z"⟩ : MethodName) jdk_38_method_25_code 2 (some .boolean) :: ws) ({ frames := 1, cells := 0, slots := 0, locals := 15 } : Room)) (fun a U => a = #[(.ref a0), .null] ∧ Z.Warmed39 U.vm ∧ U.heap = h0) (fun _ _ _ _ _ => True) (fun _ U o U' => ∃ v L, o = .returned v ∧ QD1n Z a0 bb h0 n0 v U'.heap L ∧ FrameEnd U o U' L ({ frames := 1, cells := 0, slots := 0, locals := 15 } : Room).cells ({ frames := 1, cells := 0, slots := 0, locals := 15 } : Room).slots) := by
  refine MetFree.of_bodySF (plainFor_of_name pn_2) hisR ?_
  intro p e s m args below meth c s₁ Bd hml0 hP hK
  obtain ⟨rfl, hZ, hh⟩ := hP
  have hx := Bd.exec
  have hby := Bd.bytes
  have hml : c.maxLocals = 2 := hml0
  have hown : s.vm.findClass "java/util/ArrayList" = some m.cls := findClass_of_methodNamed Bd.named
  have hnm := (name_of_methodNamed Bd.named Bd.method).1
  have hlk : meth.locks = false := BodyLoose.notSynchronized Bd
  have X0 : Stand p l e ({ frames := 1, cells := 0, slots := 0, locals := 15 } : Room) s m #[(.ref a0), .null] below meth c s₁ [] 0 0 := Stand.of_body Bd
  have eh0 : s₁.heap = h0 := by rw [← hh, Bd.state]; rfl
  have N0 := Fr.nil n0
  show Rest p.tables e below s (QD1n Z a0 bb h0 n0) _ _ (s₁.setTop (entryFrame m #[(.ref a0), .null] 2))
  refine Rest.via (fun t k => castTop (ef_D1n m a0) k) ?_
  obtain ⟨E_a0, ⟨mc, F_mc⟩, F_ed, F_sz⟩ := id A
  show Rest p.tables e below s _ _ _ (s₁.setTop (mkF m 0 #[.val (.ref a0), .val .null] []))
  refine Rest.via (fun t k => XS.aloadN X0.here hx rfl (hb hby d10_0) rfl rfl k) ?_
  show Rest p.tables e below s _ _ _ (s₁.setTop (mkF m 1 #[.val (.ref a0), .val .null] [(.ref a0)]))
  refine Rest.via (fun t k => XS.dup X0.here hx rfl (hb hby d10_1) rfl rfl k) ?_
  show Rest p.tables e below s _ _ _ (s₁.setTop (mkF m 2 #[.val (.ref a0), .val .null] [(.ref a0), (.ref a0)]))
  obtain ⟨T1, X1, e1, st1⟩ := getF X0 hx hZ hown (host := "") (Or.inl (hw _ (List.mem_of_getElem? (i := 74) rfl))) (Via.of (hw _ (List.mem_of_getElem? (i := 75) rfl))) eh0 F_mc (g := (mkF m 2 #[.val (.ref a0), .val .null] [(.ref a0), (.ref a0)])) rfl rfl (hb hby d10_2)
  refine Rest.via (fun t k => st1 t k) ?_
  show Rest p.tables e below s _ _ _ (T1.setTop (mkF m 5 #[.val (.ref a0), .val .null] [(.int mc), (.ref a0)]))
  refine Rest.via (fun t k => XS.iconst X1.here hx rfl (hb hby d10_5) k) ?_
  show Rest p.tables e below s _ _ _ (T1.setTop (mkF m 6 #[.val (.ref a0), .val .null] [(.int (1 : Int32)), (.int mc), (.ref a0)]))
  refine Rest.via (fun t k => XS.iadd X1.here hx rfl (hb hby d10_6) rfl k) ?_
  show Rest p.tables e below s _ _ _ (T1.setTop (mkF m 7 #[.val (.ref a0), .val .null] [(.int (mc + (1 : Int32))), (.ref a0)]))
  have Fo2 := F_mc
  obtain ⟨T2, h2, X2, e2, W2, st2⟩ := putF X1 hx hZ hown (host := "") (Or.inl (hw _ (List.mem_of_getElem? (i := 74) rfl))) (Via.of (hw _ (List.mem_of_getElem? (i := 75) rfl))) e1 Fo2 E_a0 (Or.inl (hw _ (List.mem_of_getElem? (i := 30) rfl))) (hw _ (List.mem_of_getElem? (i := 11) rfl)) (ty := .int) (by decide) rfl rfl (g := (mkF m 7 #[.val (.ref a0), .val .null] [(.int (mc + (1 : Int32))), (.ref a0)])) rfl rfl (hb hby d10_7)
  refine Rest.via (fun t k => st2 t k) ?_
  have N2 := Fr.snoc X2 N0 g_a0
  have K2 : Keep h0 h2 [a0, bb] := (Keep.refl h0 [a0, bb]).wr W2 (Or.inl (List.mem_of_getElem? (i := 0) rfl))
  have Fw2 := Fo2.same W2
  show Rest p.tables e below s _ _ _ (T2.setTop (mkF m 10 #[.val (.ref a0), .val .null] []))
  refine Rest.via (fun t k => XS.aloadN X2.here hx rfl (hb hby d10_10) rfl rfl k) ?_
  show Rest p.tables e below s _ _ _ (T2.setTop (mkF m 11 #[.val (.ref a0), .val .null] [(.ref a0)]))
  refine Rest.via (fun t k => XS.aloadN X2.here hx rfl (hb hby d10_11) rfl rfl k) ?_
  show Rest p.tables e below s _ _ _ (T2.setTop (mkF m 12 #[.val (.ref a0), .val .null] [.null, (.ref a0)]))
  refine Rest.via (fun t k => XS.aloadN X2.here hx rfl (hb hby d10_12) rfl rfl k) ?_
  show Rest p.tables e below s _ _ _ (T2.setTop (mkF m 13 #[.val (.ref a0), .val .null] [(.ref a0), .null, (.ref a0)]))
  obtain ⟨T3, X3, e3, st3⟩ := getF X2 hx hZ hown (host := "") (Or.inl (hw _ (List.mem_of_getElem? (i := 32) rfl))) Via.refl e2 (F_ed.other W2 (Or.inr (slot_ne (Or.inl (hw _ (List.mem_of_getElem? (i := 33) rfl))) (Or.inl (hw _ (List.mem_of_getElem? (i := 30) rfl))) (by decide) (t := (.array (.object "java/lang/Object"))) (t' := .int) (by decide) (by decide)))) (g := (mkF m 13 #[.val (.ref a0), .val .null] [(.ref a0), .null, (.ref a0)])) rfl rfl (hb hby d10_13)
  refine Rest.via (fun t k => st3 t k) ?_
  show Rest p.tables e below s _ _ _ (T3.setTop (mkF m 16 #[.val (.ref a0), .val .null] [(.ref bb), .null, (.ref a0)]))
  refine Rest.via (fun t k => XS.aloadN X3.here hx rfl (hb hby d10_16) rfl rfl k) ?_
  show Rest p.tables e below s _ _ _ (T3.setTop (mkF m 17 #[.val (.ref a0), .val .null] [(.ref a0), (.ref bb), .null, (.ref a0)]))
  obtain ⟨T4, X4, e4, st4⟩ := getF X3 hx hZ hown (host := "") (Or.inl (hw _ (List.mem_of_getElem? (i := 76) rfl))) Via.refl e3 (F_sz.other W2 (Or.inr (slot_ne (Or.inl (hw _ (List.mem_of_getElem? (i := 77) rfl))) (Or.inl (hw _ (List.mem_of_getElem? (i := 30) rfl))) (by decide) (t := .int) (t' := .int) (by decide) (by decide)))) (g := (mkF m 17 #[.val (.ref a0), .val .null] [(.ref a0), (.ref bb), .null, (.ref a0)])) rfl rfl (hb hby d10_17)
  refine Rest.via (fun t k => st4 t k) ?_
  show Rest p.tables e below s _ _ _ (T4.setTop (mkF m 20 #[.val (.ref a0), .val .null] [(.int (1 : Int32)), (.ref bb), .null, (.ref a0)]))
  obtain ⟨cq5, q5, q5'⟩ := ((E_a0.wr W2)).cell
  obtain ⟨_, _, ⟨T5, L5, k5, n5⟩, -, X5, ⟨Lc5, hQ5, l5, y5, z5⟩, st5⟩ := X4.privateBack hx (y := (⟨"java/util/ArrayList", "add", "(Ljava/lang/Object;[Ljava/lang/Object;I)V"⟩ : MethodName)) hown (mvT hZ (hw _ (List.mem_of_getElem? (i := 78) rfl))) (mvT hZ (hw _ (List.mem_of_getElem? (i := 79) rfl))) (mvT hZ (hw _ (List.mem_of_getElem? (i := 81) rfl))) (Cond.privateMethod_at (mvP hZ (hw _ (List.mem_of_getElem? (i := 80) rfl)) (args := #[]))) (mvT hZ (hw _ (List.mem_of_getElem? (i := 82) rfl))) (by decide) (backOf (W := 0) (rmH1n l Z aw hw [] a0 bb h2 n0 (Nat.le_trans Z0 K2.1) ⟨(E_a0.wr W2), ⟨_, Fw2⟩, (F_ed.other W2 (Or.inr (slot_ne (Or.inl (hw _ (List.mem_of_getElem? (i := 33) rfl))) (Or.inl (hw _ (List.mem_of_getElem? (i := 30) rfl))) (by decide) (t := (.array (.object "java/lang/Object"))) (t' := .int) (by decide) (by decide)))), (F_sz.other W2 (Or.inr (slot_ne (Or.inl (hw _ (List.mem_of_getElem? (i := 77) rfl))) (Or.inl (hw _ (List.mem_of_getElem? (i := 30) rfl))) (by decide) (t := .int) (t' := .int) (by decide) (by decide))))⟩ (own_OA_keep OAb (Keep.of_wr W2)) nab g_a0 g_bb) hZ (hw _ (List.mem_of_getElem? (i := 82) rfl)) (hw _ (List.mem_of_getElem? (i := 12) rfl)) (by decide) (by decide)) (g := (mkF m 20 #[.val (.ref a0), .val .null] [(.int (1 : Int32)), (.ref bb), .null, (.ref a0)])) rfl (by rw [hml]; rfl) (Steps.refl _) (a := a0) (by rw [e4]; exact q5) q5' (argsL := [.null, (.ref bb), (.int (1 : Int32))]) (rest := []) (lenOf pd_4 rfl) rfl (by show 2 * 0 + _ ≤ _; exact Nat.le_of_eq rfl) (hb hby d10_20) (fun _ _ => ⟨rfl, e4, (by decide : 0 + 0 ≤ _), (by decide : 0 + 0 ≤ _)⟩)
  dsimp only [Pt.U, Pt.locs, Pt.cells, Pt.slots] at X5 l5 y5 z5 st5 hQ5
  subst l5 y5 z5
  obtain ⟨h5, e5⟩ : ∃ z, T5.heap = z := ⟨_, rfl⟩
  rw [e5] at hQ5
  obtain ⟨rfl, Nq5, Kq5⟩ := hQ5
  have N5 := Fr.app N2 Nq5
  have K5 : Keep h0 h5 [a0, bb] := K2.trans Kq5 (allS (Or.inl (List.mem_of_getElem? (i := 0) rfl)) (allS (Or.inl (List.mem_of_getElem? (i := 1) rfl)) all0))
  refine Rest.via (fun t k => st5.trans k) ?_
  show Rest p.tables e below s _ _ _ (T5.setTop (mkF m 23 #[.val (.ref a0), .val .null] []))
  refine Rest.via (fun t k => XS.iconst X5.here hx rfl (hb hby d10_23) k) ?_
  show Rest p.tables e below s _ _ _ (T5.setTop (mkF m 24 #[.val (.ref a0), .val .null] [(.int (1 : Int32))]))
  refine Rest.ret X5 (v := some (.int (nar .boolean (1 : Int32)))) (fun h => by rw [Bd.returns] at h; cases h) hlk (fun fs hr => retN X5 hx (t := .boolean) Bd.returns (by simp) (hb hby d10_24) hr) ?_ (by decide) (by decide)
  rw [e5]
  exact ⟨rfl, N5, K5⟩
theorem d1_0 : decode prog_27_method_1_code 0 = .ok (.aload_n 0, 1) := by decide +kernel
theorem d1_1 : decode prog_27_method_1_code 1 = .ok (.invokespecial 5, 3) := by decide +kernel
theorem d1_4 : decode prog_27_method_1_code 4 = .ok (.aload_n 0, 1) := by decide +kernel
theorem d1_5 : decode prog_27_method_1_code 5 = .ok (.new 11, 3) := by decide +kernel
theorem d1_8 : decode prog_27_method_1_code 8 = .ok (.dup, 1) := by decide +kernel
theorem d1_9 : decode prog_27_method_1_code 9 = .ok (.invokespecial 13, 3) := by decide +kernel
theorem d1_12 : decode prog_27_method_1_code 12 = .ok (.putfield 14, 3) := by decide +kernel
theorem d1_15 : decode prog_27_method_1_code 15 = .ok (.aload_n 0, 1) := by decide +kernel
theorem d1_16 : decode prog_27_method_1_code 16 = .ok (.new 11, 3) := by decide +kernel
theorem d1_19 : decode prog_27_method_1_code 19 = .ok (.dup, 1) := by decide +kernel
theorem d1_20 : decode prog_27_method_1_code 20 = .ok (.invokespecial 13, 3) := by decide +kernel
theorem d1_23 : decode prog_27_method_1_code 23 = .ok (.putfield 20, 3) := by decide +kernel
theorem d1_26 : decode prog_27_method_1_code 26 = .ok (.aload_n 0, 1) := by decide +kernel
theorem d1_27 : decode prog_27_method_1_code 27 = .ok (.lconst 0, 1) := by decide +kernel
theorem d1_28 : decode prog_27_method_1_code 28 = .ok (.putfield 23, 3) := by decide +kernel
theorem d1_31 : decode prog_27_method_1_code 31 = .ok (.return_, 1) := by decide +kernel
theorem pn_3 : plainName "com/example/reknit/reknit/LogRecord" = true := by first | (simp [plainName, overriddenIn]; done) | decide +kernel
theorem ef_LI (m : MethodId) (a0 : Addr) : entryFrame m #[(.ref a0)] 1 = mkF m 0 #[.val (.ref a0)] [] := by first | (simp [entryFrame, mkF, argsToLocals, Value.category, maxLocals]; done) | rfl
def QLI (Z : State) (a0 : Addr) (de : Addr) (h0 : Heap) (n0 : Nat) (v : Option Value) (h : Heap) (L : List Loc) : Prop := v = none ∧ Fr n0 L ∧ Keep h0 h [a0] ∧ ∃ ks vs, h0.size ≤ ks ∧ h0.size ≤ vs ∧ own_LR0 Z h a0 ks vs de 0 0 .null
set_option maxRecDepth 65536 in
set_option maxHeartbeats 40000000 in
theorem rmLI (l : Launch) (Z : State) (aw : Array Value) (hw : ∀ d ∈ tables_1, d.before aw Z = true) (ws : List Jvm.Cond) (a0 : Addr) (de : Addr) (h0 : Heap) (n0 : Nat) (Z0 : n0 ≤ h0.size) (E_a0 : Exa Z h0 a0 "com/example/reknit/reknit/LogRecord") (F_lk : Fld Z h0 a0 "com/example/reknit/reknit/LogRecord" "link" "J" (.long (0 : Int64))) (F_wb : Fld Z h0 a0 "com/example/reknit/reknit/LogRecord" "writeBytes" "J" (.long (0 : Int64))) (F_pt : Fld Z h0 a0 "com/example/reknit/reknit/LogRecord" "partner" "Lcom/example/reknit/reknit/LogRecord;" .null) (F_ks : Fld Z h0 a0 "com/example/reknit/reknit/LogRecord" "keys" "Ljava/util/List;" .null) (F_vs : Fld Z h0 a0 "com/example/reknit/reknit/LogRecord" "values" "Ljava/util/List;" .null) (g_a0 : n0 ≤ a0) (O : Old Z n0 h0) (DE0 : own_DE Z Z.heap de) :
    MetFree l (⟨"com/example/reknit/reknit/LogRecord", "<init>", "()V"⟩ : MethodName) (head1 (Jvm.Cond.code (⟨"com/example/reknit/reknit/LogRecord", "<init>", "()V"⟩ : MethodName) prog_27_method_1_code 1 none :: ws) ({ frames := 4, cells := 2, slots := 6, locals := 50 } : Room)) (fun a U => a = #[(.ref a0)] ∧ Z.Warmed39 U.vm ∧ U.heap = h0) (fun _ _ _ _ _ => True) (fun _ U o U' => ∃ v L, o = .returned v ∧ QLI Z a0 de h0 n0 v U'.heap L ∧ FrameEnd U o U' L ({ frames := 4, cells := 2, slots := 6, locals := 50 } : Room).cells ({ frames := 4, cells := 2, slots := 6, locals := 50 } : Room).slots) := by
  refine MetFree.of_bodySF (plainFor_of_name pn_3) hisR ?_
  intro p e s m args below meth c s₁ Bd hml0 hP hK
  obtain ⟨rfl, hZ, hh⟩ := hP
  have hx := Bd.exec
  have hby := Bd.bytes
  have hml : c.maxLocals = 1 := hml0
  have hown : s.vm.findClass "com/example/reknit/reknit/LogRecord" = some m.cls := findClass_of_methodNamed Bd.named
  have hnm := (name_of_methodNamed Bd.named Bd.method).1
  have hlk : meth.locks = false := BodyLoose.notSynchronized Bd
  have X0 : Stand p l e ({ frames := 4, cells := 2, slots := 6, locals := 50 } : Room) s m #[(.ref a0)] below meth c s₁ [] 0 0 := Stand.of_body Bd
  have eh0 : s₁.heap = h0 := by rw [← hh, Bd.state]; rfl
  have N0 := Fr.nil n0
  show Rest p.tables e below s (QLI Z a0 de h0 n0) _ _ (s₁.setTop (entryFrame m #[(.ref a0)] 1))
  refine Rest.via (fun t k => castTop (ef_LI m a0) k) ?_
  show Rest p.tables e below s _ _ _ (s₁.setTop (mkF m 0 #[.val (.ref a0)] []))
  refine Rest.via (fun t k => XS.aloadN X0.here hx rfl (hb hby d1_0) rfl rfl k) ?_
  show Rest p.tables e below s _ _ _ (s₁.setTop (mkF m 1 #[.val (.ref a0)] [(.ref a0)]))
  obtain ⟨T1, X1, e1, st1⟩ := initO X0 hx hZ hown (hw _ (List.mem_of_getElem? (i := 7) rfl)) (hw _ (List.mem_of_getElem? (i := 8) rfl)) (hw _ (List.mem_of_getElem? (i := 9) rfl)) eh0 (g := (mkF m 1 #[.val (.ref a0)] [(.ref a0)])) rfl (by rw [hml]; rfl) rfl (hb hby d1_1) (by decide) (W := 0) (by show 2 * 0 + _ ≤ _; exact Nat.le_of_eq rfl) (by decide)
  refine Rest.via (fun t k => st1 t k) ?_
  show Rest p.tables e below s _ _ _ (T1.setTop (mkF m 4 #[.val (.ref a0)] []))
  refine Rest.via (fun t k => XS.aloadN X1.here hx rfl (hb hby d1_4) rfl rfl k) ?_
  show Rest p.tables e below s _ _ _ (T1.setTop (mkF m 5 #[.val (.ref a0)] [(.ref a0)]))
  obtain ⟨T2, h2, X2, e2, E2, A2, D2, -, st2⟩ := newO X1 hx hZ hown (hw _ (List.mem_of_getElem? (i := 10) rfl)) (hw _ (List.mem_of_getElem? (i := 11) rfl)) (hw _ (List.mem_of_getElem? (i := 12) rfl)) e1 (g := (mkF m 5 #[.val (.ref a0)] [(.ref a0)])) rfl (hb hby d1_5) (by decide) (by decide)
  obtain ⟨b2, gq2⟩ : ∃ z, z = h0.size := ⟨_, rfl⟩
  rw [← gq2] at A2 D2 st2
  have sz_b2 : h0.size ≤ b2 := Nat.le_trans (Keep.refl h0 [a0]).1 (Nat.le_of_eq gq2.symm)
  have g_b2 : n0 ≤ b2 := Nat.le_trans Z0 sz_b2
  have ne_a0_b2 : a0 ≠ b2 := Nat.ne_of_lt (Nat.lt_of_lt_of_le E_a0.lt (Nat.le_of_eq gq2.symm))
  have K2 : Keep h0 h2 [a0] := (Keep.refl h0 [a0]).ext E2
  have E_b2 := A2
  have F_modCount_b2 : Fld Z h2 b2 "java/util/AbstractList" "modCount" "I" (.int (0 : Int32)) := D2 (Or.inl (hw _ (List.mem_of_getElem? (i := 30) rfl))) (ty := .int) (by decide)
  have F_elementData_b2 : Fld Z h2 b2 "java/util/ArrayList" "elementData" "[Ljava/lang/Object;" .null := D2 (Or.inl (hw _ (List.mem_of_getElem? (i := 33) rfl))) (ty := (.array (.object "java/lang/Object"))) (by decide)
  have F_size_b2 : Fld Z h2 b2 "java/util/ArrayList" "size" "I" (.int (0 : Int32)) := D2 (Or.inl (hw _ (List.mem_of_getElem? (i := 77) rfl))) (ty := .int) (by decide)
  refine Rest.via (fun t k => st2 t k) ?_
  show Rest p.tables e below s _ _ _ (T2.setTop (mkF m 8 #[.val (.ref a0)] [(.ref b2), (.ref a0)]))
  refine Rest.via (fun t k => XS.dup X2.here hx rfl (hb hby d1_8) rfl rfl k) ?_
  show Rest p.tables e below s _ _ _ (T2.setTop (mkF m 9 #[.val (.ref a0)] [(.ref b2), (.ref b2), (.ref a0)]))
  obtain ⟨_, _, ⟨T3, L3, k3, n3⟩, -, X3, ⟨Lc3, hQ3, l3, y3, z3⟩, st3⟩ := X2.specialBack hx (y := (⟨"java/util/ArrayList", "<init>", "()V"⟩ : MethodName)) rfl hown (mvT hZ (hw _ (List.mem_of_getElem? (i := 13) rfl))) (mvT hZ (hw _ (List.mem_of_getElem? (i := 14) rfl))) (mvT hZ (hw _ (List.mem_of_getElem? (i := 15) rfl))) (by decide) (backOf (W := 2) (rmAI l Z aw hw [] b2 de h2 n0 (Nat.le_trans Z0 K2.1) E_b2 F_modCount_b2 F_elementData_b2 F_size_b2 g_b2 (O.keep K2 (allS g_a0 all0)) DE0) hZ (hw _ (List.mem_of_getElem? (i := 15) rfl)) (hw _ (List.mem_of_getElem? (i := 12) rfl)) (by decide) (by decide)) (g := (mkF m 9 #[.val (.ref a0)] [(.ref b2), (.ref b2), (.ref a0)])) rfl (by rw [hml]; rfl) (Steps.refl _) (a := b2) (argsL := []) (rest := [(.ref b2), (.ref a0)]) (lenOf pd_0 rfl) rfl (by show 2 * 0 + _ ≤ _; exact Nat.le_of_eq rfl) (hb hby d1_9) (fun _ _ => ⟨rfl, e2, (by decide : 1 + 0 ≤ _), (by decide : 3 + 0 ≤ _)⟩)
  dsimp only [Pt.U, Pt.locs, Pt.cells, Pt.slots] at X3 l3 y3 z3 st3 hQ3
  subst l3 y3 z3
  obtain ⟨h3, e3⟩ : ∃ z, T3.heap = z := ⟨_, rfl⟩
  rw [e3] at hQ3
  obtain ⟨rfl, Nq3, Kq3, Al3⟩ := hQ3
  have N3 := Fr.app N0 Nq3
  have K3 : Keep h0 h3 [a0] := K2.trans Kq3 (allS (Or.inr sz_b2) all0)
  refine Rest.via (fun t k => st3.trans k) ?_
  show Rest p.tables e below s _ _ _ (T3.setTop (mkF m 12 #[.val (.ref a0)] [(.ref b2), (.ref a0)]))
  have Fo4 := ((F_ks.ext E2).keep Kq3 (ninS ne_a0_b2 nin0))
  obtain ⟨T4, h4, X4, e4, W4, st4⟩ := putF X3 hx hZ hown (host := "") (Or.inl (hw _ (List.mem_of_getElem? (i := 34) rfl))) Via.refl e3 Fo4 ((E_a0.ext E2).keep Kq3) (Or.inr ⟨(hw _ (List.mem_of_getElem? (i := 35) rfl)), rfl, hnm⟩) (hw _ (List.mem_of_getElem? (i := 2) rfl)) (ty := (.object "java/util/List")) (by decide) rfl rfl (g := (mkF m 12 #[.val (.ref a0)] [(.ref b2), (.ref a0)])) rfl rfl (hb hby d1_12)
  refine Rest.via (fun t k => st4 t k) ?_
  have N4 := Fr.snoc X4 N3 g_a0
  have K4 : Keep h0 h4 [a0] := K3.wr W4 (Or.inl (List.mem_of_getElem? (i := 0) rfl))
  have Fw4 := Fo4.same W4
  show Rest p.tables e below s _ _ _ (T4.setTop (mkF m 15 #[.val (.ref a0)] []))
  refine Rest.via (fun t k => XS.aloadN X4.here hx rfl (hb hby d1_15) rfl rfl k) ?_
  show Rest p.tables e below s _ _ _ (T4.setTop (mkF m 16 #[.val (.ref a0)] [(.ref a0)]))
  obtain ⟨T5, h5, X5, e5, E5, A5, D5, -, st5⟩ := newO X4 hx hZ hown (hw _ (List.mem_of_getElem? (i := 10) rfl)) (hw _ (List.mem_of_getElem? (i := 11) rfl)) (hw _ (List.mem_of_getElem? (i := 12) rfl)) e4 (g := (mkF m 16 #[.val (.ref a0)] [(.ref a0)])) rfl (hb hby d1_16) (by decide) (by decide)
  obtain ⟨b5, gq5⟩ : ∃ z, z = h4.size := ⟨_, rfl⟩
  rw [← gq5] at A5 D5 st5
  have sz_b5 : h0.size ≤ b5 := Nat.le_trans K4.1 (Nat.le_of_eq gq5.symm)
  have g_b5 : n0 ≤ b5 := Nat.le_trans Z0 sz_b5
  have ne_a0_b5 : a0 ≠ b5 := Nat.ne_of_lt (Nat.lt_of_lt_of_le (((E_a0.ext E2).keep Kq3).wr W4).lt (Nat.le_of_eq gq5.symm))
  have ne_b2_b5 : b2 ≠ b5 := Nat.ne_of_lt (Nat.lt_of_lt_of_le ((E_b2.keep Kq3).wr W4).lt (Nat.le_of_eq gq5.symm))
  have K5 : Keep h0 h5 [a0] := K4.ext E5
  have E_b5 := A5
  have F_modCount_b5 : Fld Z h5 b5 "java/util/AbstractList" "modCount" "I" (.int (0 : Int32)) := D5 (Or.inl (hw _ (List.mem_of_getElem? (i := 30) rfl))) (ty := .int) (by decide)
  have F_elementData_b5 : Fld Z h5 b5 "java/util/ArrayList" "elementData" "[Ljava/lang/Object;" .null := D5 (Or.inl (hw _ (List.mem_of_getElem? (i := 33) rfl))) (ty := (.array (.object "java/lang/Object"))) (by decide)
  have F_size_b5 : Fld Z h5 b5 "java/util/ArrayList" "size" "I" (.int (0 : Int32)) := D5 (Or.inl (hw _ (List.mem_of_getElem? (i := 77) rfl))) (ty := .int) (by decide)
  refine Rest.via (fun t k => st5 t k) ?_
  show Rest p.tables e below s _ _ _ (T5.setTop (mkF m 19 #[.val (.ref a0)] [(.ref b5), (.ref a0)]))
  refine Rest.via (fun t k => XS.dup X5.here hx rfl (hb hby d1_19) rfl rfl k) ?_
  show Rest p.tables e below s _ _ _ (T5.setTop (mkF m 20 #[.val (.ref a0)] [(.ref b5), (.ref b5), (.ref a0)]))
  obtain ⟨_, _, ⟨T6, L6, k6, n6⟩, -, X6, ⟨Lc6, hQ6, l6, y6, z6⟩, st6⟩ := X5.specialBack hx (y := (⟨"java/util/ArrayList", "<init>", "()V"⟩ : MethodName)) rfl hown (mvT hZ (hw _ (List.mem_of_getElem? (i := 13) rfl))) (mvT hZ (hw _ (List.mem_of_getElem? (i := 14) rfl))) (mvT hZ (hw _ (List.mem_of_getElem? (i := 15) rfl))) (by decide) (backOf (W := 2) (rmAI l Z aw hw [] b5 de h5 n0 (Nat.le_trans Z0 K5.1) E_b5 F_modCount_b5 F_elementData_b5 F_size_b5 g_b5 (O.keep K5 (allS g_a0 all0)) DE0) hZ (hw _ (List.mem_of_getElem? (i := 15) rfl)) (hw _ (List.mem_of_getElem? (i := 12) rfl)) (by decide) (by decide)) (g := (mkF m 20 #[.val (.ref a0)] [(.ref b5), (.ref b5), (.ref a0)])) rfl (by rw [hml]; rfl) (Steps.refl _) (a := b5) (argsL := []) (rest := [(.ref b5), (.ref a0)]) (lenOf pd_0 rfl) rfl (by show 2 * 0 + _ ≤ _; exact Nat.le_of_eq rfl) (hb hby d1_20) (fun _ _ => ⟨rfl, e5, (by decide : 2 + 0 ≤ _), (by decide : 6 + 0 ≤ _)⟩)
  dsimp only [Pt.U, Pt.locs, Pt.cells, Pt.slots] at X6 l6 y6 z6 st6 hQ6
  subst l6 y6 z6
  obtain ⟨h6, e6⟩ : ∃ z, T6.heap = z := ⟨_, rfl⟩
  rw [e6] at hQ6
  obtain ⟨rfl, Nq6, Kq6, Al6⟩ := hQ6
  have N6 := Fr.app N4 Nq6
  have K6 : Keep h0 h6 [a0] := K5.trans Kq6 (allS (Or.inr sz_b5) all0)
  refine Rest.via (fun t k => st6.trans k) ?_
  show Rest p.tables e below s _ _ _ (T6.setTop (mkF m 23 #[.val (.ref a0)] [(.ref b5), (.ref a0)]))
  have Fo7 := (((((F_vs.ext E2).keep Kq3 (ninS ne_a0_b2 nin0)).other W4 (Or.inr (slot_ne (Or.inr (hw _ (List.mem_of_getElem? (i := 37) rfl))) (Or.inr (hw _ (List.mem_of_getElem? (i := 35) rfl))) (by decide) (t := (.object "java/util/List")) (t' := (.object "java/util/List")) (by decide) (by decide)))).ext E5).keep Kq6 (ninS ne_a0_b5 nin0))
  obtain ⟨T7, h7, X7, e7, W7, st7⟩ := putF X6 hx hZ hown (host := "") (Or.inl (hw _ (List.mem_of_getElem? (i := 36) rfl))) Via.refl e6 Fo7 (((((E_a0.ext E2).keep Kq3).wr W4).ext E5).keep Kq6) (Or.inr ⟨(hw _ (List.mem_of_getElem? (i := 37) rfl)), rfl, hnm⟩) (hw _ (List.mem_of_getElem? (i := 2) rfl)) (ty := (.object "java/util/List")) (by decide) rfl rfl (g := (mkF m 23 #[.val (.ref a0)] [(.ref b5), (.ref a0)])) rfl rfl (hb hby d1_23)
  refine Rest.via (fun t k => st7 t k) ?_
  have N7 := Fr.snoc X7 N6 g_a0
  have K7 : Keep h0 h7 [a0] := K6.wr W7 (Or.inl (List.mem_of_getElem? (i := 0) rfl))
  have Fw7 := Fo7.same W7
  show Rest p.tables e below s _ _ _ (T7.setTop (mkF m 26 #[.val (.ref a0)] []))
  refine Rest.via (fun t k => XS.aloadN X7.here hx rfl (hb hby d1_26) rfl rfl k) ?_
  show Rest p.tables e below s _ _ _ (T7.setTop (mkF m 27 #[.val (.ref a0)] [(.ref a0)]))
  refine Rest.via (fun t k => XS.lconst X7.here hx rfl (hb hby d1_27) k) ?_
  show Rest p.tables e below s _ _ _ (T7.setTop (mkF m 28 #[.val (.ref a0)] [(.long (0 : Int64)), (.ref a0)]))
  have Fo8 := ((((((F_lk.ext E2).keep Kq3 (ninS ne_a0_b2 nin0)).other W4 (Or.inr (slot_ne (Or.inl (hw _ (List.mem_of_getElem? (i := 39) rfl))) (Or.inr (hw _ (List.mem_of_getElem? (i := 35) rfl))) (by decide) (t := .long) (t' := (.object "java/util/List")) (by decide) (by decide)))).ext E5).keep Kq6 (ninS ne_a0_b5 nin0)).other W7 (Or.inr (slot_ne (Or.inl (hw _ (List.mem_of_getElem? (i := 39) rfl))) (Or.inr (hw _ (List.mem_of_getElem? (i := 37) rfl))) (by decide) (t := .long) (t' := (.object "java/util/List")) (by decide) (by decide))))
  obtain ⟨T8, h8, X8, e8, W8, st8⟩ := putF X7 hx hZ hown (host := "") (Or.inl (hw _ (List.mem_of_getElem? (i := 38) rfl))) Via.refl e7 Fo8 ((((((E_a0.ext E2).keep Kq3).wr W4).ext E5).keep Kq6).wr W7) (Or.inl (hw _ (List.mem_of_getElem? (i := 39) rfl))) (hw _ (List.mem_of_getElem? (i := 2) rfl)) (ty := .long) (by decide) rfl rfl (g := (mkF m 28 #[.val (.ref a0)] [(.long (0 : Int64)), (.ref a0)])) rfl rfl (hb hby d1_28)
  refine Rest.via (fun t k => st8 t k) ?_
  have N8 := Fr.snoc X8 N7 g_a0
  have K8 : Keep h0 h8 [a0] := K7.wr W8 (Or.inl (List.mem_of_getElem? (i := 0) rfl))
  have Fw8 := Fo8.same W8
  show Rest p.tables e below s _ _ _ (T8.setTop (mkF m 31 #[.val (.ref a0)] []))
  refine Rest.ret X8 (v := none) (fun _ => rfl) hlk (fun fs hr => X8.returnOut hx Bd.returns (hb hby d1_31) hr) ?_ (by decide) (by decide)
  rw [e8]
  exact ⟨rfl, N8, K8, b2, b5, sz_b2, sz_b5, ⟨(((((((E_a0.ext E2).keep Kq3).wr W4).ext E5).keep Kq6).wr W7).wr W8), Fw8, (((((((F_wb.ext E2).keep Kq3 (ninS ne_a0_b2 nin0)).other W4 (Or.inr (slot_ne (Or.inl (hw _ (List.mem_of_getElem? (i := 52) rfl))) (Or.inr (hw _ (List.mem_of_getElem? (i := 35) rfl))) (by decide) (t := .long) (t' := (.object "java/util/List")) (by decide) (by decide)))).ext E5).keep Kq6 (ninS ne_a0_b5 nin0)).other W7 (Or.inr (slot_ne (Or.inl (hw _ (List.mem_of_getElem? (i := 52) rfl))) (Or.inr (hw _ (List.mem_of_getElem? (i := 37) rfl))) (by decide) (t := .long) (t' := (.object "java/util/List")) (by decide) (by decide)))).other W8 (Or.inr (slot_ne (Or.inl (hw _ (List.mem_of_getElem? (i := 52) rfl))) (Or.inl (hw _ (List.mem_of_getElem? (i := 39) rfl))) (by decide) (t := .long) (t' := .long) (by decide) (by decide)))), (((((((F_pt.ext E2).keep Kq3 (ninS ne_a0_b2 nin0)).other W4 (Or.inr (slot_ne (Or.inl (hw _ (List.mem_of_getElem? (i := 54) rfl))) (Or.inr (hw _ (List.mem_of_getElem? (i := 35) rfl))) (by decide) (t := (.object "com/example/reknit/reknit/LogRecord")) (t' := (.object "java/util/List")) (by decide) (by decide)))).ext E5).keep Kq6 (ninS ne_a0_b5 nin0)).other W7 (Or.inr (slot_ne (Or.inl (hw _ (List.mem_of_getElem? (i := 54) rfl))) (Or.inr (hw _ (List.mem_of_getElem? (i := 37) rfl))) (by decide) (t := (.object "com/example/reknit/reknit/LogRecord")) (t' := (.object "java/util/List")) (by decide) (by decide)))).other W8 (Or.inr (slot_ne (Or.inl (hw _ (List.mem_of_getElem? (i := 54) rfl))) (Or.inl (hw _ (List.mem_of_getElem? (i := 39) rfl))) (by decide) (t := (.object "com/example/reknit/reknit/LogRecord")) (t' := .long) (by decide) (by decide))))⟩, ⟨((((Fw4.ext E5).keep Kq6 (ninS ne_a0_b5 nin0)).other W7 (Or.inr (slot_ne (Or.inr (hw _ (List.mem_of_getElem? (i := 35) rfl))) (Or.inr (hw _ (List.mem_of_getElem? (i := 37) rfl))) (by decide) (t := (.object "java/util/List")) (t' := (.object "java/util/List")) (by decide) (by decide)))).other W8 (Or.inr (slot_ne (Or.inr (hw _ (List.mem_of_getElem? (i := 35) rfl))) (Or.inl (hw _ (List.mem_of_getElem? (i := 39) rfl))) (by decide) (t := (.object "java/util/List")) (t' := .long) (by decide) (by decide)))), (Fw7.other W8 (Or.inr (slot_ne (Or.inr (hw _ (List.mem_of_getElem? (i := 37) rfl))) (Or.inl (hw _ (List.mem_of_getElem? (i := 39) rfl))) (by decide) (t := (.object "java/util/List")) (t' := .long) (by decide) (by decide)))), ne_a0_b2, ne_a0_b5, ne_b2_b5⟩, (own_AL_keep (own_AL_keep (own_AL_keep (own_AL_keep (own_AL_keep Al3 (Keep.of_wr W4) (ninS (Ne.symm ne_a0_b2) nin0)) ((Keep.refl _ []).ext E5) nin0) Kq6 (ninS ne_b2_b5 nin0)) (Keep.of_wr W7) (ninS (Ne.symm ne_a0_b2) nin0)) (Keep.of_wr W8) (ninS (Ne.symm ne_a0_b2) nin0)), (own_AL_keep (own_AL_keep Al6 (Keep.of_wr W7) (ninS (Ne.symm ne_a0_b5) nin0)) (Keep.of_wr W8) (ninS (Ne.symm ne_a0_b5) nin0))⟩
theorem d6_0 : decode prog_27_method_4_code 0 = .ok (.aload_n 0, 1) := by decide +kernel
theorem d6_1 : decode prog_27_method_4_code 1 = .ok (.lload_n 1, 1) := by decide +kernel
theorem d6_2 : decode prog_27_method_4_code 2 = .ok (.putfield 23, 3) := by decide +kernel
theorem d6_5 : decode prog_27_method_4_code 5 = .ok (.aload_n 0, 1) := by decide +kernel
theorem d6_6 : decode prog_27_method_4_code 6 = .ok (.areturn, 1) := by decide +kernel
theorem ef_LK (m : MethodId) (a0 : Addr) (q1 : Int64) : entryFrame m #[(.ref a0), (.long q1)] 3 = mkF m 0 #[.val (.ref a0), .val (.long q1), .second] [] := by first | (simp [entryFrame, mkF, argsToLocals, Value.category, maxLocals]; done) | rfl
def QLK (Z : State) (a0 : Addr) (q1 : Int64) (ks : Addr) (vs : Addr) (de : Addr) (lk : Int64) (wb : Int64) (pt : Value) (h0 : Heap) (n0 : Nat) (v : Option Value) (h : Heap) (L : List Loc) : Prop := v = some (.ref a0) ∧ Fr n0 L ∧ Keep h0 h [a0] ∧ own_LR0 Z h a0 ks vs de q1 wb pt
set_option maxRecDepth 65536 in
set_option maxHeartbeats 40000000 in
theorem rmLK (l : Launch) (Z : State) (aw : Array Value) (hw : ∀ d ∈ tables_1, d.before aw Z = true) (ws : List Jvm.Cond) (a0 : Addr) (q1 : Int64) (ks : Addr) (vs : Addr) (de : Addr) (lk : Int64) (wb : Int64) (pt : Value) (h0 : Heap) (n0 : Nat) (Z0 : n0 ≤ h0.size) (R : own_LR0 Z h0 a0 ks vs de lk wb pt) (g_a0 : n0 ≤ a0) :
    MetFree l (⟨"com/example/reknit/reknit/LogRecord", "link", "(J)Lcom/example/reknit/reknit/LogRecord;"⟩ : MethodName) (head1 (Jvm.Cond.code (⟨"com/example/reknit/reknit/LogRecord", "link", "(J)Lcom/example/reknit/reknit/LogRecord;"⟩ : MethodName) prog_27_method_4_code 3 (some (.object "com/example/reknit/reknit/LogRecord")) :: ws) ({ frames := 0, cells := 0, slots := 0, locals := 0 } : Room)) (fun a U => a = #[(.ref a0), (.long q1)] ∧ Z.Warmed39 U.vm ∧ U.heap = h0) (fun _ _ _ _ _ => True) (fun _ U o U' => ∃ v L, o = .returned v ∧ QLK Z a0 q1 ks vs de lk wb pt h0 n0 v U'.heap L ∧ FrameEnd U o U' L ({ frames := 0, cells := 0, slots := 0, locals := 0 } : Room).cells ({ frames := 0, cells := 0, slots := 0, locals := 0 } : Room).slots) := by
  refine MetFree.of_bodySF (plainFor_of_name pn_3) hisR ?_
  intro p e s m args below meth c s₁ Bd hml0 hP hK
  obtain ⟨rfl, hZ, hh⟩ := hP
  have hx := Bd.exec
  have hby := Bd.bytes
  have hml : c.maxLocals = 3 := hml0
  have hown : s.vm.findClass "com/example/reknit/reknit/LogRecord" = some m.cls := findClass_of_methodNamed Bd.named
  have hnm := (name_of_methodNamed Bd.named Bd.method).1
  have hlk : meth.locks = false := BodyLoose.notSynchronized Bd
  have X0 : Stand p l e ({ frames := 0, cells := 0, slots := 0, locals := 0 } : Room) s m #[(.ref a0), (.long q1)] below meth c s₁ [] 0 0 := Stand.of_body Bd
  have eh0 : s₁.heap = h0 := by rw [← hh, Bd.state]; rfl
  have N0 := Fr.nil n0
  show Rest p.tables e below s (QLK Z a0 q1 ks vs de lk wb pt h0 n0) _ _ (s₁.setTop (entryFrame m #[(.ref a0), (.long q1)] 3))
  refine Rest.via (fun t k => castTop (ef_LK m a0 q1) k) ?_
  obtain ⟨⟨E_a0, F_lk, F_wb, F_pt⟩, ⟨F_ks, F_vs, n1, n2, n3⟩, Ak, Av⟩ := id R
  show Rest p.tables e below s _ _ _ (s₁.setTop (mkF m 0 #[.val (.ref a0), .val (.long q1), .second] []))
  refine Rest.via (fun t k => XS.aloadN X0.here hx rfl (hb hby d6_0) rfl rfl k) ?_
  show Rest p.tables e below s _ _ _ (s₁.setTop (mkF m 1 #[.val (.ref a0), .val (.long q1), .second] [(.ref a0)]))
  refine Rest.via (fun t k => XS.lloadN X0.here hx rfl (hb hby d6_1) rfl k) ?_
  show Rest p.tables e below s _ _ _ (s₁.setTop (mkF m 2 #[.val (.ref a0), .val (.long q1), .second] [(.long q1), (.ref a0)]))
  have Fo1 := F_lk
  obtain ⟨T1, h1, X1, e1, W1, st1⟩ := putF X0 hx hZ hown (host := "") (Or.inl (hw _ (List.mem_of_getElem? (i := 38) rfl))) Via.refl eh0 Fo1 E_a0 (Or.inl (hw _ (List.mem_of_getElem? (i := 39) rfl))) (hw _ (List.mem_of_getElem? (i := 2) rfl)) (ty := .long) (by decide) rfl rfl (g := (mkF m 2 #[.val (.ref a0), .val (.long q1), .second] [(.long q1), (.ref a0)])) rfl rfl (hb hby d6_2)
  refine Rest.via (fun t k => st1 t k) ?_
  have N1 := Fr.snoc X1 N0 g_a0
  have K1 : Keep h0 h1 [a0] := (Keep.refl h0 [a0]).wr W1 (Or.inl (List.mem_of_getElem? (i := 0) rfl))
  have Fw1 := Fo1.same W1
  show Rest p.tables e below s _ _ _ (T1.setTop (mkF m 5 #[.val (.ref a0), .val (.long q1), .second] []))
  refine Rest.via (fun t k => XS.aloadN X1.here hx rfl (hb hby d6_5) rfl rfl k) ?_
  show Rest p.tables e below s _ _ _ (T1.setTop (mkF m 6 #[.val (.ref a0), .val (.long q1), .second] [(.ref a0)]))
  refine Rest.ret X1 (v := some (.ref a0)) (fun h => by rw [Bd.returns] at h; cases h) hlk (fun fs hr => retOut X1 hx Bd.returns rfl (Or.inr (Or.inr (Or.inr (Or.inr ⟨rfl, rfl, rfl⟩)))) (hb hby d6_6) hr) ?_ (by decide) (by decide)
  rw [e1]
  exact ⟨rfl, N1, K1, ⟨⟨(E_a0.wr W1), Fw1, (F_wb.other W1 (Or.inr (slot_ne (Or.inl (hw _ (List.mem_of_getElem? (i := 52) rfl))) (Or.inl (hw _ (List.mem_of_getElem? (i := 39) rfl))) (by decide) (t := .long) (t' := .long) (by decide) (by decide)))), (F_pt.other W1 (Or.inr (slot_ne (Or.inl (hw _ (List.mem_of_getElem? (i := 54) rfl))) (Or.inl (hw _ (List.mem_of_getElem? (i := 39) rfl))) (by decide) (t := (.object "com/example/reknit/reknit/LogRecord")) (t' := .long) (by decide) (by decide))))⟩, ⟨(F_ks.other W1 (Or.inr (slot_ne (Or.inr (hw _ (List.mem_of_getElem? (i := 35) rfl))) (Or.inl (hw _ (List.mem_of_getElem? (i := 39) rfl))) (by decide) (t := (.object "java/util/List")) (t' := .long) (by decide) (by decide)))), (F_vs.other W1 (Or.inr (slot_ne (Or.inr (hw _ (List.mem_of_getElem? (i := 37) rfl))) (Or.inl (hw _ (List.mem_of_getElem? (i := 39) rfl))) (by decide) (t := (.object "java/util/List")) (t' := .long) (by decide) (by decide)))), n1, n2, n3⟩, (own_AL_keep Ak (Keep.of_wr W1) (ninS (Ne.symm n1) nin0)), (own_AL_keep Av (Keep.of_wr W1) (ninS (Ne.symm n2) nin0))⟩⟩
theorem d15_0 : decode prog_27_method_6_code 0 = .ok (.iconst 5, 1) := by decide +kernel
theorem d15_1 : decode prog_27_method_6_code 1 = .ok (.aload_n 0, 1) := by decide +kernel
theorem d15_2 : decode prog_27_method_6_code 2 = .ok (.arraylength, 1) := by decide +kernel
theorem d15_3 : decode prog_27_method_6_code 3 = .ok (.iadd, 1) := by decide +kernel
theorem d15_4 : decode prog_27_method_6_code 4 = .ok (.iconst 4, 1) := by decide +kernel
theorem d15_5 : decode prog_27_method_6_code 5 = .ok (.iadd, 1) := by decide +kernel
theorem d15_6 : decode prog_27_method_6_code 6 = .ok (.aload_n 1, 1) := by decide +kernel
theorem d15_7 : decode prog_27_method_6_code 7 = .ok (.arraylength, 1) := by decide +kernel
theorem d15_8 : decode prog_27_method_6_code 8 = .ok (.iadd, 1) := by decide +kernel
theorem d15_9 : decode prog_27_method_6_code 9 = .ok (.i2l, 1) := by decide +kernel
theorem d15_10 : decode prog_27_method_6_code 10 = .ok (.lreturn, 1) := by decide +kernel
theorem ef_SB (m : MethodId) (a0 : Addr) (a1 : Addr) : entryFrame m #[(.ref a0), (.ref a1)] 2 = mkF m 0 #[.val (.ref a0), .val (.ref a1)] [] := by first | (simp [entryFrame, mkF, argsToLocals, Value.category, maxLocals]; done) | rfl
def QSB (Z : State) (a0 : Addr) (a1 : Addr) (m0 : Int32) (m1 : Int32) (h0 : Heap) (n0 : Nat) (v : Option Value) (h : Heap) (L : List Loc) : Prop := v = some (.long (((((5 : Int32) + m0) + (4 : Int32)) + m1).toInt64)) ∧ Fr n0 L ∧ h = h0
set_option maxRecDepth 65536 in
set_option maxHeartbeats 40000000 in
theorem rmSB (l : Launch) (Z : State) (aw : Array Value) (hw : ∀ d ∈ tables_1, d.before aw Z = true) (ws : List Jvm.Cond) (a0 : Addr) (a1 : Addr) (m0 : Int32) (m1 : Int32) (h0 : Heap) (n0 : Nat) (Z0 : n0 ≤ h0.size) (B0 : own_BA Z h0 a0 m0) (B1 : own_BA Z h0 a1 m1) :
    MetFree l (⟨"com/example/reknit/reknit/LogRecord", "setBytes", "([B[B)J"⟩ : MethodName) (head1 (Jvm.Cond.code (⟨"com/example/reknit/reknit/LogRecord", "setBytes", "([B[B)J"⟩ : MethodName) prog_27_method_6_code 2 (some .long) :: ws) ({ frames := 0, cells := 0, slots := 0, locals := 0 } : Room)) (fun a U => a = #[(.ref a0), (.ref a1)] ∧ Z.Warmed39 U.vm ∧ U.heap = h0) (fun _ _ _ _ _ => True) (fun _ U o U' => ∃ v L, o = .returned v ∧ QSB Z a0 a1 m0 m1 h0 n0 v U'.heap L ∧ FrameEnd U o U' L ({ frames := 0, cells := 0, slots := 0, locals := 0 } : Room).cells ({ frames := 0, cells := 0, slots := 0, locals := 0 } : Room).slots) := by
  refine MetFree.of_bodySF (plainFor_of_name pn_3) hisR ?_
  intro p e s m args below meth c s₁ Bd hml0 hP hK
  obtain ⟨rfl, hZ, hh⟩ := hP
  have hx := Bd.exec
  have hby := Bd.bytes
  have hml : c.maxLocals = 2 := hml0
  have hown : s.vm.findClass "com/example/reknit/reknit/LogRecord" = some m.cls := findClass_of_methodNamed Bd.named
  have hnm := (name_of_methodNamed Bd.named Bd.method).1
  have hlk : meth.locks = false := BodyLoose.notSynchronized Bd
  have X0 : Stand p l e ({ frames := 0, cells := 0, slots := 0, locals := 0 } : Room) s m #[(.ref a0), (.ref a1)] below meth c s₁ [] 0 0 := Stand.of_body Bd
  have eh0 : s₁.heap = h0 := by rw [← hh, Bd.state]; rfl
  have N0 := Fr.nil n0
  show Rest p.tables e below s (QSB Z a0 a1 m0 m1 h0 n0) _ _ (s₁.setTop (entryFrame m #[(.ref a0), (.ref a1)] 2))
  refine Rest.via (fun t k => castTop (ef_SB m a0 a1) k) ?_
  show Rest p.tables e below s _ _ _ (s₁.setTop (mkF m 0 #[.val (.ref a0), .val (.ref a1)] []))
  refine Rest.via (fun t k => XS.iconst X0.here hx rfl (hb hby d15_0) k) ?_
  show Rest p.tables e below s _ _ _ (s₁.setTop (mkF m 1 #[.val (.ref a0), .val (.ref a1)] [(.int (5 : Int32))]))
  refine Rest.via (fun t k => XS.aloadN X0.here hx rfl (hb hby d15_1) rfl rfl k) ?_
  show Rest p.tables e below s _ _ _ (s₁.setTop (mkF m 2 #[.val (.ref a0), .val (.ref a1)] [(.ref a0), (.int (5 : Int32))]))
  obtain ⟨-, cl1, Ar1, S1, P1⟩ := id B0
  refine Rest.via (fun t k => X0.arraylength hx (by rw [eh0]; exact Ar1.1) (State.isArrayOf_alike hZ.alike Ar1.2.1) (g := (mkF m 2 #[.val (.ref a0), .val (.ref a1)] [(.ref a0), (.int (5 : Int32))])) rfl rfl (hb hby d15_2) t k) ?_
  rw [len_of S1 P1]
  show Rest p.tables e below s _ _ _ (s₁.setTop (mkF m 3 #[.val (.ref a0), .val (.ref a1)] [(.int m0), (.int (5 : Int32))]))
  refine Rest.via (fun t k => XS.iadd X0.here hx rfl (hb hby d15_3) rfl k) ?_
  show Rest p.tables e below s _ _ _ (s₁.setTop (mkF m 4 #[.val (.ref a0), .val (.ref a1)] [(.int ((5 : Int32) + m0))]))
  refine Rest.via (fun t k => XS.iconst X0.here hx rfl (hb hby d15_4) k) ?_
  show Rest p.tables e below s _ _ _ (s₁.setTop (mkF m 5 #[.val (.ref a0), .val (.ref a1)] [(.int (4 : Int32)), (.int ((5 : Int32) + m0))]))
  refine Rest.via (fun t k => XS.iadd X0.here hx rfl (hb hby d15_5) rfl k) ?_
  show Rest p.tables e below s _ _ _ (s₁.setTop (mkF m 6 #[.val (.ref a0), .val (.ref a1)] [(.int (((5 : Int32) + m0) + (4 : Int32)))]))
  refine Rest.via (fun t k => XS.aloadN X0.here hx rfl (hb hby d15_6) rfl rfl k) ?_
  show Rest p.tables e below s _ _ _ (s₁.setTop (mkF m 7 #[.val (.ref a0), .val (.ref a1)] [(.ref a1), (.int (((5 : Int32) + m0) + (4 : Int32)))]))
  obtain ⟨-, cl2, Ar2, S2, P2⟩ := id B1
  refine Rest.via (fun t k => X0.arraylength hx (by rw [eh0]; exact Ar2.1) (State.isArrayOf_alike hZ.alike Ar2.2.1) (g := (mkF m 7 #[.val (.ref a0), .val (.ref a1)] [(.ref a1), (.int (((5 : Int32) + m0) + (4 : Int32)))])) rfl rfl (hb hby d15_7) t k) ?_
  rw [len_of S2 P2]
  show Rest p.tables e below s _ _ _ (s₁.setTop (mkF m 8 #[.val (.ref a0), .val (.ref a1)] [(.int m1), (.int (((5 : Int32) + m0) + (4 : Int32)))]))
  refine Rest.via (fun t k => XS.iadd X0.here hx rfl (hb hby d15_8) rfl k) ?_
  show Rest p.tables e below s _ _ _ (s₁.setTop (mkF m 9 #[.val (.ref a0), .val (.ref a1)] [(.int ((((5 : Int32) + m0) + (4 : Int32)) + m1))]))
  refine Rest.via (fun t k => XS.i2l X0.here hx rfl (hb hby d15_9) rfl k) ?_
  show Rest p.tables e below s _ _ _ (s₁.setTop (mkF m 10 #[.val (.ref a0), .val (.ref a1)] [(.long (((((5 : Int32) + m0) + (4 : Int32)) + m1).toInt64))]))
  refine Rest.ret X0 (v := some (.long (((((5 : Int32) + m0) + (4 : Int32)) + m1).toInt64))) (fun h => by rw [Bd.returns] at h; cases h) hlk (fun fs hr => retOut X0 hx Bd.returns rfl (Or.inr (Or.inl ⟨rfl, rfl, _, rfl⟩)) (hb hby d15_10) hr) ?_ (by decide) (by decide)
  rw [eh0]
  exact ⟨rfl, N0, rfl⟩
theorem d17_0 : decode prog_27_method_7_code 0 = .ok (.iconst 5, 1) := by decide +kernel
theorem d17_1 : decode prog_27_method_7_code 1 = .ok (.aload_n 0, 1) := by decide +kernel
theorem d17_2 : decode prog_27_method_7_code 2 = .ok (.arraylength, 1) := by decide +kernel
theorem d17_3 : decode prog_27_method_7_code 3 = .ok (.iadd, 1) := by decide +kernel
theorem d17_4 : decode prog_27_method_7_code 4 = .ok (.i2l, 1) := by decide +kernel
theorem d17_5 : decode prog_27_method_7_code 5 = .ok (.lreturn, 1) := by decide +kernel
theorem ef_DY (m : MethodId) (a0 : Addr) : entryFrame m #[(.ref a0)] 1 = mkF m 0 #[.val (.ref a0)] [] := by first | (simp [entryFrame, mkF, argsToLocals, Value.category, maxLocals]; done) | rfl
def QDY (Z : State) (a0 : Addr) (m0 : Int32) (h0 : Heap) (n0 : Nat) (v : Option Value) (h : Heap) (L : List Loc) : Prop := v = some (.long (((5 : Int32) + m0).toInt64)) ∧ Fr n0 L ∧ h = h0
set_option maxRecDepth 65536 in
set_option maxHeartbeats 40000000 in
theorem rmDY (l : Launch) (Z : State) (aw : Array Value) (hw : ∀ d ∈ tables_1, d.before aw Z = true) (ws : List Jvm.Cond) (a0 : Addr) (m0 : Int32) (h0 : Heap) (n0 : Nat) (Z0 : n0 ≤ h0.size) (B0 : own_BA Z h0 a0 m0) :
    MetFree l (⟨"com/example/reknit/reknit/LogRecord", "deleteBytes", "([B)J"⟩ : MethodName) (head1 (Jvm.Cond.code (⟨"com/example/reknit/reknit/LogRecord", "deleteBytes", "([B)J"⟩ : MethodName) prog_27_method_7_code 1 (some .long) :: ws) ({ frames := 0, cells := 0, slots := 0, locals := 0 } : Room)) (fun a U => a = #[(.ref a0)] ∧ Z.Warmed39 U.vm ∧ U.heap = h0) (fun _ _ _ _ _ => True) (fun _ U o U' => ∃ v L, o = .returned v ∧ QDY Z a0 m0 h0 n0 v U'.heap L ∧ FrameEnd U o U' L ({ frames := 0, cells := 0, slots := 0, locals := 0 } : Room).cells ({ frames := 0, cells := 0, slots := 0, locals := 0 } : Room).slots) := by
  refine MetFree.of_bodySF (plainFor_of_name pn_3) hisR ?_
  intro p e s m args below meth c s₁ Bd hml0 hP hK
  obtain ⟨rfl, hZ, hh⟩ := hP
  have hx := Bd.exec
  have hby := Bd.bytes
  have hml : c.maxLocals = 1 := hml0
  have hown : s.vm.findClass "com/example/reknit/reknit/LogRecord" = some m.cls := findClass_of_methodNamed Bd.named
  have hnm := (name_of_methodNamed Bd.named Bd.method).1
  have hlk : meth.locks = false := BodyLoose.notSynchronized Bd
  have X0 : Stand p l e ({ frames := 0, cells := 0, slots := 0, locals := 0 } : Room) s m #[(.ref a0)] below meth c s₁ [] 0 0 := Stand.of_body Bd
  have eh0 : s₁.heap = h0 := by rw [← hh, Bd.state]; rfl
  have N0 := Fr.nil n0
  show Rest p.tables e below s (QDY Z a0 m0 h0 n0) _ _ (s₁.setTop (entryFrame m #[(.ref a0)] 1))
  refine Rest.via (fun t k => castTop (ef_DY m a0) k) ?_
  show Rest p.tables e below s _ _ _ (s₁.setTop (mkF m 0 #[.val (.ref a0)] []))
  refine Rest.via (fun t k => XS.iconst X0.here hx rfl (hb hby d17_0) k) ?_
  show Rest p.tables e below s _ _ _ (s₁.setTop (mkF m 1 #[.val (.ref a0)] [(.int (5 : Int32))]))
  refine Rest.via (fun t k => XS.aloadN X0.here hx rfl (hb hby d17_1) rfl rfl k) ?_
  show Rest p.tables e below s _ _ _ (s₁.setTop (mkF m 2 #[.val (.ref a0)] [(.ref a0), (.int (5 : Int32))]))
  obtain ⟨-, cl1, Ar1, S1, P1⟩ := id B0
  refine Rest.via (fun t k => X0.arraylength hx (by rw [eh0]; exact Ar1.1) (State.isArrayOf_alike hZ.alike Ar1.2.1) (g := (mkF m 2 #[.val (.ref a0)] [(.ref a0), (.int (5 : Int32))])) rfl rfl (hb hby d17_2) t k) ?_
  rw [len_of S1 P1]
  show Rest p.tables e below s _ _ _ (s₁.setTop (mkF m 3 #[.val (.ref a0)] [(.int m0), (.int (5 : Int32))]))
  refine Rest.via (fun t k => XS.iadd X0.here hx rfl (hb hby d17_3) rfl k) ?_
  show Rest p.tables e below s _ _ _ (s₁.setTop (mkF m 4 #[.val (.ref a0)] [(.int ((5 : Int32) + m0))]))
  refine Rest.via (fun t k => XS.i2l X0.here hx rfl (hb hby d17_4) rfl k) ?_
  show Rest p.tables e below s _ _ _ (s₁.setTop (mkF m 5 #[.val (.ref a0)] [(.long (((5 : Int32) + m0).toInt64))]))
  refine Rest.ret X0 (v := some (.long (((5 : Int32) + m0).toInt64))) (fun h => by rw [Bd.returns] at h; cases h) hlk (fun fs hr => retOut X0 hx Bd.returns rfl (Or.inr (Or.inl ⟨rfl, rfl, _, rfl⟩)) (hb hby d17_5) hr) ?_ (by decide) (by decide)
  rw [eh0]
  exact ⟨rfl, N0, rfl⟩
theorem d18_0 : decode method_2_code 0 = .ok (.iload_n 0, 1) := by decide +kernel
theorem d18_1 : decode method_2_code 1 = .ok (.ifCond .eq 14, 3) := by decide +kernel
theorem d18_4 : decode method_2_code 4 = .ok (.iconst 5, 1) := by decide +kernel
theorem d18_5 : decode method_2_code 5 = .ok (.iload_n 1, 1) := by decide +kernel
theorem d18_6 : decode method_2_code 6 = .ok (.iadd, 1) := by decide +kernel
theorem d18_7 : decode method_2_code 7 = .ok (.iconst 4, 1) := by decide +kernel
theorem d18_8 : decode method_2_code 8 = .ok (.iadd, 1) := by decide +kernel
theorem d18_9 : decode method_2_code 9 = .ok (.iload_n 2, 1) := by decide +kernel
theorem d18_10 : decode method_2_code 10 = .ok (.iadd, 1) := by decide +kernel
theorem d18_11 : decode method_2_code 11 = .ok (.i2l, 1) := by decide +kernel
theorem d18_12 : decode method_2_code 12 = .ok (.goto 7, 3) := by decide +kernel
theorem d18_15 : decode method_2_code 15 = .ok (.iconst 5, 1) := by decide +kernel
theorem d18_16 : decode method_2_code 16 = .ok (.iload_n 1, 1) := by decide +kernel
theorem d18_17 : decode method_2_code 17 = .ok (.iadd, 1) := by decide +kernel
theorem d18_18 : decode method_2_code 18 = .ok (.i2l, 1) := by decide +kernel
theorem d18_19 : decode method_2_code 19 = .ok (.lreturn, 1) := by decide +kernel
theorem pn_4 : plainName "com/example/reknit/reknit/LogRecordBodyBytesPinLaw" = true := by first | (simp [plainName, overriddenIn]; done) | decide +kernel
theorem ef_WS (m : MethodId) (p0 : Int32) (p1 : Int32) (p2 : Int32) : entryFrame m #[(.int p0), (.int p1), (.int p2)] 3 = mkF m 0 #[.val (.int p0), .val (.int p1), .val (.int p2)] [] := by first | (simp [entryFrame, mkF, argsToLocals, Value.category, maxLocals]; done) | rfl
def QWS (Z : State) (p0 : Int32) (p1 : Int32) (p2 : Int32) (h0 : Heap) (n0 : Nat) (v : Option Value) (h : Heap) (L : List Loc) : Prop := v = some (.long (own_ws p0 p1 p2)) ∧ Fr n0 L ∧ h = h0
set_option maxRecDepth 65536 in
set_option maxHeartbeats 40000000 in
theorem rmWS (l : Launch) (Z : State) (aw : Array Value) (hw : ∀ d ∈ tables_1, d.before aw Z = true) (ws : List Jvm.Cond) (p0 : Int32) (p1 : Int32) (p2 : Int32) (h0 : Heap) (n0 : Nat) (Z0 : n0 ≤ h0.size)  :
    MetFree l (⟨"com/example/reknit/reknit/LogRecordBodyBytesPinLaw", "writeSize", "(ZII)J"⟩ : MethodName) (head1 (Jvm.Cond.code (⟨"com/example/reknit/reknit/LogRecordBodyBytesPinLaw", "writeSize", "(ZII)J"⟩ : MethodName) method_2_code 3 (some .long) :: ws) ({ frames := 0, cells := 0, slots := 0, locals := 0 } : Room)) (fun a U => a = #[(.int p0), (.int p1), (.int p2)] ∧ Z.Warmed39 U.vm ∧ U.heap = h0) (fun _ _ _ _ _ => True) (fun _ U o U' => ∃ v L, o = .returned v ∧ QWS Z p0 p1 p2 h0 n0 v U'.heap L ∧ FrameEnd U o U' L ({ frames := 0, cells := 0, slots := 0, locals := 0 } : Room).cells ({ frames := 0, cells := 0, slots := 0, locals := 0 } : Room).slots) := by
  refine MetFree.of_bodySF (plainFor_of_name pn_4) hisR ?_
  intro p e s m args below meth c s₁ Bd hml0 hP hK
  obtain ⟨rfl, hZ, hh⟩ := hP
  have hx := Bd.exec
  have hby := Bd.bytes
  have hml : c.maxLocals = 3 := hml0
  have hown : s.vm.findClass "com/example/reknit/reknit/LogRecordBodyBytesPinLaw" = some m.cls := findClass_of_methodNamed Bd.named
  have hnm := (name_of_methodNamed Bd.named Bd.method).1
  have hlk : meth.locks = false := BodyLoose.notSynchronized Bd
  have X0 : Stand p l e ({ frames := 0, cells := 0, slots := 0, locals := 0 } : Room) s m #[(.int p0), (.int p1), (.int p2)] below meth c s₁ [] 0 0 := Stand.of_body Bd
  have eh0 : s₁.heap = h0 := by rw [← hh, Bd.state]; rfl
  have N0 := Fr.nil n0
  show Rest p.tables e below s (QWS Z p0 p1 p2 h0 n0) _ _ (s₁.setTop (entryFrame m #[(.int p0), (.int p1), (.int p2)] 3))
  refine Rest.via (fun t k => castTop (ef_WS m p0 p1 p2) k) ?_
  show Rest p.tables e below s _ _ _ (s₁.setTop (mkF m 0 #[.val (.int p0), .val (.int p1), .val (.int p2)] []))
  refine Rest.via (fun t k => XS.iloadN X0.here hx rfl (hb hby d18_0) rfl k) ?_
  show Rest p.tables e below s _ _ _ (s₁.setTop (mkF m 1 #[.val (.int p0), .val (.int p1), .val (.int p2)] [(.int p0)]))
  by_cases hc1 : p0 = (0 : Int32)
  · refine Rest.via (fun t k => XS.ifYes X0.here hx rfl (pc0 := 1) (pc' := 15) rfl (hb hby d18_1) rfl ((if0 _ _).trans (teq hc1).1) (by decide) (by decide) k) ?_
    show Rest p.tables e below s _ _ _ (s₁.setTop (mkF m 15 #[.val (.int p0), .val (.int p1), .val (.int p2)] []))
    refine Rest.via (fun t k => XS.iconst X0.here hx rfl (hb hby d18_15) k) ?_
    show Rest p.tables e below s _ _ _ (s₁.setTop (mkF m 16 #[.val (.int p0), .val (.int p1), .val (.int p2)] [(.int (5 : Int32))]))
    refine Rest.via (fun t k => XS.iloadN X0.here hx rfl (hb hby d18_16) rfl k) ?_
    show Rest p.tables e below s _ _ _ (s₁.setTop (mkF m 17 #[.val (.int p0), .val (.int p1), .val (.int p2)] [(.int p1), (.int (5 : Int32))]))
    refine Rest.via (fun t k => XS.iadd X0.here hx rfl (hb hby d18_17) rfl k) ?_
    show Rest p.tables e below s _ _ _ (s₁.setTop (mkF m 18 #[.val (.int p0), .val (.int p1), .val (.int p2)] [(.int ((5 : Int32) + p1))]))
    refine Rest.via (fun t k => XS.i2l X0.here hx rfl (hb hby d18_18) rfl k) ?_
    show Rest p.tables e below s _ _ _ (s₁.setTop (mkF m 19 #[.val (.int p0), .val (.int p1), .val (.int p2)] [(.long (((5 : Int32) + p1).toInt64))]))
    refine Rest.ret X0 (v := some (.long (((5 : Int32) + p1).toInt64))) (fun h => by rw [Bd.returns] at h; cases h) hlk (fun fs hr => retOut X0 hx Bd.returns rfl (Or.inr (Or.inl ⟨rfl, rfl, _, rfl⟩)) (hb hby d18_19) hr) ?_ (by decide) (by decide)
    rw [eh0]
    exact ⟨by show some (Value.long (((5 : Int32) + p1).toInt64)) = _; rw [own_ws, if_pos hc1], N0, rfl⟩
  · refine Rest.via (fun t k => XS.ifNo X0.here hx rfl (hb hby d18_1) rfl ((if0 _ _).trans (feq hc1).1) k) ?_
    show Rest p.tables e below s _ _ _ (s₁.setTop (mkF m 4 #[.val (.int p0), .val (.int p1), .val (.int p2)] []))
    refine Rest.via (fun t k => XS.iconst X0.here hx rfl (hb hby d18_4) k) ?_
    show Rest p.tables e below s _ _ _ (s₁.setTop (mkF m 5 #[.val (.int p0), .val (.int p1), .val (.int p2)] [(.int (5 : Int32))]))
    refine Rest.via (fun t k => XS.iloadN X0.here hx rfl (hb hby d18_5) rfl k) ?_
    show Rest p.tables e below s _ _ _ (s₁.setTop (mkF m 6 #[.val (.int p0), .val (.int p1), .val (.int p2)] [(.int p1), (.int (5 : Int32))]))
    refine Rest.via (fun t k => XS.iadd X0.here hx rfl (hb hby d18_6) rfl k) ?_
    show Rest p.tables e below s _ _ _ (s₁.setTop (mkF m 7 #[.val (.int p0), .val (.int p1), .val (.int p2)] [(.int ((5 : Int32) + p1))]))
    refine Rest.via (fun t k => XS.iconst X0.here hx rfl (hb hby d18_7) k) ?_
    show Rest p.tables e below s _ _ _ (s₁.setTop (mkF m 8 #[.val (.int p0), .val (.int p1), .val (.int p2)] [(.int (4 : Int32)), (.int ((5 : Int32) + p1))]))
    refine Rest.via (fun t k => XS.iadd X0.here hx rfl (hb hby d18_8) rfl k) ?_
    show Rest p.tables e below s _ _ _ (s₁.setTop (mkF m 9 #[.val (.int p0), .val (.int p1), .val (.int p2)] [(.int (((5 : Int32) + p1) + (4 : Int32)))]))
    refine Rest.via (fun t k => XS.iloadN X0.here hx rfl (hb hby d18_9) rfl k) ?_
    show Rest p.tables e below s _ _ _ (s₁.setTop (mkF m 10 #[.val (.int p0), .val (.int p1), .val (.int p2)] [(.int p2), (.int (((5 : Int32) + p1) + (4 : Int32)))]))
    refine Rest.via (fun t k => XS.iadd X0.here hx rfl (hb hby d18_10) rfl k) ?_
    show Rest p.tables e below s _ _ _ (s₁.setTop (mkF m 11 #[.val (.int p0), .val (.int p1), .val (.int p2)] [(.int ((((5 : Int32) + p1) + (4 : Int32)) + p2))]))
    refine Rest.via (fun t k => XS.i2l X0.here hx rfl (hb hby d18_11) rfl k) ?_
    show Rest p.tables e below s _ _ _ (s₁.setTop (mkF m 12 #[.val (.int p0), .val (.int p1), .val (.int p2)] [(.long (((((5 : Int32) + p1) + (4 : Int32)) + p2).toInt64))]))
    refine Rest.via (fun t k => XS.goto X0.here hx rfl (pc0 := 12) (pc' := 19) rfl (hb hby d18_12) (by decide) (by decide) k) ?_
    show Rest p.tables e below s _ _ _ (s₁.setTop (mkF m 19 #[.val (.int p0), .val (.int p1), .val (.int p2)] [(.long (((((5 : Int32) + p1) + (4 : Int32)) + p2).toInt64))]))
    refine Rest.ret X0 (v := some (.long (((((5 : Int32) + p1) + (4 : Int32)) + p2).toInt64))) (fun h => by rw [Bd.returns] at h; cases h) hlk (fun fs hr => retOut X0 hx Bd.returns rfl (Or.inr (Or.inl ⟨rfl, rfl, _, rfl⟩)) (hb hby d18_19) hr) ?_ (by decide) (by decide)
    rw [eh0]
    exact ⟨by show some (Value.long (((((5 : Int32) + p1) + (4 : Int32)) + p2).toInt64)) = _; rw [own_ws, if_neg hc1], N0, rfl⟩
theorem pd_5 : parseMethodDescriptor "(Ljava/lang/Object;)Z" = some ⟨[(.object "java/lang/Object")], some .boolean⟩ := by decide +kernel
theorem pd_6 : parseMethodDescriptor "([B[B)J" = some ⟨[(.array .byte), (.array .byte)], some .long⟩ := by decide +kernel
theorem d9_0 : decode prog_27_method_2_code 0 = .ok (.aload_n 0, 1) := by decide +kernel
theorem d9_1 : decode prog_27_method_2_code 1 = .ok (.getfield 14, 3) := by decide +kernel
theorem d9_4 : decode prog_27_method_2_code 4 = .ok (.aload_n 1, 1) := by decide +kernel
theorem d9_5 : decode prog_27_method_2_code 5 = .ok (.invokeinterface 27 2, 5) := by decide +kernel
theorem d9_10 : decode prog_27_method_2_code 10 = .ok (.pop, 1) := by decide +kernel
theorem d9_11 : decode prog_27_method_2_code 11 = .ok (.aload_n 0, 1) := by decide +kernel
theorem d9_12 : decode prog_27_method_2_code 12 = .ok (.getfield 20, 3) := by decide +kernel
theorem d9_15 : decode prog_27_method_2_code 15 = .ok (.aload_n 2, 1) := by decide +kernel
theorem d9_16 : decode prog_27_method_2_code 16 = .ok (.invokeinterface 27 2, 5) := by decide +kernel
theorem d9_21 : decode prog_27_method_2_code 21 = .ok (.pop, 1) := by decide +kernel
theorem d9_22 : decode prog_27_method_2_code 22 = .ok (.aload_n 0, 1) := by decide +kernel
theorem d9_23 : decode prog_27_method_2_code 23 = .ok (.dup, 1) := by decide +kernel
theorem d9_24 : decode prog_27_method_2_code 24 = .ok (.getfield 33, 3) := by decide +kernel
theorem d9_27 : decode prog_27_method_2_code 27 = .ok (.aload_n 1, 1) := by decide +kernel
theorem d9_28 : decode prog_27_method_2_code 28 = .ok (.aload_n 2, 1) := by decide +kernel
theorem d9_29 : decode prog_27_method_2_code 29 = .ok (.invokestatic 36, 3) := by decide +kernel
theorem d9_32 : decode prog_27_method_2_code 32 = .ok (.ladd, 1) := by decide +kernel
theorem d9_33 : decode prog_27_method_2_code 33 = .ok (.putfield 33, 3) := by decide +kernel
theorem d9_36 : decode prog_27_method_2_code 36 = .ok (.aload_n 0, 1) := by decide +kernel
theorem d9_37 : decode prog_27_method_2_code 37 = .ok (.areturn, 1) := by decide +kernel
theorem ef_S0 (m : MethodId) (a0 : Addr) (a1 : Addr) (a2 : Addr) : entryFrame m #[(.ref a0), (.ref a1), (.ref a2)] 3 = mkF m 0 #[.val (.ref a0), .val (.ref a1), .val (.ref a2)] [] := by first | (simp [entryFrame, mkF, argsToLocals, Value.category, maxLocals]; done) | rfl
def QS0 (Z : State) (a0 : Addr) (a1 : Addr) (a2 : Addr) (ks : Addr) (vs : Addr) (de : Addr) (lk : Int64) (wb : Int64) (pt : Value) (m1 : Int32) (m2 : Int32) (h0 : Heap) (n0 : Nat) (v : Option Value) (h : Heap) (L : List Loc) : Prop := v = some (.ref a0) ∧ Fr n0 L ∧ Keep h0 h [a0, ks, vs] ∧ ∃ kb vb, h0.size ≤ kb ∧ h0.size ≤ vb ∧ own_LR1 Z h a0 ks vs kb vb lk (wb + (((((5 : Int32) + m1) + (4 : Int32)) + m2).toInt64)) pt
set_option maxRecDepth 65536 in
set_option maxHeartbeats 40000000 in
theorem rmS0 (l : Launch) (Z : State) (aw : Array Value) (hw : ∀ d ∈ tables_1, d.before aw Z = true) (ws : List Jvm.Cond) (a0 : Addr) (a1 : Addr) (a2 : Addr) (ks : Addr) (vs : Addr) (de : Addr) (lk : Int64) (wb : Int64) (pt : Value) (m1 : Int32) (m2 : Int32) (h0 : Heap) (n0 : Nat) (Z0 : n0 ≤ h0.size) (R : own_LR0 Z h0 a0 ks vs de lk wb pt) (g_a0 : n0 ≤ a0) (g_ks : n0 ≤ ks) (g_vs : n0 ≤ vs) (O : Old Z n0 h0) (DE0 : own_DE Z Z.heap de) (B1 : own_BA Z h0 a1 m1) (B2 : own_BA Z h0 a2 m2) :
    MetFree l (⟨"com/example/reknit/reknit/LogRecord", "set", "([B[B)Lcom/example/reknit/reknit/LogRecord;"⟩ : MethodName) (head1 (Jvm.Cond.code (⟨"com/example/reknit/reknit/LogRecord", "set", "([B[B)Lcom/example/reknit/reknit/LogRecord;"⟩ : MethodName) prog_27_method_2_code 3 (some (.object "com/example/reknit/reknit/LogRecord")) :: ws) ({ frames := 5, cells := 2, slots := 20, locals := 69 } : Room)) (fun a U => a = #[(.ref a0), (.ref a1), (.ref a2)] ∧ Z.Warmed39 U.vm ∧ U.heap = h0) (fun _ _ _ _ _ => True) (fun _ U o U' => ∃ v L, o = .returned v ∧ QS0 Z a0 a1 a2 ks vs de lk wb pt m1 m2 h0 n0 v U'.heap L ∧ FrameEnd U o U' L ({ frames := 5, cells := 2, slots := 20, locals := 69 } : Room).cells ({ frames := 5, cells := 2, slots := 20, locals := 69 } : Room).slots) := by
  refine MetFree.of_bodySF (plainFor_of_name pn_3) hisR ?_
  intro p e s m args below meth c s₁ Bd hml0 hP hK
  obtain ⟨rfl, hZ, hh⟩ := hP
  have hx := Bd.exec
  have hby := Bd.bytes
  have hml : c.maxLocals = 3 := hml0
  have hown : s.vm.findClass "com/example/reknit/reknit/LogRecord" = some m.cls := findClass_of_methodNamed Bd.named
  have hnm := (name_of_methodNamed Bd.named Bd.method).1
  have hlk : meth.locks = false := BodyLoose.notSynchronized Bd
  have X0 : Stand p l e ({ frames := 5, cells := 2, slots := 20, locals := 69 } : Room) s m #[(.ref a0), (.ref a1), (.ref a2)] below meth c s₁ [] 0 0 := Stand.of_body Bd
  have eh0 : s₁.heap = h0 := by rw [← hh, Bd.state]; rfl
  have N0 := Fr.nil n0
  show Rest p.tables e below s (QS0 Z a0 a1 a2 ks vs de lk wb pt m1 m2 h0 n0) _ _ (s₁.setTop (entryFrame m #[(.ref a0), (.ref a1), (.ref a2)] 3))
  refine Rest.via (fun t k => castTop (ef_S0 m a0 a1 a2) k) ?_
  obtain ⟨⟨E_a0, F_lk, F_wb, F_pt⟩, ⟨F_ks, F_vs, n1, n2, n3⟩, Ak, Av⟩ := id R
  show Rest p.tables e below s _ _ _ (s₁.setTop (mkF m 0 #[.val (.ref a0), .val (.ref a1), .val (.ref a2)] []))
  refine Rest.via (fun t k => XS.aloadN X0.here hx rfl (hb hby d9_0) rfl rfl k) ?_
  show Rest p.tables e below s _ _ _ (s₁.setTop (mkF m 1 #[.val (.ref a0), .val (.ref a1), .val (.ref a2)] [(.ref a0)]))
  obtain ⟨T1, X1, e1, st1⟩ := getF X0 hx hZ hown (host := "") (Or.inl (hw _ (List.mem_of_getElem? (i := 34) rfl))) Via.refl eh0 F_ks (g := (mkF m 1 #[.val (.ref a0), .val (.ref a1), .val (.ref a2)] [(.ref a0)])) rfl rfl (hb hby d9_1)
  refine Rest.via (fun t k => st1 t k) ?_
  show Rest p.tables e below s _ _ _ (T1.setTop (mkF m 4 #[.val (.ref a0), .val (.ref a1), .val (.ref a2)] [(.ref ks)]))
  refine Rest.via (fun t k => XS.aloadN X1.here hx rfl (hb hby d9_4) rfl rfl k) ?_
  show Rest p.tables e below s _ _ _ (T1.setTop (mkF m 5 #[.val (.ref a0), .val (.ref a1), .val (.ref a2)] [(.ref a1), (.ref ks)]))
  obtain ⟨cq2, kq2, q2a, q2b, q2c⟩ := isOf hZ e1 Ak.1
  obtain ⟨_, _, ⟨T2, L2, k2, n2⟩, -, X2, ⟨Lc2, hQ2, l2, y2, z2⟩, st2⟩ := X1.interfaceBack hx (xi := (⟨"java/util/List", "add", "(Ljava/lang/Object;)Z"⟩ : MethodName)) (y := (⟨"java/util/ArrayList", "add", "(Ljava/lang/Object;)Z"⟩ : MethodName)) hown (mvT hZ (hw _ (List.mem_of_getElem? (i := 65) rfl))) (mvT hZ (hw _ (List.mem_of_getElem? (i := 66) rfl))) (mvT hZ (hw _ (List.mem_of_getElem? (i := 67) rfl))) (mvT hZ (hw _ (List.mem_of_getElem? (i := 68) rfl))) (mvT hZ (hw _ (List.mem_of_getElem? (i := 69) rfl))) (mvT hZ (hw _ (List.mem_of_getElem? (i := 70) rfl))) (mvT hZ (hw _ (List.mem_of_getElem? (i := 71) rfl))) (mvT hZ (hw _ (List.mem_of_getElem? (i := 72) rfl))) (by decide) (backOf (W := 0) (rmD0r l Z aw hw [] ks a1 de h0 n0 (Nat.le_trans Z0 (Keep.refl h0 [a0, ks, vs]).1) Ak g_ks (O.keep (Keep.refl h0 [a0, ks, vs]) (allS g_a0 (allS g_ks (allS g_vs all0)))) DE0 B1.1) hZ (hw _ (List.mem_of_getElem? (i := 73) rfl)) (hw _ (List.mem_of_getElem? (i := 12) rfl)) (by decide) (by decide)) q2a q2b q2c (g := (mkF m 5 #[.val (.ref a0), .val (.ref a1), .val (.ref a2)] [(.ref a1), (.ref ks)])) rfl (by rw [hml]; rfl) (Steps.refl _) (argsL := [(.ref a1)]) (rest := []) (lenOf pd_5 rfl) rfl (by show 2 * 0 + _ ≤ _; exact Nat.le_of_eq rfl) (hb hby d9_5) (fun _ _ => ⟨rfl, e1, (by decide : 0 + 1 ≤ _), (by decide : 0 + 10 ≤ _)⟩)
  dsimp only [Pt.U, Pt.locs, Pt.cells, Pt.slots] at X2 l2 y2 z2 st2 hQ2
  subst l2 y2 z2
  obtain ⟨h2, e2⟩ : ∃ z, T2.heap = z := ⟨_, rfl⟩
  rw [e2] at hQ2
  obtain ⟨rfl, Nq2, Kq2, b2, sd2, Aq2, Oq2, nb2⟩ := hQ2
  have N2 := Fr.app N0 Nq2
  have sz_b2 : h0.size ≤ b2 := Nat.le_trans (Keep.refl h0 [a0, ks, vs]).1 sd2
  have ne_a0_b2 : a0 ≠ b2 := Nat.ne_of_lt (Nat.lt_of_lt_of_le E_a0.lt sd2)
  have ne_ks_b2 : ks ≠ b2 := Nat.ne_of_lt (Nat.lt_of_lt_of_le Ak.1.lt sd2)
  have ne_vs_b2 : vs ≠ b2 := Nat.ne_of_lt (Nat.lt_of_lt_of_le Av.1.lt sd2)
  have K2 : Keep h0 h2 [a0, ks, vs] := (Keep.refl h0 [a0, ks, vs]).trans Kq2 (allS (Or.inl (List.mem_of_getElem? (i := 1) rfl)) all0)
  refine Rest.via (fun t k => st2.trans k) ?_
  show Rest p.tables e below s _ _ _ (T2.setTop (mkF m 10 #[.val (.ref a0), .val (.ref a1), .val (.ref a2)] [(.int (1 : Int32))]))
  refine Rest.via (fun t k => XS.pop X2.here hx rfl (hb hby d9_10) rfl rfl k) ?_
  show Rest p.tables e below s _ _ _ (T2.setTop (mkF m 11 #[.val (.ref a0), .val (.ref a1), .val (.ref a2)] []))
  refine Rest.via (fun t k => XS.aloadN X2.here hx rfl (hb hby d9_11) rfl rfl k) ?_
  show Rest p.tables e below s _ _ _ (T2.setTop (mkF m 12 #[.val (.ref a0), .val (.ref a1), .val (.ref a2)] [(.ref a0)]))
  obtain ⟨T3, X3, e3, st3⟩ := getF X2 hx hZ hown (host := "") (Or.inl (hw _ (List.mem_of_getElem? (i := 36) rfl))) Via.refl e2 (F_vs.keep Kq2 (ninS n1 nin0)) (g := (mkF m 12 #[.val (.ref a0), .val (.ref a1), .val (.ref a2)] [(.ref a0)])) rfl rfl (hb hby d9_12)
  refine Rest.via (fun t k => st3 t k) ?_
  show Rest p.tables e below s _ _ _ (T3.setTop (mkF m 15 #[.val (.ref a0), .val (.ref a1), .val (.ref a2)] [(.ref vs)]))
  refine Rest.via (fun t k => XS.aloadN X3.here hx rfl (hb hby d9_15) rfl rfl k) ?_
  show Rest p.tables e below s _ _ _ (T3.setTop (mkF m 16 #[.val (.ref a0), .val (.ref a1), .val (.ref a2)] [(.ref a2), (.ref vs)]))
  obtain ⟨cq4, kq4, q4a, q4b, q4c⟩ := isOf hZ e3 (Av.1.keep Kq2)
  obtain ⟨_, _, ⟨T4, L4, k4, n4⟩, -, X4, ⟨Lc4, hQ4, l4, y4, z4⟩, st4⟩ := X3.interfaceBack hx (xi := (⟨"java/util/List", "add", "(Ljava/lang/Object;)Z"⟩ : MethodName)) (y := (⟨"java/util/ArrayList", "add", "(Ljava/lang/Object;)Z"⟩ : MethodName)) hown (mvT hZ (hw _ (List.mem_of_getElem? (i := 65) rfl))) (mvT hZ (hw _ (List.mem_of_getElem? (i := 66) rfl))) (mvT hZ (hw _ (List.mem_of_getElem? (i := 67) rfl))) (mvT hZ (hw _ (List.mem_of_getElem? (i := 68) rfl))) (mvT hZ (hw _ (List.mem_of_getElem? (i := 69) rfl))) (mvT hZ (hw _ (List.mem_of_getElem? (i := 70) rfl))) (mvT hZ (hw _ (List.mem_of_getElem? (i := 71) rfl))) (mvT hZ (hw _ (List.mem_of_getElem? (i := 72) rfl))) (by decide) (backOf (W := 0) (rmD0r l Z aw hw [] vs a2 de h2 n0 (Nat.le_trans Z0 K2.1) (own_AL_keep Av Kq2 (ninS (Ne.symm n3) nin0)) g_vs (O.keep K2 (allS g_a0 (allS g_ks (allS g_vs all0)))) DE0 (B2.1.keep Kq2)) hZ (hw _ (List.mem_of_getElem? (i := 73) rfl)) (hw _ (List.mem_of_getElem? (i := 12) rfl)) (by decide) (by decide)) q4a q4b q4c (g := (mkF m 16 #[.val (.ref a0), .val (.ref a1), .val (.ref a2)] [(.ref a2), (.ref vs)])) rfl (by rw [hml]; rfl) (Steps.refl _) (argsL := [(.ref a2)]) (rest := []) (lenOf pd_5 rfl) rfl (by show 2 * 0 + _ ≤ _; exact Nat.le_of_eq rfl) (hb hby d9_16) (fun _ _ => ⟨rfl, e3, (by decide : 1 + 1 ≤ _), (by decide : 10 + 10 ≤ _)⟩)
  dsimp only [Pt.U, Pt.locs, Pt.cells, Pt.slots] at X4 l4 y4 z4 st4 hQ4
  subst l4 y4 z4
  obtain ⟨h4, e4⟩ : ∃ z, T4.heap = z := ⟨_, rfl⟩
  rw [e4] at hQ4
  obtain ⟨rfl, Nq4, Kq4, b4, sd4, Aq4, Oq4, nb4⟩ := hQ4
  have N4 := Fr.app N2 Nq4
  have sz_b4 : h0.size ≤ b4 := Nat.le_trans K2.1 sd4
  have ne_a0_b4 : a0 ≠ b4 := Nat.ne_of_lt (Nat.lt_of_lt_of_le (E_a0.keep Kq2).lt sd4)
  have ne_ks_b4 : ks ≠ b4 := Nat.ne_of_lt (Nat.lt_of_lt_of_le Aq2.1.lt sd4)
  have ne_vs_b4 : vs ≠ b4 := Nat.ne_of_lt (Nat.lt_of_lt_of_le (Av.1.keep Kq2).lt sd4)
  have ne_b2_b4 : b2 ≠ b4 := by obtain ⟨_, A_, _⟩ := id Oq2; exact Nat.ne_of_lt (Nat.lt_of_lt_of_le A_.lt sd4)
  have K4 : Keep h0 h4 [a0, ks, vs] := K2.trans Kq4 (allS (Or.inl (List.mem_of_getElem? (i := 2) rfl)) all0)
  refine Rest.via (fun t k => st4.trans k) ?_
  show Rest p.tables e below s _ _ _ (T4.setTop (mkF m 21 #[.val (.ref a0), .val (.ref a1), .val (.ref a2)] [(.int (1 : Int32))]))
  refine Rest.via (fun t k => XS.pop X4.here hx rfl (hb hby d9_21) rfl rfl k) ?_
  show Rest p.tables e below s _ _ _ (T4.setTop (mkF m 22 #[.val (.ref a0), .val (.ref a1), .val (.ref a2)] []))
  refine Rest.via (fun t k => XS.aloadN X4.here hx rfl (hb hby d9_22) rfl rfl k) ?_
  show Rest p.tables e below s _ _ _ (T4.setTop (mkF m 23 #[.val (.ref a0), .val (.ref a1), .val (.ref a2)] [(.ref a0)]))
  refine Rest.via (fun t k => XS.dup X4.here hx rfl (hb hby d9_23) rfl rfl k) ?_
  show Rest p.tables e below s _ _ _ (T4.setTop (mkF m 24 #[.val (.ref a0), .val (.ref a1), .val (.ref a2)] [(.ref a0), (.ref a0)]))
  obtain ⟨T5, X5, e5, st5⟩ := getF X4 hx hZ hown (host := "") (Or.inl (hw _ (List.mem_of_getElem? (i := 51) rfl))) Via.refl e4 ((F_wb.keep Kq2 (ninS n1 nin0)).keep Kq4 (ninS n2 nin0)) (g := (mkF m 24 #[.val (.ref a0), .val (.ref a1), .val (.ref a2)] [(.ref a0), (.ref a0)])) rfl rfl (hb hby d9_24)
  refine Rest.via (fun t k => st5 t k) ?_
  show Rest p.tables e below s _ _ _ (T5.setTop (mkF m 27 #[.val (.ref a0), .val (.ref a1), .val (.ref a2)] [(.long wb), (.ref a0)]))
  refine Rest.via (fun t k => XS.aloadN X5.here hx rfl (hb hby d9_27) rfl rfl k) ?_
  show Rest p.tables e below s _ _ _ (T5.setTop (mkF m 28 #[.val (.ref a0), .val (.ref a1), .val (.ref a2)] [(.ref a1), (.long wb), (.ref a0)]))
  refine Rest.via (fun t k => XS.aloadN X5.here hx rfl (hb hby d9_28) rfl rfl k) ?_
  show Rest p.tables e below s _ _ _ (T5.setTop (mkF m 29 #[.val (.ref a0), .val (.ref a1), .val (.ref a2)] [(.ref a2), (.ref a1), (.long wb), (.ref a0)]))
  obtain ⟨_, _, ⟨T6, L6, k6, n6⟩, -, X6, ⟨Lc6, hQ6, l6, y6, z6⟩, st6⟩ := Jvm.LawKit.callS X5 hx (y := (⟨"com/example/reknit/reknit/LogRecord", "setBytes", "([B[B)J"⟩ : MethodName)) hown (mvT hZ (hw _ (List.mem_of_getElem? (i := 100) rfl))) (mvT hZ (hw _ (List.mem_of_getElem? (i := 101) rfl))) (mvT hZ (hw _ (List.mem_of_getElem? (i := 3) rfl))) (mvT hZ (hw _ (List.mem_of_getElem? (i := 102) rfl))) (by decide) (backOf (W := 3) (rmSB l Z aw hw [] a1 a2 m1 m2 h4 n0 (Nat.le_trans Z0 K4.1) (own_BA_keep (own_BA_keep B1 Kq2) Kq4) (own_BA_keep (own_BA_keep B2 Kq2) Kq4)) hZ (hw _ (List.mem_of_getElem? (i := 102) rfl)) (hw _ (List.mem_of_getElem? (i := 3) rfl)) (by decide) (by decide)) (g := (mkF m 29 #[.val (.ref a0), .val (.ref a1), .val (.ref a2)] [(.ref a2), (.ref a1), (.long wb), (.ref a0)])) rfl (by rw [hml]; rfl) (argsL := [(.ref a1), (.ref a2)]) (rest := [(.long wb), (.ref a0)]) (lenOf pd_6 rfl) rfl (by show 2 * 0 + _ ≤ _; exact Nat.le_of_eq rfl) (hb hby d9_29) (fun _ _ => ⟨rfl, e5, (by decide : 2 + 0 ≤ _), (by decide : 20 + 0 ≤ _)⟩)
  dsimp only [Pt.U, Pt.locs, Pt.cells, Pt.slots] at X6 l6 y6 z6 st6 hQ6
  subst l6 y6 z6
  obtain ⟨rfl, Nq6, e6⟩ := hQ6
  have N6 := Fr.app N4 Nq6
  refine Rest.via (fun t k => st6 t k) ?_
  show Rest p.tables e below s _ _ _ (T6.setTop (mkF m 32 #[.val (.ref a0), .val (.ref a1), .val (.ref a2)] [(.long (((((5 : Int32) + m1) + (4 : Int32)) + m2).toInt64)), (.long wb), (.ref a0)]))
  refine Rest.via (fun t k => XS.ladd X6.here hx rfl (hb hby d9_32) rfl k) ?_
  show Rest p.tables e below s _ _ _ (T6.setTop (mkF m 33 #[.val (.ref a0), .val (.ref a1), .val (.ref a2)] [(.long (wb + (((((5 : Int32) + m1) + (4 : Int32)) + m2).toInt64))), (.ref a0)]))
  have Fo7 := ((F_wb.keep Kq2 (ninS n1 nin0)).keep Kq4 (ninS n2 nin0))
  obtain ⟨T7, h7, X7, e7, W7, st7⟩ := putF X6 hx hZ hown (host := "") (Or.inl (hw _ (List.mem_of_getElem? (i := 51) rfl))) Via.refl e6 Fo7 ((E_a0.keep Kq2).keep Kq4) (Or.inl (hw _ (List.mem_of_getElem? (i := 52) rfl))) (hw _ (List.mem_of_getElem? (i := 2) rfl)) (ty := .long) (by decide) rfl rfl (g := (mkF m 33 #[.val (.ref a0), .val (.ref a1), .val (.ref a2)] [(.long (wb + (((((5 : Int32) + m1) + (4 : Int32)) + m2).toInt64))), (.ref a0)])) rfl rfl (hb hby d9_33)
  refine Rest.via (fun t k => st7 t k) ?_
  have N7 := Fr.snoc X7 N6 g_a0
  have K7 : Keep h0 h7 [a0, ks, vs] := K4.wr W7 (Or.inl (List.mem_of_getElem? (i := 0) rfl))
  have Fw7 := Fo7.same W7
  show Rest p.tables e below s _ _ _ (T7.setTop (mkF m 36 #[.val (.ref a0), .val (.ref a1), .val (.ref a2)] []))
  refine Rest.via (fun t k => XS.aloadN X7.here hx rfl (hb hby d9_36) rfl rfl k) ?_
  show Rest p.tables e below s _ _ _ (T7.setTop (mkF m 37 #[.val (.ref a0), .val (.ref a1), .val (.ref a2)] [(.ref a0)]))
  refine Rest.ret X7 (v := some (.ref a0)) (fun h => by rw [Bd.returns] at h; cases h) hlk (fun fs hr => retOut X7 hx Bd.returns rfl (Or.inr (Or.inr (Or.inr (Or.inr ⟨rfl, rfl, rfl⟩)))) (hb hby d9_37) hr) ?_ (by decide) (by decide)
  rw [e7]
  exact ⟨rfl, N7, K7, b2, b4, sz_b2, sz_b4, ⟨(((E_a0.keep Kq2).keep Kq4).wr W7), (((F_lk.keep Kq2 (ninS n1 nin0)).keep Kq4 (ninS n2 nin0)).other W7 (Or.inr (slot_ne (Or.inl (hw _ (List.mem_of_getElem? (i := 39) rfl))) (Or.inl (hw _ (List.mem_of_getElem? (i := 52) rfl))) (by decide) (t := .long) (t' := .long) (by decide) (by decide)))), Fw7, (((F_pt.keep Kq2 (ninS n1 nin0)).keep Kq4 (ninS n2 nin0)).other W7 (Or.inr (slot_ne (Or.inl (hw _ (List.mem_of_getElem? (i := 54) rfl))) (Or.inl (hw _ (List.mem_of_getElem? (i := 52) rfl))) (by decide) (t := (.object "com/example/reknit/reknit/LogRecord")) (t' := .long) (by decide) (by decide))))⟩, ⟨(((F_ks.keep Kq2 (ninS n1 nin0)).keep Kq4 (ninS n2 nin0)).other W7 (Or.inr (slot_ne (Or.inr (hw _ (List.mem_of_getElem? (i := 35) rfl))) (Or.inl (hw _ (List.mem_of_getElem? (i := 52) rfl))) (by decide) (t := (.object "java/util/List")) (t' := .long) (by decide) (by decide)))), (((F_vs.keep Kq2 (ninS n1 nin0)).keep Kq4 (ninS n2 nin0)).other W7 (Or.inr (slot_ne (Or.inr (hw _ (List.mem_of_getElem? (i := 37) rfl))) (Or.inl (hw _ (List.mem_of_getElem? (i := 52) rfl))) (by decide) (t := (.object "java/util/List")) (t' := .long) (by decide) (by decide)))), n1, n2, n3⟩, (own_AL_keep (own_AL_keep Aq2 Kq4 (ninS n3 nin0)) (Keep.of_wr W7) (ninS (Ne.symm n1) nin0)), (own_OA_keep (own_OA_keep Oq2 Kq4) (Keep.of_wr W7)), (own_AL_keep Aq4 (Keep.of_wr W7) (ninS (Ne.symm n2) nin0)), (own_OA_keep Oq4 (Keep.of_wr W7)), ne_a0_b2, ne_ks_b2, ne_vs_b2, ne_a0_b4, ne_ks_b4, ne_vs_b4, ne_b2_b4⟩
theorem pd_7 : parseMethodDescriptor "([B)J" = some ⟨[(.array .byte)], some .long⟩ := by decide +kernel
theorem d16_0 : decode prog_27_method_3_code 0 = .ok (.aload_n 0, 1) := by decide +kernel
theorem d16_1 : decode prog_27_method_3_code 1 = .ok (.getfield 14, 3) := by decide +kernel
theorem d16_4 : decode prog_27_method_3_code 4 = .ok (.aload_n 1, 1) := by decide +kernel
theorem d16_5 : decode prog_27_method_3_code 5 = .ok (.invokeinterface 27 2, 5) := by decide +kernel
theorem d16_10 : decode prog_27_method_3_code 10 = .ok (.pop, 1) := by decide +kernel
theorem d16_11 : decode prog_27_method_3_code 11 = .ok (.aload_n 0, 1) := by decide +kernel
theorem d16_12 : decode prog_27_method_3_code 12 = .ok (.getfield 20, 3) := by decide +kernel
theorem d16_15 : decode prog_27_method_3_code 15 = .ok (.aconst_null, 1) := by decide +kernel
theorem d16_16 : decode prog_27_method_3_code 16 = .ok (.invokeinterface 27 2, 5) := by decide +kernel
theorem d16_21 : decode prog_27_method_3_code 21 = .ok (.pop, 1) := by decide +kernel
theorem d16_22 : decode prog_27_method_3_code 22 = .ok (.aload_n 0, 1) := by decide +kernel
theorem d16_23 : decode prog_27_method_3_code 23 = .ok (.dup, 1) := by decide +kernel
theorem d16_24 : decode prog_27_method_3_code 24 = .ok (.getfield 33, 3) := by decide +kernel
theorem d16_27 : decode prog_27_method_3_code 27 = .ok (.aload_n 1, 1) := by decide +kernel
theorem d16_28 : decode prog_27_method_3_code 28 = .ok (.invokestatic 40, 3) := by decide +kernel
theorem d16_31 : decode prog_27_method_3_code 31 = .ok (.ladd, 1) := by decide +kernel
theorem d16_32 : decode prog_27_method_3_code 32 = .ok (.putfield 33, 3) := by decide +kernel
theorem d16_35 : decode prog_27_method_3_code 35 = .ok (.aload_n 0, 1) := by decide +kernel
theorem d16_36 : decode prog_27_method_3_code 36 = .ok (.areturn, 1) := by decide +kernel
theorem ef_X0 (m : MethodId) (a0 : Addr) (a1 : Addr) : entryFrame m #[(.ref a0), (.ref a1)] 2 = mkF m 0 #[.val (.ref a0), .val (.ref a1)] [] := by first | (simp [entryFrame, mkF, argsToLocals, Value.category, maxLocals]; done) | rfl
def QX0 (Z : State) (a0 : Addr) (a1 : Addr) (ks : Addr) (vs : Addr) (de : Addr) (lk : Int64) (wb : Int64) (pt : Value) (m1 : Int32) (h0 : Heap) (n0 : Nat) (v : Option Value) (h : Heap) (L : List Loc) : Prop := v = some (.ref a0) ∧ Fr n0 L ∧ Keep h0 h [a0, ks, vs] ∧ ∃ kb vb, h0.size ≤ kb ∧ h0.size ≤ vb ∧ own_LR1 Z h a0 ks vs kb vb lk (wb + (((5 : Int32) + m1).toInt64)) pt
set_option maxRecDepth 65536 in
set_option maxHeartbeats 40000000 in
theorem rmX0 (l : Launch) (Z : State) (aw : Array Value) (hw : ∀ d ∈ tables_1, d.before aw Z = true) (ws : List Jvm.Cond) (a0 : Addr) (a1 : Addr) (ks : Addr) (vs : Addr) (de : Addr) (lk : Int64) (wb : Int64) (pt : Value) (m1 : Int32) (h0 : Heap) (n0 : Nat) (Z0 : n0 ≤ h0.size) (R : own_LR0 Z h0 a0 ks vs de lk wb pt) (g_a0 : n0 ≤ a0) (g_ks : n0 ≤ ks) (g_vs : n0 ≤ vs) (O : Old Z n0 h0) (DE0 : own_DE Z Z.heap de) (B1 : own_BA Z h0 a1 m1) :
    MetFree l (⟨"com/example/reknit/reknit/LogRecord", "delete", "([B)Lcom/example/reknit/reknit/LogRecord;"⟩ : MethodName) (head1 (Jvm.Cond.code (⟨"com/example/reknit/reknit/LogRecord", "delete", "([B)Lcom/example/reknit/reknit/LogRecord;"⟩ : MethodName) prog_27_method_3_code 2 (some (.object "com/example/reknit/reknit/LogRecord")) :: ws) ({ frames := 5, cells := 2, slots := 20, locals := 69 } : Room)) (fun a U => a = #[(.ref a0), (.ref a1)] ∧ Z.Warmed39 U.vm ∧ U.heap = h0) (fun _ _ _ _ _ => True) (fun _ U o U' => ∃ v L, o = .returned v ∧ QX0 Z a0 a1 ks vs de lk wb pt m1 h0 n0 v U'.heap L ∧ FrameEnd U o U' L ({ frames := 5, cells := 2, slots := 20, locals := 69 } : Room).cells ({ frames := 5, cells := 2, slots := 20, locals := 69 } : Room).slots) := by
  refine MetFree.of_bodySF (plainFor_of_name pn_3) hisR ?_
  intro p e s m args below meth c s₁ Bd hml0 hP hK
  obtain ⟨rfl, hZ, hh⟩ := hP
  have hx := Bd.exec
  have hby := Bd.bytes
  have hml : c.maxLocals = 2 := hml0
  have hown : s.vm.findClass "com/example/reknit/reknit/LogRecord" = some m.cls := findClass_of_methodNamed Bd.named
  have hnm := (name_of_methodNamed Bd.named Bd.method).1
  have hlk : meth.locks = false := BodyLoose.notSynchronized Bd
  have X0 : Stand p l e ({ frames := 5, cells := 2, slots := 20, locals := 69 } : Room) s m #[(.ref a0), (.ref a1)] below meth c s₁ [] 0 0 := Stand.of_body Bd
  have eh0 : s₁.heap = h0 := by rw [← hh, Bd.state]; rfl
  have N0 := Fr.nil n0
  show Rest p.tables e below s (QX0 Z a0 a1 ks vs de lk wb pt m1 h0 n0) _ _ (s₁.setTop (entryFrame m #[(.ref a0), (.ref a1)] 2))
  refine Rest.via (fun t k => castTop (ef_X0 m a0 a1) k) ?_
  obtain ⟨⟨E_a0, F_lk, F_wb, F_pt⟩, ⟨F_ks, F_vs, n1, n2, n3⟩, Ak, Av⟩ := id R
  show Rest p.tables e below s _ _ _ (s₁.setTop (mkF m 0 #[.val (.ref a0), .val (.ref a1)] []))
  refine Rest.via (fun t k => XS.aloadN X0.here hx rfl (hb hby d16_0) rfl rfl k) ?_
  show Rest p.tables e below s _ _ _ (s₁.setTop (mkF m 1 #[.val (.ref a0), .val (.ref a1)] [(.ref a0)]))
  obtain ⟨T1, X1, e1, st1⟩ := getF X0 hx hZ hown (host := "") (Or.inl (hw _ (List.mem_of_getElem? (i := 34) rfl))) Via.refl eh0 F_ks (g := (mkF m 1 #[.val (.ref a0), .val (.ref a1)] [(.ref a0)])) rfl rfl (hb hby d16_1)
  refine Rest.via (fun t k => st1 t k) ?_
  show Rest p.tables e below s _ _ _ (T1.setTop (mkF m 4 #[.val (.ref a0), .val (.ref a1)] [(.ref ks)]))
  refine Rest.via (fun t k => XS.aloadN X1.here hx rfl (hb hby d16_4) rfl rfl k) ?_
  show Rest p.tables e below s _ _ _ (T1.setTop (mkF m 5 #[.val (.ref a0), .val (.ref a1)] [(.ref a1), (.ref ks)]))
  obtain ⟨cq2, kq2, q2a, q2b, q2c⟩ := isOf hZ e1 Ak.1
  obtain ⟨_, _, ⟨T2, L2, k2, n2⟩, -, X2, ⟨Lc2, hQ2, l2, y2, z2⟩, st2⟩ := X1.interfaceBack hx (xi := (⟨"java/util/List", "add", "(Ljava/lang/Object;)Z"⟩ : MethodName)) (y := (⟨"java/util/ArrayList", "add", "(Ljava/lang/Object;)Z"⟩ : MethodName)) hown (mvT hZ (hw _ (List.mem_of_getElem? (i := 65) rfl))) (mvT hZ (hw _ (List.mem_of_getElem? (i := 66) rfl))) (mvT hZ (hw _ (List.mem_of_getElem? (i := 67) rfl))) (mvT hZ (hw _ (List.mem_of_getElem? (i := 68) rfl))) (mvT hZ (hw _ (List.mem_of_getElem? (i := 69) rfl))) (mvT hZ (hw _ (List.mem_of_getElem? (i := 70) rfl))) (mvT hZ (hw _ (List.mem_of_getElem? (i := 71) rfl))) (mvT hZ (hw _ (List.mem_of_getElem? (i := 72) rfl))) (by decide) (backOf (W := 0) (rmD0r l Z aw hw [] ks a1 de h0 n0 (Nat.le_trans Z0 (Keep.refl h0 [a0, ks, vs]).1) Ak g_ks (O.keep (Keep.refl h0 [a0, ks, vs]) (allS g_a0 (allS g_ks (allS g_vs all0)))) DE0 B1.1) hZ (hw _ (List.mem_of_getElem? (i := 73) rfl)) (hw _ (List.mem_of_getElem? (i := 12) rfl)) (by decide) (by decide)) q2a q2b q2c (g := (mkF m 5 #[.val (.ref a0), .val (.ref a1)] [(.ref a1), (.ref ks)])) rfl (by rw [hml]; rfl) (Steps.refl _) (argsL := [(.ref a1)]) (rest := []) (lenOf pd_5 rfl) rfl (by show 2 * 0 + _ ≤ _; exact Nat.le_of_eq rfl) (hb hby d16_5) (fun _ _ => ⟨rfl, e1, (by decide : 0 + 1 ≤ _), (by decide : 0 + 10 ≤ _)⟩)
  dsimp only [Pt.U, Pt.locs, Pt.cells, Pt.slots] at X2 l2 y2 z2 st2 hQ2
  subst l2 y2 z2
  obtain ⟨h2, e2⟩ : ∃ z, T2.heap = z := ⟨_, rfl⟩
  rw [e2] at hQ2
  obtain ⟨rfl, Nq2, Kq2, b2, sd2, Aq2, Oq2, nb2⟩ := hQ2
  have N2 := Fr.app N0 Nq2
  have sz_b2 : h0.size ≤ b2 := Nat.le_trans (Keep.refl h0 [a0, ks, vs]).1 sd2
  have ne_a0_b2 : a0 ≠ b2 := Nat.ne_of_lt (Nat.lt_of_lt_of_le E_a0.lt sd2)
  have ne_ks_b2 : ks ≠ b2 := Nat.ne_of_lt (Nat.lt_of_lt_of_le Ak.1.lt sd2)
  have ne_vs_b2 : vs ≠ b2 := Nat.ne_of_lt (Nat.lt_of_lt_of_le Av.1.lt sd2)
  have K2 : Keep h0 h2 [a0, ks, vs] := (Keep.refl h0 [a0, ks, vs]).trans Kq2 (allS (Or.inl (List.mem_of_getElem? (i := 1) rfl)) all0)
  refine Rest.via (fun t k => st2.trans k) ?_
  show Rest p.tables e below s _ _ _ (T2.setTop (mkF m 10 #[.val (.ref a0), .val (.ref a1)] [(.int (1 : Int32))]))
  refine Rest.via (fun t k => XS.pop X2.here hx rfl (hb hby d16_10) rfl rfl k) ?_
  show Rest p.tables e below s _ _ _ (T2.setTop (mkF m 11 #[.val (.ref a0), .val (.ref a1)] []))
  refine Rest.via (fun t k => XS.aloadN X2.here hx rfl (hb hby d16_11) rfl rfl k) ?_
  show Rest p.tables e below s _ _ _ (T2.setTop (mkF m 12 #[.val (.ref a0), .val (.ref a1)] [(.ref a0)]))
  obtain ⟨T3, X3, e3, st3⟩ := getF X2 hx hZ hown (host := "") (Or.inl (hw _ (List.mem_of_getElem? (i := 36) rfl))) Via.refl e2 (F_vs.keep Kq2 (ninS n1 nin0)) (g := (mkF m 12 #[.val (.ref a0), .val (.ref a1)] [(.ref a0)])) rfl rfl (hb hby d16_12)
  refine Rest.via (fun t k => st3 t k) ?_
  show Rest p.tables e below s _ _ _ (T3.setTop (mkF m 15 #[.val (.ref a0), .val (.ref a1)] [(.ref vs)]))
  refine Rest.via (fun t k => XS.aconstNull X3.here hx rfl (hb hby d16_15) k) ?_
  show Rest p.tables e below s _ _ _ (T3.setTop (mkF m 16 #[.val (.ref a0), .val (.ref a1)] [.null, (.ref vs)]))
  obtain ⟨cq4, kq4, q4a, q4b, q4c⟩ := isOf hZ e3 (Av.1.keep Kq2)
  obtain ⟨_, _, ⟨T4, L4, k4, n4⟩, -, X4, ⟨Lc4, hQ4, l4, y4, z4⟩, st4⟩ := X3.interfaceBack hx (xi := (⟨"java/util/List", "add", "(Ljava/lang/Object;)Z"⟩ : MethodName)) (y := (⟨"java/util/ArrayList", "add", "(Ljava/lang/Object;)Z"⟩ : MethodName)) hown (mvT hZ (hw _ (List.mem_of_getElem? (i := 65) rfl))) (mvT hZ (hw _ (List.mem_of_getElem? (i := 66) rfl))) (mvT hZ (hw _ (List.mem_of_getElem? (i := 67) rfl))) (mvT hZ (hw _ (List.mem_of_getElem? (i := 68) rfl))) (mvT hZ (hw _ (List.mem_of_getElem? (i := 69) rfl))) (mvT hZ (hw _ (List.mem_of_getElem? (i := 70) rfl))) (mvT hZ (hw _ (List.mem_of_getElem? (i := 71) rfl))) (mvT hZ (hw _ (List.mem_of_getElem? (i := 72) rfl))) (by decide) (backOf (W := 0) (rmD0n l Z aw hw [] vs de h2 n0 (Nat.le_trans Z0 K2.1) (own_AL_keep Av Kq2 (ninS (Ne.symm n3) nin0)) g_vs (O.keep K2 (allS g_a0 (allS g_ks (allS g_vs all0)))) DE0) hZ (hw _ (List.mem_of_getElem? (i := 73) rfl)) (hw _ (List.mem_of_getElem? (i := 12) rfl)) (by decide) (by decide)) q4a q4b q4c (g := (mkF m 16 #[.val (.ref a0), .val (.ref a1)] [.null, (.ref vs)])) rfl (by rw [hml]; rfl) (Steps.refl _) (argsL := [.null]) (rest := []) (lenOf pd_5 rfl) rfl (by show 2 * 0 + _ ≤ _; exact Nat.le_of_eq rfl) (hb hby d16_16) (fun _ _ => ⟨rfl, e3, (by decide : 1 + 1 ≤ _), (by decide : 10 + 10 ≤ _)⟩)
  dsimp only [Pt.U, Pt.locs, Pt.cells, Pt.slots] at X4 l4 y4 z4 st4 hQ4
  subst l4 y4 z4
  obtain ⟨h4, e4⟩ : ∃ z, T4.heap = z := ⟨_, rfl⟩
  rw [e4] at hQ4
  obtain ⟨rfl, Nq4, Kq4, b4, sd4, Aq4, Oq4, nb4⟩ := hQ4
  have N4 := Fr.app N2 Nq4
  have sz_b4 : h0.size ≤ b4 := Nat.le_trans K2.1 sd4
  have ne_a0_b4 : a0 ≠ b4 := Nat.ne_of_lt (Nat.lt_of_lt_of_le (E_a0.keep Kq2).lt sd4)
  have ne_ks_b4 : ks ≠ b4 := Nat.ne_of_lt (Nat.lt_of_lt_of_le Aq2.1.lt sd4)
  have ne_vs_b4 : vs ≠ b4 := Nat.ne_of_lt (Nat.lt_of_lt_of_le (Av.1.keep Kq2).lt sd4)
  have ne_b2_b4 : b2 ≠ b4 := by obtain ⟨_, A_, _⟩ := id Oq2; exact Nat.ne_of_lt (Nat.lt_of_lt_of_le A_.lt sd4)
  have K4 : Keep h0 h4 [a0, ks, vs] := K2.trans Kq4 (allS (Or.inl (List.mem_of_getElem? (i := 2) rfl)) all0)
  refine Rest.via (fun t k => st4.trans k) ?_
  show Rest p.tables e below s _ _ _ (T4.setTop (mkF m 21 #[.val (.ref a0), .val (.ref a1)] [(.int (1 : Int32))]))
  refine Rest.via (fun t k => XS.pop X4.here hx rfl (hb hby d16_21) rfl rfl k) ?_
  show Rest p.tables e below s _ _ _ (T4.setTop (mkF m 22 #[.val (.ref a0), .val (.ref a1)] []))
  refine Rest.via (fun t k => XS.aloadN X4.here hx rfl (hb hby d16_22) rfl rfl k) ?_
  show Rest p.tables e below s _ _ _ (T4.setTop (mkF m 23 #[.val (.ref a0), .val (.ref a1)] [(.ref a0)]))
  refine Rest.via (fun t k => XS.dup X4.here hx rfl (hb hby d16_23) rfl rfl k) ?_
  show Rest p.tables e below s _ _ _ (T4.setTop (mkF m 24 #[.val (.ref a0), .val (.ref a1)] [(.ref a0), (.ref a0)]))
  obtain ⟨T5, X5, e5, st5⟩ := getF X4 hx hZ hown (host := "") (Or.inl (hw _ (List.mem_of_getElem? (i := 51) rfl))) Via.refl e4 ((F_wb.keep Kq2 (ninS n1 nin0)).keep Kq4 (ninS n2 nin0)) (g := (mkF m 24 #[.val (.ref a0), .val (.ref a1)] [(.ref a0), (.ref a0)])) rfl rfl (hb hby d16_24)
  refine Rest.via (fun t k => st5 t k) ?_
  show Rest p.tables e below s _ _ _ (T5.setTop (mkF m 27 #[.val (.ref a0), .val (.ref a1)] [(.long wb), (.ref a0)]))
  refine Rest.via (fun t k => XS.aloadN X5.here hx rfl (hb hby d16_27) rfl rfl k) ?_
  show Rest p.tables e below s _ _ _ (T5.setTop (mkF m 28 #[.val (.ref a0), .val (.ref a1)] [(.ref a1), (.long wb), (.ref a0)]))
  obtain ⟨_, _, ⟨T6, L6, k6, n6⟩, -, X6, ⟨Lc6, hQ6, l6, y6, z6⟩, st6⟩ := Jvm.LawKit.callS X5 hx (y := (⟨"com/example/reknit/reknit/LogRecord", "deleteBytes", "([B)J"⟩ : MethodName)) hown (mvT hZ (hw _ (List.mem_of_getElem? (i := 108) rfl))) (mvT hZ (hw _ (List.mem_of_getElem? (i := 109) rfl))) (mvT hZ (hw _ (List.mem_of_getElem? (i := 3) rfl))) (mvT hZ (hw _ (List.mem_of_getElem? (i := 110) rfl))) (by decide) (backOf (W := 3) (rmDY l Z aw hw [] a1 m1 h4 n0 (Nat.le_trans Z0 K4.1) (own_BA_keep (own_BA_keep B1 Kq2) Kq4)) hZ (hw _ (List.mem_of_getElem? (i := 110) rfl)) (hw _ (List.mem_of_getElem? (i := 3) rfl)) (by decide) (by decide)) (g := (mkF m 28 #[.val (.ref a0), .val (.ref a1)] [(.ref a1), (.long wb), (.ref a0)])) rfl (by rw [hml]; rfl) (argsL := [(.ref a1)]) (rest := [(.long wb), (.ref a0)]) (lenOf pd_7 rfl) rfl (by show 2 * 0 + _ ≤ _; exact Nat.le_of_eq rfl) (hb hby d16_28) (fun _ _ => ⟨rfl, e5, (by decide : 2 + 0 ≤ _), (by decide : 20 + 0 ≤ _)⟩)
  dsimp only [Pt.U, Pt.locs, Pt.cells, Pt.slots] at X6 l6 y6 z6 st6 hQ6
  subst l6 y6 z6
  obtain ⟨rfl, Nq6, e6⟩ := hQ6
  have N6 := Fr.app N4 Nq6
  refine Rest.via (fun t k => st6 t k) ?_
  show Rest p.tables e below s _ _ _ (T6.setTop (mkF m 31 #[.val (.ref a0), .val (.ref a1)] [(.long (((5 : Int32) + m1).toInt64)), (.long wb), (.ref a0)]))
  refine Rest.via (fun t k => XS.ladd X6.here hx rfl (hb hby d16_31) rfl k) ?_
  show Rest p.tables e below s _ _ _ (T6.setTop (mkF m 32 #[.val (.ref a0), .val (.ref a1)] [(.long (wb + (((5 : Int32) + m1).toInt64))), (.ref a0)]))
  have Fo7 := ((F_wb.keep Kq2 (ninS n1 nin0)).keep Kq4 (ninS n2 nin0))
  obtain ⟨T7, h7, X7, e7, W7, st7⟩ := putF X6 hx hZ hown (host := "") (Or.inl (hw _ (List.mem_of_getElem? (i := 51) rfl))) Via.refl e6 Fo7 ((E_a0.keep Kq2).keep Kq4) (Or.inl (hw _ (List.mem_of_getElem? (i := 52) rfl))) (hw _ (List.mem_of_getElem? (i := 2) rfl)) (ty := .long) (by decide) rfl rfl (g := (mkF m 32 #[.val (.ref a0), .val (.ref a1)] [(.long (wb + (((5 : Int32) + m1).toInt64))), (.ref a0)])) rfl rfl (hb hby d16_32)
  refine Rest.via (fun t k => st7 t k) ?_
  have N7 := Fr.snoc X7 N6 g_a0
  have K7 : Keep h0 h7 [a0, ks, vs] := K4.wr W7 (Or.inl (List.mem_of_getElem? (i := 0) rfl))
  have Fw7 := Fo7.same W7
  show Rest p.tables e below s _ _ _ (T7.setTop (mkF m 35 #[.val (.ref a0), .val (.ref a1)] []))
  refine Rest.via (fun t k => XS.aloadN X7.here hx rfl (hb hby d16_35) rfl rfl k) ?_
  show Rest p.tables e below s _ _ _ (T7.setTop (mkF m 36 #[.val (.ref a0), .val (.ref a1)] [(.ref a0)]))
  refine Rest.ret X7 (v := some (.ref a0)) (fun h => by rw [Bd.returns] at h; cases h) hlk (fun fs hr => retOut X7 hx Bd.returns rfl (Or.inr (Or.inr (Or.inr (Or.inr ⟨rfl, rfl, rfl⟩)))) (hb hby d16_36) hr) ?_ (by decide) (by decide)
  rw [e7]
  exact ⟨rfl, N7, K7, b2, b4, sz_b2, sz_b4, ⟨(((E_a0.keep Kq2).keep Kq4).wr W7), (((F_lk.keep Kq2 (ninS n1 nin0)).keep Kq4 (ninS n2 nin0)).other W7 (Or.inr (slot_ne (Or.inl (hw _ (List.mem_of_getElem? (i := 39) rfl))) (Or.inl (hw _ (List.mem_of_getElem? (i := 52) rfl))) (by decide) (t := .long) (t' := .long) (by decide) (by decide)))), Fw7, (((F_pt.keep Kq2 (ninS n1 nin0)).keep Kq4 (ninS n2 nin0)).other W7 (Or.inr (slot_ne (Or.inl (hw _ (List.mem_of_getElem? (i := 54) rfl))) (Or.inl (hw _ (List.mem_of_getElem? (i := 52) rfl))) (by decide) (t := (.object "com/example/reknit/reknit/LogRecord")) (t' := .long) (by decide) (by decide))))⟩, ⟨(((F_ks.keep Kq2 (ninS n1 nin0)).keep Kq4 (ninS n2 nin0)).other W7 (Or.inr (slot_ne (Or.inr (hw _ (List.mem_of_getElem? (i := 35) rfl))) (Or.inl (hw _ (List.mem_of_getElem? (i := 52) rfl))) (by decide) (t := (.object "java/util/List")) (t' := .long) (by decide) (by decide)))), (((F_vs.keep Kq2 (ninS n1 nin0)).keep Kq4 (ninS n2 nin0)).other W7 (Or.inr (slot_ne (Or.inr (hw _ (List.mem_of_getElem? (i := 37) rfl))) (Or.inl (hw _ (List.mem_of_getElem? (i := 52) rfl))) (by decide) (t := (.object "java/util/List")) (t' := .long) (by decide) (by decide)))), n1, n2, n3⟩, (own_AL_keep (own_AL_keep Aq2 Kq4 (ninS n3 nin0)) (Keep.of_wr W7) (ninS (Ne.symm n1) nin0)), (own_OA_keep (own_OA_keep Oq2 Kq4) (Keep.of_wr W7)), (own_AL_keep Aq4 (Keep.of_wr W7) (ninS (Ne.symm n2) nin0)), (own_OA_keep Oq4 (Keep.of_wr W7)), ne_a0_b2, ne_ks_b2, ne_vs_b2, ne_a0_b4, ne_ks_b4, ne_vs_b4, ne_b2_b4⟩
theorem ef_S1 (m : MethodId) (a0 : Addr) (a1 : Addr) (a2 : Addr) : entryFrame m #[(.ref a0), (.ref a1), (.ref a2)] 3 = mkF m 0 #[.val (.ref a0), .val (.ref a1), .val (.ref a2)] [] := by first | (simp [entryFrame, mkF, argsToLocals, Value.category, maxLocals]; done) | rfl
def QS1 (Z : State) (a0 : Addr) (a1 : Addr) (a2 : Addr) (ks : Addr) (vs : Addr) (kb : Addr) (vb : Addr) (lk : Int64) (wb : Int64) (pt : Value) (m1 : Int32) (m2 : Int32) (h0 : Heap) (n0 : Nat) (v : Option Value) (h : Heap) (L : List Loc) : Prop := v = some (.ref a0) ∧ Fr n0 L ∧ Keep h0 h [a0, ks, vs, kb, vb] ∧ own_LF Z h a0 lk (wb + (((((5 : Int32) + m1) + (4 : Int32)) + m2).toInt64)) pt
set_option maxRecDepth 65536 in
set_option maxHeartbeats 40000000 in
theorem rmS1 (l : Launch) (Z : State) (aw : Array Value) (hw : ∀ d ∈ tables_1, d.before aw Z = true) (ws : List Jvm.Cond) (a0 : Addr) (a1 : Addr) (a2 : Addr) (ks : Addr) (vs : Addr) (kb : Addr) (vb : Addr) (lk : Int64) (wb : Int64) (pt : Value) (m1 : Int32) (m2 : Int32) (h0 : Heap) (n0 : Nat) (Z0 : n0 ≤ h0.size) (R : own_LR1 Z h0 a0 ks vs kb vb lk wb pt) (g_a0 : n0 ≤ a0) (g_ks : n0 ≤ ks) (g_vs : n0 ≤ vs) (g_kb : n0 ≤ kb) (g_vb : n0 ≤ vb) (B1 : own_BA Z h0 a1 m1) (B2 : own_BA Z h0 a2 m2) :
    MetFree l (⟨"com/example/reknit/reknit/LogRecord", "set", "([B[B)Lcom/example/reknit/reknit/LogRecord;"⟩ : MethodName) (head1 (Jvm.Cond.code (⟨"com/example/reknit/reknit/LogRecord", "set", "([B[B)Lcom/example/reknit/reknit/LogRecord;"⟩ : MethodName) prog_27_method_2_code 3 (some (.object "com/example/reknit/reknit/LogRecord")) :: ws) ({ frames := 2, cells := 0, slots := 0, locals := 28 } : Room)) (fun a U => a = #[(.ref a0), (.ref a1), (.ref a2)] ∧ Z.Warmed39 U.vm ∧ U.heap = h0) (fun _ _ _ _ _ => True) (fun _ U o U' => ∃ v L, o = .returned v ∧ QS1 Z a0 a1 a2 ks vs kb vb lk wb pt m1 m2 h0 n0 v U'.heap L ∧ FrameEnd U o U' L ({ frames := 2, cells := 0, slots := 0, locals := 28 } : Room).cells ({ frames := 2, cells := 0, slots := 0, locals := 28 } : Room).slots) := by
  refine MetFree.of_bodySF (plainFor_of_name pn_3) hisR ?_
  intro p e s m args below meth c s₁ Bd hml0 hP hK
  obtain ⟨rfl, hZ, hh⟩ := hP
  have hx := Bd.exec
  have hby := Bd.bytes
  have hml : c.maxLocals = 3 := hml0
  have hown : s.vm.findClass "com/example/reknit/reknit/LogRecord" = some m.cls := findClass_of_methodNamed Bd.named
  have hnm := (name_of_methodNamed Bd.named Bd.method).1
  have hlk : meth.locks = false := BodyLoose.notSynchronized Bd
  have X0 : Stand p l e ({ frames := 2, cells := 0, slots := 0, locals := 28 } : Room) s m #[(.ref a0), (.ref a1), (.ref a2)] below meth c s₁ [] 0 0 := Stand.of_body Bd
  have eh0 : s₁.heap = h0 := by rw [← hh, Bd.state]; rfl
  have N0 := Fr.nil n0
  show Rest p.tables e below s (QS1 Z a0 a1 a2 ks vs kb vb lk wb pt m1 m2 h0 n0) _ _ (s₁.setTop (entryFrame m #[(.ref a0), (.ref a1), (.ref a2)] 3))
  refine Rest.via (fun t k => castTop (ef_S1 m a0 a1 a2) k) ?_
  obtain ⟨⟨E_a0, F_lk, F_wb, F_pt⟩, ⟨F_ks, F_vs, n1, n2, n3⟩, Ak, Ok, Av, Ov, n4, n5, n6, n7, n8, n9, n10⟩ := id R
  show Rest p.tables e below s _ _ _ (s₁.setTop (mkF m 0 #[.val (.ref a0), .val (.ref a1), .val (.ref a2)] []))
  refine Rest.via (fun t k => XS.aloadN X0.here hx rfl (hb hby d9_0) rfl rfl k) ?_
  show Rest p.tables e below s _ _ _ (s₁.setTop (mkF m 1 #[.val (.ref a0), .val (.ref a1), .val (.ref a2)] [(.ref a0)]))
  obtain ⟨T1, X1, e1, st1⟩ := getF X0 hx hZ hown (host := "") (Or.inl (hw _ (List.mem_of_getElem? (i := 34) rfl))) Via.refl eh0 F_ks (g := (mkF m 1 #[.val (.ref a0), .val (.ref a1), .val (.ref a2)] [(.ref a0)])) rfl rfl (hb hby d9_1)
  refine Rest.via (fun t k => st1 t k) ?_
  show Rest p.tables e below s _ _ _ (T1.setTop (mkF m 4 #[.val (.ref a0), .val (.ref a1), .val (.ref a2)] [(.ref ks)]))
  refine Rest.via (fun t k => XS.aloadN X1.here hx rfl (hb hby d9_4) rfl rfl k) ?_
  show Rest p.tables e below s _ _ _ (T1.setTop (mkF m 5 #[.val (.ref a0), .val (.ref a1), .val (.ref a2)] [(.ref a1), (.ref ks)]))
  obtain ⟨cq2, kq2, q2a, q2b, q2c⟩ := isOf hZ e1 Ak.1
  obtain ⟨_, _, ⟨T2, L2, k2, n2⟩, -, X2, ⟨Lc2, hQ2, l2, y2, z2⟩, st2⟩ := X1.interfaceBack hx (xi := (⟨"java/util/List", "add", "(Ljava/lang/Object;)Z"⟩ : MethodName)) (y := (⟨"java/util/ArrayList", "add", "(Ljava/lang/Object;)Z"⟩ : MethodName)) hown (mvT hZ (hw _ (List.mem_of_getElem? (i := 65) rfl))) (mvT hZ (hw _ (List.mem_of_getElem? (i := 66) rfl))) (mvT hZ (hw _ (List.mem_of_getElem? (i := 67) rfl))) (mvT hZ (hw _ (List.mem_of_getElem? (i := 68) rfl))) (mvT hZ (hw _ (List.mem_of_getElem? (i := 69) rfl))) (mvT hZ (hw _ (List.mem_of_getElem? (i := 70) rfl))) (mvT hZ (hw _ (List.mem_of_getElem? (i := 71) rfl))) (mvT hZ (hw _ (List.mem_of_getElem? (i := 72) rfl))) (by decide) (backOf (W := 0) (rmD1r l Z aw hw [] ks a1 kb h0 n0 (Nat.le_trans Z0 (Keep.refl h0 [a0, ks, vs, kb, vb]).1) Ak Ok n5 g_ks g_kb B1.1) hZ (hw _ (List.mem_of_getElem? (i := 73) rfl)) (hw _ (List.mem_of_getElem? (i := 12) rfl)) (by decide) (by decide)) q2a q2b q2c (g := (mkF m 5 #[.val (.ref a0), .val (.ref a1), .val (.ref a2)] [(.ref a1), (.ref ks)])) rfl (by rw [hml]; rfl) (Steps.refl _) (argsL := [(.ref a1)]) (rest := []) (lenOf pd_5 rfl) rfl (by show 2 * 0 + _ ≤ _; exact Nat.le_of_eq rfl) (hb hby d9_5) (fun _ _ => ⟨rfl, e1, (by decide : 0 + 0 ≤ _), (by decide : 0 + 0 ≤ _)⟩)
  dsimp only [Pt.U, Pt.locs, Pt.cells, Pt.slots] at X2 l2 y2 z2 st2 hQ2
  subst l2 y2 z2
  obtain ⟨h2, e2⟩ : ∃ z, T2.heap = z := ⟨_, rfl⟩
  rw [e2] at hQ2
  obtain ⟨rfl, Nq2, Kq2⟩ := hQ2
  have N2 := Fr.app N0 Nq2
  have K2 : Keep h0 h2 [a0, ks, vs, kb, vb] := (Keep.refl h0 [a0, ks, vs, kb, vb]).trans Kq2 (allS (Or.inl (List.mem_of_getElem? (i := 1) rfl)) (allS (Or.inl (List.mem_of_getElem? (i := 3) rfl)) all0))
  refine Rest.via (fun t k => st2.trans k) ?_
  show Rest p.tables e below s _ _ _ (T2.setTop (mkF m 10 #[.val (.ref a0), .val (.ref a1), .val (.ref a2)] [(.int (1 : Int32))]))
  refine Rest.via (fun t k => XS.pop X2.here hx rfl (hb hby d9_10) rfl rfl k) ?_
  show Rest p.tables e below s _ _ _ (T2.setTop (mkF m 11 #[.val (.ref a0), .val (.ref a1), .val (.ref a2)] []))
  refine Rest.via (fun t k => XS.aloadN X2.here hx rfl (hb hby d9_11) rfl rfl k) ?_
  show Rest p.tables e below s _ _ _ (T2.setTop (mkF m 12 #[.val (.ref a0), .val (.ref a1), .val (.ref a2)] [(.ref a0)]))
  obtain ⟨T3, X3, e3, st3⟩ := getF X2 hx hZ hown (host := "") (Or.inl (hw _ (List.mem_of_getElem? (i := 36) rfl))) Via.refl e2 (F_vs.keep Kq2 (ninS n1 (ninS n4 nin0))) (g := (mkF m 12 #[.val (.ref a0), .val (.ref a1), .val (.ref a2)] [(.ref a0)])) rfl rfl (hb hby d9_12)
  refine Rest.via (fun t k => st3 t k) ?_
  show Rest p.tables e below s _ _ _ (T3.setTop (mkF m 15 #[.val (.ref a0), .val (.ref a1), .val (.ref a2)] [(.ref vs)]))
  refine Rest.via (fun t k => XS.aloadN X3.here hx rfl (hb hby d9_15) rfl rfl k) ?_
  show Rest p.tables e below s _ _ _ (T3.setTop (mkF m 16 #[.val (.ref a0), .val (.ref a1), .val (.ref a2)] [(.ref a2), (.ref vs)]))
  obtain ⟨cq4, kq4, q4a, q4b, q4c⟩ := isOf hZ e3 (Av.1.keep Kq2)
  obtain ⟨_, _, ⟨T4, L4, k4, n4⟩, -, X4, ⟨Lc4, hQ4, l4, y4, z4⟩, st4⟩ := X3.interfaceBack hx (xi := (⟨"java/util/List", "add", "(Ljava/lang/Object;)Z"⟩ : MethodName)) (y := (⟨"java/util/ArrayList", "add", "(Ljava/lang/Object;)Z"⟩ : MethodName)) hown (mvT hZ (hw _ (List.mem_of_getElem? (i := 65) rfl))) (mvT hZ (hw _ (List.mem_of_getElem? (i := 66) rfl))) (mvT hZ (hw _ (List.mem_of_getElem? (i := 67) rfl))) (mvT hZ (hw _ (List.mem_of_getElem? (i := 68) rfl))) (mvT hZ (hw _ (List.mem_of_getElem? (i := 69) rfl))) (mvT hZ (hw _ (List.mem_of_getElem? (i := 70) rfl))) (mvT hZ (hw _ (List.mem_of_getElem? (i := 71) rfl))) (mvT hZ (hw _ (List.mem_of_getElem? (i := 72) rfl))) (by decide) (backOf (W := 0) (rmD1r l Z aw hw [] vs a2 vb h2 n0 (Nat.le_trans Z0 K2.1) (own_AL_keep Av Kq2 (ninS (Ne.symm n3) (ninS n6 nin0))) (own_OA_keep Ov Kq2) n9 g_vs g_vb (B2.1.keep Kq2)) hZ (hw _ (List.mem_of_getElem? (i := 73) rfl)) (hw _ (List.mem_of_getElem? (i := 12) rfl)) (by decide) (by decide)) q4a q4b q4c (g := (mkF m 16 #[.val (.ref a0), .val (.ref a1), .val (.ref a2)] [(.ref a2), (.ref vs)])) rfl (by rw [hml]; rfl) (Steps.refl _) (argsL := [(.ref a2)]) (rest := []) (lenOf pd_5 rfl) rfl (by show 2 * 0 + _ ≤ _; exact Nat.le_of_eq rfl) (hb hby d9_16) (fun _ _ => ⟨rfl, e3, (by decide : 0 + 0 ≤ _), (by decide : 0 + 0 ≤ _)⟩)
  dsimp only [Pt.U, Pt.locs, Pt.cells, Pt.slots] at X4 l4 y4 z4 st4 hQ4
  subst l4 y4 z4
  obtain ⟨h4, e4⟩ : ∃ z, T4.heap = z := ⟨_, rfl⟩
  rw [e4] at hQ4
  obtain ⟨rfl, Nq4, Kq4⟩ := hQ4
  have N4 := Fr.app N2 Nq4
  have K4 : Keep h0 h4 [a0, ks, vs, kb, vb] := K2.trans Kq4 (allS (Or.inl (List.mem_of_getElem? (i := 2) rfl)) (allS (Or.inl (List.mem_of_getElem? (i := 4) rfl)) all0))
  refine Rest.via (fun t k => st4.trans k) ?_
  show Rest p.tables e below s _ _ _ (T4.setTop (mkF m 21 #[.val (.ref a0), .val (.ref a1), .val (.ref a2)] [(.int (1 : Int32))]))
  refine Rest.via (fun t k => XS.pop X4.here hx rfl (hb hby d9_21) rfl rfl k) ?_
  show Rest p.tables e below s _ _ _ (T4.setTop (mkF m 22 #[.val (.ref a0), .val (.ref a1), .val (.ref a2)] []))
  refine Rest.via (fun t k => XS.aloadN X4.here hx rfl (hb hby d9_22) rfl rfl k) ?_
  show Rest p.tables e below s _ _ _ (T4.setTop (mkF m 23 #[.val (.ref a0), .val (.ref a1), .val (.ref a2)] [(.ref a0)]))
  refine Rest.via (fun t k => XS.dup X4.here hx rfl (hb hby d9_23) rfl rfl k) ?_
  show Rest p.tables e below s _ _ _ (T4.setTop (mkF m 24 #[.val (.ref a0), .val (.ref a1), .val (.ref a2)] [(.ref a0), (.ref a0)]))
  obtain ⟨T5, X5, e5, st5⟩ := getF X4 hx hZ hown (host := "") (Or.inl (hw _ (List.mem_of_getElem? (i := 51) rfl))) Via.refl e4 ((F_wb.keep Kq2 (ninS n1 (ninS n4 nin0))).keep Kq4 (ninS n2 (ninS n7 nin0))) (g := (mkF m 24 #[.val (.ref a0), .val (.ref a1), .val (.ref a2)] [(.ref a0), (.ref a0)])) rfl rfl (hb hby d9_24)
  refine Rest.via (fun t k => st5 t k) ?_
  show Rest p.tables e below s _ _ _ (T5.setTop (mkF m 27 #[.val (.ref a0), .val (.ref a1), .val (.ref a2)] [(.long wb), (.ref a0)]))
  refine Rest.via (fun t k => XS.aloadN X5.here hx rfl (hb hby d9_27) rfl rfl k) ?_
  show Rest p.tables e below s _ _ _ (T5.setTop (mkF m 28 #[.val (.ref a0), .val (.ref a1), .val (.ref a2)] [(.ref a1), (.long wb), (.ref a0)]))
  refine Rest.via (fun t k => XS.aloadN X5.here hx rfl (hb hby d9_28) rfl rfl k) ?_
  show Rest p.tables e below s _ _ _ (T5.setTop (mkF m 29 #[.val (.ref a0), .val (.ref a1), .val (.ref a2)] [(.ref a2), (.ref a1), (.long wb), (.ref a0)]))
  obtain ⟨_, _, ⟨T6, L6, k6, n6⟩, -, X6, ⟨Lc6, hQ6, l6, y6, z6⟩, st6⟩ := Jvm.LawKit.callS X5 hx (y := (⟨"com/example/reknit/reknit/LogRecord", "setBytes", "([B[B)J"⟩ : MethodName)) hown (mvT hZ (hw _ (List.mem_of_getElem? (i := 100) rfl))) (mvT hZ (hw _ (List.mem_of_getElem? (i := 101) rfl))) (mvT hZ (hw _ (List.mem_of_getElem? (i := 3) rfl))) (mvT hZ (hw _ (List.mem_of_getElem? (i := 102) rfl))) (by decide) (backOf (W := 3) (rmSB l Z aw hw [] a1 a2 m1 m2 h4 n0 (Nat.le_trans Z0 K4.1) (own_BA_keep (own_BA_keep B1 Kq2) Kq4) (own_BA_keep (own_BA_keep B2 Kq2) Kq4)) hZ (hw _ (List.mem_of_getElem? (i := 102) rfl)) (hw _ (List.mem_of_getElem? (i := 3) rfl)) (by decide) (by decide)) (g := (mkF m 29 #[.val (.ref a0), .val (.ref a1), .val (.ref a2)] [(.ref a2), (.ref a1), (.long wb), (.ref a0)])) rfl (by rw [hml]; rfl) (argsL := [(.ref a1), (.ref a2)]) (rest := [(.long wb), (.ref a0)]) (lenOf pd_6 rfl) rfl (by show 2 * 0 + _ ≤ _; exact Nat.le_of_eq rfl) (hb hby d9_29) (fun _ _ => ⟨rfl, e5, (by decide : 0 + 0 ≤ _), (by decide : 0 + 0 ≤ _)⟩)
  dsimp only [Pt.U, Pt.locs, Pt.cells, Pt.slots] at X6 l6 y6 z6 st6 hQ6
  subst l6 y6 z6
  obtain ⟨rfl, Nq6, e6⟩ := hQ6
  have N6 := Fr.app N4 Nq6
  refine Rest.via (fun t k => st6 t k) ?_
  show Rest p.tables e below s _ _ _ (T6.setTop (mkF m 32 #[.val (.ref a0), .val (.ref a1), .val (.ref a2)] [(.long (((((5 : Int32) + m1) + (4 : Int32)) + m2).toInt64)), (.long wb), (.ref a0)]))
  refine Rest.via (fun t k => XS.ladd X6.here hx rfl (hb hby d9_32) rfl k) ?_
  show Rest p.tables e below s _ _ _ (T6.setTop (mkF m 33 #[.val (.ref a0), .val (.ref a1), .val (.ref a2)] [(.long (wb + (((((5 : Int32) + m1) + (4 : Int32)) + m2).toInt64))), (.ref a0)]))
  have Fo7 := ((F_wb.keep Kq2 (ninS n1 (ninS n4 nin0))).keep Kq4 (ninS n2 (ninS n7 nin0)))
  obtain ⟨T7, h7, X7, e7, W7, st7⟩ := putF X6 hx hZ hown (host := "") (Or.inl (hw _ (List.mem_of_getElem? (i := 51) rfl))) Via.refl e6 Fo7 ((E_a0.keep Kq2).keep Kq4) (Or.inl (hw _ (List.mem_of_getElem? (i := 52) rfl))) (hw _ (List.mem_of_getElem? (i := 2) rfl)) (ty := .long) (by decide) rfl rfl (g := (mkF m 33 #[.val (.ref a0), .val (.ref a1), .val (.ref a2)] [(.long (wb + (((((5 : Int32) + m1) + (4 : Int32)) + m2).toInt64))), (.ref a0)])) rfl rfl (hb hby d9_33)
  refine Rest.via (fun t k => st7 t k) ?_
  have N7 := Fr.snoc X7 N6 g_a0
  have K7 : Keep h0 h7 [a0, ks, vs, kb, vb] := K4.wr W7 (Or.inl (List.mem_of_getElem? (i := 0) rfl))
  have Fw7 := Fo7.same W7
  show Rest p.tables e below s _ _ _ (T7.setTop (mkF m 36 #[.val (.ref a0), .val (.ref a1), .val (.ref a2)] []))
  refine Rest.via (fun t k => XS.aloadN X7.here hx rfl (hb hby d9_36) rfl rfl k) ?_
  show Rest p.tables e below s _ _ _ (T7.setTop (mkF m 37 #[.val (.ref a0), .val (.ref a1), .val (.ref a2)] [(.ref a0)]))
  refine Rest.ret X7 (v := some (.ref a0)) (fun h => by rw [Bd.returns] at h; cases h) hlk (fun fs hr => retOut X7 hx Bd.returns rfl (Or.inr (Or.inr (Or.inr (Or.inr ⟨rfl, rfl, rfl⟩)))) (hb hby d9_37) hr) ?_ (by decide) (by decide)
  rw [e7]
  exact ⟨rfl, N7, K7, ⟨(((E_a0.keep Kq2).keep Kq4).wr W7), (((F_lk.keep Kq2 (ninS n1 (ninS n4 nin0))).keep Kq4 (ninS n2 (ninS n7 nin0))).other W7 (Or.inr (slot_ne (Or.inl (hw _ (List.mem_of_getElem? (i := 39) rfl))) (Or.inl (hw _ (List.mem_of_getElem? (i := 52) rfl))) (by decide) (t := .long) (t' := .long) (by decide) (by decide)))), Fw7, (((F_pt.keep Kq2 (ninS n1 (ninS n4 nin0))).keep Kq4 (ninS n2 (ninS n7 nin0))).other W7 (Or.inr (slot_ne (Or.inl (hw _ (List.mem_of_getElem? (i := 54) rfl))) (Or.inl (hw _ (List.mem_of_getElem? (i := 52) rfl))) (by decide) (t := (.object "com/example/reknit/reknit/LogRecord")) (t' := .long) (by decide) (by decide))))⟩⟩
theorem ef_X1 (m : MethodId) (a0 : Addr) (a1 : Addr) : entryFrame m #[(.ref a0), (.ref a1)] 2 = mkF m 0 #[.val (.ref a0), .val (.ref a1)] [] := by first | (simp [entryFrame, mkF, argsToLocals, Value.category, maxLocals]; done) | rfl
def QX1 (Z : State) (a0 : Addr) (a1 : Addr) (ks : Addr) (vs : Addr) (kb : Addr) (vb : Addr) (lk : Int64) (wb : Int64) (pt : Value) (m1 : Int32) (h0 : Heap) (n0 : Nat) (v : Option Value) (h : Heap) (L : List Loc) : Prop := v = some (.ref a0) ∧ Fr n0 L ∧ Keep h0 h [a0, ks, vs, kb, vb] ∧ own_LF Z h a0 lk (wb + (((5 : Int32) + m1).toInt64)) pt
set_option maxRecDepth 65536 in
set_option maxHeartbeats 40000000 in
theorem rmX1 (l : Launch) (Z : State) (aw : Array Value) (hw : ∀ d ∈ tables_1, d.before aw Z = true) (ws : List Jvm.Cond) (a0 : Addr) (a1 : Addr) (ks : Addr) (vs : Addr) (kb : Addr) (vb : Addr) (lk : Int64) (wb : Int64) (pt : Value) (m1 : Int32) (h0 : Heap) (n0 : Nat) (Z0 : n0 ≤ h0.size) (R : own_LR1 Z h0 a0 ks vs kb vb lk wb pt) (g_a0 : n0 ≤ a0) (g_ks : n0 ≤ ks) (g_vs : n0 ≤ vs) (g_kb : n0 ≤ kb) (g_vb : n0 ≤ vb) (B1 : own_BA Z h0 a1 m1) :
    MetFree l (⟨"com/example/reknit/reknit/LogRecord", "delete", "([B)Lcom/example/reknit/reknit/LogRecord;"⟩ : MethodName) (head1 (Jvm.Cond.code (⟨"com/example/reknit/reknit/LogRecord", "delete", "([B)Lcom/example/reknit/reknit/LogRecord;"⟩ : MethodName) prog_27_method_3_code 2 (some (.object "com/example/reknit/reknit/LogRecord")) :: ws) ({ frames := 2, cells := 0, slots := 0, locals := 28 } : Room)) (fun a U => a = #[(.ref a0), (.ref a1)] ∧ Z.Warmed39 U.vm ∧ U.heap = h0) (fun _ _ _ _ _ => True) (fun _ U o U' => ∃ v L, o = .returned v ∧ QX1 Z a0 a1 ks vs kb vb lk wb pt m1 h0 n0 v U'.heap L ∧ FrameEnd U o U' L ({ frames := 2, cells := 0, slots := 0, locals := 28 } : Room).cells ({ frames := 2, cells := 0, slots := 0, locals := 28 } : Room).slots) := by
  refine MetFree.of_bodySF (plainFor_of_name pn_3) hisR ?_
  intro p e s m args below meth c s₁ Bd hml0 hP hK
  obtain ⟨rfl, hZ, hh⟩ := hP
  have hx := Bd.exec
  have hby := Bd.bytes
  have hml : c.maxLocals = 2 := hml0
  have hown : s.vm.findClass "com/example/reknit/reknit/LogRecord" = some m.cls := findClass_of_methodNamed Bd.named
  have hnm := (name_of_methodNamed Bd.named Bd.method).1
  have hlk : meth.locks = false := BodyLoose.notSynchronized Bd
  have X0 : Stand p l e ({ frames := 2, cells := 0, slots := 0, locals := 28 } : Room) s m #[(.ref a0), (.ref a1)] below meth c s₁ [] 0 0 := Stand.of_body Bd
  have eh0 : s₁.heap = h0 := by rw [← hh, Bd.state]; rfl
  have N0 := Fr.nil n0
  show Rest p.tables e below s (QX1 Z a0 a1 ks vs kb vb lk wb pt m1 h0 n0) _ _ (s₁.setTop (entryFrame m #[(.ref a0), (.ref a1)] 2))
  refine Rest.via (fun t k => castTop (ef_X1 m a0 a1) k) ?_
  obtain ⟨⟨E_a0, F_lk, F_wb, F_pt⟩, ⟨F_ks, F_vs, n1, n2, n3⟩, Ak, Ok, Av, Ov, n4, n5, n6, n7, n8, n9, n10⟩ := id R
  show Rest p.tables e below s _ _ _ (s₁.setTop (mkF m 0 #[.val (.ref a0), .val (.ref a1)] []))
  refine Rest.via (fun t k => XS.aloadN X0.here hx rfl (hb hby d16_0) rfl rfl k) ?_
  show Rest p.tables e below s _ _ _ (s₁.setTop (mkF m 1 #[.val (.ref a0), .val (.ref a1)] [(.ref a0)]))
  obtain ⟨T1, X1, e1, st1⟩ := getF X0 hx hZ hown (host := "") (Or.inl (hw _ (List.mem_of_getElem? (i := 34) rfl))) Via.refl eh0 F_ks (g := (mkF m 1 #[.val (.ref a0), .val (.ref a1)] [(.ref a0)])) rfl rfl (hb hby d16_1)
  refine Rest.via (fun t k => st1 t k) ?_
  show Rest p.tables e below s _ _ _ (T1.setTop (mkF m 4 #[.val (.ref a0), .val (.ref a1)] [(.ref ks)]))
  refine Rest.via (fun t k => XS.aloadN X1.here hx rfl (hb hby d16_4) rfl rfl k) ?_
  show Rest p.tables e below s _ _ _ (T1.setTop (mkF m 5 #[.val (.ref a0), .val (.ref a1)] [(.ref a1), (.ref ks)]))
  obtain ⟨cq2, kq2, q2a, q2b, q2c⟩ := isOf hZ e1 Ak.1
  obtain ⟨_, _, ⟨T2, L2, k2, n2⟩, -, X2, ⟨Lc2, hQ2, l2, y2, z2⟩, st2⟩ := X1.interfaceBack hx (xi := (⟨"java/util/List", "add", "(Ljava/lang/Object;)Z"⟩ : MethodName)) (y := (⟨"java/util/ArrayList", "add", "(Ljava/lang/Object;)Z"⟩ : MethodName)) hown (mvT hZ (hw _ (List.mem_of_getElem? (i := 65) rfl))) (mvT hZ (hw _ (List.mem_of_getElem? (i := 66) rfl))) (mvT hZ (hw _ (List.mem_of_getElem? (i := 67) rfl))) (mvT hZ (hw _ (List.mem_of_getElem? (i := 68) rfl))) (mvT hZ (hw _ (List.mem_of_getElem? (i := 69) rfl))) (mvT hZ (hw _ (List.mem_of_getElem? (i := 70) rfl))) (mvT hZ (hw _ (List.mem_of_getElem? (i := 71) rfl))) (mvT hZ (hw _ (List.mem_of_getElem? (i := 72) rfl))) (by decide) (backOf (W := 0) (rmD1r l Z aw hw [] ks a1 kb h0 n0 (Nat.le_trans Z0 (Keep.refl h0 [a0, ks, vs, kb, vb]).1) Ak Ok n5 g_ks g_kb B1.1) hZ (hw _ (List.mem_of_getElem? (i := 73) rfl)) (hw _ (List.mem_of_getElem? (i := 12) rfl)) (by decide) (by decide)) q2a q2b q2c (g := (mkF m 5 #[.val (.ref a0), .val (.ref a1)] [(.ref a1), (.ref ks)])) rfl (by rw [hml]; rfl) (Steps.refl _) (argsL := [(.ref a1)]) (rest := []) (lenOf pd_5 rfl) rfl (by show 2 * 0 + _ ≤ _; exact Nat.le_of_eq rfl) (hb hby d16_5) (fun _ _ => ⟨rfl, e1, (by decide : 0 + 0 ≤ _), (by decide : 0 + 0 ≤ _)⟩)
  dsimp only [Pt.U, Pt.locs, Pt.cells, Pt.slots] at X2 l2 y2 z2 st2 hQ2
  subst l2 y2 z2
  obtain ⟨h2, e2⟩ : ∃ z, T2.heap = z := ⟨_, rfl⟩
  rw [e2] at hQ2
  obtain ⟨rfl, Nq2, Kq2⟩ := hQ2
  have N2 := Fr.app N0 Nq2
  have K2 : Keep h0 h2 [a0, ks, vs, kb, vb] := (Keep.refl h0 [a0, ks, vs, kb, vb]).trans Kq2 (allS (Or.inl (List.mem_of_getElem? (i := 1) rfl)) (allS (Or.inl (List.mem_of_getElem? (i := 3) rfl)) all0))
  refine Rest.via (fun t k => st2.trans k) ?_
  show Rest p.tables e below s _ _ _ (T2.setTop (mkF m 10 #[.val (.ref a0), .val (.ref a1)] [(.int (1 : Int32))]))
  refine Rest.via (fun t k => XS.pop X2.here hx rfl (hb hby d16_10) rfl rfl k) ?_
  show Rest p.tables e below s _ _ _ (T2.setTop (mkF m 11 #[.val (.ref a0), .val (.ref a1)] []))
  refine Rest.via (fun t k => XS.aloadN X2.here hx rfl (hb hby d16_11) rfl rfl k) ?_
  show Rest p.tables e below s _ _ _ (T2.setTop (mkF m 12 #[.val (.ref a0), .val (.ref a1)] [(.ref a0)]))
  obtain ⟨T3, X3, e3, st3⟩ := getF X2 hx hZ hown (host := "") (Or.inl (hw _ (List.mem_of_getElem? (i := 36) rfl))) Via.refl e2 (F_vs.keep Kq2 (ninS n1 (ninS n4 nin0))) (g := (mkF m 12 #[.val (.ref a0), .val (.ref a1)] [(.ref a0)])) rfl rfl (hb hby d16_12)
  refine Rest.via (fun t k => st3 t k) ?_
  show Rest p.tables e below s _ _ _ (T3.setTop (mkF m 15 #[.val (.ref a0), .val (.ref a1)] [(.ref vs)]))
  refine Rest.via (fun t k => XS.aconstNull X3.here hx rfl (hb hby d16_15) k) ?_
  show Rest p.tables e below s _ _ _ (T3.setTop (mkF m 16 #[.val (.ref a0), .val (.ref a1)] [.null, (.ref vs)]))
  obtain ⟨cq4, kq4, q4a, q4b, q4c⟩ := isOf hZ e3 (Av.1.keep Kq2)
  obtain ⟨_, _, ⟨T4, L4, k4, n4⟩, -, X4, ⟨Lc4, hQ4, l4, y4, z4⟩, st4⟩ := X3.interfaceBack hx (xi := (⟨"java/util/List", "add", "(Ljava/lang/Object;)Z"⟩ : MethodName)) (y := (⟨"java/util/ArrayList", "add", "(Ljava/lang/Object;)Z"⟩ : MethodName)) hown (mvT hZ (hw _ (List.mem_of_getElem? (i := 65) rfl))) (mvT hZ (hw _ (List.mem_of_getElem? (i := 66) rfl))) (mvT hZ (hw _ (List.mem_of_getElem? (i := 67) rfl))) (mvT hZ (hw _ (List.mem_of_getElem? (i := 68) rfl))) (mvT hZ (hw _ (List.mem_of_getElem? (i := 69) rfl))) (mvT hZ (hw _ (List.mem_of_getElem? (i := 70) rfl))) (mvT hZ (hw _ (List.mem_of_getElem? (i := 71) rfl))) (mvT hZ (hw _ (List.mem_of_getElem? (i := 72) rfl))) (by decide) (backOf (W := 0) (rmD1n l Z aw hw [] vs vb h2 n0 (Nat.le_trans Z0 K2.1) (own_AL_keep Av Kq2 (ninS (Ne.symm n3) (ninS n6 nin0))) (own_OA_keep Ov Kq2) n9 g_vs g_vb) hZ (hw _ (List.mem_of_getElem? (i := 73) rfl)) (hw _ (List.mem_of_getElem? (i := 12) rfl)) (by decide) (by decide)) q4a q4b q4c (g := (mkF m 16 #[.val (.ref a0), .val (.ref a1)] [.null, (.ref vs)])) rfl (by rw [hml]; rfl) (Steps.refl _) (argsL := [.null]) (rest := []) (lenOf pd_5 rfl) rfl (by show 2 * 0 + _ ≤ _; exact Nat.le_of_eq rfl) (hb hby d16_16) (fun _ _ => ⟨rfl, e3, (by decide : 0 + 0 ≤ _), (by decide : 0 + 0 ≤ _)⟩)
  dsimp only [Pt.U, Pt.locs, Pt.cells, Pt.slots] at X4 l4 y4 z4 st4 hQ4
  subst l4 y4 z4
  obtain ⟨h4, e4⟩ : ∃ z, T4.heap = z := ⟨_, rfl⟩
  rw [e4] at hQ4
  obtain ⟨rfl, Nq4, Kq4⟩ := hQ4
  have N4 := Fr.app N2 Nq4
  have K4 : Keep h0 h4 [a0, ks, vs, kb, vb] := K2.trans Kq4 (allS (Or.inl (List.mem_of_getElem? (i := 2) rfl)) (allS (Or.inl (List.mem_of_getElem? (i := 4) rfl)) all0))
  refine Rest.via (fun t k => st4.trans k) ?_
  show Rest p.tables e below s _ _ _ (T4.setTop (mkF m 21 #[.val (.ref a0), .val (.ref a1)] [(.int (1 : Int32))]))
  refine Rest.via (fun t k => XS.pop X4.here hx rfl (hb hby d16_21) rfl rfl k) ?_
  show Rest p.tables e below s _ _ _ (T4.setTop (mkF m 22 #[.val (.ref a0), .val (.ref a1)] []))
  refine Rest.via (fun t k => XS.aloadN X4.here hx rfl (hb hby d16_22) rfl rfl k) ?_
  show Rest p.tables e below s _ _ _ (T4.setTop (mkF m 23 #[.val (.ref a0), .val (.ref a1)] [(.ref a0)]))
  refine Rest.via (fun t k => XS.dup X4.here hx rfl (hb hby d16_23) rfl rfl k) ?_
  show Rest p.tables e below s _ _ _ (T4.setTop (mkF m 24 #[.val (.ref a0), .val (.ref a1)] [(.ref a0), (.ref a0)]))
  obtain ⟨T5, X5, e5, st5⟩ := getF X4 hx hZ hown (host := "") (Or.inl (hw _ (List.mem_of_getElem? (i := 51) rfl))) Via.refl e4 ((F_wb.keep Kq2 (ninS n1 (ninS n4 nin0))).keep Kq4 (ninS n2 (ninS n7 nin0))) (g := (mkF m 24 #[.val (.ref a0), .val (.ref a1)] [(.ref a0), (.ref a0)])) rfl rfl (hb hby d16_24)
  refine Rest.via (fun t k => st5 t k) ?_
  show Rest p.tables e below s _ _ _ (T5.setTop (mkF m 27 #[.val (.ref a0), .val (.ref a1)] [(.long wb), (.ref a0)]))
  refine Rest.via (fun t k => XS.aloadN X5.here hx rfl (hb hby d16_27) rfl rfl k) ?_
  show Rest p.tables e below s _ _ _ (T5.setTop (mkF m 28 #[.val (.ref a0), .val (.ref a1)] [(.ref a1), (.long wb), (.ref a0)]))
  obtain ⟨_, _, ⟨T6, L6, k6, n6⟩, -, X6, ⟨Lc6, hQ6, l6, y6, z6⟩, st6⟩ := Jvm.LawKit.callS X5 hx (y := (⟨"com/example/reknit/reknit/LogRecord", "deleteBytes", "([B)J"⟩ : MethodName)) hown (mvT hZ (hw _ (List.mem_of_getElem? (i := 108) rfl))) (mvT hZ (hw _ (List.mem_of_getElem? (i := 109) rfl))) (mvT hZ (hw _ (List.mem_of_getElem? (i := 3) rfl))) (mvT hZ (hw _ (List.mem_of_getElem? (i := 110) rfl))) (by decide) (backOf (W := 3) (rmDY l Z aw hw [] a1 m1 h4 n0 (Nat.le_trans Z0 K4.1) (own_BA_keep (own_BA_keep B1 Kq2) Kq4)) hZ (hw _ (List.mem_of_getElem? (i := 110) rfl)) (hw _ (List.mem_of_getElem? (i := 3) rfl)) (by decide) (by decide)) (g := (mkF m 28 #[.val (.ref a0), .val (.ref a1)] [(.ref a1), (.long wb), (.ref a0)])) rfl (by rw [hml]; rfl) (argsL := [(.ref a1)]) (rest := [(.long wb), (.ref a0)]) (lenOf pd_7 rfl) rfl (by show 2 * 0 + _ ≤ _; exact Nat.le_of_eq rfl) (hb hby d16_28) (fun _ _ => ⟨rfl, e5, (by decide : 0 + 0 ≤ _), (by decide : 0 + 0 ≤ _)⟩)
  dsimp only [Pt.U, Pt.locs, Pt.cells, Pt.slots] at X6 l6 y6 z6 st6 hQ6
  subst l6 y6 z6
  obtain ⟨rfl, Nq6, e6⟩ := hQ6
  have N6 := Fr.app N4 Nq6
  refine Rest.via (fun t k => st6 t k) ?_
  show Rest p.tables e below s _ _ _ (T6.setTop (mkF m 31 #[.val (.ref a0), .val (.ref a1)] [(.long (((5 : Int32) + m1).toInt64)), (.long wb), (.ref a0)]))
  refine Rest.via (fun t k => XS.ladd X6.here hx rfl (hb hby d16_31) rfl k) ?_
  show Rest p.tables e below s _ _ _ (T6.setTop (mkF m 32 #[.val (.ref a0), .val (.ref a1)] [(.long (wb + (((5 : Int32) + m1).toInt64))), (.ref a0)]))
  have Fo7 := ((F_wb.keep Kq2 (ninS n1 (ninS n4 nin0))).keep Kq4 (ninS n2 (ninS n7 nin0)))
  obtain ⟨T7, h7, X7, e7, W7, st7⟩ := putF X6 hx hZ hown (host := "") (Or.inl (hw _ (List.mem_of_getElem? (i := 51) rfl))) Via.refl e6 Fo7 ((E_a0.keep Kq2).keep Kq4) (Or.inl (hw _ (List.mem_of_getElem? (i := 52) rfl))) (hw _ (List.mem_of_getElem? (i := 2) rfl)) (ty := .long) (by decide) rfl rfl (g := (mkF m 32 #[.val (.ref a0), .val (.ref a1)] [(.long (wb + (((5 : Int32) + m1).toInt64))), (.ref a0)])) rfl rfl (hb hby d16_32)
  refine Rest.via (fun t k => st7 t k) ?_
  have N7 := Fr.snoc X7 N6 g_a0
  have K7 : Keep h0 h7 [a0, ks, vs, kb, vb] := K4.wr W7 (Or.inl (List.mem_of_getElem? (i := 0) rfl))
  have Fw7 := Fo7.same W7
  show Rest p.tables e below s _ _ _ (T7.setTop (mkF m 35 #[.val (.ref a0), .val (.ref a1)] []))
  refine Rest.via (fun t k => XS.aloadN X7.here hx rfl (hb hby d16_35) rfl rfl k) ?_
  show Rest p.tables e below s _ _ _ (T7.setTop (mkF m 36 #[.val (.ref a0), .val (.ref a1)] [(.ref a0)]))
  refine Rest.ret X7 (v := some (.ref a0)) (fun h => by rw [Bd.returns] at h; cases h) hlk (fun fs hr => retOut X7 hx Bd.returns rfl (Or.inr (Or.inr (Or.inr (Or.inr ⟨rfl, rfl, rfl⟩)))) (hb hby d16_36) hr) ?_ (by decide) (by decide)
  rw [e7]
  exact ⟨rfl, N7, K7, ⟨(((E_a0.keep Kq2).keep Kq4).wr W7), (((F_lk.keep Kq2 (ninS n1 (ninS n4 nin0))).keep Kq4 (ninS n2 (ninS n7 nin0))).other W7 (Or.inr (slot_ne (Or.inl (hw _ (List.mem_of_getElem? (i := 39) rfl))) (Or.inl (hw _ (List.mem_of_getElem? (i := 52) rfl))) (by decide) (t := .long) (t' := .long) (by decide) (by decide)))), Fw7, (((F_pt.keep Kq2 (ninS n1 (ninS n4 nin0))).keep Kq4 (ninS n2 (ninS n7 nin0))).other W7 (Or.inr (slot_ne (Or.inl (hw _ (List.mem_of_getElem? (i := 54) rfl))) (Or.inl (hw _ (List.mem_of_getElem? (i := 52) rfl))) (by decide) (t := (.object "com/example/reknit/reknit/LogRecord")) (t' := .long) (by decide) (by decide))))⟩⟩
theorem d8_0 : decode prog_27_method_5_code 0 = .ok (.aload_n 0, 1) := by decide +kernel
theorem d8_1 : decode prog_27_method_5_code 1 = .ok (.aload_n 1, 1) := by decide +kernel
theorem d8_2 : decode prog_27_method_5_code 2 = .ok (.putfield 44, 3) := by decide +kernel
theorem d8_5 : decode prog_27_method_5_code 5 = .ok (.aload_n 0, 1) := by decide +kernel
theorem d8_6 : decode prog_27_method_5_code 6 = .ok (.areturn, 1) := by decide +kernel
theorem ef_CY (m : MethodId) (a0 : Addr) (a1 : Addr) : entryFrame m #[(.ref a0), (.ref a1)] 2 = mkF m 0 #[.val (.ref a0), .val (.ref a1)] [] := by first | (simp [entryFrame, mkF, argsToLocals, Value.category, maxLocals]; done) | rfl
def QCY (Z : State) (a0 : Addr) (a1 : Addr) (lk : Int64) (wb : Int64) (pt : Value) (h0 : Heap) (n0 : Nat) (v : Option Value) (h : Heap) (L : List Loc) : Prop := v = some (.ref a0) ∧ Fr n0 L ∧ Keep h0 h [a0] ∧ own_LF Z h a0 lk wb (.ref a1)
set_option maxRecDepth 65536 in
set_option maxHeartbeats 40000000 in
theorem rmCY (l : Launch) (Z : State) (aw : Array Value) (hw : ∀ d ∈ tables_1, d.before aw Z = true) (ws : List Jvm.Cond) (a0 : Addr) (a1 : Addr) (lk : Int64) (wb : Int64) (pt : Value) (h0 : Heap) (n0 : Nat) (Z0 : n0 ≤ h0.size) (R : own_LF Z h0 a0 lk wb pt) (g_a0 : n0 ≤ a0) :
    MetFree l (⟨"com/example/reknit/reknit/LogRecord", "carry", "(Lcom/example/reknit/reknit/LogRecord;)Lcom/example/reknit/reknit/LogRecord;"⟩ : MethodName) (head1 (Jvm.Cond.code (⟨"com/example/reknit/reknit/LogRecord", "carry", "(Lcom/example/reknit/reknit/LogRecord;)Lcom/example/reknit/reknit/LogRecord;"⟩ : MethodName) prog_27_method_5_code 2 (some (.object "com/example/reknit/reknit/LogRecord")) :: ws) ({ frames := 0, cells := 0, slots := 0, locals := 0 } : Room)) (fun a U => a = #[(.ref a0), (.ref a1)] ∧ Z.Warmed39 U.vm ∧ U.heap = h0) (fun _ _ _ _ _ => True) (fun _ U o U' => ∃ v L, o = .returned v ∧ QCY Z a0 a1 lk wb pt h0 n0 v U'.heap L ∧ FrameEnd U o U' L ({ frames := 0, cells := 0, slots := 0, locals := 0 } : Room).cells ({ frames := 0, cells := 0, slots := 0, locals := 0 } : Room).slots) := by
  refine MetFree.of_bodySF (plainFor_of_name pn_3) hisR ?_
  intro p e s m args below meth c s₁ Bd hml0 hP hK
  obtain ⟨rfl, hZ, hh⟩ := hP
  have hx := Bd.exec
  have hby := Bd.bytes
  have hml : c.maxLocals = 2 := hml0
  have hown : s.vm.findClass "com/example/reknit/reknit/LogRecord" = some m.cls := findClass_of_methodNamed Bd.named
  have hnm := (name_of_methodNamed Bd.named Bd.method).1
  have hlk : meth.locks = false := BodyLoose.notSynchronized Bd
  have X0 : Stand p l e ({ frames := 0, cells := 0, slots := 0, locals := 0 } : Room) s m #[(.ref a0), (.ref a1)] below meth c s₁ [] 0 0 := Stand.of_body Bd
  have eh0 : s₁.heap = h0 := by rw [← hh, Bd.state]; rfl
  have N0 := Fr.nil n0
  show Rest p.tables e below s (QCY Z a0 a1 lk wb pt h0 n0) _ _ (s₁.setTop (entryFrame m #[(.ref a0), (.ref a1)] 2))
  refine Rest.via (fun t k => castTop (ef_CY m a0 a1) k) ?_
  obtain ⟨E_a0, F_lk, F_wb, F_pt⟩ := id R
  show Rest p.tables e below s _ _ _ (s₁.setTop (mkF m 0 #[.val (.ref a0), .val (.ref a1)] []))
  refine Rest.via (fun t k => XS.aloadN X0.here hx rfl (hb hby d8_0) rfl rfl k) ?_
  show Rest p.tables e below s _ _ _ (s₁.setTop (mkF m 1 #[.val (.ref a0), .val (.ref a1)] [(.ref a0)]))
  refine Rest.via (fun t k => XS.aloadN X0.here hx rfl (hb hby d8_1) rfl rfl k) ?_
  show Rest p.tables e below s _ _ _ (s₁.setTop (mkF m 2 #[.val (.ref a0), .val (.ref a1)] [(.ref a1), (.ref a0)]))
  have Fo1 := F_pt
  obtain ⟨T1, h1, X1, e1, W1, st1⟩ := putF X0 hx hZ hown (host := "") (Or.inl (hw _ (List.mem_of_getElem? (i := 53) rfl))) Via.refl eh0 Fo1 E_a0 (Or.inl (hw _ (List.mem_of_getElem? (i := 54) rfl))) (hw _ (List.mem_of_getElem? (i := 2) rfl)) (ty := (.object "com/example/reknit/reknit/LogRecord")) (by decide) rfl rfl (g := (mkF m 2 #[.val (.ref a0), .val (.ref a1)] [(.ref a1), (.ref a0)])) rfl rfl (hb hby d8_2)
  refine Rest.via (fun t k => st1 t k) ?_
  have N1 := Fr.snoc X1 N0 g_a0
  have K1 : Keep h0 h1 [a0] := (Keep.refl h0 [a0]).wr W1 (Or.inl (List.mem_of_getElem? (i := 0) rfl))
  have Fw1 := Fo1.same W1
  show Rest p.tables e below s _ _ _ (T1.setTop (mkF m 5 #[.val (.ref a0), .val (.ref a1)] []))
  refine Rest.via (fun t k => XS.aloadN X1.here hx rfl (hb hby d8_5) rfl rfl k) ?_
  show Rest p.tables e below s _ _ _ (T1.setTop (mkF m 6 #[.val (.ref a0), .val (.ref a1)] [(.ref a0)]))
  refine Rest.ret X1 (v := some (.ref a0)) (fun h => by rw [Bd.returns] at h; cases h) hlk (fun fs hr => retOut X1 hx Bd.returns rfl (Or.inr (Or.inr (Or.inr (Or.inr ⟨rfl, rfl, rfl⟩)))) (hb hby d8_6) hr) ?_ (by decide) (by decide)
  rw [e1]
  exact ⟨rfl, N1, K1, ⟨(E_a0.wr W1), (F_lk.other W1 (Or.inr (slot_ne (Or.inl (hw _ (List.mem_of_getElem? (i := 39) rfl))) (Or.inl (hw _ (List.mem_of_getElem? (i := 54) rfl))) (by decide) (t := .long) (t' := (.object "com/example/reknit/reknit/LogRecord")) (by decide) (by decide)))), (F_wb.other W1 (Or.inr (slot_ne (Or.inl (hw _ (List.mem_of_getElem? (i := 52) rfl))) (Or.inl (hw _ (List.mem_of_getElem? (i := 54) rfl))) (by decide) (t := .long) (t' := (.object "com/example/reknit/reknit/LogRecord")) (by decide) (by decide)))), Fw1⟩⟩
theorem d7_0 : decode prog_27_method_9_code 0 = .ok (.aload_n 0, 1) := by decide +kernel
theorem d7_1 : decode prog_27_method_9_code 1 = .ok (.getfield 23, 3) := by decide +kernel
theorem d7_4 : decode prog_27_method_9_code 4 = .ok (.lconst 0, 1) := by decide +kernel
theorem d7_5 : decode prog_27_method_9_code 5 = .ok (.lcmp, 1) := by decide +kernel
theorem d7_6 : decode prog_27_method_9_code 6 = .ok (.ifCond .ne 7, 3) := by decide +kernel
theorem d7_9 : decode prog_27_method_9_code 9 = .ok (.iconst 0, 1) := by decide +kernel
theorem d7_10 : decode prog_27_method_9_code 10 = .ok (.goto 5, 3) := by decide +kernel
theorem d7_13 : decode prog_27_method_9_code 13 = .ok (.bipush 13, 2) := by decide +kernel
theorem d7_15 : decode prog_27_method_9_code 15 = .ok (.i2l, 1) := by decide +kernel
theorem d7_16 : decode prog_27_method_9_code 16 = .ok (.aload_n 0, 1) := by decide +kernel
theorem d7_17 : decode prog_27_method_9_code 17 = .ok (.getfield 33, 3) := by decide +kernel
theorem d7_20 : decode prog_27_method_9_code 20 = .ok (.ladd, 1) := by decide +kernel
theorem d7_21 : decode prog_27_method_9_code 21 = .ok (.aload_n 0, 1) := by decide +kernel
theorem d7_22 : decode prog_27_method_9_code 22 = .ok (.getfield 44, 3) := by decide +kernel
theorem d7_25 : decode prog_27_method_9_code 25 = .ok (.ifnonnull 7, 3) := by decide +kernel
theorem d7_28 : decode prog_27_method_9_code 28 = .ok (.lconst 0, 1) := by decide +kernel
theorem d7_29 : decode prog_27_method_9_code 29 = .ok (.goto 10, 3) := by decide +kernel
theorem d7_39 : decode prog_27_method_9_code 39 = .ok (.ladd, 1) := by decide +kernel
theorem d7_40 : decode prog_27_method_9_code 40 = .ok (.lreturn, 1) := by decide +kernel
theorem ef_BN (m : MethodId) (a0 : Addr) : entryFrame m #[(.ref a0)] 1 = mkF m 0 #[.val (.ref a0)] [] := by first | (simp [entryFrame, mkF, argsToLocals, Value.category, maxLocals]; done) | rfl
def QBN (Z : State) (a0 : Addr) (lk : Int64) (wb : Int64) (h0 : Heap) (n0 : Nat) (v : Option Value) (h : Heap) (L : List Loc) : Prop := v = some (.long (own_bb lk wb 0)) ∧ Fr n0 L ∧ h = h0
set_option maxRecDepth 65536 in
set_option maxHeartbeats 40000000 in
theorem rmBN (l : Launch) (Z : State) (aw : Array Value) (hw : ∀ d ∈ tables_1, d.before aw Z = true) (ws : List Jvm.Cond) (a0 : Addr) (lk : Int64) (wb : Int64) (h0 : Heap) (n0 : Nat) (Z0 : n0 ≤ h0.size) (R : own_LF Z h0 a0 lk wb .null) :
    MetFree l (⟨"com/example/reknit/reknit/LogRecord", "bodyBytes", "()J"⟩ : MethodName) (head1 (Jvm.Cond.code (⟨"com/example/reknit/reknit/LogRecord", "bodyBytes", "()J"⟩ : MethodName) prog_27_method_9_code 1 (some .long) :: ws) ({ frames := 0, cells := 0, slots := 0, locals := 0 } : Room)) (fun a U => a = #[(.ref a0)] ∧ Z.Warmed39 U.vm ∧ U.heap = h0) (fun _ _ _ _ _ => True) (fun _ U o U' => ∃ v L, o = .returned v ∧ QBN Z a0 lk wb h0 n0 v U'.heap L ∧ FrameEnd U o U' L ({ frames := 0, cells := 0, slots := 0, locals := 0 } : Room).cells ({ frames := 0, cells := 0, slots := 0, locals := 0 } : Room).slots) := by
  refine MetFree.of_bodySF (plainFor_of_name pn_3) hisR ?_
  intro p e s m args below meth c s₁ Bd hml0 hP hK
  obtain ⟨rfl, hZ, hh⟩ := hP
  have hx := Bd.exec
  have hby := Bd.bytes
  have hml : c.maxLocals = 1 := hml0
  have hown : s.vm.findClass "com/example/reknit/reknit/LogRecord" = some m.cls := findClass_of_methodNamed Bd.named
  have hnm := (name_of_methodNamed Bd.named Bd.method).1
  have hlk : meth.locks = false := BodyLoose.notSynchronized Bd
  have X0 : Stand p l e ({ frames := 0, cells := 0, slots := 0, locals := 0 } : Room) s m #[(.ref a0)] below meth c s₁ [] 0 0 := Stand.of_body Bd
  have eh0 : s₁.heap = h0 := by rw [← hh, Bd.state]; rfl
  have N0 := Fr.nil n0
  show Rest p.tables e below s (QBN Z a0 lk wb h0 n0) _ _ (s₁.setTop (entryFrame m #[(.ref a0)] 1))
  refine Rest.via (fun t k => castTop (ef_BN m a0) k) ?_
  obtain ⟨E_a0, F_lk, F_wb, F_pt⟩ := id R
  show Rest p.tables e below s _ _ _ (s₁.setTop (mkF m 0 #[.val (.ref a0)] []))
  refine Rest.via (fun t k => XS.aloadN X0.here hx rfl (hb hby d7_0) rfl rfl k) ?_
  show Rest p.tables e below s _ _ _ (s₁.setTop (mkF m 1 #[.val (.ref a0)] [(.ref a0)]))
  obtain ⟨T1, X1, e1, st1⟩ := getF X0 hx hZ hown (host := "") (Or.inl (hw _ (List.mem_of_getElem? (i := 38) rfl))) Via.refl eh0 F_lk (g := (mkF m 1 #[.val (.ref a0)] [(.ref a0)])) rfl rfl (hb hby d7_1)
  refine Rest.via (fun t k => st1 t k) ?_
  show Rest p.tables e below s _ _ _ (T1.setTop (mkF m 4 #[.val (.ref a0)] [(.long lk)]))
  refine Rest.via (fun t k => XS.lconst X1.here hx rfl (hb hby d7_4) k) ?_
  show Rest p.tables e below s _ _ _ (T1.setTop (mkF m 5 #[.val (.ref a0)] [(.long (0 : Int64)), (.long lk)]))
  refine Rest.via (fun t k => XS.lcmp X1.here hx rfl (hb hby d7_5) rfl k) ?_
  show Rest p.tables e below s _ _ _ (T1.setTop (mkF m 6 #[.val (.ref a0)] [(.int (lcmpW lk (0 : Int64)))]))
  by_cases hc6 : lk = (0 : Int64)
  · refine Rest.via (fun t k => XS.ifNo X1.here hx rfl (hb hby d7_6) rfl ((if0 _ _).trans (teq ((lw_eq _ _).mpr hc6)).2) k) ?_
    show Rest p.tables e below s _ _ _ (T1.setTop (mkF m 9 #[.val (.ref a0)] []))
    refine Rest.via (fun t k => XS.iconst X1.here hx rfl (hb hby d7_9) k) ?_
    show Rest p.tables e below s _ _ _ (T1.setTop (mkF m 10 #[.val (.ref a0)] [(.int (0 : Int32))]))
    refine Rest.via (fun t k => XS.goto X1.here hx rfl (pc0 := 10) (pc' := 15) rfl (hb hby d7_10) (by decide) (by decide) k) ?_
    show Rest p.tables e below s _ _ _ (T1.setTop (mkF m 15 #[.val (.ref a0)] [(.int (0 : Int32))]))
    refine Rest.via (fun t k => XS.i2l X1.here hx rfl (hb hby d7_15) rfl k) ?_
    show Rest p.tables e below s _ _ _ (T1.setTop (mkF m 16 #[.val (.ref a0)] [(.long ((0 : Int32).toInt64))]))
    refine Rest.via (fun t k => XS.aloadN X1.here hx rfl (hb hby d7_16) rfl rfl k) ?_
    show Rest p.tables e below s _ _ _ (T1.setTop (mkF m 17 #[.val (.ref a0)] [(.ref a0), (.long ((0 : Int32).toInt64))]))
    obtain ⟨T2, X2, e2, st2⟩ := getF X1 hx hZ hown (host := "") (Or.inl (hw _ (List.mem_of_getElem? (i := 51) rfl))) Via.refl e1 F_wb (g := (mkF m 17 #[.val (.ref a0)] [(.ref a0), (.long ((0 : Int32).toInt64))])) rfl rfl (hb hby d7_17)
    refine Rest.via (fun t k => st2 t k) ?_
    show Rest p.tables e below s _ _ _ (T2.setTop (mkF m 20 #[.val (.ref a0)] [(.long wb), (.long ((0 : Int32).toInt64))]))
    refine Rest.via (fun t k => XS.ladd X2.here hx rfl (hb hby d7_20) rfl k) ?_
    show Rest p.tables e below s _ _ _ (T2.setTop (mkF m 21 #[.val (.ref a0)] [(.long (((0 : Int32).toInt64) + wb))]))
    refine Rest.via (fun t k => XS.aloadN X2.here hx rfl (hb hby d7_21) rfl rfl k) ?_
    show Rest p.tables e below s _ _ _ (T2.setTop (mkF m 22 #[.val (.ref a0)] [(.ref a0), (.long (((0 : Int32).toInt64) + wb))]))
    obtain ⟨T3, X3, e3, st3⟩ := getF X2 hx hZ hown (host := "") (Or.inl (hw _ (List.mem_of_getElem? (i := 53) rfl))) Via.refl e2 F_pt (g := (mkF m 22 #[.val (.ref a0)] [(.ref a0), (.long (((0 : Int32).toInt64) + wb))])) rfl rfl (hb hby d7_22)
    refine Rest.via (fun t k => st3 t k) ?_
    show Rest p.tables e below s _ _ _ (T3.setTop (mkF m 25 #[.val (.ref a0)] [.null, (.long (((0 : Int32).toInt64) + wb))]))
    refine Rest.via (fun t k => XS.ifnonnullNo X3.here hx rfl (hb hby d7_25) rfl k) ?_
    show Rest p.tables e below s _ _ _ (T3.setTop (mkF m 28 #[.val (.ref a0)] [(.long (((0 : Int32).toInt64) + wb))]))
    refine Rest.via (fun t k => XS.lconst X3.here hx rfl (hb hby d7_28) k) ?_
    show Rest p.tables e below s _ _ _ (T3.setTop (mkF m 29 #[.val (.ref a0)] [(.long (0 : Int64)), (.long (((0 : Int32).toInt64) + wb))]))
    refine Rest.via (fun t k => XS.goto X3.here hx rfl (pc0 := 29) (pc' := 39) rfl (hb hby d7_29) (by decide) (by decide) k) ?_
    show Rest p.tables e below s _ _ _ (T3.setTop (mkF m 39 #[.val (.ref a0)] [(.long (0 : Int64)), (.long (((0 : Int32).toInt64) + wb))]))
    refine Rest.via (fun t k => XS.ladd X3.here hx rfl (hb hby d7_39) rfl k) ?_
    show Rest p.tables e below s _ _ _ (T3.setTop (mkF m 40 #[.val (.ref a0)] [(.long ((((0 : Int32).toInt64) + wb) + (0 : Int64)))]))
    refine Rest.ret X3 (v := some (.long ((((0 : Int32).toInt64) + wb) + (0 : Int64)))) (fun h => by rw [Bd.returns] at h; cases h) hlk (fun fs hr => retOut X3 hx Bd.returns rfl (Or.inr (Or.inl ⟨rfl, rfl, _, rfl⟩)) (hb hby d7_40) hr) ?_ (by decide) (by decide)
    rw [e3]
    exact ⟨by rw [own_bb, if_pos hc6], N0, rfl⟩
  · refine Rest.via (fun t k => XS.ifYes X1.here hx rfl (pc0 := 6) (pc' := 13) rfl (hb hby d7_6) rfl ((if0 _ _).trans (feq (fun q => hc6 ((lw_eq _ _).mp q))).2) (by decide) (by decide) k) ?_
    show Rest p.tables e below s _ _ _ (T1.setTop (mkF m 13 #[.val (.ref a0)] []))
    refine Rest.via (fun t k => XS.bipush X1.here hx rfl (hb hby d7_13) k) ?_
    show Rest p.tables e below s _ _ _ (T1.setTop (mkF m 15 #[.val (.ref a0)] [(.int (13 : Int32))]))
    refine Rest.via (fun t k => XS.i2l X1.here hx rfl (hb hby d7_15) rfl k) ?_
    show Rest p.tables e below s _ _ _ (T1.setTop (mkF m 16 #[.val (.ref a0)] [(.long ((13 : Int32).toInt64))]))
    refine Rest.via (fun t k => XS.aloadN X1.here hx rfl (hb hby d7_16) rfl rfl k) ?_
    show Rest p.tables e below s _ _ _ (T1.setTop (mkF m 17 #[.val (.ref a0)] [(.ref a0), (.long ((13 : Int32).toInt64))]))
    obtain ⟨T4, X4, e4, st4⟩ := getF X1 hx hZ hown (host := "") (Or.inl (hw _ (List.mem_of_getElem? (i := 51) rfl))) Via.refl e1 F_wb (g := (mkF m 17 #[.val (.ref a0)] [(.ref a0), (.long ((13 : Int32).toInt64))])) rfl rfl (hb hby d7_17)
    refine Rest.via (fun t k => st4 t k) ?_
    show Rest p.tables e below s _ _ _ (T4.setTop (mkF m 20 #[.val (.ref a0)] [(.long wb), (.long ((13 : Int32).toInt64))]))
    refine Rest.via (fun t k => XS.ladd X4.here hx rfl (hb hby d7_20) rfl k) ?_
    show Rest p.tables e below s _ _ _ (T4.setTop (mkF m 21 #[.val (.ref a0)] [(.long (((13 : Int32).toInt64) + wb))]))
    refine Rest.via (fun t k => XS.aloadN X4.here hx rfl (hb hby d7_21) rfl rfl k) ?_
    show Rest p.tables e below s _ _ _ (T4.setTop (mkF m 22 #[.val (.ref a0)] [(.ref a0), (.long (((13 : Int32).toInt64) + wb))]))
    obtain ⟨T5, X5, e5, st5⟩ := getF X4 hx hZ hown (host := "") (Or.inl (hw _ (List.mem_of_getElem? (i := 53) rfl))) Via.refl e4 F_pt (g := (mkF m 22 #[.val (.ref a0)] [(.ref a0), (.long (((13 : Int32).toInt64) + wb))])) rfl rfl (hb hby d7_22)
    refine Rest.via (fun t k => st5 t k) ?_
    show Rest p.tables e below s _ _ _ (T5.setTop (mkF m 25 #[.val (.ref a0)] [.null, (.long (((13 : Int32).toInt64) + wb))]))
    refine Rest.via (fun t k => XS.ifnonnullNo X5.here hx rfl (hb hby d7_25) rfl k) ?_
    show Rest p.tables e below s _ _ _ (T5.setTop (mkF m 28 #[.val (.ref a0)] [(.long (((13 : Int32).toInt64) + wb))]))
    refine Rest.via (fun t k => XS.lconst X5.here hx rfl (hb hby d7_28) k) ?_
    show Rest p.tables e below s _ _ _ (T5.setTop (mkF m 29 #[.val (.ref a0)] [(.long (0 : Int64)), (.long (((13 : Int32).toInt64) + wb))]))
    refine Rest.via (fun t k => XS.goto X5.here hx rfl (pc0 := 29) (pc' := 39) rfl (hb hby d7_29) (by decide) (by decide) k) ?_
    show Rest p.tables e below s _ _ _ (T5.setTop (mkF m 39 #[.val (.ref a0)] [(.long (0 : Int64)), (.long (((13 : Int32).toInt64) + wb))]))
    refine Rest.via (fun t k => XS.ladd X5.here hx rfl (hb hby d7_39) rfl k) ?_
    show Rest p.tables e below s _ _ _ (T5.setTop (mkF m 40 #[.val (.ref a0)] [(.long ((((13 : Int32).toInt64) + wb) + (0 : Int64)))]))
    refine Rest.ret X5 (v := some (.long ((((13 : Int32).toInt64) + wb) + (0 : Int64)))) (fun h => by rw [Bd.returns] at h; cases h) hlk (fun fs hr => retOut X5 hx Bd.returns rfl (Or.inr (Or.inl ⟨rfl, rfl, _, rfl⟩)) (hb hby d7_40) hr) ?_ (by decide) (by decide)
    rw [e5]
    exact ⟨by rw [own_bb, if_neg hc6], N0, rfl⟩
theorem d7_32 : decode prog_27_method_9_code 32 = .ok (.aload_n 0, 1) := by decide +kernel
theorem d7_33 : decode prog_27_method_9_code 33 = .ok (.getfield 44, 3) := by decide +kernel
theorem d7_36 : decode prog_27_method_9_code 36 = .ok (.getfield 33, 3) := by decide +kernel
theorem ef_BR (m : MethodId) (a0 : Addr) : entryFrame m #[(.ref a0)] 1 = mkF m 0 #[.val (.ref a0)] [] := by first | (simp [entryFrame, mkF, argsToLocals, Value.category, maxLocals]; done) | rfl
def QBR (Z : State) (a0 : Addr) (lk : Int64) (wb : Int64) (pp : Addr) (wp : Int64) (h0 : Heap) (n0 : Nat) (v : Option Value) (h : Heap) (L : List Loc) : Prop := v = some (.long (own_bb lk wb wp)) ∧ Fr n0 L ∧ h = h0
set_option maxRecDepth 65536 in
set_option maxHeartbeats 40000000 in
theorem rmBR (l : Launch) (Z : State) (aw : Array Value) (hw : ∀ d ∈ tables_1, d.before aw Z = true) (ws : List Jvm.Cond) (a0 : Addr) (lk : Int64) (wb : Int64) (pp : Addr) (wp : Int64) (h0 : Heap) (n0 : Nat) (Z0 : n0 ≤ h0.size) (R : own_LF Z h0 a0 lk wb (.ref pp)) (Fp : Fld Z h0 pp "com/example/reknit/reknit/LogRecord" "writeBytes" "J" (.long wp)) :
    MetFree l (⟨"com/example/reknit/reknit/LogRecord", "bodyBytes", "()J"⟩ : MethodName) (head1 (Jvm.Cond.code (⟨"com/example/reknit/reknit/LogRecord", "bodyBytes", "()J"⟩ : MethodName) prog_27_method_9_code 1 (some .long) :: ws) ({ frames := 0, cells := 0, slots := 0, locals := 0 } : Room)) (fun a U => a = #[(.ref a0)] ∧ Z.Warmed39 U.vm ∧ U.heap = h0) (fun _ _ _ _ _ => True) (fun _ U o U' => ∃ v L, o = .returned v ∧ QBR Z a0 lk wb pp wp h0 n0 v U'.heap L ∧ FrameEnd U o U' L ({ frames := 0, cells := 0, slots := 0, locals := 0 } : Room).cells ({ frames := 0, cells := 0, slots := 0, locals := 0 } : Room).slots) := by
  refine MetFree.of_bodySF (plainFor_of_name pn_3) hisR ?_
  intro p e s m args below meth c s₁ Bd hml0 hP hK
  obtain ⟨rfl, hZ, hh⟩ := hP
  have hx := Bd.exec
  have hby := Bd.bytes
  have hml : c.maxLocals = 1 := hml0
  have hown : s.vm.findClass "com/example/reknit/reknit/LogRecord" = some m.cls := findClass_of_methodNamed Bd.named
  have hnm := (name_of_methodNamed Bd.named Bd.method).1
  have hlk : meth.locks = false := BodyLoose.notSynchronized Bd
  have X0 : Stand p l e ({ frames := 0, cells := 0, slots := 0, locals := 0 } : Room) s m #[(.ref a0)] below meth c s₁ [] 0 0 := Stand.of_body Bd
  have eh0 : s₁.heap = h0 := by rw [← hh, Bd.state]; rfl
  have N0 := Fr.nil n0
  show Rest p.tables e below s (QBR Z a0 lk wb pp wp h0 n0) _ _ (s₁.setTop (entryFrame m #[(.ref a0)] 1))
  refine Rest.via (fun t k => castTop (ef_BR m a0) k) ?_
  obtain ⟨E_a0, F_lk, F_wb, F_pt⟩ := id R
  show Rest p.tables e below s _ _ _ (s₁.setTop (mkF m 0 #[.val (.ref a0)] []))
  refine Rest.via (fun t k => XS.aloadN X0.here hx rfl (hb hby d7_0) rfl rfl k) ?_
  show Rest p.tables e below s _ _ _ (s₁.setTop (mkF m 1 #[.val (.ref a0)] [(.ref a0)]))
  obtain ⟨T1, X1, e1, st1⟩ := getF X0 hx hZ hown (host := "") (Or.inl (hw _ (List.mem_of_getElem? (i := 38) rfl))) Via.refl eh0 F_lk (g := (mkF m 1 #[.val (.ref a0)] [(.ref a0)])) rfl rfl (hb hby d7_1)
  refine Rest.via (fun t k => st1 t k) ?_
  show Rest p.tables e below s _ _ _ (T1.setTop (mkF m 4 #[.val (.ref a0)] [(.long lk)]))
  refine Rest.via (fun t k => XS.lconst X1.here hx rfl (hb hby d7_4) k) ?_
  show Rest p.tables e below s _ _ _ (T1.setTop (mkF m 5 #[.val (.ref a0)] [(.long (0 : Int64)), (.long lk)]))
  refine Rest.via (fun t k => XS.lcmp X1.here hx rfl (hb hby d7_5) rfl k) ?_
  show Rest p.tables e below s _ _ _ (T1.setTop (mkF m 6 #[.val (.ref a0)] [(.int (lcmpW lk (0 : Int64)))]))
  by_cases hc6 : lk = (0 : Int64)
  · refine Rest.via (fun t k => XS.ifNo X1.here hx rfl (hb hby d7_6) rfl ((if0 _ _).trans (teq ((lw_eq _ _).mpr hc6)).2) k) ?_
    show Rest p.tables e below s _ _ _ (T1.setTop (mkF m 9 #[.val (.ref a0)] []))
    refine Rest.via (fun t k => XS.iconst X1.here hx rfl (hb hby d7_9) k) ?_
    show Rest p.tables e below s _ _ _ (T1.setTop (mkF m 10 #[.val (.ref a0)] [(.int (0 : Int32))]))
    refine Rest.via (fun t k => XS.goto X1.here hx rfl (pc0 := 10) (pc' := 15) rfl (hb hby d7_10) (by decide) (by decide) k) ?_
    show Rest p.tables e below s _ _ _ (T1.setTop (mkF m 15 #[.val (.ref a0)] [(.int (0 : Int32))]))
    refine Rest.via (fun t k => XS.i2l X1.here hx rfl (hb hby d7_15) rfl k) ?_
    show Rest p.tables e below s _ _ _ (T1.setTop (mkF m 16 #[.val (.ref a0)] [(.long ((0 : Int32).toInt64))]))
    refine Rest.via (fun t k => XS.aloadN X1.here hx rfl (hb hby d7_16) rfl rfl k) ?_
    show Rest p.tables e below s _ _ _ (T1.setTop (mkF m 17 #[.val (.ref a0)] [(.ref a0), (.long ((0 : Int32).toInt64))]))
    obtain ⟨T2, X2, e2, st2⟩ := getF X1 hx hZ hown (host := "") (Or.inl (hw _ (List.mem_of_getElem? (i := 51) rfl))) Via.refl e1 F_wb (g := (mkF m 17 #[.val (.ref a0)] [(.ref a0), (.long ((0 : Int32).toInt64))])) rfl rfl (hb hby d7_17)
    refine Rest.via (fun t k => st2 t k) ?_
    show Rest p.tables e below s _ _ _ (T2.setTop (mkF m 20 #[.val (.ref a0)] [(.long wb), (.long ((0 : Int32).toInt64))]))
    refine Rest.via (fun t k => XS.ladd X2.here hx rfl (hb hby d7_20) rfl k) ?_
    show Rest p.tables e below s _ _ _ (T2.setTop (mkF m 21 #[.val (.ref a0)] [(.long (((0 : Int32).toInt64) + wb))]))
    refine Rest.via (fun t k => XS.aloadN X2.here hx rfl (hb hby d7_21) rfl rfl k) ?_
    show Rest p.tables e below s _ _ _ (T2.setTop (mkF m 22 #[.val (.ref a0)] [(.ref a0), (.long (((0 : Int32).toInt64) + wb))]))
    obtain ⟨T3, X3, e3, st3⟩ := getF X2 hx hZ hown (host := "") (Or.inl (hw _ (List.mem_of_getElem? (i := 53) rfl))) Via.refl e2 F_pt (g := (mkF m 22 #[.val (.ref a0)] [(.ref a0), (.long (((0 : Int32).toInt64) + wb))])) rfl rfl (hb hby d7_22)
    refine Rest.via (fun t k => st3 t k) ?_
    show Rest p.tables e below s _ _ _ (T3.setTop (mkF m 25 #[.val (.ref a0)] [(.ref pp), (.long (((0 : Int32).toInt64) + wb))]))
    refine Rest.via (fun t k => XS.ifnonnullYes X3.here hx rfl (pc0 := 25) (pc' := 32) rfl (hb hby d7_25) rfl (by decide) (by decide) k) ?_
    show Rest p.tables e below s _ _ _ (T3.setTop (mkF m 32 #[.val (.ref a0)] [(.long (((0 : Int32).toInt64) + wb))]))
    refine Rest.via (fun t k => XS.aloadN X3.here hx rfl (hb hby d7_32) rfl rfl k) ?_
    show Rest p.tables e below s _ _ _ (T3.setTop (mkF m 33 #[.val (.ref a0)] [(.ref a0), (.long (((0 : Int32).toInt64) + wb))]))
    obtain ⟨T4, X4, e4, st4⟩ := getF X3 hx hZ hown (host := "") (Or.inl (hw _ (List.mem_of_getElem? (i := 53) rfl))) Via.refl e3 F_pt (g := (mkF m 33 #[.val (.ref a0)] [(.ref a0), (.long (((0 : Int32).toInt64) + wb))])) rfl rfl (hb hby d7_33)
    refine Rest.via (fun t k => st4 t k) ?_
    show Rest p.tables e below s _ _ _ (T4.setTop (mkF m 36 #[.val (.ref a0)] [(.ref pp), (.long (((0 : Int32).toInt64) + wb))]))
    obtain ⟨T5, X5, e5, st5⟩ := getF X4 hx hZ hown (host := "") (Or.inl (hw _ (List.mem_of_getElem? (i := 51) rfl))) Via.refl e4 Fp (g := (mkF m 36 #[.val (.ref a0)] [(.ref pp), (.long (((0 : Int32).toInt64) + wb))])) rfl rfl (hb hby d7_36)
    refine Rest.via (fun t k => st5 t k) ?_
    show Rest p.tables e below s _ _ _ (T5.setTop (mkF m 39 #[.val (.ref a0)] [(.long wp), (.long (((0 : Int32).toInt64) + wb))]))
    refine Rest.via (fun t k => XS.ladd X5.here hx rfl (hb hby d7_39) rfl k) ?_
    show Rest p.tables e below s _ _ _ (T5.setTop (mkF m 40 #[.val (.ref a0)] [(.long ((((0 : Int32).toInt64) + wb) + wp))]))
    refine Rest.ret X5 (v := some (.long ((((0 : Int32).toInt64) + wb) + wp))) (fun h => by rw [Bd.returns] at h; cases h) hlk (fun fs hr => retOut X5 hx Bd.returns rfl (Or.inr (Or.inl ⟨rfl, rfl, _, rfl⟩)) (hb hby d7_40) hr) ?_ (by decide) (by decide)
    rw [e5]
    exact ⟨by rw [own_bb, if_pos hc6], N0, rfl⟩
  · refine Rest.via (fun t k => XS.ifYes X1.here hx rfl (pc0 := 6) (pc' := 13) rfl (hb hby d7_6) rfl ((if0 _ _).trans (feq (fun q => hc6 ((lw_eq _ _).mp q))).2) (by decide) (by decide) k) ?_
    show Rest p.tables e below s _ _ _ (T1.setTop (mkF m 13 #[.val (.ref a0)] []))
    refine Rest.via (fun t k => XS.bipush X1.here hx rfl (hb hby d7_13) k) ?_
    show Rest p.tables e below s _ _ _ (T1.setTop (mkF m 15 #[.val (.ref a0)] [(.int (13 : Int32))]))
    refine Rest.via (fun t k => XS.i2l X1.here hx rfl (hb hby d7_15) rfl k) ?_
    show Rest p.tables e below s _ _ _ (T1.setTop (mkF m 16 #[.val (.ref a0)] [(.long ((13 : Int32).toInt64))]))
    refine Rest.via (fun t k => XS.aloadN X1.here hx rfl (hb hby d7_16) rfl rfl k) ?_
    show Rest p.tables e below s _ _ _ (T1.setTop (mkF m 17 #[.val (.ref a0)] [(.ref a0), (.long ((13 : Int32).toInt64))]))
    obtain ⟨T6, X6, e6, st6⟩ := getF X1 hx hZ hown (host := "") (Or.inl (hw _ (List.mem_of_getElem? (i := 51) rfl))) Via.refl e1 F_wb (g := (mkF m 17 #[.val (.ref a0)] [(.ref a0), (.long ((13 : Int32).toInt64))])) rfl rfl (hb hby d7_17)
    refine Rest.via (fun t k => st6 t k) ?_
    show Rest p.tables e below s _ _ _ (T6.setTop (mkF m 20 #[.val (.ref a0)] [(.long wb), (.long ((13 : Int32).toInt64))]))
    refine Rest.via (fun t k => XS.ladd X6.here hx rfl (hb hby d7_20) rfl k) ?_
    show Rest p.tables e below s _ _ _ (T6.setTop (mkF m 21 #[.val (.ref a0)] [(.long (((13 : Int32).toInt64) + wb))]))
    refine Rest.via (fun t k => XS.aloadN X6.here hx rfl (hb hby d7_21) rfl rfl k) ?_
    show Rest p.tables e below s _ _ _ (T6.setTop (mkF m 22 #[.val (.ref a0)] [(.ref a0), (.long (((13 : Int32).toInt64) + wb))]))
    obtain ⟨T7, X7, e7, st7⟩ := getF X6 hx hZ hown (host := "") (Or.inl (hw _ (List.mem_of_getElem? (i := 53) rfl))) Via.refl e6 F_pt (g := (mkF m 22 #[.val (.ref a0)] [(.ref a0), (.long (((13 : Int32).toInt64) + wb))])) rfl rfl (hb hby d7_22)
    refine Rest.via (fun t k => st7 t k) ?_
    show Rest p.tables e below s _ _ _ (T7.setTop (mkF m 25 #[.val (.ref a0)] [(.ref pp), (.long (((13 : Int32).toInt64) + wb))]))
    refine Rest.via (fun t k => XS.ifnonnullYes X7.here hx rfl (pc0 := 25) (pc' := 32) rfl (hb hby d7_25) rfl (by decide) (by decide) k) ?_
    show Rest p.tables e below s _ _ _ (T7.setTop (mkF m 32 #[.val (.ref a0)] [(.long (((13 : Int32).toInt64) + wb))]))
    refine Rest.via (fun t k => XS.aloadN X7.here hx rfl (hb hby d7_32) rfl rfl k) ?_
    show Rest p.tables e below s _ _ _ (T7.setTop (mkF m 33 #[.val (.ref a0)] [(.ref a0), (.long (((13 : Int32).toInt64) + wb))]))
    obtain ⟨T8, X8, e8, st8⟩ := getF X7 hx hZ hown (host := "") (Or.inl (hw _ (List.mem_of_getElem? (i := 53) rfl))) Via.refl e7 F_pt (g := (mkF m 33 #[.val (.ref a0)] [(.ref a0), (.long (((13 : Int32).toInt64) + wb))])) rfl rfl (hb hby d7_33)
    refine Rest.via (fun t k => st8 t k) ?_
    show Rest p.tables e below s _ _ _ (T8.setTop (mkF m 36 #[.val (.ref a0)] [(.ref pp), (.long (((13 : Int32).toInt64) + wb))]))
    obtain ⟨T9, X9, e9, st9⟩ := getF X8 hx hZ hown (host := "") (Or.inl (hw _ (List.mem_of_getElem? (i := 51) rfl))) Via.refl e8 Fp (g := (mkF m 36 #[.val (.ref a0)] [(.ref pp), (.long (((13 : Int32).toInt64) + wb))])) rfl rfl (hb hby d7_36)
    refine Rest.via (fun t k => st9 t k) ?_
    show Rest p.tables e below s _ _ _ (T9.setTop (mkF m 39 #[.val (.ref a0)] [(.long wp), (.long (((13 : Int32).toInt64) + wb))]))
    refine Rest.via (fun t k => XS.ladd X9.here hx rfl (hb hby d7_39) rfl k) ?_
    show Rest p.tables e below s _ _ _ (T9.setTop (mkF m 40 #[.val (.ref a0)] [(.long ((((13 : Int32).toInt64) + wb) + wp))]))
    refine Rest.ret X9 (v := some (.long ((((13 : Int32).toInt64) + wb) + wp))) (fun h => by rw [Bd.returns] at h; cases h) hlk (fun fs hr => retOut X9 hx Bd.returns rfl (Or.inr (Or.inl ⟨rfl, rfl, _, rfl⟩)) (hb hby d7_40) hr) ?_ (by decide) (by decide)
    rw [e9]
    exact ⟨by rw [own_bb, if_neg hc6], N0, rfl⟩
theorem own_ws0 {f k v : Int32} (h : f = (0 : Int32)) : own_ws f k v = (((5 : Int32) + k).toInt64) := if_pos h
theorem own_ws1 {f k v : Int32} (h : ¬ f = (0 : Int32)) : own_ws f k v = (((((5 : Int32) + k) + (4 : Int32)) + v).toInt64) := if_neg h
theorem own_n12 {n : Int32} (h : n < (1 : Int32)) : n < (2 : Int32) := by
  rw [Int32.lt_iff_toInt_lt] at h ⊢
  have e1 : (1 : Int32).toInt = 1 := by decide
  have e2 : (2 : Int32).toInt = 2 := by decide
  omega
theorem pd_8 : parseMethodDescriptor "()J" = some ⟨[], some .long⟩ := by decide +kernel
theorem pd_9 : parseMethodDescriptor "(ZII)J" = some ⟨[.boolean, .int, .int], some .long⟩ := by decide +kernel
theorem pd_10 : parseMethodDescriptor "(Lcom/example/reknit/reknit/LogRecord;)Lcom/example/reknit/reknit/LogRecord;" = some ⟨[(.object "com/example/reknit/reknit/LogRecord")], some (.object "com/example/reknit/reknit/LogRecord")⟩ := by decide +kernel
theorem pd_11 : parseMethodDescriptor "([B)Lcom/example/reknit/reknit/LogRecord;" = some ⟨[(.array .byte)], some (.object "com/example/reknit/reknit/LogRecord")⟩ := by decide +kernel
theorem pd_12 : parseMethodDescriptor "([B[B)Lcom/example/reknit/reknit/LogRecord;" = some ⟨[(.array .byte), (.array .byte)], some (.object "com/example/reknit/reknit/LogRecord")⟩ := by decide +kernel
theorem pd_13 : parseMethodDescriptor "(J)Lcom/example/reknit/reknit/LogRecord;" = some ⟨[.long], some (.object "com/example/reknit/reknit/LogRecord")⟩ := by decide +kernel
theorem ef_0 (m : MethodId) (q0 : Int64) (q1 : Int64) (p2 : Int32) (p3 : Int32) : entryFrame m #[(.long q0), (.long q1), (.int p2), (.int p3)] maxLocals = mkF m 0 #[.val (.long q0), .second, .val (.long q1), .second, .val (.int p2), .val (.int p3), .unset, .unset, .unset, .unset, .unset, .unset, .unset, .unset, .unset, .unset, .unset, .unset, .unset, .unset, .unset, .unset, .unset, .unset, .unset, .unset, .unset, .unset, .unset, .unset] [] := by first | (simp [entryFrame, mkF, argsToLocals, Value.category, maxLocals]; done) | rfl
def Q0 (Z : State) (q0 : Int64) (q1 : Int64) (p2 : Int32) (p3 : Int32) (de : Addr) (h0 : Heap) (n0 : Nat) (v : Option Value) (h : Heap) (L : List Loc) : Prop := v = some (.int 1) ∧ Fr n0 L
set_option maxRecDepth 65536 in
set_option maxHeartbeats 40000000 in
theorem rm0 (l : Launch) (Z : State) (aw : Array Value) (hw : ∀ d ∈ tables_1, d.before aw Z = true) (ws : List Jvm.Cond) (q0 : Int64) (q1 : Int64) (p2 : Int32) (p3 : Int32) (de : Addr) (h0 : Heap) (n0 : Nat) (Z0 : n0 ≤ h0.size) (O : Old Z n0 h0) (DE0 : own_DE Z Z.heap de) :
    MetFree l x (head1 (Jvm.Cond.code x code maxLocals ret :: ws) room_1) (fun a U => a = #[(.long q0), (.long q1), (.int p2), (.int p3)] ∧ Z.Warmed39 U.vm ∧ U.heap = h0) (fun _ _ _ _ _ => True) (fun _ U o U' => ∃ v L, o = .returned v ∧ Q0 Z q0 q1 p2 p3 de h0 n0 v U'.heap L ∧ FrameEnd U o U' L 16 152) := by
  refine MetFree.of_bodySF (plainFor_of_name pn_4) hisR ?_
  intro p e s m args below meth c s₁ Bd hml0 hP hK
  obtain ⟨rfl, hZ, hh⟩ := hP
  have hx := Bd.exec
  have hby := Bd.bytes
  have hml : c.maxLocals = 30 := hml0
  have hown : s.vm.findClass "com/example/reknit/reknit/LogRecordBodyBytesPinLaw" = some m.cls := findClass_of_methodNamed Bd.named
  have hnm := (name_of_methodNamed Bd.named Bd.method).1
  have hlk : meth.locks = false := BodyLoose.notSynchronized Bd
  have X0 : Stand p l e room_1 s m #[(.long q0), (.long q1), (.int p2), (.int p3)] below meth c s₁ [] 0 0 := Stand.of_body Bd
  have eh0 : s₁.heap = h0 := by rw [← hh, Bd.state]; rfl
  have N0 := Fr.nil n0
  show Rest p.tables e below s (Q0 Z q0 q1 p2 p3 de h0 n0) _ _ (s₁.setTop (entryFrame m #[(.long q0), (.long q1), (.int p2), (.int p3)] maxLocals))
  refine Rest.via (fun t k => castTop (ef_0 m q0 q1 p2 p3) k) ?_
  show Rest p.tables e below s _ _ _ (s₁.setTop (mkF m 0 #[.val (.long q0), .second, .val (.long q1), .second, .val (.int p2), .val (.int p3), .unset, .unset, .unset, .unset, .unset, .unset, .unset, .unset, .unset, .unset, .unset, .unset, .unset, .unset, .unset, .unset, .unset, .unset, .unset, .unset, .unset, .unset, .unset, .unset] []))
  refine Rest.via (fun t k => XS.iload X0.here hx rfl (hb hby at_0) rfl k) ?_
  show Rest p.tables e below s _ _ _ (s₁.setTop (mkF m 2 #[.val (.long q0), .second, .val (.long q1), .second, .val (.int p2), .val (.int p3), .unset, .unset, .unset, .unset, .unset, .unset, .unset, .unset, .unset, .unset, .unset, .unset, .unset, .unset, .unset, .unset, .unset, .unset, .unset, .unset, .unset, .unset, .unset, .unset] [(.int p2)]))
  refine Rest.via (fun t k => XS.bipush X0.here hx rfl (hb hby at_2) k) ?_
  show Rest p.tables e below s _ _ _ (s₁.setTop (mkF m 4 #[.val (.long q0), .second, .val (.long q1), .second, .val (.int p2), .val (.int p3), .unset, .unset, .unset, .unset, .unset, .unset, .unset, .unset, .unset, .unset, .unset, .unset, .unset, .unset, .unset, .unset, .unset, .unset, .unset, .unset, .unset, .unset, .unset, .unset] [(.int (15 : Int32)), (.int p2)]))
  refine Rest.via (fun t k => XS.iand X0.here hx rfl (hb hby at_4) rfl k) ?_
  show Rest p.tables e below s _ _ _ (s₁.setTop (mkF m 5 #[.val (.long q0), .second, .val (.long q1), .second, .val (.int p2), .val (.int p3), .unset, .unset, .unset, .unset, .unset, .unset, .unset, .unset, .unset, .unset, .unset, .unset, .unset, .unset, .unset, .unset, .unset, .unset, .unset, .unset, .unset, .unset, .unset, .unset] [(.int (p2 &&& (15 : Int32)))]))
  refine Rest.via (fun t k => XS.istore X0.here hx rfl (hb hby at_5) rfl (l' := #[.val (.long q0), .second, .val (.long q1), .second, .val (.int p2), .val (.int p3), .val (.int (p2 &&& (15 : Int32))), .unset, .unset, .unset, .unset, .unset, .unset, .unset, .unset, .unset, .unset, .unset, .unset, .unset, .unset, .unset, .unset, .unset, .unset, .unset, .unset, .unset, .unset, .unset]) rfl k) ?_
  show Rest p.tables e below s _ _ _ (s₁.setTop (mkF m 7 #[.val (.long q0), .second, .val (.long q1), .second, .val (.int p2), .val (.int p3), .val (.int (p2 &&& (15 : Int32))), .unset, .unset, .unset, .unset, .unset, .unset, .unset, .unset, .unset, .unset, .unset, .unset, .unset, .unset, .unset, .unset, .unset, .unset, .unset, .unset, .unset, .unset, .unset] []))
  obtain ⟨ka, hv_ka⟩ : ∃ z : Int32, z = (p2 &&& (15 : Int32)) := ⟨_, rfl⟩
  rw [← hv_ka]
  show Rest p.tables e below s _ _ _ (s₁.setTop (mkF m 7 #[.val (.long q0), .second, .val (.long q1), .second, .val (.int p2), .val (.int p3), .val (.int ka), .unset, .unset, .unset, .unset, .unset, .unset, .unset, .unset, .unset, .unset, .unset, .unset, .unset, .unset, .unset, .unset, .unset, .unset, .unset, .unset, .unset, .unset, .unset] []))
  refine Rest.via (fun t k => XS.iload X0.here hx rfl (hb hby at_7) rfl k) ?_
  show Rest p.tables e below s _ _ _ (s₁.setTop (mkF m 9 #[.val (.long q0), .second, .val (.long q1), .second, .val (.int p2), .val (.int p3), .val (.int ka), .unset, .unset, .unset, .unset, .unset, .unset, .unset, .unset, .unset, .unset, .unset, .unset, .unset, .unset, .unset, .unset, .unset, .unset, .unset, .unset, .unset, .unset, .unset] [(.int p2)]))
  refine Rest.via (fun t k => XS.iconst X0.here hx rfl (hb hby at_9) k) ?_
  show Rest p.tables e below s _ _ _ (s₁.setTop (mkF m 10 #[.val (.long q0), .second, .val (.long q1), .second, .val (.int p2), .val (.int p3), .val (.int ka), .unset, .unset, .unset, .unset, .unset, .unset, .unset, .unset, .unset, .unset, .unset, .unset, .unset, .unset, .unset, .unset, .unset, .unset, .unset, .unset, .unset, .unset, .unset] [(.int (4 : Int32)), (.int p2)]))
  refine Rest.via (fun t k => XS.iushr X0.here hx rfl (hb hby at_10) rfl k) ?_
  show Rest p.tables e below s _ _ _ (s₁.setTop (mkF m 11 #[.val (.long q0), .second, .val (.long q1), .second, .val (.int p2), .val (.int p3), .val (.int ka), .unset, .unset, .unset, .unset, .unset, .unset, .unset, .unset, .unset, .unset, .unset, .unset, .unset, .unset, .unset, .unset, .unset, .unset, .unset, .unset, .unset, .unset, .unset] [(.int ((p2.toUInt32 >>> ((4 : Int32) &&& 31).toUInt32).toInt32))]))
  refine Rest.via (fun t k => XS.bipush X0.here hx rfl (hb hby at_11) k) ?_
  show Rest p.tables e below s _ _ _ (s₁.setTop (mkF m 13 #[.val (.long q0), .second, .val (.long q1), .second, .val (.int p2), .val (.int p3), .val (.int ka), .unset, .unset, .unset, .unset, .unset, .unset, .unset, .unset, .unset, .unset, .unset, .unset, .unset, .unset, .unset, .unset, .unset, .unset, .unset, .unset, .unset, .unset, .unset] [(.int (15 : Int32)), (.int ((p2.toUInt32 >>> ((4 : Int32) &&& 31).toUInt32).toInt32))]))
  refine Rest.via (fun t k => XS.iand X0.here hx rfl (hb hby at_13) rfl k) ?_
  show Rest p.tables e below s _ _ _ (s₁.setTop (mkF m 14 #[.val (.long q0), .second, .val (.long q1), .second, .val (.int p2), .val (.int p3), .val (.int ka), .unset, .unset, .unset, .unset, .unset, .unset, .unset, .unset, .unset, .unset, .unset, .unset, .unset, .unset, .unset, .unset, .unset, .unset, .unset, .unset, .unset, .unset, .unset] [(.int (((p2.toUInt32 >>> ((4 : Int32) &&& 31).toUInt32).toInt32) &&& (15 : Int32)))]))
  refine Rest.via (fun t k => XS.istore X0.here hx rfl (hb hby at_14) rfl (l' := #[.val (.long q0), .second, .val (.long q1), .second, .val (.int p2), .val (.int p3), .val (.int ka), .val (.int (((p2.toUInt32 >>> ((4 : Int32) &&& 31).toUInt32).toInt32) &&& (15 : Int32))), .unset, .unset, .unset, .unset, .unset, .unset, .unset, .unset, .unset, .unset, .unset, .unset, .unset, .unset, .unset, .unset, .unset, .unset, .unset, .unset, .unset, .unset]) rfl k) ?_
  show Rest p.tables e below s _ _ _ (s₁.setTop (mkF m 16 #[.val (.long q0), .second, .val (.long q1), .second, .val (.int p2), .val (.int p3), .val (.int ka), .val (.int (((p2.toUInt32 >>> ((4 : Int32) &&& 31).toUInt32).toInt32) &&& (15 : Int32))), .unset, .unset, .unset, .unset, .unset, .unset, .unset, .unset, .unset, .unset, .unset, .unset, .unset, .unset, .unset, .unset, .unset, .unset, .unset, .unset, .unset, .unset] []))
  obtain ⟨va, hv_va⟩ : ∃ z : Int32, z = (((p2.toUInt32 >>> ((4 : Int32) &&& 31).toUInt32).toInt32) &&& (15 : Int32)) := ⟨_, rfl⟩
  rw [← hv_va]
  show Rest p.tables e below s _ _ _ (s₁.setTop (mkF m 16 #[.val (.long q0), .second, .val (.long q1), .second, .val (.int p2), .val (.int p3), .val (.int ka), .val (.int va), .unset, .unset, .unset, .unset, .unset, .unset, .unset, .unset, .unset, .unset, .unset, .unset, .unset, .unset, .unset, .unset, .unset, .unset, .unset, .unset, .unset, .unset] []))
  refine Rest.via (fun t k => XS.iload X0.here hx rfl (hb hby at_16) rfl k) ?_
  show Rest p.tables e below s _ _ _ (s₁.setTop (mkF m 18 #[.val (.long q0), .second, .val (.long q1), .second, .val (.int p2), .val (.int p3), .val (.int ka), .val (.int va), .unset, .unset, .unset, .unset, .unset, .unset, .unset, .unset, .unset, .unset, .unset, .unset, .unset, .unset, .unset, .unset, .unset, .unset, .unset, .unset, .unset, .unset] [(.int p2)]))
  refine Rest.via (fun t k => XS.bipush X0.here hx rfl (hb hby at_18) k) ?_
  show Rest p.tables e below s _ _ _ (s₁.setTop (mkF m 20 #[.val (.long q0), .second, .val (.long q1), .second, .val (.int p2), .val (.int p3), .val (.int ka), .val (.int va), .unset, .unset, .unset, .unset, .unset, .unset, .unset, .unset, .unset, .unset, .unset, .unset, .unset, .unset, .unset, .unset, .unset, .unset, .unset, .unset, .unset, .unset] [(.int (8 : Int32)), (.int p2)]))
  refine Rest.via (fun t k => XS.iushr X0.here hx rfl (hb hby at_20) rfl k) ?_
  show Rest p.tables e below s _ _ _ (s₁.setTop (mkF m 21 #[.val (.long q0), .second, .val (.long q1), .second, .val (.int p2), .val (.int p3), .val (.int ka), .val (.int va), .unset, .unset, .unset, .unset, .unset, .unset, .unset, .unset, .unset, .unset, .unset, .unset, .unset, .unset, .unset, .unset, .unset, .unset, .unset, .unset, .unset, .unset] [(.int ((p2.toUInt32 >>> ((8 : Int32) &&& 31).toUInt32).toInt32))]))
  refine Rest.via (fun t k => XS.bipush X0.here hx rfl (hb hby at_21) k) ?_
  show Rest p.tables e below s _ _ _ (s₁.setTop (mkF m 23 #[.val (.long q0), .second, .val (.long q1), .second, .val (.int p2), .val (.int p3), .val (.int ka), .val (.int va), .unset, .unset, .unset, .unset, .unset, .unset, .unset, .unset, .unset, .unset, .unset, .unset, .unset, .unset, .unset, .unset, .unset, .unset, .unset, .unset, .unset, .unset] [(.int (15 : Int32)), (.int ((p2.toUInt32 >>> ((8 : Int32) &&& 31).toUInt32).toInt32))]))
  refine Rest.via (fun t k => XS.iand X0.here hx rfl (hb hby at_23) rfl k) ?_
  show Rest p.tables e below s _ _ _ (s₁.setTop (mkF m 24 #[.val (.long q0), .second, .val (.long q1), .second, .val (.int p2), .val (.int p3), .val (.int ka), .val (.int va), .unset, .unset, .unset, .unset, .unset, .unset, .unset, .unset, .unset, .unset, .unset, .unset, .unset, .unset, .unset, .unset, .unset, .unset, .unset, .unset, .unset, .unset] [(.int (((p2.toUInt32 >>> ((8 : Int32) &&& 31).toUInt32).toInt32) &&& (15 : Int32)))]))
  refine Rest.via (fun t k => XS.istore X0.here hx rfl (hb hby at_24) rfl (l' := #[.val (.long q0), .second, .val (.long q1), .second, .val (.int p2), .val (.int p3), .val (.int ka), .val (.int va), .val (.int (((p2.toUInt32 >>> ((8 : Int32) &&& 31).toUInt32).toInt32) &&& (15 : Int32))), .unset, .unset, .unset, .unset, .unset, .unset, .unset, .unset, .unset, .unset, .unset, .unset, .unset, .unset, .unset, .unset, .unset, .unset, .unset, .unset, .unset]) rfl k) ?_
  show Rest p.tables e below s _ _ _ (s₁.setTop (mkF m 26 #[.val (.long q0), .second, .val (.long q1), .second, .val (.int p2), .val (.int p3), .val (.int ka), .val (.int va), .val (.int (((p2.toUInt32 >>> ((8 : Int32) &&& 31).toUInt32).toInt32) &&& (15 : Int32))), .unset, .unset, .unset, .unset, .unset, .unset, .unset, .unset, .unset, .unset, .unset, .unset, .unset, .unset, .unset, .unset, .unset, .unset, .unset, .unset, .unset] []))
  obtain ⟨kc, hv_kc⟩ : ∃ z : Int32, z = (((p2.toUInt32 >>> ((8 : Int32) &&& 31).toUInt32).toInt32) &&& (15 : Int32)) := ⟨_, rfl⟩
  rw [← hv_kc]
  show Rest p.tables e below s _ _ _ (s₁.setTop (mkF m 26 #[.val (.long q0), .second, .val (.long q1), .second, .val (.int p2), .val (.int p3), .val (.int ka), .val (.int va), .val (.int kc), .unset, .unset, .unset, .unset, .unset, .unset, .unset, .unset, .unset, .unset, .unset, .unset, .unset, .unset, .unset, .unset, .unset, .unset, .unset, .unset, .unset] []))
  refine Rest.via (fun t k => XS.iload X0.here hx rfl (hb hby at_26) rfl k) ?_
  show Rest p.tables e below s _ _ _ (s₁.setTop (mkF m 28 #[.val (.long q0), .second, .val (.long q1), .second, .val (.int p2), .val (.int p3), .val (.int ka), .val (.int va), .val (.int kc), .unset, .unset, .unset, .unset, .unset, .unset, .unset, .unset, .unset, .unset, .unset, .unset, .unset, .unset, .unset, .unset, .unset, .unset, .unset, .unset, .unset] [(.int p2)]))
  refine Rest.via (fun t k => XS.bipush X0.here hx rfl (hb hby at_28) k) ?_
  show Rest p.tables e below s _ _ _ (s₁.setTop (mkF m 30 #[.val (.long q0), .second, .val (.long q1), .second, .val (.int p2), .val (.int p3), .val (.int ka), .val (.int va), .val (.int kc), .unset, .unset, .unset, .unset, .unset, .unset, .unset, .unset, .unset, .unset, .unset, .unset, .unset, .unset, .unset, .unset, .unset, .unset, .unset, .unset, .unset] [(.int (12 : Int32)), (.int p2)]))
  refine Rest.via (fun t k => XS.iushr X0.here hx rfl (hb hby at_30) rfl k) ?_
  show Rest p.tables e below s _ _ _ (s₁.setTop (mkF m 31 #[.val (.long q0), .second, .val (.long q1), .second, .val (.int p2), .val (.int p3), .val (.int ka), .val (.int va), .val (.int kc), .unset, .unset, .unset, .unset, .unset, .unset, .unset, .unset, .unset, .unset, .unset, .unset, .unset, .unset, .unset, .unset, .unset, .unset, .unset, .unset, .unset] [(.int ((p2.toUInt32 >>> ((12 : Int32) &&& 31).toUInt32).toInt32))]))
  refine Rest.via (fun t k => XS.bipush X0.here hx rfl (hb hby at_31) k) ?_
  show Rest p.tables e below s _ _ _ (s₁.setTop (mkF m 33 #[.val (.long q0), .second, .val (.long q1), .second, .val (.int p2), .val (.int p3), .val (.int ka), .val (.int va), .val (.int kc), .unset, .unset, .unset, .unset, .unset, .unset, .unset, .unset, .unset, .unset, .unset, .unset, .unset, .unset, .unset, .unset, .unset, .unset, .unset, .unset, .unset] [(.int (15 : Int32)), (.int ((p2.toUInt32 >>> ((12 : Int32) &&& 31).toUInt32).toInt32))]))
  refine Rest.via (fun t k => XS.iand X0.here hx rfl (hb hby at_33) rfl k) ?_
  show Rest p.tables e below s _ _ _ (s₁.setTop (mkF m 34 #[.val (.long q0), .second, .val (.long q1), .second, .val (.int p2), .val (.int p3), .val (.int ka), .val (.int va), .val (.int kc), .unset, .unset, .unset, .unset, .unset, .unset, .unset, .unset, .unset, .unset, .unset, .unset, .unset, .unset, .unset, .unset, .unset, .unset, .unset, .unset, .unset] [(.int (((p2.toUInt32 >>> ((12 : Int32) &&& 31).toUInt32).toInt32) &&& (15 : Int32)))]))
  refine Rest.via (fun t k => XS.istore X0.here hx rfl (hb hby at_34) rfl (l' := #[.val (.long q0), .second, .val (.long q1), .second, .val (.int p2), .val (.int p3), .val (.int ka), .val (.int va), .val (.int kc), .val (.int (((p2.toUInt32 >>> ((12 : Int32) &&& 31).toUInt32).toInt32) &&& (15 : Int32))), .unset, .unset, .unset, .unset, .unset, .unset, .unset, .unset, .unset, .unset, .unset, .unset, .unset, .unset, .unset, .unset, .unset, .unset, .unset, .unset]) rfl k) ?_
  show Rest p.tables e below s _ _ _ (s₁.setTop (mkF m 36 #[.val (.long q0), .second, .val (.long q1), .second, .val (.int p2), .val (.int p3), .val (.int ka), .val (.int va), .val (.int kc), .val (.int (((p2.toUInt32 >>> ((12 : Int32) &&& 31).toUInt32).toInt32) &&& (15 : Int32))), .unset, .unset, .unset, .unset, .unset, .unset, .unset, .unset, .unset, .unset, .unset, .unset, .unset, .unset, .unset, .unset, .unset, .unset, .unset, .unset] []))
  obtain ⟨vc, hv_vc⟩ : ∃ z : Int32, z = (((p2.toUInt32 >>> ((12 : Int32) &&& 31).toUInt32).toInt32) &&& (15 : Int32)) := ⟨_, rfl⟩
  rw [← hv_vc]
  show Rest p.tables e below s _ _ _ (s₁.setTop (mkF m 36 #[.val (.long q0), .second, .val (.long q1), .second, .val (.int p2), .val (.int p3), .val (.int ka), .val (.int va), .val (.int kc), .val (.int vc), .unset, .unset, .unset, .unset, .unset, .unset, .unset, .unset, .unset, .unset, .unset, .unset, .unset, .unset, .unset, .unset, .unset, .unset, .unset, .unset] []))
  refine Rest.via (fun t k => XS.iload X0.here hx rfl (hb hby at_36) rfl k) ?_
  show Rest p.tables e below s _ _ _ (s₁.setTop (mkF m 38 #[.val (.long q0), .second, .val (.long q1), .second, .val (.int p2), .val (.int p3), .val (.int ka), .val (.int va), .val (.int kc), .val (.int vc), .unset, .unset, .unset, .unset, .unset, .unset, .unset, .unset, .unset, .unset, .unset, .unset, .unset, .unset, .unset, .unset, .unset, .unset, .unset, .unset] [(.int p2)]))
  refine Rest.via (fun t k => XS.bipush X0.here hx rfl (hb hby at_38) k) ?_
  show Rest p.tables e below s _ _ _ (s₁.setTop (mkF m 40 #[.val (.long q0), .second, .val (.long q1), .second, .val (.int p2), .val (.int p3), .val (.int ka), .val (.int va), .val (.int kc), .val (.int vc), .unset, .unset, .unset, .unset, .unset, .unset, .unset, .unset, .unset, .unset, .unset, .unset, .unset, .unset, .unset, .unset, .unset, .unset, .unset, .unset] [(.int (16 : Int32)), (.int p2)]))
  refine Rest.via (fun t k => XS.iushr X0.here hx rfl (hb hby at_40) rfl k) ?_
  show Rest p.tables e below s _ _ _ (s₁.setTop (mkF m 41 #[.val (.long q0), .second, .val (.long q1), .second, .val (.int p2), .val (.int p3), .val (.int ka), .val (.int va), .val (.int kc), .val (.int vc), .unset, .unset, .unset, .unset, .unset, .unset, .unset, .unset, .unset, .unset, .unset, .unset, .unset, .unset, .unset, .unset, .unset, .unset, .unset, .unset] [(.int ((p2.toUInt32 >>> ((16 : Int32) &&& 31).toUInt32).toInt32))]))
  refine Rest.via (fun t k => XS.bipush X0.here hx rfl (hb hby at_41) k) ?_
  show Rest p.tables e below s _ _ _ (s₁.setTop (mkF m 43 #[.val (.long q0), .second, .val (.long q1), .second, .val (.int p2), .val (.int p3), .val (.int ka), .val (.int va), .val (.int kc), .val (.int vc), .unset, .unset, .unset, .unset, .unset, .unset, .unset, .unset, .unset, .unset, .unset, .unset, .unset, .unset, .unset, .unset, .unset, .unset, .unset, .unset] [(.int (15 : Int32)), (.int ((p2.toUInt32 >>> ((16 : Int32) &&& 31).toUInt32).toInt32))]))
  refine Rest.via (fun t k => XS.iand X0.here hx rfl (hb hby at_43) rfl k) ?_
  show Rest p.tables e below s _ _ _ (s₁.setTop (mkF m 44 #[.val (.long q0), .second, .val (.long q1), .second, .val (.int p2), .val (.int p3), .val (.int ka), .val (.int va), .val (.int kc), .val (.int vc), .unset, .unset, .unset, .unset, .unset, .unset, .unset, .unset, .unset, .unset, .unset, .unset, .unset, .unset, .unset, .unset, .unset, .unset, .unset, .unset] [(.int (((p2.toUInt32 >>> ((16 : Int32) &&& 31).toUInt32).toInt32) &&& (15 : Int32)))]))
  refine Rest.via (fun t k => XS.istore X0.here hx rfl (hb hby at_44) rfl (l' := #[.val (.long q0), .second, .val (.long q1), .second, .val (.int p2), .val (.int p3), .val (.int ka), .val (.int va), .val (.int kc), .val (.int vc), .val (.int (((p2.toUInt32 >>> ((16 : Int32) &&& 31).toUInt32).toInt32) &&& (15 : Int32))), .unset, .unset, .unset, .unset, .unset, .unset, .unset, .unset, .unset, .unset, .unset, .unset, .unset, .unset, .unset, .unset, .unset, .unset, .unset]) rfl k) ?_
  show Rest p.tables e below s _ _ _ (s₁.setTop (mkF m 46 #[.val (.long q0), .second, .val (.long q1), .second, .val (.int p2), .val (.int p3), .val (.int ka), .val (.int va), .val (.int kc), .val (.int vc), .val (.int (((p2.toUInt32 >>> ((16 : Int32) &&& 31).toUInt32).toInt32) &&& (15 : Int32))), .unset, .unset, .unset, .unset, .unset, .unset, .unset, .unset, .unset, .unset, .unset, .unset, .unset, .unset, .unset, .unset, .unset, .unset, .unset] []))
  obtain ⟨kp, hv_kp⟩ : ∃ z : Int32, z = (((p2.toUInt32 >>> ((16 : Int32) &&& 31).toUInt32).toInt32) &&& (15 : Int32)) := ⟨_, rfl⟩
  rw [← hv_kp]
  show Rest p.tables e below s _ _ _ (s₁.setTop (mkF m 46 #[.val (.long q0), .second, .val (.long q1), .second, .val (.int p2), .val (.int p3), .val (.int ka), .val (.int va), .val (.int kc), .val (.int vc), .val (.int kp), .unset, .unset, .unset, .unset, .unset, .unset, .unset, .unset, .unset, .unset, .unset, .unset, .unset, .unset, .unset, .unset, .unset, .unset, .unset] []))
  refine Rest.via (fun t k => XS.iload X0.here hx rfl (hb hby at_46) rfl k) ?_
  show Rest p.tables e below s _ _ _ (s₁.setTop (mkF m 48 #[.val (.long q0), .second, .val (.long q1), .second, .val (.int p2), .val (.int p3), .val (.int ka), .val (.int va), .val (.int kc), .val (.int vc), .val (.int kp), .unset, .unset, .unset, .unset, .unset, .unset, .unset, .unset, .unset, .unset, .unset, .unset, .unset, .unset, .unset, .unset, .unset, .unset, .unset] [(.int p2)]))
  refine Rest.via (fun t k => XS.bipush X0.here hx rfl (hb hby at_48) k) ?_
  show Rest p.tables e below s _ _ _ (s₁.setTop (mkF m 50 #[.val (.long q0), .second, .val (.long q1), .second, .val (.int p2), .val (.int p3), .val (.int ka), .val (.int va), .val (.int kc), .val (.int vc), .val (.int kp), .unset, .unset, .unset, .unset, .unset, .unset, .unset, .unset, .unset, .unset, .unset, .unset, .unset, .unset, .unset, .unset, .unset, .unset, .unset] [(.int (20 : Int32)), (.int p2)]))
  refine Rest.via (fun t k => XS.iushr X0.here hx rfl (hb hby at_50) rfl k) ?_
  show Rest p.tables e below s _ _ _ (s₁.setTop (mkF m 51 #[.val (.long q0), .second, .val (.long q1), .second, .val (.int p2), .val (.int p3), .val (.int ka), .val (.int va), .val (.int kc), .val (.int vc), .val (.int kp), .unset, .unset, .unset, .unset, .unset, .unset, .unset, .unset, .unset, .unset, .unset, .unset, .unset, .unset, .unset, .unset, .unset, .unset, .unset] [(.int ((p2.toUInt32 >>> ((20 : Int32) &&& 31).toUInt32).toInt32))]))
  refine Rest.via (fun t k => XS.bipush X0.here hx rfl (hb hby at_51) k) ?_
  show Rest p.tables e below s _ _ _ (s₁.setTop (mkF m 53 #[.val (.long q0), .second, .val (.long q1), .second, .val (.int p2), .val (.int p3), .val (.int ka), .val (.int va), .val (.int kc), .val (.int vc), .val (.int kp), .unset, .unset, .unset, .unset, .unset, .unset, .unset, .unset, .unset, .unset, .unset, .unset, .unset, .unset, .unset, .unset, .unset, .unset, .unset] [(.int (15 : Int32)), (.int ((p2.toUInt32 >>> ((20 : Int32) &&& 31).toUInt32).toInt32))]))
  refine Rest.via (fun t k => XS.iand X0.here hx rfl (hb hby at_53) rfl k) ?_
  show Rest p.tables e below s _ _ _ (s₁.setTop (mkF m 54 #[.val (.long q0), .second, .val (.long q1), .second, .val (.int p2), .val (.int p3), .val (.int ka), .val (.int va), .val (.int kc), .val (.int vc), .val (.int kp), .unset, .unset, .unset, .unset, .unset, .unset, .unset, .unset, .unset, .unset, .unset, .unset, .unset, .unset, .unset, .unset, .unset, .unset, .unset] [(.int (((p2.toUInt32 >>> ((20 : Int32) &&& 31).toUInt32).toInt32) &&& (15 : Int32)))]))
  refine Rest.via (fun t k => XS.istore X0.here hx rfl (hb hby at_54) rfl (l' := #[.val (.long q0), .second, .val (.long q1), .second, .val (.int p2), .val (.int p3), .val (.int ka), .val (.int va), .val (.int kc), .val (.int vc), .val (.int kp), .val (.int (((p2.toUInt32 >>> ((20 : Int32) &&& 31).toUInt32).toInt32) &&& (15 : Int32))), .unset, .unset, .unset, .unset, .unset, .unset, .unset, .unset, .unset, .unset, .unset, .unset, .unset, .unset, .unset, .unset, .unset, .unset]) rfl k) ?_
  show Rest p.tables e below s _ _ _ (s₁.setTop (mkF m 56 #[.val (.long q0), .second, .val (.long q1), .second, .val (.int p2), .val (.int p3), .val (.int ka), .val (.int va), .val (.int kc), .val (.int vc), .val (.int kp), .val (.int (((p2.toUInt32 >>> ((20 : Int32) &&& 31).toUInt32).toInt32) &&& (15 : Int32))), .unset, .unset, .unset, .unset, .unset, .unset, .unset, .unset, .unset, .unset, .unset, .unset, .unset, .unset, .unset, .unset, .unset, .unset] []))
  obtain ⟨vp, hv_vp⟩ : ∃ z : Int32, z = (((p2.toUInt32 >>> ((20 : Int32) &&& 31).toUInt32).toInt32) &&& (15 : Int32)) := ⟨_, rfl⟩
  rw [← hv_vp]
  show Rest p.tables e below s _ _ _ (s₁.setTop (mkF m 56 #[.val (.long q0), .second, .val (.long q1), .second, .val (.int p2), .val (.int p3), .val (.int ka), .val (.int va), .val (.int kc), .val (.int vc), .val (.int kp), .val (.int vp), .unset, .unset, .unset, .unset, .unset, .unset, .unset, .unset, .unset, .unset, .unset, .unset, .unset, .unset, .unset, .unset, .unset, .unset] []))
  have hka : ¬ ka < (0 : Int32) ∧ ka.toNatClampNeg ≤ 15 := by rw [hv_ka]; exact own_m15 _
  have hva : ¬ va < (0 : Int32) ∧ va.toNatClampNeg ≤ 15 := by rw [hv_va]; exact own_m15 _
  have hkc : ¬ kc < (0 : Int32) ∧ kc.toNatClampNeg ≤ 15 := by rw [hv_kc]; exact own_m15 _
  have hvc : ¬ vc < (0 : Int32) ∧ vc.toNatClampNeg ≤ 15 := by rw [hv_vc]; exact own_m15 _
  have hkp : ¬ kp < (0 : Int32) ∧ kp.toNatClampNeg ≤ 15 := by rw [hv_kp]; exact own_m15 _
  have hvp : ¬ vp < (0 : Int32) ∧ vp.toNatClampNeg ≤ 15 := by rw [hv_vp]; exact own_m15 _
  have J68 : ∀ (f12 : Int32),  Rest p.tables e below s (Q0 Z q0 q1 p2 p3 de h0 n0) 16 152 (s₁.setTop (mkF m 68 #[.val (.long q0), .second, .val (.long q1), .second, .val (.int p2), .val (.int p3), .val (.int ka), .val (.int va), .val (.int kc), .val (.int vc), .val (.int kp), .val (.int vp), .unset, .unset, .unset, .unset, .unset, .unset, .unset, .unset, .unset, .unset, .unset, .unset, .unset, .unset, .unset, .unset, .unset, .unset] [(.int f12)])) := by
    intro f12
    show Rest p.tables e below s _ _ _ (s₁.setTop (mkF m 68 #[.val (.long q0), .second, .val (.long q1), .second, .val (.int p2), .val (.int p3), .val (.int ka), .val (.int va), .val (.int kc), .val (.int vc), .val (.int kp), .val (.int vp), .unset, .unset, .unset, .unset, .unset, .unset, .unset, .unset, .unset, .unset, .unset, .unset, .unset, .unset, .unset, .unset, .unset, .unset] [(.int f12)]))
    refine Rest.via (fun t k => XS.istore X0.here hx rfl (hb hby at_68) rfl (l' := #[.val (.long q0), .second, .val (.long q1), .second, .val (.int p2), .val (.int p3), .val (.int ka), .val (.int va), .val (.int kc), .val (.int vc), .val (.int kp), .val (.int vp), .val (.int f12), .unset, .unset, .unset, .unset, .unset, .unset, .unset, .unset, .unset, .unset, .unset, .unset, .unset, .unset, .unset, .unset, .unset]) rfl k) ?_
    show Rest p.tables e below s _ _ _ (s₁.setTop (mkF m 70 #[.val (.long q0), .second, .val (.long q1), .second, .val (.int p2), .val (.int p3), .val (.int ka), .val (.int va), .val (.int kc), .val (.int vc), .val (.int kp), .val (.int vp), .val (.int f12), .unset, .unset, .unset, .unset, .unset, .unset, .unset, .unset, .unset, .unset, .unset, .unset, .unset, .unset, .unset, .unset, .unset] []))
    have J82 : ∀ (f13 : Int32),  Rest p.tables e below s (Q0 Z q0 q1 p2 p3 de h0 n0) 16 152 (s₁.setTop (mkF m 82 #[.val (.long q0), .second, .val (.long q1), .second, .val (.int p2), .val (.int p3), .val (.int ka), .val (.int va), .val (.int kc), .val (.int vc), .val (.int kp), .val (.int vp), .val (.int f12), .unset, .unset, .unset, .unset, .unset, .unset, .unset, .unset, .unset, .unset, .unset, .unset, .unset, .unset, .unset, .unset, .unset] [(.int f13)])) := by
      intro f13
      show Rest p.tables e below s _ _ _ (s₁.setTop (mkF m 82 #[.val (.long q0), .second, .val (.long q1), .second, .val (.int p2), .val (.int p3), .val (.int ka), .val (.int va), .val (.int kc), .val (.int vc), .val (.int kp), .val (.int vp), .val (.int f12), .unset, .unset, .unset, .unset, .unset, .unset, .unset, .unset, .unset, .unset, .unset, .unset, .unset, .unset, .unset, .unset, .unset] [(.int f13)]))
      refine Rest.via (fun t k => XS.istore X0.here hx rfl (hb hby at_82) rfl (l' := #[.val (.long q0), .second, .val (.long q1), .second, .val (.int p2), .val (.int p3), .val (.int ka), .val (.int va), .val (.int kc), .val (.int vc), .val (.int kp), .val (.int vp), .val (.int f12), .val (.int f13), .unset, .unset, .unset, .unset, .unset, .unset, .unset, .unset, .unset, .unset, .unset, .unset, .unset, .unset, .unset, .unset]) rfl k) ?_
      show Rest p.tables e below s _ _ _ (s₁.setTop (mkF m 84 #[.val (.long q0), .second, .val (.long q1), .second, .val (.int p2), .val (.int p3), .val (.int ka), .val (.int va), .val (.int kc), .val (.int vc), .val (.int kp), .val (.int vp), .val (.int f12), .val (.int f13), .unset, .unset, .unset, .unset, .unset, .unset, .unset, .unset, .unset, .unset, .unset, .unset, .unset, .unset, .unset, .unset] []))
      have J96 : ∀ (f14 : Int32),  Rest p.tables e below s (Q0 Z q0 q1 p2 p3 de h0 n0) 16 152 (s₁.setTop (mkF m 96 #[.val (.long q0), .second, .val (.long q1), .second, .val (.int p2), .val (.int p3), .val (.int ka), .val (.int va), .val (.int kc), .val (.int vc), .val (.int kp), .val (.int vp), .val (.int f12), .val (.int f13), .unset, .unset, .unset, .unset, .unset, .unset, .unset, .unset, .unset, .unset, .unset, .unset, .unset, .unset, .unset, .unset] [(.int f14)])) := by
        intro f14
        show Rest p.tables e below s _ _ _ (s₁.setTop (mkF m 96 #[.val (.long q0), .second, .val (.long q1), .second, .val (.int p2), .val (.int p3), .val (.int ka), .val (.int va), .val (.int kc), .val (.int vc), .val (.int kp), .val (.int vp), .val (.int f12), .val (.int f13), .unset, .unset, .unset, .unset, .unset, .unset, .unset, .unset, .unset, .unset, .unset, .unset, .unset, .unset, .unset, .unset] [(.int f14)]))
        refine Rest.via (fun t k => XS.istore X0.here hx rfl (hb hby at_96) rfl (l' := #[.val (.long q0), .second, .val (.long q1), .second, .val (.int p2), .val (.int p3), .val (.int ka), .val (.int va), .val (.int kc), .val (.int vc), .val (.int kp), .val (.int vp), .val (.int f12), .val (.int f13), .val (.int f14), .unset, .unset, .unset, .unset, .unset, .unset, .unset, .unset, .unset, .unset, .unset, .unset, .unset, .unset, .unset]) rfl k) ?_
        show Rest p.tables e below s _ _ _ (s₁.setTop (mkF m 98 #[.val (.long q0), .second, .val (.long q1), .second, .val (.int p2), .val (.int p3), .val (.int ka), .val (.int va), .val (.int kc), .val (.int vc), .val (.int kp), .val (.int vp), .val (.int f12), .val (.int f13), .val (.int f14), .unset, .unset, .unset, .unset, .unset, .unset, .unset, .unset, .unset, .unset, .unset, .unset, .unset, .unset, .unset] []))
        have J111 : ∀ (f15 : Int32),  Rest p.tables e below s (Q0 Z q0 q1 p2 p3 de h0 n0) 16 152 (s₁.setTop (mkF m 111 #[.val (.long q0), .second, .val (.long q1), .second, .val (.int p2), .val (.int p3), .val (.int ka), .val (.int va), .val (.int kc), .val (.int vc), .val (.int kp), .val (.int vp), .val (.int f12), .val (.int f13), .val (.int f14), .unset, .unset, .unset, .unset, .unset, .unset, .unset, .unset, .unset, .unset, .unset, .unset, .unset, .unset, .unset] [(.int f15)])) := by
          intro f15
          show Rest p.tables e below s _ _ _ (s₁.setTop (mkF m 111 #[.val (.long q0), .second, .val (.long q1), .second, .val (.int p2), .val (.int p3), .val (.int ka), .val (.int va), .val (.int kc), .val (.int vc), .val (.int kp), .val (.int vp), .val (.int f12), .val (.int f13), .val (.int f14), .unset, .unset, .unset, .unset, .unset, .unset, .unset, .unset, .unset, .unset, .unset, .unset, .unset, .unset, .unset] [(.int f15)]))
          refine Rest.via (fun t k => XS.istore X0.here hx rfl (hb hby at_111) rfl (l' := #[.val (.long q0), .second, .val (.long q1), .second, .val (.int p2), .val (.int p3), .val (.int ka), .val (.int va), .val (.int kc), .val (.int vc), .val (.int kp), .val (.int vp), .val (.int f12), .val (.int f13), .val (.int f14), .val (.int f15), .unset, .unset, .unset, .unset, .unset, .unset, .unset, .unset, .unset, .unset, .unset, .unset, .unset, .unset]) rfl k) ?_
          show Rest p.tables e below s _ _ _ (s₁.setTop (mkF m 113 #[.val (.long q0), .second, .val (.long q1), .second, .val (.int p2), .val (.int p3), .val (.int ka), .val (.int va), .val (.int kc), .val (.int vc), .val (.int kp), .val (.int vp), .val (.int f12), .val (.int f13), .val (.int f14), .val (.int f15), .unset, .unset, .unset, .unset, .unset, .unset, .unset, .unset, .unset, .unset, .unset, .unset, .unset, .unset] []))
          have J126 : ∀ (f16 : Int32),  Rest p.tables e below s (Q0 Z q0 q1 p2 p3 de h0 n0) 16 152 (s₁.setTop (mkF m 126 #[.val (.long q0), .second, .val (.long q1), .second, .val (.int p2), .val (.int p3), .val (.int ka), .val (.int va), .val (.int kc), .val (.int vc), .val (.int kp), .val (.int vp), .val (.int f12), .val (.int f13), .val (.int f14), .val (.int f15), .unset, .unset, .unset, .unset, .unset, .unset, .unset, .unset, .unset, .unset, .unset, .unset, .unset, .unset] [(.int f16)])) := by
            intro f16
            show Rest p.tables e below s _ _ _ (s₁.setTop (mkF m 126 #[.val (.long q0), .second, .val (.long q1), .second, .val (.int p2), .val (.int p3), .val (.int ka), .val (.int va), .val (.int kc), .val (.int vc), .val (.int kp), .val (.int vp), .val (.int f12), .val (.int f13), .val (.int f14), .val (.int f15), .unset, .unset, .unset, .unset, .unset, .unset, .unset, .unset, .unset, .unset, .unset, .unset, .unset, .unset] [(.int f16)]))
            refine Rest.via (fun t k => XS.istore X0.here hx rfl (hb hby at_126) rfl (l' := #[.val (.long q0), .second, .val (.long q1), .second, .val (.int p2), .val (.int p3), .val (.int ka), .val (.int va), .val (.int kc), .val (.int vc), .val (.int kp), .val (.int vp), .val (.int f12), .val (.int f13), .val (.int f14), .val (.int f15), .val (.int f16), .unset, .unset, .unset, .unset, .unset, .unset, .unset, .unset, .unset, .unset, .unset, .unset, .unset]) rfl k) ?_
            show Rest p.tables e below s _ _ _ (s₁.setTop (mkF m 128 #[.val (.long q0), .second, .val (.long q1), .second, .val (.int p2), .val (.int p3), .val (.int ka), .val (.int va), .val (.int kc), .val (.int vc), .val (.int kp), .val (.int vp), .val (.int f12), .val (.int f13), .val (.int f14), .val (.int f15), .val (.int f16), .unset, .unset, .unset, .unset, .unset, .unset, .unset, .unset, .unset, .unset, .unset, .unset, .unset] []))
            refine Rest.via (fun t k => XS.iload X0.here hx rfl (hb hby at_128) rfl k) ?_
            show Rest p.tables e below s _ _ _ (s₁.setTop (mkF m 130 #[.val (.long q0), .second, .val (.long q1), .second, .val (.int p2), .val (.int p3), .val (.int ka), .val (.int va), .val (.int kc), .val (.int vc), .val (.int kp), .val (.int vp), .val (.int f12), .val (.int f13), .val (.int f14), .val (.int f15), .val (.int f16), .unset, .unset, .unset, .unset, .unset, .unset, .unset, .unset, .unset, .unset, .unset, .unset, .unset] [(.int p3)]))
            refine Rest.via (fun t k => XS.iconst X0.here hx rfl (hb hby at_130) k) ?_
            show Rest p.tables e below s _ _ _ (s₁.setTop (mkF m 131 #[.val (.long q0), .second, .val (.long q1), .second, .val (.int p2), .val (.int p3), .val (.int ka), .val (.int va), .val (.int kc), .val (.int vc), .val (.int kp), .val (.int vp), .val (.int f12), .val (.int f13), .val (.int f14), .val (.int f15), .val (.int f16), .unset, .unset, .unset, .unset, .unset, .unset, .unset, .unset, .unset, .unset, .unset, .unset, .unset] [(.int (5 : Int32)), (.int p3)]))
            refine Rest.via (fun t k => XS.iushr X0.here hx rfl (hb hby at_131) rfl k) ?_
            show Rest p.tables e below s _ _ _ (s₁.setTop (mkF m 132 #[.val (.long q0), .second, .val (.long q1), .second, .val (.int p2), .val (.int p3), .val (.int ka), .val (.int va), .val (.int kc), .val (.int vc), .val (.int kp), .val (.int vp), .val (.int f12), .val (.int f13), .val (.int f14), .val (.int f15), .val (.int f16), .unset, .unset, .unset, .unset, .unset, .unset, .unset, .unset, .unset, .unset, .unset, .unset, .unset] [(.int ((p3.toUInt32 >>> ((5 : Int32) &&& 31).toUInt32).toInt32))]))
            refine Rest.via (fun t k => XS.iconst X0.here hx rfl (hb hby at_132) k) ?_
            show Rest p.tables e below s _ _ _ (s₁.setTop (mkF m 133 #[.val (.long q0), .second, .val (.long q1), .second, .val (.int p2), .val (.int p3), .val (.int ka), .val (.int va), .val (.int kc), .val (.int vc), .val (.int kp), .val (.int vp), .val (.int f12), .val (.int f13), .val (.int f14), .val (.int f15), .val (.int f16), .unset, .unset, .unset, .unset, .unset, .unset, .unset, .unset, .unset, .unset, .unset, .unset, .unset] [(.int (3 : Int32)), (.int ((p3.toUInt32 >>> ((5 : Int32) &&& 31).toUInt32).toInt32))]))
            refine Rest.via (fun t k => XS.iand X0.here hx rfl (hb hby at_133) rfl k) ?_
            show Rest p.tables e below s _ _ _ (s₁.setTop (mkF m 134 #[.val (.long q0), .second, .val (.long q1), .second, .val (.int p2), .val (.int p3), .val (.int ka), .val (.int va), .val (.int kc), .val (.int vc), .val (.int kp), .val (.int vp), .val (.int f12), .val (.int f13), .val (.int f14), .val (.int f15), .val (.int f16), .unset, .unset, .unset, .unset, .unset, .unset, .unset, .unset, .unset, .unset, .unset, .unset, .unset] [(.int (((p3.toUInt32 >>> ((5 : Int32) &&& 31).toUInt32).toInt32) &&& (3 : Int32)))]))
            refine Rest.via (fun t k => XS.istore X0.here hx rfl (hb hby at_134) rfl (l' := #[.val (.long q0), .second, .val (.long q1), .second, .val (.int p2), .val (.int p3), .val (.int ka), .val (.int va), .val (.int kc), .val (.int vc), .val (.int kp), .val (.int vp), .val (.int f12), .val (.int f13), .val (.int f14), .val (.int f15), .val (.int f16), .val (.int (((p3.toUInt32 >>> ((5 : Int32) &&& 31).toUInt32).toInt32) &&& (3 : Int32))), .unset, .unset, .unset, .unset, .unset, .unset, .unset, .unset, .unset, .unset, .unset, .unset]) rfl k) ?_
            show Rest p.tables e below s _ _ _ (s₁.setTop (mkF m 136 #[.val (.long q0), .second, .val (.long q1), .second, .val (.int p2), .val (.int p3), .val (.int ka), .val (.int va), .val (.int kc), .val (.int vc), .val (.int kp), .val (.int vp), .val (.int f12), .val (.int f13), .val (.int f14), .val (.int f15), .val (.int f16), .val (.int (((p3.toUInt32 >>> ((5 : Int32) &&& 31).toUInt32).toInt32) &&& (3 : Int32))), .unset, .unset, .unset, .unset, .unset, .unset, .unset, .unset, .unset, .unset, .unset, .unset] []))
            obtain ⟨nn, hv_nn⟩ : ∃ z : Int32, z = (((p3.toUInt32 >>> ((5 : Int32) &&& 31).toUInt32).toInt32) &&& (3 : Int32)) := ⟨_, rfl⟩
            rw [← hv_nn]
            show Rest p.tables e below s _ _ _ (s₁.setTop (mkF m 136 #[.val (.long q0), .second, .val (.long q1), .second, .val (.int p2), .val (.int p3), .val (.int ka), .val (.int va), .val (.int kc), .val (.int vc), .val (.int kp), .val (.int vp), .val (.int f12), .val (.int f13), .val (.int f14), .val (.int f15), .val (.int f16), .val (.int nn), .unset, .unset, .unset, .unset, .unset, .unset, .unset, .unset, .unset, .unset, .unset, .unset] []))
            have J150 : ∀ (f18 : Int32),  Rest p.tables e below s (Q0 Z q0 q1 p2 p3 de h0 n0) 16 152 (s₁.setTop (mkF m 150 #[.val (.long q0), .second, .val (.long q1), .second, .val (.int p2), .val (.int p3), .val (.int ka), .val (.int va), .val (.int kc), .val (.int vc), .val (.int kp), .val (.int vp), .val (.int f12), .val (.int f13), .val (.int f14), .val (.int f15), .val (.int f16), .val (.int nn), .unset, .unset, .unset, .unset, .unset, .unset, .unset, .unset, .unset, .unset, .unset, .unset] [(.int f18)])) := by
              intro f18
              show Rest p.tables e below s _ _ _ (s₁.setTop (mkF m 150 #[.val (.long q0), .second, .val (.long q1), .second, .val (.int p2), .val (.int p3), .val (.int ka), .val (.int va), .val (.int kc), .val (.int vc), .val (.int kp), .val (.int vp), .val (.int f12), .val (.int f13), .val (.int f14), .val (.int f15), .val (.int f16), .val (.int nn), .unset, .unset, .unset, .unset, .unset, .unset, .unset, .unset, .unset, .unset, .unset, .unset] [(.int f18)]))
              refine Rest.via (fun t k => XS.istore X0.here hx rfl (hb hby at_150) rfl (l' := #[.val (.long q0), .second, .val (.long q1), .second, .val (.int p2), .val (.int p3), .val (.int ka), .val (.int va), .val (.int kc), .val (.int vc), .val (.int kp), .val (.int vp), .val (.int f12), .val (.int f13), .val (.int f14), .val (.int f15), .val (.int f16), .val (.int nn), .val (.int f18), .unset, .unset, .unset, .unset, .unset, .unset, .unset, .unset, .unset, .unset, .unset]) rfl k) ?_
              show Rest p.tables e below s _ _ _ (s₁.setTop (mkF m 152 #[.val (.long q0), .second, .val (.long q1), .second, .val (.int p2), .val (.int p3), .val (.int ka), .val (.int va), .val (.int kc), .val (.int vc), .val (.int kp), .val (.int vp), .val (.int f12), .val (.int f13), .val (.int f14), .val (.int f15), .val (.int f16), .val (.int nn), .val (.int f18), .unset, .unset, .unset, .unset, .unset, .unset, .unset, .unset, .unset, .unset, .unset] []))
              have J166 : ∀ (f19 : Int32),  Rest p.tables e below s (Q0 Z q0 q1 p2 p3 de h0 n0) 16 152 (s₁.setTop (mkF m 166 #[.val (.long q0), .second, .val (.long q1), .second, .val (.int p2), .val (.int p3), .val (.int ka), .val (.int va), .val (.int kc), .val (.int vc), .val (.int kp), .val (.int vp), .val (.int f12), .val (.int f13), .val (.int f14), .val (.int f15), .val (.int f16), .val (.int nn), .val (.int f18), .unset, .unset, .unset, .unset, .unset, .unset, .unset, .unset, .unset, .unset, .unset] [(.int f19)])) := by
                intro f19
                show Rest p.tables e below s _ _ _ (s₁.setTop (mkF m 166 #[.val (.long q0), .second, .val (.long q1), .second, .val (.int p2), .val (.int p3), .val (.int ka), .val (.int va), .val (.int kc), .val (.int vc), .val (.int kp), .val (.int vp), .val (.int f12), .val (.int f13), .val (.int f14), .val (.int f15), .val (.int f16), .val (.int nn), .val (.int f18), .unset, .unset, .unset, .unset, .unset, .unset, .unset, .unset, .unset, .unset, .unset] [(.int f19)]))
                refine Rest.via (fun t k => XS.istore X0.here hx rfl (hb hby at_166) rfl (l' := #[.val (.long q0), .second, .val (.long q1), .second, .val (.int p2), .val (.int p3), .val (.int ka), .val (.int va), .val (.int kc), .val (.int vc), .val (.int kp), .val (.int vp), .val (.int f12), .val (.int f13), .val (.int f14), .val (.int f15), .val (.int f16), .val (.int nn), .val (.int f18), .val (.int f19), .unset, .unset, .unset, .unset, .unset, .unset, .unset, .unset, .unset, .unset]) rfl k) ?_
                show Rest p.tables e below s _ _ _ (s₁.setTop (mkF m 168 #[.val (.long q0), .second, .val (.long q1), .second, .val (.int p2), .val (.int p3), .val (.int ka), .val (.int va), .val (.int kc), .val (.int vc), .val (.int kp), .val (.int vp), .val (.int f12), .val (.int f13), .val (.int f14), .val (.int f15), .val (.int f16), .val (.int nn), .val (.int f18), .val (.int f19), .unset, .unset, .unset, .unset, .unset, .unset, .unset, .unset, .unset, .unset] []))
                refine Rest.via (fun t k => XS.iload X0.here hx rfl (hb hby at_168) rfl k) ?_
                show Rest p.tables e below s _ _ _ (s₁.setTop (mkF m 170 #[.val (.long q0), .second, .val (.long q1), .second, .val (.int p2), .val (.int p3), .val (.int ka), .val (.int va), .val (.int kc), .val (.int vc), .val (.int kp), .val (.int vp), .val (.int f12), .val (.int f13), .val (.int f14), .val (.int f15), .val (.int f16), .val (.int nn), .val (.int f18), .val (.int f19), .unset, .unset, .unset, .unset, .unset, .unset, .unset, .unset, .unset, .unset] [(.int ka)]))
                obtain ⟨T1, h1, k1, X1, e1, E1, A1, Ex1, st1⟩ := newPE X0 hx hZ (hw _ (List.mem_of_getElem? (i := 0) rfl)) eh0 (g := (mkF m 170 #[.val (.long q0), .second, .val (.long q1), .second, .val (.int p2), .val (.int p3), .val (.int ka), .val (.int va), .val (.int kc), .val (.int vc), .val (.int kp), .val (.int vp), .val (.int f12), .val (.int f13), .val (.int f14), .val (.int f15), .val (.int f16), .val (.int nn), .val (.int f18), .val (.int f19), .unset, .unset, .unset, .unset, .unset, .unset, .unset, .unset, .unset, .unset] [(.int ka)])) rfl (hb hby at_170) rfl hka.1 (cap := 15) hka.2 (by decide) (by decide) (by decide) (ad := "[B") rfl
                obtain ⟨b1, gq1⟩ : ∃ z, z = h0.size := ⟨_, rfl⟩
                rw [← gq1] at A1 Ex1 st1
                have sz_b1 : h0.size ≤ b1 := Nat.le_trans (Keep.refl h0 []).1 (Nat.le_of_eq gq1.symm)
                have g_b1 : n0 ≤ b1 := Nat.le_trans Z0 sz_b1
                have K1 : Keep h0 h1 [] := (Keep.refl h0 []).ext E1
                have V_b1 : own_BA Z h1 b1 ka := ⟨Ex1, _, A1, sz_new _ _ _, hka.1⟩
                refine Rest.via (fun t k => st1 t k) ?_
                show Rest p.tables e below s _ _ _ (T1.setTop (mkF m 172 #[.val (.long q0), .second, .val (.long q1), .second, .val (.int p2), .val (.int p3), .val (.int ka), .val (.int va), .val (.int kc), .val (.int vc), .val (.int kp), .val (.int vp), .val (.int f12), .val (.int f13), .val (.int f14), .val (.int f15), .val (.int f16), .val (.int nn), .val (.int f18), .val (.int f19), .unset, .unset, .unset, .unset, .unset, .unset, .unset, .unset, .unset, .unset] [(.ref b1)]))
                refine Rest.via (fun t k => XS.astore X1.here hx rfl (hb hby at_172) rfl rfl (l' := #[.val (.long q0), .second, .val (.long q1), .second, .val (.int p2), .val (.int p3), .val (.int ka), .val (.int va), .val (.int kc), .val (.int vc), .val (.int kp), .val (.int vp), .val (.int f12), .val (.int f13), .val (.int f14), .val (.int f15), .val (.int f16), .val (.int nn), .val (.int f18), .val (.int f19), .val (.ref b1), .unset, .unset, .unset, .unset, .unset, .unset, .unset, .unset, .unset]) rfl k) ?_
                show Rest p.tables e below s _ _ _ (T1.setTop (mkF m 174 #[.val (.long q0), .second, .val (.long q1), .second, .val (.int p2), .val (.int p3), .val (.int ka), .val (.int va), .val (.int kc), .val (.int vc), .val (.int kp), .val (.int vp), .val (.int f12), .val (.int f13), .val (.int f14), .val (.int f15), .val (.int f16), .val (.int nn), .val (.int f18), .val (.int f19), .val (.ref b1), .unset, .unset, .unset, .unset, .unset, .unset, .unset, .unset, .unset] []))
                refine Rest.via (fun t k => XS.iload X1.here hx rfl (hb hby at_174) rfl k) ?_
                show Rest p.tables e below s _ _ _ (T1.setTop (mkF m 176 #[.val (.long q0), .second, .val (.long q1), .second, .val (.int p2), .val (.int p3), .val (.int ka), .val (.int va), .val (.int kc), .val (.int vc), .val (.int kp), .val (.int vp), .val (.int f12), .val (.int f13), .val (.int f14), .val (.int f15), .val (.int f16), .val (.int nn), .val (.int f18), .val (.int f19), .val (.ref b1), .unset, .unset, .unset, .unset, .unset, .unset, .unset, .unset, .unset] [(.int va)]))
                obtain ⟨T2, h2, k2, X2, e2, E2, A2, Ex2, st2⟩ := newPE X1 hx hZ (hw _ (List.mem_of_getElem? (i := 0) rfl)) e1 (g := (mkF m 176 #[.val (.long q0), .second, .val (.long q1), .second, .val (.int p2), .val (.int p3), .val (.int ka), .val (.int va), .val (.int kc), .val (.int vc), .val (.int kp), .val (.int vp), .val (.int f12), .val (.int f13), .val (.int f14), .val (.int f15), .val (.int f16), .val (.int nn), .val (.int f18), .val (.int f19), .val (.ref b1), .unset, .unset, .unset, .unset, .unset, .unset, .unset, .unset, .unset] [(.int va)])) rfl (hb hby at_176) rfl hva.1 (cap := 15) hva.2 (by decide) (by decide) (by decide) (ad := "[B") rfl
                obtain ⟨b2, gq2⟩ : ∃ z, z = h1.size := ⟨_, rfl⟩
                rw [← gq2] at A2 Ex2 st2
                have sz_b2 : h0.size ≤ b2 := Nat.le_trans K1.1 (Nat.le_of_eq gq2.symm)
                have g_b2 : n0 ≤ b2 := Nat.le_trans Z0 sz_b2
                have K2 : Keep h0 h2 [] := K1.ext E2
                have V_b2 : own_BA Z h2 b2 va := ⟨Ex2, _, A2, sz_new _ _ _, hva.1⟩
                refine Rest.via (fun t k => st2 t k) ?_
                show Rest p.tables e below s _ _ _ (T2.setTop (mkF m 178 #[.val (.long q0), .second, .val (.long q1), .second, .val (.int p2), .val (.int p3), .val (.int ka), .val (.int va), .val (.int kc), .val (.int vc), .val (.int kp), .val (.int vp), .val (.int f12), .val (.int f13), .val (.int f14), .val (.int f15), .val (.int f16), .val (.int nn), .val (.int f18), .val (.int f19), .val (.ref b1), .unset, .unset, .unset, .unset, .unset, .unset, .unset, .unset, .unset] [(.ref b2)]))
                refine Rest.via (fun t k => XS.astore X2.here hx rfl (hb hby at_178) rfl rfl (l' := #[.val (.long q0), .second, .val (.long q1), .second, .val (.int p2), .val (.int p3), .val (.int ka), .val (.int va), .val (.int kc), .val (.int vc), .val (.int kp), .val (.int vp), .val (.int f12), .val (.int f13), .val (.int f14), .val (.int f15), .val (.int f16), .val (.int nn), .val (.int f18), .val (.int f19), .val (.ref b1), .val (.ref b2), .unset, .unset, .unset, .unset, .unset, .unset, .unset, .unset]) rfl k) ?_
                show Rest p.tables e below s _ _ _ (T2.setTop (mkF m 180 #[.val (.long q0), .second, .val (.long q1), .second, .val (.int p2), .val (.int p3), .val (.int ka), .val (.int va), .val (.int kc), .val (.int vc), .val (.int kp), .val (.int vp), .val (.int f12), .val (.int f13), .val (.int f14), .val (.int f15), .val (.int f16), .val (.int nn), .val (.int f18), .val (.int f19), .val (.ref b1), .val (.ref b2), .unset, .unset, .unset, .unset, .unset, .unset, .unset, .unset] []))
                refine Rest.via (fun t k => XS.iload X2.here hx rfl (hb hby at_180) rfl k) ?_
                show Rest p.tables e below s _ _ _ (T2.setTop (mkF m 182 #[.val (.long q0), .second, .val (.long q1), .second, .val (.int p2), .val (.int p3), .val (.int ka), .val (.int va), .val (.int kc), .val (.int vc), .val (.int kp), .val (.int vp), .val (.int f12), .val (.int f13), .val (.int f14), .val (.int f15), .val (.int f16), .val (.int nn), .val (.int f18), .val (.int f19), .val (.ref b1), .val (.ref b2), .unset, .unset, .unset, .unset, .unset, .unset, .unset, .unset] [(.int kc)]))
                obtain ⟨T3, h3, k3, X3, e3, E3, A3, Ex3, st3⟩ := newPE X2 hx hZ (hw _ (List.mem_of_getElem? (i := 0) rfl)) e2 (g := (mkF m 182 #[.val (.long q0), .second, .val (.long q1), .second, .val (.int p2), .val (.int p3), .val (.int ka), .val (.int va), .val (.int kc), .val (.int vc), .val (.int kp), .val (.int vp), .val (.int f12), .val (.int f13), .val (.int f14), .val (.int f15), .val (.int f16), .val (.int nn), .val (.int f18), .val (.int f19), .val (.ref b1), .val (.ref b2), .unset, .unset, .unset, .unset, .unset, .unset, .unset, .unset] [(.int kc)])) rfl (hb hby at_182) rfl hkc.1 (cap := 15) hkc.2 (by decide) (by decide) (by decide) (ad := "[B") rfl
                obtain ⟨b3, gq3⟩ : ∃ z, z = h2.size := ⟨_, rfl⟩
                rw [← gq3] at A3 Ex3 st3
                have sz_b3 : h0.size ≤ b3 := Nat.le_trans K2.1 (Nat.le_of_eq gq3.symm)
                have g_b3 : n0 ≤ b3 := Nat.le_trans Z0 sz_b3
                have K3 : Keep h0 h3 [] := K2.ext E3
                have V_b3 : own_BA Z h3 b3 kc := ⟨Ex3, _, A3, sz_new _ _ _, hkc.1⟩
                refine Rest.via (fun t k => st3 t k) ?_
                show Rest p.tables e below s _ _ _ (T3.setTop (mkF m 184 #[.val (.long q0), .second, .val (.long q1), .second, .val (.int p2), .val (.int p3), .val (.int ka), .val (.int va), .val (.int kc), .val (.int vc), .val (.int kp), .val (.int vp), .val (.int f12), .val (.int f13), .val (.int f14), .val (.int f15), .val (.int f16), .val (.int nn), .val (.int f18), .val (.int f19), .val (.ref b1), .val (.ref b2), .unset, .unset, .unset, .unset, .unset, .unset, .unset, .unset] [(.ref b3)]))
                refine Rest.via (fun t k => XS.astore X3.here hx rfl (hb hby at_184) rfl rfl (l' := #[.val (.long q0), .second, .val (.long q1), .second, .val (.int p2), .val (.int p3), .val (.int ka), .val (.int va), .val (.int kc), .val (.int vc), .val (.int kp), .val (.int vp), .val (.int f12), .val (.int f13), .val (.int f14), .val (.int f15), .val (.int f16), .val (.int nn), .val (.int f18), .val (.int f19), .val (.ref b1), .val (.ref b2), .val (.ref b3), .unset, .unset, .unset, .unset, .unset, .unset, .unset]) rfl k) ?_
                show Rest p.tables e below s _ _ _ (T3.setTop (mkF m 186 #[.val (.long q0), .second, .val (.long q1), .second, .val (.int p2), .val (.int p3), .val (.int ka), .val (.int va), .val (.int kc), .val (.int vc), .val (.int kp), .val (.int vp), .val (.int f12), .val (.int f13), .val (.int f14), .val (.int f15), .val (.int f16), .val (.int nn), .val (.int f18), .val (.int f19), .val (.ref b1), .val (.ref b2), .val (.ref b3), .unset, .unset, .unset, .unset, .unset, .unset, .unset] []))
                refine Rest.via (fun t k => XS.iload X3.here hx rfl (hb hby at_186) rfl k) ?_
                show Rest p.tables e below s _ _ _ (T3.setTop (mkF m 188 #[.val (.long q0), .second, .val (.long q1), .second, .val (.int p2), .val (.int p3), .val (.int ka), .val (.int va), .val (.int kc), .val (.int vc), .val (.int kp), .val (.int vp), .val (.int f12), .val (.int f13), .val (.int f14), .val (.int f15), .val (.int f16), .val (.int nn), .val (.int f18), .val (.int f19), .val (.ref b1), .val (.ref b2), .val (.ref b3), .unset, .unset, .unset, .unset, .unset, .unset, .unset] [(.int vc)]))
                obtain ⟨T4, h4, k4, X4, e4, E4, A4, Ex4, st4⟩ := newPE X3 hx hZ (hw _ (List.mem_of_getElem? (i := 0) rfl)) e3 (g := (mkF m 188 #[.val (.long q0), .second, .val (.long q1), .second, .val (.int p2), .val (.int p3), .val (.int ka), .val (.int va), .val (.int kc), .val (.int vc), .val (.int kp), .val (.int vp), .val (.int f12), .val (.int f13), .val (.int f14), .val (.int f15), .val (.int f16), .val (.int nn), .val (.int f18), .val (.int f19), .val (.ref b1), .val (.ref b2), .val (.ref b3), .unset, .unset, .unset, .unset, .unset, .unset, .unset] [(.int vc)])) rfl (hb hby at_188) rfl hvc.1 (cap := 15) hvc.2 (by decide) (by decide) (by decide) (ad := "[B") rfl
                obtain ⟨b4, gq4⟩ : ∃ z, z = h3.size := ⟨_, rfl⟩
                rw [← gq4] at A4 Ex4 st4
                have sz_b4 : h0.size ≤ b4 := Nat.le_trans K3.1 (Nat.le_of_eq gq4.symm)
                have g_b4 : n0 ≤ b4 := Nat.le_trans Z0 sz_b4
                have K4 : Keep h0 h4 [] := K3.ext E4
                have V_b4 : own_BA Z h4 b4 vc := ⟨Ex4, _, A4, sz_new _ _ _, hvc.1⟩
                refine Rest.via (fun t k => st4 t k) ?_
                show Rest p.tables e below s _ _ _ (T4.setTop (mkF m 190 #[.val (.long q0), .second, .val (.long q1), .second, .val (.int p2), .val (.int p3), .val (.int ka), .val (.int va), .val (.int kc), .val (.int vc), .val (.int kp), .val (.int vp), .val (.int f12), .val (.int f13), .val (.int f14), .val (.int f15), .val (.int f16), .val (.int nn), .val (.int f18), .val (.int f19), .val (.ref b1), .val (.ref b2), .val (.ref b3), .unset, .unset, .unset, .unset, .unset, .unset, .unset] [(.ref b4)]))
                refine Rest.via (fun t k => XS.astore X4.here hx rfl (hb hby at_190) rfl rfl (l' := #[.val (.long q0), .second, .val (.long q1), .second, .val (.int p2), .val (.int p3), .val (.int ka), .val (.int va), .val (.int kc), .val (.int vc), .val (.int kp), .val (.int vp), .val (.int f12), .val (.int f13), .val (.int f14), .val (.int f15), .val (.int f16), .val (.int nn), .val (.int f18), .val (.int f19), .val (.ref b1), .val (.ref b2), .val (.ref b3), .val (.ref b4), .unset, .unset, .unset, .unset, .unset, .unset]) rfl k) ?_
                show Rest p.tables e below s _ _ _ (T4.setTop (mkF m 192 #[.val (.long q0), .second, .val (.long q1), .second, .val (.int p2), .val (.int p3), .val (.int ka), .val (.int va), .val (.int kc), .val (.int vc), .val (.int kp), .val (.int vp), .val (.int f12), .val (.int f13), .val (.int f14), .val (.int f15), .val (.int f16), .val (.int nn), .val (.int f18), .val (.int f19), .val (.ref b1), .val (.ref b2), .val (.ref b3), .val (.ref b4), .unset, .unset, .unset, .unset, .unset, .unset] []))
                refine Rest.via (fun t k => XS.iload X4.here hx rfl (hb hby at_192) rfl k) ?_
                show Rest p.tables e below s _ _ _ (T4.setTop (mkF m 194 #[.val (.long q0), .second, .val (.long q1), .second, .val (.int p2), .val (.int p3), .val (.int ka), .val (.int va), .val (.int kc), .val (.int vc), .val (.int kp), .val (.int vp), .val (.int f12), .val (.int f13), .val (.int f14), .val (.int f15), .val (.int f16), .val (.int nn), .val (.int f18), .val (.int f19), .val (.ref b1), .val (.ref b2), .val (.ref b3), .val (.ref b4), .unset, .unset, .unset, .unset, .unset, .unset] [(.int kp)]))
                obtain ⟨T5, h5, k5, X5, e5, E5, A5, Ex5, st5⟩ := newPE X4 hx hZ (hw _ (List.mem_of_getElem? (i := 0) rfl)) e4 (g := (mkF m 194 #[.val (.long q0), .second, .val (.long q1), .second, .val (.int p2), .val (.int p3), .val (.int ka), .val (.int va), .val (.int kc), .val (.int vc), .val (.int kp), .val (.int vp), .val (.int f12), .val (.int f13), .val (.int f14), .val (.int f15), .val (.int f16), .val (.int nn), .val (.int f18), .val (.int f19), .val (.ref b1), .val (.ref b2), .val (.ref b3), .val (.ref b4), .unset, .unset, .unset, .unset, .unset, .unset] [(.int kp)])) rfl (hb hby at_194) rfl hkp.1 (cap := 15) hkp.2 (by decide) (by decide) (by decide) (ad := "[B") rfl
                obtain ⟨b5, gq5⟩ : ∃ z, z = h4.size := ⟨_, rfl⟩
                rw [← gq5] at A5 Ex5 st5
                have sz_b5 : h0.size ≤ b5 := Nat.le_trans K4.1 (Nat.le_of_eq gq5.symm)
                have g_b5 : n0 ≤ b5 := Nat.le_trans Z0 sz_b5
                have K5 : Keep h0 h5 [] := K4.ext E5
                have V_b5 : own_BA Z h5 b5 kp := ⟨Ex5, _, A5, sz_new _ _ _, hkp.1⟩
                refine Rest.via (fun t k => st5 t k) ?_
                show Rest p.tables e below s _ _ _ (T5.setTop (mkF m 196 #[.val (.long q0), .second, .val (.long q1), .second, .val (.int p2), .val (.int p3), .val (.int ka), .val (.int va), .val (.int kc), .val (.int vc), .val (.int kp), .val (.int vp), .val (.int f12), .val (.int f13), .val (.int f14), .val (.int f15), .val (.int f16), .val (.int nn), .val (.int f18), .val (.int f19), .val (.ref b1), .val (.ref b2), .val (.ref b3), .val (.ref b4), .unset, .unset, .unset, .unset, .unset, .unset] [(.ref b5)]))
                refine Rest.via (fun t k => XS.astore X5.here hx rfl (hb hby at_196) rfl rfl (l' := #[.val (.long q0), .second, .val (.long q1), .second, .val (.int p2), .val (.int p3), .val (.int ka), .val (.int va), .val (.int kc), .val (.int vc), .val (.int kp), .val (.int vp), .val (.int f12), .val (.int f13), .val (.int f14), .val (.int f15), .val (.int f16), .val (.int nn), .val (.int f18), .val (.int f19), .val (.ref b1), .val (.ref b2), .val (.ref b3), .val (.ref b4), .val (.ref b5), .unset, .unset, .unset, .unset, .unset]) rfl k) ?_
                show Rest p.tables e below s _ _ _ (T5.setTop (mkF m 198 #[.val (.long q0), .second, .val (.long q1), .second, .val (.int p2), .val (.int p3), .val (.int ka), .val (.int va), .val (.int kc), .val (.int vc), .val (.int kp), .val (.int vp), .val (.int f12), .val (.int f13), .val (.int f14), .val (.int f15), .val (.int f16), .val (.int nn), .val (.int f18), .val (.int f19), .val (.ref b1), .val (.ref b2), .val (.ref b3), .val (.ref b4), .val (.ref b5), .unset, .unset, .unset, .unset, .unset] []))
                refine Rest.via (fun t k => XS.iload X5.here hx rfl (hb hby at_198) rfl k) ?_
                show Rest p.tables e below s _ _ _ (T5.setTop (mkF m 200 #[.val (.long q0), .second, .val (.long q1), .second, .val (.int p2), .val (.int p3), .val (.int ka), .val (.int va), .val (.int kc), .val (.int vc), .val (.int kp), .val (.int vp), .val (.int f12), .val (.int f13), .val (.int f14), .val (.int f15), .val (.int f16), .val (.int nn), .val (.int f18), .val (.int f19), .val (.ref b1), .val (.ref b2), .val (.ref b3), .val (.ref b4), .val (.ref b5), .unset, .unset, .unset, .unset, .unset] [(.int vp)]))
                obtain ⟨T6, h6, k6, X6, e6, E6, A6, Ex6, st6⟩ := newPE X5 hx hZ (hw _ (List.mem_of_getElem? (i := 0) rfl)) e5 (g := (mkF m 200 #[.val (.long q0), .second, .val (.long q1), .second, .val (.int p2), .val (.int p3), .val (.int ka), .val (.int va), .val (.int kc), .val (.int vc), .val (.int kp), .val (.int vp), .val (.int f12), .val (.int f13), .val (.int f14), .val (.int f15), .val (.int f16), .val (.int nn), .val (.int f18), .val (.int f19), .val (.ref b1), .val (.ref b2), .val (.ref b3), .val (.ref b4), .val (.ref b5), .unset, .unset, .unset, .unset, .unset] [(.int vp)])) rfl (hb hby at_200) rfl hvp.1 (cap := 15) hvp.2 (by decide) (by decide) (by decide) (ad := "[B") rfl
                obtain ⟨b6, gq6⟩ : ∃ z, z = h5.size := ⟨_, rfl⟩
                rw [← gq6] at A6 Ex6 st6
                have sz_b6 : h0.size ≤ b6 := Nat.le_trans K5.1 (Nat.le_of_eq gq6.symm)
                have g_b6 : n0 ≤ b6 := Nat.le_trans Z0 sz_b6
                have K6 : Keep h0 h6 [] := K5.ext E6
                have V_b6 : own_BA Z h6 b6 vp := ⟨Ex6, _, A6, sz_new _ _ _, hvp.1⟩
                refine Rest.via (fun t k => st6 t k) ?_
                show Rest p.tables e below s _ _ _ (T6.setTop (mkF m 202 #[.val (.long q0), .second, .val (.long q1), .second, .val (.int p2), .val (.int p3), .val (.int ka), .val (.int va), .val (.int kc), .val (.int vc), .val (.int kp), .val (.int vp), .val (.int f12), .val (.int f13), .val (.int f14), .val (.int f15), .val (.int f16), .val (.int nn), .val (.int f18), .val (.int f19), .val (.ref b1), .val (.ref b2), .val (.ref b3), .val (.ref b4), .val (.ref b5), .unset, .unset, .unset, .unset, .unset] [(.ref b6)]))
                refine Rest.via (fun t k => XS.astore X6.here hx rfl (hb hby at_202) rfl rfl (l' := #[.val (.long q0), .second, .val (.long q1), .second, .val (.int p2), .val (.int p3), .val (.int ka), .val (.int va), .val (.int kc), .val (.int vc), .val (.int kp), .val (.int vp), .val (.int f12), .val (.int f13), .val (.int f14), .val (.int f15), .val (.int f16), .val (.int nn), .val (.int f18), .val (.int f19), .val (.ref b1), .val (.ref b2), .val (.ref b3), .val (.ref b4), .val (.ref b5), .val (.ref b6), .unset, .unset, .unset, .unset]) rfl k) ?_
                show Rest p.tables e below s _ _ _ (T6.setTop (mkF m 204 #[.val (.long q0), .second, .val (.long q1), .second, .val (.int p2), .val (.int p3), .val (.int ka), .val (.int va), .val (.int kc), .val (.int vc), .val (.int kp), .val (.int vp), .val (.int f12), .val (.int f13), .val (.int f14), .val (.int f15), .val (.int f16), .val (.int nn), .val (.int f18), .val (.int f19), .val (.ref b1), .val (.ref b2), .val (.ref b3), .val (.ref b4), .val (.ref b5), .val (.ref b6), .unset, .unset, .unset, .unset] []))
                obtain ⟨T7, h7, X7, e7, E7, A7, D7, -, st7⟩ := newO X6 hx hZ hown (hw _ (List.mem_of_getElem? (i := 1) rfl)) (hw _ (List.mem_of_getElem? (i := 2) rfl)) (hw _ (List.mem_of_getElem? (i := 3) rfl)) e6 (g := (mkF m 204 #[.val (.long q0), .second, .val (.long q1), .second, .val (.int p2), .val (.int p3), .val (.int ka), .val (.int va), .val (.int kc), .val (.int vc), .val (.int kp), .val (.int vp), .val (.int f12), .val (.int f13), .val (.int f14), .val (.int f15), .val (.int f16), .val (.int nn), .val (.int f18), .val (.int f19), .val (.ref b1), .val (.ref b2), .val (.ref b3), .val (.ref b4), .val (.ref b5), .val (.ref b6), .unset, .unset, .unset, .unset] [])) rfl (hb hby at_204) (by decide) (by decide)
                obtain ⟨b7, gq7⟩ : ∃ z, z = h6.size := ⟨_, rfl⟩
                rw [← gq7] at A7 D7 st7
                have sz_b7 : h0.size ≤ b7 := Nat.le_trans K6.1 (Nat.le_of_eq gq7.symm)
                have g_b7 : n0 ≤ b7 := Nat.le_trans Z0 sz_b7
                have K7 : Keep h0 h7 [] := K6.ext E7
                have E_b7 := A7
                have F_keys_b7 : Fld Z h7 b7 "com/example/reknit/reknit/LogRecord" "keys" "Ljava/util/List;" .null := D7 (Or.inr (hw _ (List.mem_of_getElem? (i := 35) rfl))) (ty := (.object "java/util/List")) (by decide)
                have F_values_b7 : Fld Z h7 b7 "com/example/reknit/reknit/LogRecord" "values" "Ljava/util/List;" .null := D7 (Or.inr (hw _ (List.mem_of_getElem? (i := 37) rfl))) (ty := (.object "java/util/List")) (by decide)
                have F_link_b7 : Fld Z h7 b7 "com/example/reknit/reknit/LogRecord" "link" "J" (.long (0 : Int64)) := D7 (Or.inl (hw _ (List.mem_of_getElem? (i := 39) rfl))) (ty := .long) (by decide)
                have F_writeBytes_b7 : Fld Z h7 b7 "com/example/reknit/reknit/LogRecord" "writeBytes" "J" (.long (0 : Int64)) := D7 (Or.inl (hw _ (List.mem_of_getElem? (i := 52) rfl))) (ty := .long) (by decide)
                have F_partner_b7 : Fld Z h7 b7 "com/example/reknit/reknit/LogRecord" "partner" "Lcom/example/reknit/reknit/LogRecord;" .null := D7 (Or.inl (hw _ (List.mem_of_getElem? (i := 54) rfl))) (ty := (.object "com/example/reknit/reknit/LogRecord")) (by decide)
                refine Rest.via (fun t k => st7 t k) ?_
                show Rest p.tables e below s _ _ _ (T7.setTop (mkF m 207 #[.val (.long q0), .second, .val (.long q1), .second, .val (.int p2), .val (.int p3), .val (.int ka), .val (.int va), .val (.int kc), .val (.int vc), .val (.int kp), .val (.int vp), .val (.int f12), .val (.int f13), .val (.int f14), .val (.int f15), .val (.int f16), .val (.int nn), .val (.int f18), .val (.int f19), .val (.ref b1), .val (.ref b2), .val (.ref b3), .val (.ref b4), .val (.ref b5), .val (.ref b6), .unset, .unset, .unset, .unset] [(.ref b7)]))
                refine Rest.via (fun t k => XS.dup X7.here hx rfl (hb hby at_207) rfl rfl k) ?_
                show Rest p.tables e below s _ _ _ (T7.setTop (mkF m 208 #[.val (.long q0), .second, .val (.long q1), .second, .val (.int p2), .val (.int p3), .val (.int ka), .val (.int va), .val (.int kc), .val (.int vc), .val (.int kp), .val (.int vp), .val (.int f12), .val (.int f13), .val (.int f14), .val (.int f15), .val (.int f16), .val (.int nn), .val (.int f18), .val (.int f19), .val (.ref b1), .val (.ref b2), .val (.ref b3), .val (.ref b4), .val (.ref b5), .val (.ref b6), .unset, .unset, .unset, .unset] [(.ref b7), (.ref b7)]))
                obtain ⟨_, _, ⟨T8, L8, k8, n8⟩, -, X8, ⟨Lc8, hQ8, l8, y8, z8⟩, st8⟩ := X7.specialBack hx (y := (⟨"com/example/reknit/reknit/LogRecord", "<init>", "()V"⟩ : MethodName)) rfl hown (mvT hZ (hw _ (List.mem_of_getElem? (i := 4) rfl))) (mvT hZ (hw _ (List.mem_of_getElem? (i := 5) rfl))) (mvT hZ (hw _ (List.mem_of_getElem? (i := 6) rfl))) (by decide) (backOf (W := 1) (rmLI l Z aw hw [] b7 de h7 n0 (Nat.le_trans Z0 K7.1) E_b7 F_link_b7 F_writeBytes_b7 F_partner_b7 F_keys_b7 F_values_b7 g_b7 (O.keep K7 all0) DE0) hZ (hw _ (List.mem_of_getElem? (i := 6) rfl)) (hw _ (List.mem_of_getElem? (i := 3) rfl)) (by decide) (by decide)) (g := (mkF m 208 #[.val (.long q0), .second, .val (.long q1), .second, .val (.int p2), .val (.int p3), .val (.int ka), .val (.int va), .val (.int kc), .val (.int vc), .val (.int kp), .val (.int vp), .val (.int f12), .val (.int f13), .val (.int f14), .val (.int f15), .val (.int f16), .val (.int nn), .val (.int f18), .val (.int f19), .val (.ref b1), .val (.ref b2), .val (.ref b3), .val (.ref b4), .val (.ref b5), .val (.ref b6), .unset, .unset, .unset, .unset] [(.ref b7), (.ref b7)])) rfl (by rw [hml]; rfl) (Steps.refl _) (a := b7) (argsL := []) (rest := [(.ref b7)]) (lenOf pd_0 rfl) rfl (by show 2 * 0 + _ ≤ _; exact Nat.le_of_eq rfl) (hb hby at_208) (fun _ _ => ⟨rfl, e7, (by decide : 7 + 2 ≤ _), (by decide : 95 + 6 ≤ _)⟩)
                dsimp only [Pt.U, Pt.locs, Pt.cells, Pt.slots] at X8 l8 y8 z8 st8 hQ8
                subst l8 y8 z8
                obtain ⟨h8, e8⟩ : ∃ z, T8.heap = z := ⟨_, rfl⟩
                rw [e8] at hQ8
                obtain ⟨rfl, Nq8, Kq8, ks8, vs8, sk8, sv8, R8⟩ := hQ8
                have N8 := Fr.app N0 Nq8
                have sz_ks8 : h0.size ≤ ks8 := Nat.le_trans K7.1 sk8
                have g_ks8 : n0 ≤ ks8 := Nat.le_trans Z0 sz_ks8
                have sz_vs8 : h0.size ≤ vs8 := Nat.le_trans K7.1 sv8
                have g_vs8 : n0 ≤ vs8 := Nat.le_trans Z0 sz_vs8
                have K8 : Keep h0 h8 [] := K7.trans Kq8 (allS (Or.inr sz_b7) all0)
                refine Rest.via (fun t k => st8.trans k) ?_
                show Rest p.tables e below s _ _ _ (T8.setTop (mkF m 211 #[.val (.long q0), .second, .val (.long q1), .second, .val (.int p2), .val (.int p3), .val (.int ka), .val (.int va), .val (.int kc), .val (.int vc), .val (.int kp), .val (.int vp), .val (.int f12), .val (.int f13), .val (.int f14), .val (.int f15), .val (.int f16), .val (.int nn), .val (.int f18), .val (.int f19), .val (.ref b1), .val (.ref b2), .val (.ref b3), .val (.ref b4), .val (.ref b5), .val (.ref b6), .unset, .unset, .unset, .unset] [(.ref b7)]))
                refine Rest.via (fun t k => XS.astore X8.here hx rfl (hb hby at_211) rfl rfl (l' := #[.val (.long q0), .second, .val (.long q1), .second, .val (.int p2), .val (.int p3), .val (.int ka), .val (.int va), .val (.int kc), .val (.int vc), .val (.int kp), .val (.int vp), .val (.int f12), .val (.int f13), .val (.int f14), .val (.int f15), .val (.int f16), .val (.int nn), .val (.int f18), .val (.int f19), .val (.ref b1), .val (.ref b2), .val (.ref b3), .val (.ref b4), .val (.ref b5), .val (.ref b6), .val (.ref b7), .unset, .unset, .unset]) rfl k) ?_
                show Rest p.tables e below s _ _ _ (T8.setTop (mkF m 213 #[.val (.long q0), .second, .val (.long q1), .second, .val (.int p2), .val (.int p3), .val (.int ka), .val (.int va), .val (.int kc), .val (.int vc), .val (.int kp), .val (.int vp), .val (.int f12), .val (.int f13), .val (.int f14), .val (.int f15), .val (.int f16), .val (.int nn), .val (.int f18), .val (.int f19), .val (.ref b1), .val (.ref b2), .val (.ref b3), .val (.ref b4), .val (.ref b5), .val (.ref b6), .val (.ref b7), .unset, .unset, .unset] []))
                obtain ⟨T9, h9, X9, e9, E9, A9, D9, -, st9⟩ := newO X8 hx hZ hown (hw _ (List.mem_of_getElem? (i := 1) rfl)) (hw _ (List.mem_of_getElem? (i := 2) rfl)) (hw _ (List.mem_of_getElem? (i := 3) rfl)) e8 (g := (mkF m 213 #[.val (.long q0), .second, .val (.long q1), .second, .val (.int p2), .val (.int p3), .val (.int ka), .val (.int va), .val (.int kc), .val (.int vc), .val (.int kp), .val (.int vp), .val (.int f12), .val (.int f13), .val (.int f14), .val (.int f15), .val (.int f16), .val (.int nn), .val (.int f18), .val (.int f19), .val (.ref b1), .val (.ref b2), .val (.ref b3), .val (.ref b4), .val (.ref b5), .val (.ref b6), .val (.ref b7), .unset, .unset, .unset] [])) rfl (hb hby at_213) (by decide) (by decide)
                obtain ⟨b9, gq9⟩ : ∃ z, z = h8.size := ⟨_, rfl⟩
                rw [← gq9] at A9 D9 st9
                have sz_b9 : h0.size ≤ b9 := Nat.le_trans K8.1 (Nat.le_of_eq gq9.symm)
                have g_b9 : n0 ≤ b9 := Nat.le_trans Z0 sz_b9
                have ne_b7_b9 : b7 ≠ b9 := Nat.ne_of_lt (Nat.lt_of_lt_of_le R8.1.1.lt (Nat.le_of_eq gq9.symm))
                have ne_ks8_b9 : ks8 ≠ b9 := Nat.ne_of_lt (Nat.lt_of_lt_of_le R8.2.2.1.1.lt (Nat.le_of_eq gq9.symm))
                have ne_vs8_b9 : vs8 ≠ b9 := Nat.ne_of_lt (Nat.lt_of_lt_of_le R8.2.2.2.1.lt (Nat.le_of_eq gq9.symm))
                have K9 : Keep h0 h9 [] := K8.ext E9
                have E_b9 := A9
                have F_keys_b9 : Fld Z h9 b9 "com/example/reknit/reknit/LogRecord" "keys" "Ljava/util/List;" .null := D9 (Or.inr (hw _ (List.mem_of_getElem? (i := 35) rfl))) (ty := (.object "java/util/List")) (by decide)
                have F_values_b9 : Fld Z h9 b9 "com/example/reknit/reknit/LogRecord" "values" "Ljava/util/List;" .null := D9 (Or.inr (hw _ (List.mem_of_getElem? (i := 37) rfl))) (ty := (.object "java/util/List")) (by decide)
                have F_link_b9 : Fld Z h9 b9 "com/example/reknit/reknit/LogRecord" "link" "J" (.long (0 : Int64)) := D9 (Or.inl (hw _ (List.mem_of_getElem? (i := 39) rfl))) (ty := .long) (by decide)
                have F_writeBytes_b9 : Fld Z h9 b9 "com/example/reknit/reknit/LogRecord" "writeBytes" "J" (.long (0 : Int64)) := D9 (Or.inl (hw _ (List.mem_of_getElem? (i := 52) rfl))) (ty := .long) (by decide)
                have F_partner_b9 : Fld Z h9 b9 "com/example/reknit/reknit/LogRecord" "partner" "Lcom/example/reknit/reknit/LogRecord;" .null := D9 (Or.inl (hw _ (List.mem_of_getElem? (i := 54) rfl))) (ty := (.object "com/example/reknit/reknit/LogRecord")) (by decide)
                refine Rest.via (fun t k => st9 t k) ?_
                show Rest p.tables e below s _ _ _ (T9.setTop (mkF m 216 #[.val (.long q0), .second, .val (.long q1), .second, .val (.int p2), .val (.int p3), .val (.int ka), .val (.int va), .val (.int kc), .val (.int vc), .val (.int kp), .val (.int vp), .val (.int f12), .val (.int f13), .val (.int f14), .val (.int f15), .val (.int f16), .val (.int nn), .val (.int f18), .val (.int f19), .val (.ref b1), .val (.ref b2), .val (.ref b3), .val (.ref b4), .val (.ref b5), .val (.ref b6), .val (.ref b7), .unset, .unset, .unset] [(.ref b9)]))
                refine Rest.via (fun t k => XS.dup X9.here hx rfl (hb hby at_216) rfl rfl k) ?_
                show Rest p.tables e below s _ _ _ (T9.setTop (mkF m 217 #[.val (.long q0), .second, .val (.long q1), .second, .val (.int p2), .val (.int p3), .val (.int ka), .val (.int va), .val (.int kc), .val (.int vc), .val (.int kp), .val (.int vp), .val (.int f12), .val (.int f13), .val (.int f14), .val (.int f15), .val (.int f16), .val (.int nn), .val (.int f18), .val (.int f19), .val (.ref b1), .val (.ref b2), .val (.ref b3), .val (.ref b4), .val (.ref b5), .val (.ref b6), .val (.ref b7), .unset, .unset, .unset] [(.ref b9), (.ref b9)]))
                obtain ⟨_, _, ⟨T10, L10, k10, n10⟩, -, X10, ⟨Lc10, hQ10, l10, y10, z10⟩, st10⟩ := X9.specialBack hx (y := (⟨"com/example/reknit/reknit/LogRecord", "<init>", "()V"⟩ : MethodName)) rfl hown (mvT hZ (hw _ (List.mem_of_getElem? (i := 4) rfl))) (mvT hZ (hw _ (List.mem_of_getElem? (i := 5) rfl))) (mvT hZ (hw _ (List.mem_of_getElem? (i := 6) rfl))) (by decide) (backOf (W := 1) (rmLI l Z aw hw [] b9 de h9 n0 (Nat.le_trans Z0 K9.1) E_b9 F_link_b9 F_writeBytes_b9 F_partner_b9 F_keys_b9 F_values_b9 g_b9 (O.keep K9 all0) DE0) hZ (hw _ (List.mem_of_getElem? (i := 6) rfl)) (hw _ (List.mem_of_getElem? (i := 3) rfl)) (by decide) (by decide)) (g := (mkF m 217 #[.val (.long q0), .second, .val (.long q1), .second, .val (.int p2), .val (.int p3), .val (.int ka), .val (.int va), .val (.int kc), .val (.int vc), .val (.int kp), .val (.int vp), .val (.int f12), .val (.int f13), .val (.int f14), .val (.int f15), .val (.int f16), .val (.int nn), .val (.int f18), .val (.int f19), .val (.ref b1), .val (.ref b2), .val (.ref b3), .val (.ref b4), .val (.ref b5), .val (.ref b6), .val (.ref b7), .unset, .unset, .unset] [(.ref b9), (.ref b9)])) rfl (by rw [hml]; rfl) (Steps.refl _) (a := b9) (argsL := []) (rest := [(.ref b9)]) (lenOf pd_0 rfl) rfl (by show 2 * 0 + _ ≤ _; exact Nat.le_of_eq rfl) (hb hby at_217) (fun _ _ => ⟨rfl, e9, (by decide : 10 + 2 ≤ _), (by decide : 106 + 6 ≤ _)⟩)
                dsimp only [Pt.U, Pt.locs, Pt.cells, Pt.slots] at X10 l10 y10 z10 st10 hQ10
                subst l10 y10 z10
                obtain ⟨h10, e10⟩ : ∃ z, T10.heap = z := ⟨_, rfl⟩
                rw [e10] at hQ10
                obtain ⟨rfl, Nq10, Kq10, ks10, vs10, sk10, sv10, R10⟩ := hQ10
                have N10 := Fr.app N8 Nq10
                have sz_ks10 : h0.size ≤ ks10 := Nat.le_trans K9.1 sk10
                have g_ks10 : n0 ≤ ks10 := Nat.le_trans Z0 sz_ks10
                have sz_vs10 : h0.size ≤ vs10 := Nat.le_trans K9.1 sv10
                have g_vs10 : n0 ≤ vs10 := Nat.le_trans Z0 sz_vs10
                have ne_b7_ks10 : b7 ≠ ks10 := Nat.ne_of_lt (Nat.lt_of_lt_of_le (R8.1.1.ext E9).lt sk10)
                have ne_b7_vs10 : b7 ≠ vs10 := Nat.ne_of_lt (Nat.lt_of_lt_of_le (R8.1.1.ext E9).lt sv10)
                have ne_ks8_ks10 : ks8 ≠ ks10 := Nat.ne_of_lt (Nat.lt_of_lt_of_le (R8.2.2.1.1.ext E9).lt sk10)
                have ne_ks8_vs10 : ks8 ≠ vs10 := Nat.ne_of_lt (Nat.lt_of_lt_of_le (R8.2.2.1.1.ext E9).lt sv10)
                have ne_vs8_ks10 : vs8 ≠ ks10 := Nat.ne_of_lt (Nat.lt_of_lt_of_le (R8.2.2.2.1.ext E9).lt sk10)
                have ne_vs8_vs10 : vs8 ≠ vs10 := Nat.ne_of_lt (Nat.lt_of_lt_of_le (R8.2.2.2.1.ext E9).lt sv10)
                have K10 : Keep h0 h10 [] := K9.trans Kq10 (allS (Or.inr sz_b9) all0)
                refine Rest.via (fun t k => st10.trans k) ?_
                show Rest p.tables e below s _ _ _ (T10.setTop (mkF m 220 #[.val (.long q0), .second, .val (.long q1), .second, .val (.int p2), .val (.int p3), .val (.int ka), .val (.int va), .val (.int kc), .val (.int vc), .val (.int kp), .val (.int vp), .val (.int f12), .val (.int f13), .val (.int f14), .val (.int f15), .val (.int f16), .val (.int nn), .val (.int f18), .val (.int f19), .val (.ref b1), .val (.ref b2), .val (.ref b3), .val (.ref b4), .val (.ref b5), .val (.ref b6), .val (.ref b7), .unset, .unset, .unset] [(.ref b9)]))
                refine Rest.via (fun t k => XS.astore X10.here hx rfl (hb hby at_220) rfl rfl (l' := #[.val (.long q0), .second, .val (.long q1), .second, .val (.int p2), .val (.int p3), .val (.int ka), .val (.int va), .val (.int kc), .val (.int vc), .val (.int kp), .val (.int vp), .val (.int f12), .val (.int f13), .val (.int f14), .val (.int f15), .val (.int f16), .val (.int nn), .val (.int f18), .val (.int f19), .val (.ref b1), .val (.ref b2), .val (.ref b3), .val (.ref b4), .val (.ref b5), .val (.ref b6), .val (.ref b7), .val (.ref b9), .unset, .unset]) rfl k) ?_
                show Rest p.tables e below s _ _ _ (T10.setTop (mkF m 222 #[.val (.long q0), .second, .val (.long q1), .second, .val (.int p2), .val (.int p3), .val (.int ka), .val (.int va), .val (.int kc), .val (.int vc), .val (.int kp), .val (.int vp), .val (.int f12), .val (.int f13), .val (.int f14), .val (.int f15), .val (.int f16), .val (.int nn), .val (.int f18), .val (.int f19), .val (.ref b1), .val (.ref b2), .val (.ref b3), .val (.ref b4), .val (.ref b5), .val (.ref b6), .val (.ref b7), .val (.ref b9), .unset, .unset] []))
                have Jja : ∀ (Tja : State) (Lja : List Loc) (hja : Heap) (Xja : Stand p l e room_1 s m #[(.long q0), (.long q1), (.int p2), (.int p3)] below meth c Tja Lja 12 112) (eja : Tja.heap = hja) (Nja : Fr n0 Lja) (Kja : Keep h0 hja []) (lk : Int64) (hlnk : lk = own_lk f12 q0) (Ra : own_LR0 Z hja b7 ks8 vs8 de lk 0 .null) (Pa : own_LR0 Z hja b9 ks10 vs10 de 0 0 .null) (B0ja : own_BA Z hja b1 ka) (B1ja : own_BA Z hja b2 va) (B2ja : own_BA Z hja b3 kc) (B3ja : own_BA Z hja b4 vc) (B4ja : own_BA Z hja b5 kp) (B5ja : own_BA Z hja b6 vp), Rest p.tables e below s (Q0 Z q0 q1 p2 p3 de h0 n0) 16 152 (Tja.setTop (mkF m 234 #[.val (.long q0), .second, .val (.long q1), .second, .val (.int p2), .val (.int p3), .val (.int ka), .val (.int va), .val (.int kc), .val (.int vc), .val (.int kp), .val (.int vp), .val (.int f12), .val (.int f13), .val (.int f14), .val (.int f15), .val (.int f16), .val (.int nn), .val (.int f18), .val (.int f19), .val (.ref b1), .val (.ref b2), .val (.ref b3), .val (.ref b4), .val (.ref b5), .val (.ref b6), .val (.ref b7), .val (.ref b9), .unset, .unset] [])) := by
                  intro Tja Lja hja Xja eja Nja Kja lk hlnk Ra Pa B0ja B1ja B2ja B3ja B4ja B5ja
                  show Rest p.tables e below s _ _ _ (Tja.setTop (mkF m 234 #[.val (.long q0), .second, .val (.long q1), .second, .val (.int p2), .val (.int p3), .val (.int ka), .val (.int va), .val (.int kc), .val (.int vc), .val (.int kp), .val (.int vp), .val (.int f12), .val (.int f13), .val (.int f14), .val (.int f15), .val (.int f16), .val (.int nn), .val (.int f18), .val (.int f19), .val (.ref b1), .val (.ref b2), .val (.ref b3), .val (.ref b4), .val (.ref b5), .val (.ref b6), .val (.ref b7), .val (.ref b9), .unset, .unset] []))
                  have Jjc : ∀ (Tjc : State) (Ljc : List Loc) (hjc : Heap) (Xjc : Stand p l e room_1 s m #[(.long q0), (.long q1), (.int p2), (.int p3)] below meth c Tjc Ljc 14 132) (ejc : Tjc.heap = hjc) (Njc : Fr n0 Ljc) (Kjc : Keep h0 hjc []) (wR : Int64) (hwR : wR = own_wn 1 nn f13 ka va + own_wn 2 nn f14 kc vc) (Rc : own_LF Z hjc b7 lk wR .null) (Pc : own_LR0 Z hjc b9 ks10 vs10 de 0 0 .null) (B4jc : own_BA Z hjc b5 kp) (B5jc : own_BA Z hjc b6 vp), Rest p.tables e below s (Q0 Z q0 q1 p2 p3 de h0 n0) 16 152 (Tjc.setTop (mkF m 298 #[.val (.long q0), .second, .val (.long q1), .second, .val (.int p2), .val (.int p3), .val (.int ka), .val (.int va), .val (.int kc), .val (.int vc), .val (.int kp), .val (.int vp), .val (.int f12), .val (.int f13), .val (.int f14), .val (.int f15), .val (.int f16), .val (.int nn), .val (.int f18), .val (.int f19), .val (.ref b1), .val (.ref b2), .val (.ref b3), .val (.ref b4), .val (.ref b5), .val (.ref b6), .val (.ref b7), .val (.ref b9), .unset, .unset] [])) := by
                    intro Tjc Ljc hjc Xjc ejc Njc Kjc wR hwR Rc Pc B4jc B5jc
                    show Rest p.tables e below s _ _ _ (Tjc.setTop (mkF m 298 #[.val (.long q0), .second, .val (.long q1), .second, .val (.int p2), .val (.int p3), .val (.int ka), .val (.int va), .val (.int kc), .val (.int vc), .val (.int kp), .val (.int vp), .val (.int f12), .val (.int f13), .val (.int f14), .val (.int f15), .val (.int f16), .val (.int nn), .val (.int f18), .val (.int f19), .val (.ref b1), .val (.ref b2), .val (.ref b3), .val (.ref b4), .val (.ref b5), .val (.ref b6), .val (.ref b7), .val (.ref b9), .unset, .unset] []))
                    have Jjd : ∀ (Tjd : State) (Ljd : List Loc) (hjd : Heap) (Xjd : Stand p l e room_1 s m #[(.long q0), (.long q1), (.int p2), (.int p3)] below meth c Tjd Ljd 14 132) (ejd : Tjd.heap = hjd) (Njd : Fr n0 Ljd) (Kjd : Keep h0 hjd []) (lp : Int64) (Rd : own_LF Z hjd b7 lk wR .null) (Pd : own_LR0 Z hjd b9 ks10 vs10 de lp 0 .null) (B4jd : own_BA Z hjd b5 kp) (B5jd : own_BA Z hjd b6 vp), Rest p.tables e below s (Q0 Z q0 q1 p2 p3 de h0 n0) 16 152 (Tjd.setTop (mkF m 310 #[.val (.long q0), .second, .val (.long q1), .second, .val (.int p2), .val (.int p3), .val (.int ka), .val (.int va), .val (.int kc), .val (.int vc), .val (.int kp), .val (.int vp), .val (.int f12), .val (.int f13), .val (.int f14), .val (.int f15), .val (.int f16), .val (.int nn), .val (.int f18), .val (.int f19), .val (.ref b1), .val (.ref b2), .val (.ref b3), .val (.ref b4), .val (.ref b5), .val (.ref b6), .val (.ref b7), .val (.ref b9), .unset, .unset] [])) := by
                      intro Tjd Ljd hjd Xjd ejd Njd Kjd lp Rd Pd B4jd B5jd
                      show Rest p.tables e below s _ _ _ (Tjd.setTop (mkF m 310 #[.val (.long q0), .second, .val (.long q1), .second, .val (.int p2), .val (.int p3), .val (.int ka), .val (.int va), .val (.int kc), .val (.int vc), .val (.int kp), .val (.int vp), .val (.int f12), .val (.int f13), .val (.int f14), .val (.int f15), .val (.int f16), .val (.int nn), .val (.int f18), .val (.int f19), .val (.ref b1), .val (.ref b2), .val (.ref b3), .val (.ref b4), .val (.ref b5), .val (.ref b6), .val (.ref b7), .val (.ref b9), .unset, .unset] []))
                      have Jje : ∀ (Tje : State) (Lje : List Loc) (hje : Heap) (Xje : Stand p l e room_1 s m #[(.long q0), (.long q1), (.int p2), (.int p3)] below meth c Tje Lje 16 152) (eje : Tje.heap = hje) (Nje : Fr n0 Lje) (Kje : Keep h0 hje []) (wP : Int64) (hwP : wP = own_wp f18 f16 kp vp) (Re : own_LF Z hje b7 lk wR .null) (Fe : Fld Z hje b9 "com/example/reknit/reknit/LogRecord" "writeBytes" "J" (.long wP)), Rest p.tables e below s (Q0 Z q0 q1 p2 p3 de h0 n0) 16 152 (Tje.setTop (mkF m 341 #[.val (.long q0), .second, .val (.long q1), .second, .val (.int p2), .val (.int p3), .val (.int ka), .val (.int va), .val (.int kc), .val (.int vc), .val (.int kp), .val (.int vp), .val (.int f12), .val (.int f13), .val (.int f14), .val (.int f15), .val (.int f16), .val (.int nn), .val (.int f18), .val (.int f19), .val (.ref b1), .val (.ref b2), .val (.ref b3), .val (.ref b4), .val (.ref b5), .val (.ref b6), .val (.ref b7), .val (.ref b9), .unset, .unset] [])) := by
                        intro Tje Lje hje Xje eje Nje Kje wP hwP Re Fe
                        show Rest p.tables e below s _ _ _ (Tje.setTop (mkF m 341 #[.val (.long q0), .second, .val (.long q1), .second, .val (.int p2), .val (.int p3), .val (.int ka), .val (.int va), .val (.int kc), .val (.int vc), .val (.int kp), .val (.int vp), .val (.int f12), .val (.int f13), .val (.int f14), .val (.int f15), .val (.int f16), .val (.int nn), .val (.int f18), .val (.int f19), .val (.ref b1), .val (.ref b2), .val (.ref b3), .val (.ref b4), .val (.ref b5), .val (.ref b6), .val (.ref b7), .val (.ref b9), .unset, .unset] []))
                        refine Rest.via (fun t k => XS.iload Xje.here hx rfl (hb hby at_341) rfl k) ?_
                        show Rest p.tables e below s _ _ _ (Tje.setTop (mkF m 343 #[.val (.long q0), .second, .val (.long q1), .second, .val (.int p2), .val (.int p3), .val (.int ka), .val (.int va), .val (.int kc), .val (.int vc), .val (.int kp), .val (.int vp), .val (.int f12), .val (.int f13), .val (.int f14), .val (.int f15), .val (.int f16), .val (.int nn), .val (.int f18), .val (.int f19), .val (.ref b1), .val (.ref b2), .val (.ref b3), .val (.ref b4), .val (.ref b5), .val (.ref b6), .val (.ref b7), .val (.ref b9), .unset, .unset] [(.int f15)]))
                        by_cases hc343 : f15 = (0 : Int32)
                        · refine Rest.via (fun t k => XS.ifYes Xje.here hx rfl (pc0 := 343) (pc' := 354) rfl (hb hby at_343) rfl ((if0 _ _).trans (teq hc343).1) (by decide) (by decide) k) ?_
                          show Rest p.tables e below s _ _ _ (Tje.setTop (mkF m 354 #[.val (.long q0), .second, .val (.long q1), .second, .val (.int p2), .val (.int p3), .val (.int ka), .val (.int va), .val (.int kc), .val (.int vc), .val (.int kp), .val (.int vp), .val (.int f12), .val (.int f13), .val (.int f14), .val (.int f15), .val (.int f16), .val (.int nn), .val (.int f18), .val (.int f19), .val (.ref b1), .val (.ref b2), .val (.ref b3), .val (.ref b4), .val (.ref b5), .val (.ref b6), .val (.ref b7), .val (.ref b9), .unset, .unset] []))
                          refine Rest.via (fun t k => XS.lconst Xje.here hx rfl (hb hby at_354) k) ?_
                          show Rest p.tables e below s _ _ _ (Tje.setTop (mkF m 355 #[.val (.long q0), .second, .val (.long q1), .second, .val (.int p2), .val (.int p3), .val (.int ka), .val (.int va), .val (.int kc), .val (.int vc), .val (.int kp), .val (.int vp), .val (.int f12), .val (.int f13), .val (.int f14), .val (.int f15), .val (.int f16), .val (.int nn), .val (.int f18), .val (.int f19), .val (.ref b1), .val (.ref b2), .val (.ref b3), .val (.ref b4), .val (.ref b5), .val (.ref b6), .val (.ref b7), .val (.ref b9), .unset, .unset] [(.long (0 : Int64))]))
                          refine Rest.via (fun t k => XS.lstore Xje.here hx rfl (hb hby at_355) rfl (l' := #[.val (.long q0), .second, .val (.long q1), .second, .val (.int p2), .val (.int p3), .val (.int ka), .val (.int va), .val (.int kc), .val (.int vc), .val (.int kp), .val (.int vp), .val (.int f12), .val (.int f13), .val (.int f14), .val (.int f15), .val (.int f16), .val (.int nn), .val (.int f18), .val (.int f19), .val (.ref b1), .val (.ref b2), .val (.ref b3), .val (.ref b4), .val (.ref b5), .val (.ref b6), .val (.ref b7), .val (.ref b9), .val (.long (0 : Int64)), .second]) rfl k) ?_
                          show Rest p.tables e below s _ _ _ (Tje.setTop (mkF m 357 #[.val (.long q0), .second, .val (.long q1), .second, .val (.int p2), .val (.int p3), .val (.int ka), .val (.int va), .val (.int kc), .val (.int vc), .val (.int kp), .val (.int vp), .val (.int f12), .val (.int f13), .val (.int f14), .val (.int f15), .val (.int f16), .val (.int nn), .val (.int f18), .val (.int f19), .val (.ref b1), .val (.ref b2), .val (.ref b3), .val (.ref b4), .val (.ref b5), .val (.ref b6), .val (.ref b7), .val (.ref b9), .val (.long (0 : Int64)), .second] []))
                          have J376 : ∀ (x1 : Int64), (x1 = own_x1 f12 q0) → Rest p.tables e below s (Q0 Z q0 q1 p2 p3 de h0 n0) 16 152 (Tje.setTop (mkF m 376 #[.val (.long q0), .second, .val (.long q1), .second, .val (.int p2), .val (.int p3), .val (.int ka), .val (.int va), .val (.int kc), .val (.int vc), .val (.int kp), .val (.int vp), .val (.int f12), .val (.int f13), .val (.int f14), .val (.int f15), .val (.int f16), .val (.int nn), .val (.int f18), .val (.int f19), .val (.ref b1), .val (.ref b2), .val (.ref b3), .val (.ref b4), .val (.ref b5), .val (.ref b6), .val (.ref b7), .val (.ref b9), .val (.long x1), .second] [])) := by
                            intro x1 hx1
                            show Rest p.tables e below s _ _ _ (Tje.setTop (mkF m 376 #[.val (.long q0), .second, .val (.long q1), .second, .val (.int p2), .val (.int p3), .val (.int ka), .val (.int va), .val (.int kc), .val (.int vc), .val (.int kp), .val (.int vp), .val (.int f12), .val (.int f13), .val (.int f14), .val (.int f15), .val (.int f16), .val (.int nn), .val (.int f18), .val (.int f19), .val (.ref b1), .val (.ref b2), .val (.ref b3), .val (.ref b4), .val (.ref b5), .val (.ref b6), .val (.ref b7), .val (.ref b9), .val (.long x1), .second] []))
                            have Jju : ∀ (Tju : State) (Lju : List Loc) (hju : Heap) (Xju : Stand p l e room_1 s m #[(.long q0), (.long q1), (.int p2), (.int p3)] below meth c Tju Lju 16 152) (eju : Tju.heap = hju) (Nju : Fr n0 Lju) (Kju : Keep h0 hju []) (x2 : Int64) (hx2 : x2 = x1 + own_wn 1 nn f13 ka va) (Rju : own_LF Z hju b7 lk wR .null) (Fju : Fld Z hju b9 "com/example/reknit/reknit/LogRecord" "writeBytes" "J" (.long wP)), Rest p.tables e below s (Q0 Z q0 q1 p2 p3 de h0 n0) 16 152 (Tju.setTop (mkF m 396 #[.val (.long q0), .second, .val (.long q1), .second, .val (.int p2), .val (.int p3), .val (.int ka), .val (.int va), .val (.int kc), .val (.int vc), .val (.int kp), .val (.int vp), .val (.int f12), .val (.int f13), .val (.int f14), .val (.int f15), .val (.int f16), .val (.int nn), .val (.int f18), .val (.int f19), .val (.ref b1), .val (.ref b2), .val (.ref b3), .val (.ref b4), .val (.ref b5), .val (.ref b6), .val (.ref b7), .val (.ref b9), .val (.long x2), .second] [])) := by
                              intro Tju Lju hju Xju eju Nju Kju x2 hx2 Rju Fju
                              show Rest p.tables e below s _ _ _ (Tju.setTop (mkF m 396 #[.val (.long q0), .second, .val (.long q1), .second, .val (.int p2), .val (.int p3), .val (.int ka), .val (.int va), .val (.int kc), .val (.int vc), .val (.int kp), .val (.int vp), .val (.int f12), .val (.int f13), .val (.int f14), .val (.int f15), .val (.int f16), .val (.int nn), .val (.int f18), .val (.int f19), .val (.ref b1), .val (.ref b2), .val (.ref b3), .val (.ref b4), .val (.ref b5), .val (.ref b6), .val (.ref b7), .val (.ref b9), .val (.long x2), .second] []))
                              have Jjv : ∀ (Tjv : State) (Ljv : List Loc) (hjv : Heap) (Xjv : Stand p l e room_1 s m #[(.long q0), (.long q1), (.int p2), (.int p3)] below meth c Tjv Ljv 16 152) (ejv : Tjv.heap = hjv) (Njv : Fr n0 Ljv) (Kjv : Keep h0 hjv []) (x3 : Int64) (hx3 : x3 = x2 + own_wn 2 nn f14 kc vc) (Rjv : own_LF Z hjv b7 lk wR .null) (Fjv : Fld Z hjv b9 "com/example/reknit/reknit/LogRecord" "writeBytes" "J" (.long wP)), Rest p.tables e below s (Q0 Z q0 q1 p2 p3 de h0 n0) 16 152 (Tjv.setTop (mkF m 416 #[.val (.long q0), .second, .val (.long q1), .second, .val (.int p2), .val (.int p3), .val (.int ka), .val (.int va), .val (.int kc), .val (.int vc), .val (.int kp), .val (.int vp), .val (.int f12), .val (.int f13), .val (.int f14), .val (.int f15), .val (.int f16), .val (.int nn), .val (.int f18), .val (.int f19), .val (.ref b1), .val (.ref b2), .val (.ref b3), .val (.ref b4), .val (.ref b5), .val (.ref b6), .val (.ref b7), .val (.ref b9), .val (.long x3), .second] [])) := by
                                intro Tjv Ljv hjv Xjv ejv Njv Kjv x3 hx3 Rjv Fjv
                                show Rest p.tables e below s _ _ _ (Tjv.setTop (mkF m 416 #[.val (.long q0), .second, .val (.long q1), .second, .val (.int p2), .val (.int p3), .val (.int ka), .val (.int va), .val (.int kc), .val (.int vc), .val (.int kp), .val (.int vp), .val (.int f12), .val (.int f13), .val (.int f14), .val (.int f15), .val (.int f16), .val (.int nn), .val (.int f18), .val (.int f19), .val (.ref b1), .val (.ref b2), .val (.ref b3), .val (.ref b4), .val (.ref b5), .val (.ref b6), .val (.ref b7), .val (.ref b9), .val (.long x3), .second] []))
                                have Jjw : ∀ (Tjw : State) (Ljw : List Loc) (hjw : Heap) (Xjw : Stand p l e room_1 s m #[(.long q0), (.long q1), (.int p2), (.int p3)] below meth c Tjw Ljw 16 152) (ejw : Tjw.heap = hjw) (Njw : Fr n0 Ljw) (Kjw : Keep h0 hjw []) (x4 : Int64) (hx4 : x4 = x3 + own_wc f15 f18 f16 kp vp) (Rjw : own_LF Z hjw b7 lk wR .null) (Fjw : Fld Z hjw b9 "com/example/reknit/reknit/LogRecord" "writeBytes" "J" (.long wP)), Rest p.tables e below s (Q0 Z q0 q1 p2 p3 de h0 n0) 16 152 (Tjw.setTop (mkF m 440 #[.val (.long q0), .second, .val (.long q1), .second, .val (.int p2), .val (.int p3), .val (.int ka), .val (.int va), .val (.int kc), .val (.int vc), .val (.int kp), .val (.int vp), .val (.int f12), .val (.int f13), .val (.int f14), .val (.int f15), .val (.int f16), .val (.int nn), .val (.int f18), .val (.int f19), .val (.ref b1), .val (.ref b2), .val (.ref b3), .val (.ref b4), .val (.ref b5), .val (.ref b6), .val (.ref b7), .val (.ref b9), .val (.long x4), .second] [])) := by
                                  intro Tjw Ljw hjw Xjw ejw Njw Kjw x4 hx4 Rjw Fjw
                                  show Rest p.tables e below s _ _ _ (Tjw.setTop (mkF m 440 #[.val (.long q0), .second, .val (.long q1), .second, .val (.int p2), .val (.int p3), .val (.int ka), .val (.int va), .val (.int kc), .val (.int vc), .val (.int kp), .val (.int vp), .val (.int f12), .val (.int f13), .val (.int f14), .val (.int f15), .val (.int f16), .val (.int nn), .val (.int f18), .val (.int f19), .val (.ref b1), .val (.ref b2), .val (.ref b3), .val (.ref b4), .val (.ref b5), .val (.ref b6), .val (.ref b7), .val (.ref b9), .val (.long x4), .second] []))
                                  refine Rest.via (fun t k => XS.aload Xjw.here hx rfl (hb hby at_440) rfl rfl k) ?_
                                  show Rest p.tables e below s _ _ _ (Tjw.setTop (mkF m 442 #[.val (.long q0), .second, .val (.long q1), .second, .val (.int p2), .val (.int p3), .val (.int ka), .val (.int va), .val (.int kc), .val (.int vc), .val (.int kp), .val (.int vp), .val (.int f12), .val (.int f13), .val (.int f14), .val (.int f15), .val (.int f16), .val (.int nn), .val (.int f18), .val (.int f19), .val (.ref b1), .val (.ref b2), .val (.ref b3), .val (.ref b4), .val (.ref b5), .val (.ref b6), .val (.ref b7), .val (.ref b9), .val (.long x4), .second] [(.ref b7)]))
                                  obtain ⟨cq11, kq11, q11a, q11b, q11c⟩ := isOf hZ ejw Rjw.1
                                  obtain ⟨_, _, ⟨T11, L11, k11, n11⟩, -, X11, ⟨Lc11, hQ11, l11, y11, z11⟩, st11⟩ := Xjw.virtualBack hx (y := (⟨"com/example/reknit/reknit/LogRecord", "bodyBytes", "()J"⟩ : MethodName)) (z := (⟨"com/example/reknit/reknit/LogRecord", "bodyBytes", "()J"⟩ : MethodName)) hown (mvT hZ (hw _ (List.mem_of_getElem? (i := 46) rfl))) (mvT hZ (hw _ (List.mem_of_getElem? (i := 47) rfl))) (notFace_of_selects (args := #[]) (mvT hZ (hw _ (List.mem_of_getElem? (i := 49) rfl)))) (mvT hZ (hw _ (List.mem_of_getElem? (i := 49) rfl))) (mvT hZ (hw _ (List.mem_of_getElem? (i := 48) rfl))) (by decide) (backOf (W := 0) (rmBN l Z aw hw [] b7 lk wR hjw n0 (Nat.le_trans Z0 Kjw.1) Rjw) hZ (hw _ (List.mem_of_getElem? (i := 50) rfl)) (hw _ (List.mem_of_getElem? (i := 3) rfl)) (by decide) (by decide)) q11a q11c (g := (mkF m 442 #[.val (.long q0), .second, .val (.long q1), .second, .val (.int p2), .val (.int p3), .val (.int ka), .val (.int va), .val (.int kc), .val (.int vc), .val (.int kp), .val (.int vp), .val (.int f12), .val (.int f13), .val (.int f14), .val (.int f15), .val (.int f16), .val (.int nn), .val (.int f18), .val (.int f19), .val (.ref b1), .val (.ref b2), .val (.ref b3), .val (.ref b4), .val (.ref b5), .val (.ref b6), .val (.ref b7), .val (.ref b9), .val (.long x4), .second] [(.ref b7)])) rfl (by rw [hml]; rfl) (Steps.refl _) (argsL := []) (rest := []) (lenOf pd_8 rfl) rfl (by show 2 * 0 + _ ≤ _; exact Nat.le_of_eq rfl) (hb hby at_442) (fun _ _ => ⟨rfl, ejw, (by decide : 16 + 0 ≤ _), (by decide : 152 + 0 ≤ _)⟩)
                                  dsimp only [Pt.U, Pt.locs, Pt.cells, Pt.slots] at X11 l11 y11 z11 st11 hQ11
                                  subst l11 y11 z11
                                  obtain ⟨rfl, Nq11, e11⟩ := hQ11
                                  have N11 := Fr.app Njw Nq11
                                  refine Rest.via (fun t k => st11.trans k) ?_
                                  show Rest p.tables e below s _ _ _ (T11.setTop (mkF m 445 #[.val (.long q0), .second, .val (.long q1), .second, .val (.int p2), .val (.int p3), .val (.int ka), .val (.int va), .val (.int kc), .val (.int vc), .val (.int kp), .val (.int vp), .val (.int f12), .val (.int f13), .val (.int f14), .val (.int f15), .val (.int f16), .val (.int nn), .val (.int f18), .val (.int f19), .val (.ref b1), .val (.ref b2), .val (.ref b3), .val (.ref b4), .val (.ref b5), .val (.ref b6), .val (.ref b7), .val (.ref b9), .val (.long x4), .second] [(.long (own_bb lk wR 0))]))
                                  refine Rest.via (fun t k => XS.lload X11.here hx rfl (hb hby at_445) rfl k) ?_
                                  show Rest p.tables e below s _ _ _ (T11.setTop (mkF m 447 #[.val (.long q0), .second, .val (.long q1), .second, .val (.int p2), .val (.int p3), .val (.int ka), .val (.int va), .val (.int kc), .val (.int vc), .val (.int kp), .val (.int vp), .val (.int f12), .val (.int f13), .val (.int f14), .val (.int f15), .val (.int f16), .val (.int nn), .val (.int f18), .val (.int f19), .val (.ref b1), .val (.ref b2), .val (.ref b3), .val (.ref b4), .val (.ref b5), .val (.ref b6), .val (.ref b7), .val (.ref b9), .val (.long x4), .second] [(.long x4), (.long (own_bb lk wR 0))]))
                                  refine Rest.via (fun t k => XS.lcmp X11.here hx rfl (hb hby at_447) rfl k) ?_
                                  show Rest p.tables e below s _ _ _ (T11.setTop (mkF m 448 #[.val (.long q0), .second, .val (.long q1), .second, .val (.int p2), .val (.int p3), .val (.int ka), .val (.int va), .val (.int kc), .val (.int vc), .val (.int kp), .val (.int vp), .val (.int f12), .val (.int f13), .val (.int f14), .val (.int f15), .val (.int f16), .val (.int nn), .val (.int f18), .val (.int f19), .val (.ref b1), .val (.ref b2), .val (.ref b3), .val (.ref b4), .val (.ref b5), .val (.ref b6), .val (.ref b7), .val (.ref b9), .val (.long x4), .second] [(.int (lcmpW (own_bb lk wR 0) x4))]))
                                  refine Rest.via (fun t k => XS.ifNo X11.here hx rfl (hb hby at_448) rfl ((if0 _ _).trans (teq ((lw_eq _ _).mpr (own_final hlnk hwR hwP (if_pos hc343).symm (by rw [hx4, hx3, hx2, hx1]) : (own_bb lk wR 0) = x4))).2) k) ?_
                                  show Rest p.tables e below s _ _ _ (T11.setTop (mkF m 451 #[.val (.long q0), .second, .val (.long q1), .second, .val (.int p2), .val (.int p3), .val (.int ka), .val (.int va), .val (.int kc), .val (.int vc), .val (.int kp), .val (.int vp), .val (.int f12), .val (.int f13), .val (.int f14), .val (.int f15), .val (.int f16), .val (.int nn), .val (.int f18), .val (.int f19), .val (.ref b1), .val (.ref b2), .val (.ref b3), .val (.ref b4), .val (.ref b5), .val (.ref b6), .val (.ref b7), .val (.ref b9), .val (.long x4), .second] []))
                                  refine Rest.via (fun t k => XS.iconst X11.here hx rfl (hb hby at_451) k) ?_
                                  show Rest p.tables e below s _ _ _ (T11.setTop (mkF m 452 #[.val (.long q0), .second, .val (.long q1), .second, .val (.int p2), .val (.int p3), .val (.int ka), .val (.int va), .val (.int kc), .val (.int vc), .val (.int kp), .val (.int vp), .val (.int f12), .val (.int f13), .val (.int f14), .val (.int f15), .val (.int f16), .val (.int nn), .val (.int f18), .val (.int f19), .val (.ref b1), .val (.ref b2), .val (.ref b3), .val (.ref b4), .val (.ref b5), .val (.ref b6), .val (.ref b7), .val (.ref b9), .val (.long x4), .second] [(.int (1 : Int32))]))
                                  refine Rest.via (fun t k => XS.goto X11.here hx rfl (pc0 := 452) (pc' := 456) rfl (hb hby at_452) (by decide) (by decide) k) ?_
                                  show Rest p.tables e below s _ _ _ (T11.setTop (mkF m 456 #[.val (.long q0), .second, .val (.long q1), .second, .val (.int p2), .val (.int p3), .val (.int ka), .val (.int va), .val (.int kc), .val (.int vc), .val (.int kp), .val (.int vp), .val (.int f12), .val (.int f13), .val (.int f14), .val (.int f15), .val (.int f16), .val (.int nn), .val (.int f18), .val (.int f19), .val (.ref b1), .val (.ref b2), .val (.ref b3), .val (.ref b4), .val (.ref b5), .val (.ref b6), .val (.ref b7), .val (.ref b9), .val (.long x4), .second] [(.int (1 : Int32))]))
                                  refine Rest.ret X11 (v := some (.int (nar .boolean (1 : Int32)))) (fun h => by rw [Bd.returns] at h; cases h) hlk (fun fs hr => retN X11 hx (t := .boolean) Bd.returns (by simp) (hb hby at_456) hr) ?_ (by decide) (by decide)
                                  rw [e11]
                                  exact ⟨rfl, N11⟩
                                show Rest p.tables e below s _ _ _ (Tjv.setTop (mkF m 416 #[.val (.long q0), .second, .val (.long q1), .second, .val (.int p2), .val (.int p3), .val (.int ka), .val (.int va), .val (.int kc), .val (.int vc), .val (.int kp), .val (.int vp), .val (.int f12), .val (.int f13), .val (.int f14), .val (.int f15), .val (.int f16), .val (.int nn), .val (.int f18), .val (.int f19), .val (.ref b1), .val (.ref b2), .val (.ref b3), .val (.ref b4), .val (.ref b5), .val (.ref b6), .val (.ref b7), .val (.ref b9), .val (.long x3), .second] []))
                                refine Rest.via (fun t k => XS.iload Xjv.here hx rfl (hb hby at_416) rfl k) ?_
                                show Rest p.tables e below s _ _ _ (Tjv.setTop (mkF m 418 #[.val (.long q0), .second, .val (.long q1), .second, .val (.int p2), .val (.int p3), .val (.int ka), .val (.int va), .val (.int kc), .val (.int vc), .val (.int kp), .val (.int vp), .val (.int f12), .val (.int f13), .val (.int f14), .val (.int f15), .val (.int f16), .val (.int nn), .val (.int f18), .val (.int f19), .val (.ref b1), .val (.ref b2), .val (.ref b3), .val (.ref b4), .val (.ref b5), .val (.ref b6), .val (.ref b7), .val (.ref b9), .val (.long x3), .second] [(.int f15)]))
                                refine Rest.via (fun t k => XS.ifYes Xjv.here hx rfl (pc0 := 418) (pc' := 440) rfl (hb hby at_418) rfl ((if0 _ _).trans (teq (hc343 : f15 = (0 : Int32))).1) (by decide) (by decide) k) ?_
                                show Rest p.tables e below s _ _ _ (Tjv.setTop (mkF m 440 #[.val (.long q0), .second, .val (.long q1), .second, .val (.int p2), .val (.int p3), .val (.int ka), .val (.int va), .val (.int kc), .val (.int vc), .val (.int kp), .val (.int vp), .val (.int f12), .val (.int f13), .val (.int f14), .val (.int f15), .val (.int f16), .val (.int nn), .val (.int f18), .val (.int f19), .val (.ref b1), .val (.ref b2), .val (.ref b3), .val (.ref b4), .val (.ref b5), .val (.ref b6), .val (.ref b7), .val (.ref b9), .val (.long x3), .second] []))
                                exact Jjw _ _ _ Xjv ejv Njv Kjv _ (by rw [own_wc, if_pos hc343]; exact (Int64.add_zero _).symm) Rjv Fjv
                              show Rest p.tables e below s _ _ _ (Tju.setTop (mkF m 396 #[.val (.long q0), .second, .val (.long q1), .second, .val (.int p2), .val (.int p3), .val (.int ka), .val (.int va), .val (.int kc), .val (.int vc), .val (.int kp), .val (.int vp), .val (.int f12), .val (.int f13), .val (.int f14), .val (.int f15), .val (.int f16), .val (.int nn), .val (.int f18), .val (.int f19), .val (.ref b1), .val (.ref b2), .val (.ref b3), .val (.ref b4), .val (.ref b5), .val (.ref b6), .val (.ref b7), .val (.ref b9), .val (.long x2), .second] []))
                              refine Rest.via (fun t k => XS.iload Xju.here hx rfl (hb hby at_396) rfl k) ?_
                              show Rest p.tables e below s _ _ _ (Tju.setTop (mkF m 398 #[.val (.long q0), .second, .val (.long q1), .second, .val (.int p2), .val (.int p3), .val (.int ka), .val (.int va), .val (.int kc), .val (.int vc), .val (.int kp), .val (.int vp), .val (.int f12), .val (.int f13), .val (.int f14), .val (.int f15), .val (.int f16), .val (.int nn), .val (.int f18), .val (.int f19), .val (.ref b1), .val (.ref b2), .val (.ref b3), .val (.ref b4), .val (.ref b5), .val (.ref b6), .val (.ref b7), .val (.ref b9), .val (.long x2), .second] [(.int nn)]))
                              refine Rest.via (fun t k => XS.iconst Xju.here hx rfl (hb hby at_398) k) ?_
                              show Rest p.tables e below s _ _ _ (Tju.setTop (mkF m 399 #[.val (.long q0), .second, .val (.long q1), .second, .val (.int p2), .val (.int p3), .val (.int ka), .val (.int va), .val (.int kc), .val (.int vc), .val (.int kp), .val (.int vp), .val (.int f12), .val (.int f13), .val (.int f14), .val (.int f15), .val (.int f16), .val (.int nn), .val (.int f18), .val (.int f19), .val (.ref b1), .val (.ref b2), .val (.ref b3), .val (.ref b4), .val (.ref b5), .val (.ref b6), .val (.ref b7), .val (.ref b9), .val (.long x2), .second] [(.int (2 : Int32)), (.int nn)]))
                              by_cases hc399 : nn < (2 : Int32)
                              · refine Rest.via (fun t k => XS.icmpYes Xju.here hx rfl (pc0 := 399) (pc' := 416) rfl (hb hby at_399) rfl (tlt hc399).1 (by decide) (by decide) k) ?_
                                show Rest p.tables e below s _ _ _ (Tju.setTop (mkF m 416 #[.val (.long q0), .second, .val (.long q1), .second, .val (.int p2), .val (.int p3), .val (.int ka), .val (.int va), .val (.int kc), .val (.int vc), .val (.int kp), .val (.int vp), .val (.int f12), .val (.int f13), .val (.int f14), .val (.int f15), .val (.int f16), .val (.int nn), .val (.int f18), .val (.int f19), .val (.ref b1), .val (.ref b2), .val (.ref b3), .val (.ref b4), .val (.ref b5), .val (.ref b6), .val (.ref b7), .val (.ref b9), .val (.long x2), .second] []))
                                exact Jjv _ _ _ Xju eju Nju Kju _ (by rw [own_wn, if_pos hc399]; exact (Int64.add_zero _).symm) Rju Fju
                              · refine Rest.via (fun t k => XS.icmpNo Xju.here hx rfl (hb hby at_399) rfl (flt hc399).1 k) ?_
                                show Rest p.tables e below s _ _ _ (Tju.setTop (mkF m 402 #[.val (.long q0), .second, .val (.long q1), .second, .val (.int p2), .val (.int p3), .val (.int ka), .val (.int va), .val (.int kc), .val (.int vc), .val (.int kp), .val (.int vp), .val (.int f12), .val (.int f13), .val (.int f14), .val (.int f15), .val (.int f16), .val (.int nn), .val (.int f18), .val (.int f19), .val (.ref b1), .val (.ref b2), .val (.ref b3), .val (.ref b4), .val (.ref b5), .val (.ref b6), .val (.ref b7), .val (.ref b9), .val (.long x2), .second] []))
                                refine Rest.via (fun t k => XS.lload Xju.here hx rfl (hb hby at_402) rfl k) ?_
                                show Rest p.tables e below s _ _ _ (Tju.setTop (mkF m 404 #[.val (.long q0), .second, .val (.long q1), .second, .val (.int p2), .val (.int p3), .val (.int ka), .val (.int va), .val (.int kc), .val (.int vc), .val (.int kp), .val (.int vp), .val (.int f12), .val (.int f13), .val (.int f14), .val (.int f15), .val (.int f16), .val (.int nn), .val (.int f18), .val (.int f19), .val (.ref b1), .val (.ref b2), .val (.ref b3), .val (.ref b4), .val (.ref b5), .val (.ref b6), .val (.ref b7), .val (.ref b9), .val (.long x2), .second] [(.long x2)]))
                                refine Rest.via (fun t k => XS.iload Xju.here hx rfl (hb hby at_404) rfl k) ?_
                                show Rest p.tables e below s _ _ _ (Tju.setTop (mkF m 406 #[.val (.long q0), .second, .val (.long q1), .second, .val (.int p2), .val (.int p3), .val (.int ka), .val (.int va), .val (.int kc), .val (.int vc), .val (.int kp), .val (.int vp), .val (.int f12), .val (.int f13), .val (.int f14), .val (.int f15), .val (.int f16), .val (.int nn), .val (.int f18), .val (.int f19), .val (.ref b1), .val (.ref b2), .val (.ref b3), .val (.ref b4), .val (.ref b5), .val (.ref b6), .val (.ref b7), .val (.ref b9), .val (.long x2), .second] [(.int f14), (.long x2)]))
                                refine Rest.via (fun t k => XS.iload Xju.here hx rfl (hb hby at_406) rfl k) ?_
                                show Rest p.tables e below s _ _ _ (Tju.setTop (mkF m 408 #[.val (.long q0), .second, .val (.long q1), .second, .val (.int p2), .val (.int p3), .val (.int ka), .val (.int va), .val (.int kc), .val (.int vc), .val (.int kp), .val (.int vp), .val (.int f12), .val (.int f13), .val (.int f14), .val (.int f15), .val (.int f16), .val (.int nn), .val (.int f18), .val (.int f19), .val (.ref b1), .val (.ref b2), .val (.ref b3), .val (.ref b4), .val (.ref b5), .val (.ref b6), .val (.ref b7), .val (.ref b9), .val (.long x2), .second] [(.int kc), (.int f14), (.long x2)]))
                                refine Rest.via (fun t k => XS.iload Xju.here hx rfl (hb hby at_408) rfl k) ?_
                                show Rest p.tables e below s _ _ _ (Tju.setTop (mkF m 410 #[.val (.long q0), .second, .val (.long q1), .second, .val (.int p2), .val (.int p3), .val (.int ka), .val (.int va), .val (.int kc), .val (.int vc), .val (.int kp), .val (.int vp), .val (.int f12), .val (.int f13), .val (.int f14), .val (.int f15), .val (.int f16), .val (.int nn), .val (.int f18), .val (.int f19), .val (.ref b1), .val (.ref b2), .val (.ref b3), .val (.ref b4), .val (.ref b5), .val (.ref b6), .val (.ref b7), .val (.ref b9), .val (.long x2), .second] [(.int vc), (.int kc), (.int f14), (.long x2)]))
                                obtain ⟨_, _, ⟨T12, L12, k12, n12⟩, -, X12, ⟨Lc12, hQ12, l12, y12, z12⟩, st12⟩ := Jvm.LawKit.callS Xju hx (y := (⟨"com/example/reknit/reknit/LogRecordBodyBytesPinLaw", "writeSize", "(ZII)J"⟩ : MethodName)) hown (mvT hZ (hw _ (List.mem_of_getElem? (i := 111) rfl))) (mvT hZ (hw _ (List.mem_of_getElem? (i := 112) rfl))) (mvT hZ (hw _ (List.mem_of_getElem? (i := 113) rfl))) (mvT hZ (hw _ (List.mem_of_getElem? (i := 114) rfl))) (by decide) (backOf (W := 2) (rmWS l Z aw hw [] f14 kc vc  hju n0 (Nat.le_trans Z0 Kju.1) ) hZ (hw _ (List.mem_of_getElem? (i := 114) rfl)) (hw _ (List.mem_of_getElem? (i := 113) rfl)) (by decide) (by decide)) (g := (mkF m 410 #[.val (.long q0), .second, .val (.long q1), .second, .val (.int p2), .val (.int p3), .val (.int ka), .val (.int va), .val (.int kc), .val (.int vc), .val (.int kp), .val (.int vp), .val (.int f12), .val (.int f13), .val (.int f14), .val (.int f15), .val (.int f16), .val (.int nn), .val (.int f18), .val (.int f19), .val (.ref b1), .val (.ref b2), .val (.ref b3), .val (.ref b4), .val (.ref b5), .val (.ref b6), .val (.ref b7), .val (.ref b9), .val (.long x2), .second] [(.int vc), (.int kc), (.int f14), (.long x2)])) rfl (by rw [hml]; rfl) (argsL := [(.int f14), (.int kc), (.int vc)]) (rest := [(.long x2)]) (lenOf pd_9 rfl) rfl (by show 2 * 0 + _ ≤ _; exact Nat.le_of_eq rfl) (hb hby at_410) (fun _ _ => ⟨rfl, eju, (by decide : 16 + 0 ≤ _), (by decide : 152 + 0 ≤ _)⟩)
                                dsimp only [Pt.U, Pt.locs, Pt.cells, Pt.slots] at X12 l12 y12 z12 st12 hQ12
                                subst l12 y12 z12
                                obtain ⟨rfl, Nq12, e12⟩ := hQ12
                                have N12 := Fr.app Nju Nq12
                                refine Rest.via (fun t k => st12 t k) ?_
                                show Rest p.tables e below s _ _ _ (T12.setTop (mkF m 413 #[.val (.long q0), .second, .val (.long q1), .second, .val (.int p2), .val (.int p3), .val (.int ka), .val (.int va), .val (.int kc), .val (.int vc), .val (.int kp), .val (.int vp), .val (.int f12), .val (.int f13), .val (.int f14), .val (.int f15), .val (.int f16), .val (.int nn), .val (.int f18), .val (.int f19), .val (.ref b1), .val (.ref b2), .val (.ref b3), .val (.ref b4), .val (.ref b5), .val (.ref b6), .val (.ref b7), .val (.ref b9), .val (.long x2), .second] [(.long (own_ws f14 kc vc)), (.long x2)]))
                                refine Rest.via (fun t k => XS.ladd X12.here hx rfl (hb hby at_413) rfl k) ?_
                                show Rest p.tables e below s _ _ _ (T12.setTop (mkF m 414 #[.val (.long q0), .second, .val (.long q1), .second, .val (.int p2), .val (.int p3), .val (.int ka), .val (.int va), .val (.int kc), .val (.int vc), .val (.int kp), .val (.int vp), .val (.int f12), .val (.int f13), .val (.int f14), .val (.int f15), .val (.int f16), .val (.int nn), .val (.int f18), .val (.int f19), .val (.ref b1), .val (.ref b2), .val (.ref b3), .val (.ref b4), .val (.ref b5), .val (.ref b6), .val (.ref b7), .val (.ref b9), .val (.long x2), .second] [(.long (x2 + (own_ws f14 kc vc)))]))
                                refine Rest.via (fun t k => XS.lstore X12.here hx rfl (hb hby at_414) rfl (l' := #[.val (.long q0), .second, .val (.long q1), .second, .val (.int p2), .val (.int p3), .val (.int ka), .val (.int va), .val (.int kc), .val (.int vc), .val (.int kp), .val (.int vp), .val (.int f12), .val (.int f13), .val (.int f14), .val (.int f15), .val (.int f16), .val (.int nn), .val (.int f18), .val (.int f19), .val (.ref b1), .val (.ref b2), .val (.ref b3), .val (.ref b4), .val (.ref b5), .val (.ref b6), .val (.ref b7), .val (.ref b9), .val (.long (x2 + (own_ws f14 kc vc))), .second]) rfl k) ?_
                                show Rest p.tables e below s _ _ _ (T12.setTop (mkF m 416 #[.val (.long q0), .second, .val (.long q1), .second, .val (.int p2), .val (.int p3), .val (.int ka), .val (.int va), .val (.int kc), .val (.int vc), .val (.int kp), .val (.int vp), .val (.int f12), .val (.int f13), .val (.int f14), .val (.int f15), .val (.int f16), .val (.int nn), .val (.int f18), .val (.int f19), .val (.ref b1), .val (.ref b2), .val (.ref b3), .val (.ref b4), .val (.ref b5), .val (.ref b6), .val (.ref b7), .val (.ref b9), .val (.long (x2 + (own_ws f14 kc vc))), .second] []))
                                exact Jjv _ _ _ X12 e12 N12 Kju _ (by rw [own_wn, if_neg hc399]) Rju Fju
                            show Rest p.tables e below s _ _ _ (Tje.setTop (mkF m 376 #[.val (.long q0), .second, .val (.long q1), .second, .val (.int p2), .val (.int p3), .val (.int ka), .val (.int va), .val (.int kc), .val (.int vc), .val (.int kp), .val (.int vp), .val (.int f12), .val (.int f13), .val (.int f14), .val (.int f15), .val (.int f16), .val (.int nn), .val (.int f18), .val (.int f19), .val (.ref b1), .val (.ref b2), .val (.ref b3), .val (.ref b4), .val (.ref b5), .val (.ref b6), .val (.ref b7), .val (.ref b9), .val (.long x1), .second] []))
                            refine Rest.via (fun t k => XS.iload Xje.here hx rfl (hb hby at_376) rfl k) ?_
                            show Rest p.tables e below s _ _ _ (Tje.setTop (mkF m 378 #[.val (.long q0), .second, .val (.long q1), .second, .val (.int p2), .val (.int p3), .val (.int ka), .val (.int va), .val (.int kc), .val (.int vc), .val (.int kp), .val (.int vp), .val (.int f12), .val (.int f13), .val (.int f14), .val (.int f15), .val (.int f16), .val (.int nn), .val (.int f18), .val (.int f19), .val (.ref b1), .val (.ref b2), .val (.ref b3), .val (.ref b4), .val (.ref b5), .val (.ref b6), .val (.ref b7), .val (.ref b9), .val (.long x1), .second] [(.int nn)]))
                            refine Rest.via (fun t k => XS.iconst Xje.here hx rfl (hb hby at_378) k) ?_
                            show Rest p.tables e below s _ _ _ (Tje.setTop (mkF m 379 #[.val (.long q0), .second, .val (.long q1), .second, .val (.int p2), .val (.int p3), .val (.int ka), .val (.int va), .val (.int kc), .val (.int vc), .val (.int kp), .val (.int vp), .val (.int f12), .val (.int f13), .val (.int f14), .val (.int f15), .val (.int f16), .val (.int nn), .val (.int f18), .val (.int f19), .val (.ref b1), .val (.ref b2), .val (.ref b3), .val (.ref b4), .val (.ref b5), .val (.ref b6), .val (.ref b7), .val (.ref b9), .val (.long x1), .second] [(.int (1 : Int32)), (.int nn)]))
                            by_cases hc379 : nn < (1 : Int32)
                            · refine Rest.via (fun t k => XS.icmpYes Xje.here hx rfl (pc0 := 379) (pc' := 396) rfl (hb hby at_379) rfl (tlt hc379).1 (by decide) (by decide) k) ?_
                              show Rest p.tables e below s _ _ _ (Tje.setTop (mkF m 396 #[.val (.long q0), .second, .val (.long q1), .second, .val (.int p2), .val (.int p3), .val (.int ka), .val (.int va), .val (.int kc), .val (.int vc), .val (.int kp), .val (.int vp), .val (.int f12), .val (.int f13), .val (.int f14), .val (.int f15), .val (.int f16), .val (.int nn), .val (.int f18), .val (.int f19), .val (.ref b1), .val (.ref b2), .val (.ref b3), .val (.ref b4), .val (.ref b5), .val (.ref b6), .val (.ref b7), .val (.ref b9), .val (.long x1), .second] []))
                              exact Jju _ _ _ Xje eje Nje Kje _ (by rw [own_wn, if_pos hc379]; exact (Int64.add_zero _).symm) Re Fe
                            · refine Rest.via (fun t k => XS.icmpNo Xje.here hx rfl (hb hby at_379) rfl (flt hc379).1 k) ?_
                              show Rest p.tables e below s _ _ _ (Tje.setTop (mkF m 382 #[.val (.long q0), .second, .val (.long q1), .second, .val (.int p2), .val (.int p3), .val (.int ka), .val (.int va), .val (.int kc), .val (.int vc), .val (.int kp), .val (.int vp), .val (.int f12), .val (.int f13), .val (.int f14), .val (.int f15), .val (.int f16), .val (.int nn), .val (.int f18), .val (.int f19), .val (.ref b1), .val (.ref b2), .val (.ref b3), .val (.ref b4), .val (.ref b5), .val (.ref b6), .val (.ref b7), .val (.ref b9), .val (.long x1), .second] []))
                              refine Rest.via (fun t k => XS.lload Xje.here hx rfl (hb hby at_382) rfl k) ?_
                              show Rest p.tables e below s _ _ _ (Tje.setTop (mkF m 384 #[.val (.long q0), .second, .val (.long q1), .second, .val (.int p2), .val (.int p3), .val (.int ka), .val (.int va), .val (.int kc), .val (.int vc), .val (.int kp), .val (.int vp), .val (.int f12), .val (.int f13), .val (.int f14), .val (.int f15), .val (.int f16), .val (.int nn), .val (.int f18), .val (.int f19), .val (.ref b1), .val (.ref b2), .val (.ref b3), .val (.ref b4), .val (.ref b5), .val (.ref b6), .val (.ref b7), .val (.ref b9), .val (.long x1), .second] [(.long x1)]))
                              refine Rest.via (fun t k => XS.iload Xje.here hx rfl (hb hby at_384) rfl k) ?_
                              show Rest p.tables e below s _ _ _ (Tje.setTop (mkF m 386 #[.val (.long q0), .second, .val (.long q1), .second, .val (.int p2), .val (.int p3), .val (.int ka), .val (.int va), .val (.int kc), .val (.int vc), .val (.int kp), .val (.int vp), .val (.int f12), .val (.int f13), .val (.int f14), .val (.int f15), .val (.int f16), .val (.int nn), .val (.int f18), .val (.int f19), .val (.ref b1), .val (.ref b2), .val (.ref b3), .val (.ref b4), .val (.ref b5), .val (.ref b6), .val (.ref b7), .val (.ref b9), .val (.long x1), .second] [(.int f13), (.long x1)]))
                              refine Rest.via (fun t k => XS.iload Xje.here hx rfl (hb hby at_386) rfl k) ?_
                              show Rest p.tables e below s _ _ _ (Tje.setTop (mkF m 388 #[.val (.long q0), .second, .val (.long q1), .second, .val (.int p2), .val (.int p3), .val (.int ka), .val (.int va), .val (.int kc), .val (.int vc), .val (.int kp), .val (.int vp), .val (.int f12), .val (.int f13), .val (.int f14), .val (.int f15), .val (.int f16), .val (.int nn), .val (.int f18), .val (.int f19), .val (.ref b1), .val (.ref b2), .val (.ref b3), .val (.ref b4), .val (.ref b5), .val (.ref b6), .val (.ref b7), .val (.ref b9), .val (.long x1), .second] [(.int ka), (.int f13), (.long x1)]))
                              refine Rest.via (fun t k => XS.iload Xje.here hx rfl (hb hby at_388) rfl k) ?_
                              show Rest p.tables e below s _ _ _ (Tje.setTop (mkF m 390 #[.val (.long q0), .second, .val (.long q1), .second, .val (.int p2), .val (.int p3), .val (.int ka), .val (.int va), .val (.int kc), .val (.int vc), .val (.int kp), .val (.int vp), .val (.int f12), .val (.int f13), .val (.int f14), .val (.int f15), .val (.int f16), .val (.int nn), .val (.int f18), .val (.int f19), .val (.ref b1), .val (.ref b2), .val (.ref b3), .val (.ref b4), .val (.ref b5), .val (.ref b6), .val (.ref b7), .val (.ref b9), .val (.long x1), .second] [(.int va), (.int ka), (.int f13), (.long x1)]))
                              obtain ⟨_, _, ⟨T13, L13, k13, n13⟩, -, X13, ⟨Lc13, hQ13, l13, y13, z13⟩, st13⟩ := Jvm.LawKit.callS Xje hx (y := (⟨"com/example/reknit/reknit/LogRecordBodyBytesPinLaw", "writeSize", "(ZII)J"⟩ : MethodName)) hown (mvT hZ (hw _ (List.mem_of_getElem? (i := 111) rfl))) (mvT hZ (hw _ (List.mem_of_getElem? (i := 112) rfl))) (mvT hZ (hw _ (List.mem_of_getElem? (i := 113) rfl))) (mvT hZ (hw _ (List.mem_of_getElem? (i := 114) rfl))) (by decide) (backOf (W := 2) (rmWS l Z aw hw [] f13 ka va  hje n0 (Nat.le_trans Z0 Kje.1) ) hZ (hw _ (List.mem_of_getElem? (i := 114) rfl)) (hw _ (List.mem_of_getElem? (i := 113) rfl)) (by decide) (by decide)) (g := (mkF m 390 #[.val (.long q0), .second, .val (.long q1), .second, .val (.int p2), .val (.int p3), .val (.int ka), .val (.int va), .val (.int kc), .val (.int vc), .val (.int kp), .val (.int vp), .val (.int f12), .val (.int f13), .val (.int f14), .val (.int f15), .val (.int f16), .val (.int nn), .val (.int f18), .val (.int f19), .val (.ref b1), .val (.ref b2), .val (.ref b3), .val (.ref b4), .val (.ref b5), .val (.ref b6), .val (.ref b7), .val (.ref b9), .val (.long x1), .second] [(.int va), (.int ka), (.int f13), (.long x1)])) rfl (by rw [hml]; rfl) (argsL := [(.int f13), (.int ka), (.int va)]) (rest := [(.long x1)]) (lenOf pd_9 rfl) rfl (by show 2 * 0 + _ ≤ _; exact Nat.le_of_eq rfl) (hb hby at_390) (fun _ _ => ⟨rfl, eje, (by decide : 16 + 0 ≤ _), (by decide : 152 + 0 ≤ _)⟩)
                              dsimp only [Pt.U, Pt.locs, Pt.cells, Pt.slots] at X13 l13 y13 z13 st13 hQ13
                              subst l13 y13 z13
                              obtain ⟨rfl, Nq13, e13⟩ := hQ13
                              have N13 := Fr.app Nje Nq13
                              refine Rest.via (fun t k => st13 t k) ?_
                              show Rest p.tables e below s _ _ _ (T13.setTop (mkF m 393 #[.val (.long q0), .second, .val (.long q1), .second, .val (.int p2), .val (.int p3), .val (.int ka), .val (.int va), .val (.int kc), .val (.int vc), .val (.int kp), .val (.int vp), .val (.int f12), .val (.int f13), .val (.int f14), .val (.int f15), .val (.int f16), .val (.int nn), .val (.int f18), .val (.int f19), .val (.ref b1), .val (.ref b2), .val (.ref b3), .val (.ref b4), .val (.ref b5), .val (.ref b6), .val (.ref b7), .val (.ref b9), .val (.long x1), .second] [(.long (own_ws f13 ka va)), (.long x1)]))
                              refine Rest.via (fun t k => XS.ladd X13.here hx rfl (hb hby at_393) rfl k) ?_
                              show Rest p.tables e below s _ _ _ (T13.setTop (mkF m 394 #[.val (.long q0), .second, .val (.long q1), .second, .val (.int p2), .val (.int p3), .val (.int ka), .val (.int va), .val (.int kc), .val (.int vc), .val (.int kp), .val (.int vp), .val (.int f12), .val (.int f13), .val (.int f14), .val (.int f15), .val (.int f16), .val (.int nn), .val (.int f18), .val (.int f19), .val (.ref b1), .val (.ref b2), .val (.ref b3), .val (.ref b4), .val (.ref b5), .val (.ref b6), .val (.ref b7), .val (.ref b9), .val (.long x1), .second] [(.long (x1 + (own_ws f13 ka va)))]))
                              refine Rest.via (fun t k => XS.lstore X13.here hx rfl (hb hby at_394) rfl (l' := #[.val (.long q0), .second, .val (.long q1), .second, .val (.int p2), .val (.int p3), .val (.int ka), .val (.int va), .val (.int kc), .val (.int vc), .val (.int kp), .val (.int vp), .val (.int f12), .val (.int f13), .val (.int f14), .val (.int f15), .val (.int f16), .val (.int nn), .val (.int f18), .val (.int f19), .val (.ref b1), .val (.ref b2), .val (.ref b3), .val (.ref b4), .val (.ref b5), .val (.ref b6), .val (.ref b7), .val (.ref b9), .val (.long (x1 + (own_ws f13 ka va))), .second]) rfl k) ?_
                              show Rest p.tables e below s _ _ _ (T13.setTop (mkF m 396 #[.val (.long q0), .second, .val (.long q1), .second, .val (.int p2), .val (.int p3), .val (.int ka), .val (.int va), .val (.int kc), .val (.int vc), .val (.int kp), .val (.int vp), .val (.int f12), .val (.int f13), .val (.int f14), .val (.int f15), .val (.int f16), .val (.int nn), .val (.int f18), .val (.int f19), .val (.ref b1), .val (.ref b2), .val (.ref b3), .val (.ref b4), .val (.ref b5), .val (.ref b6), .val (.ref b7), .val (.ref b9), .val (.long (x1 + (own_ws f13 ka va))), .second] []))
                              exact Jju _ _ _ X13 e13 N13 Kje _ (by rw [own_wn, if_neg hc379]) Re Fe
                          show Rest p.tables e below s _ _ _ (Tje.setTop (mkF m 357 #[.val (.long q0), .second, .val (.long q1), .second, .val (.int p2), .val (.int p3), .val (.int ka), .val (.int va), .val (.int kc), .val (.int vc), .val (.int kp), .val (.int vp), .val (.int f12), .val (.int f13), .val (.int f14), .val (.int f15), .val (.int f16), .val (.int nn), .val (.int f18), .val (.int f19), .val (.ref b1), .val (.ref b2), .val (.ref b3), .val (.ref b4), .val (.ref b5), .val (.ref b6), .val (.ref b7), .val (.ref b9), .val (.long (0 : Int64)), .second] []))
                          refine Rest.via (fun t k => XS.iload Xje.here hx rfl (hb hby at_357) rfl k) ?_
                          show Rest p.tables e below s _ _ _ (Tje.setTop (mkF m 359 #[.val (.long q0), .second, .val (.long q1), .second, .val (.int p2), .val (.int p3), .val (.int ka), .val (.int va), .val (.int kc), .val (.int vc), .val (.int kp), .val (.int vp), .val (.int f12), .val (.int f13), .val (.int f14), .val (.int f15), .val (.int f16), .val (.int nn), .val (.int f18), .val (.int f19), .val (.ref b1), .val (.ref b2), .val (.ref b3), .val (.ref b4), .val (.ref b5), .val (.ref b6), .val (.ref b7), .val (.ref b9), .val (.long (0 : Int64)), .second] [(.int f12)]))
                          by_cases hc359 : f12 = (0 : Int32)
                          · refine Rest.via (fun t k => XS.ifYes Xje.here hx rfl (pc0 := 359) (pc' := 376) rfl (hb hby at_359) rfl ((if0 _ _).trans (teq hc359).1) (by decide) (by decide) k) ?_
                            show Rest p.tables e below s _ _ _ (Tje.setTop (mkF m 376 #[.val (.long q0), .second, .val (.long q1), .second, .val (.int p2), .val (.int p3), .val (.int ka), .val (.int va), .val (.int kc), .val (.int vc), .val (.int kp), .val (.int vp), .val (.int f12), .val (.int f13), .val (.int f14), .val (.int f15), .val (.int f16), .val (.int nn), .val (.int f18), .val (.int f19), .val (.ref b1), .val (.ref b2), .val (.ref b3), .val (.ref b4), .val (.ref b5), .val (.ref b6), .val (.ref b7), .val (.ref b9), .val (.long (0 : Int64)), .second] []))
                            exact J376 _ (if_pos hc359).symm
                          · refine Rest.via (fun t k => XS.ifNo Xje.here hx rfl (hb hby at_359) rfl ((if0 _ _).trans (feq hc359).1) k) ?_
                            show Rest p.tables e below s _ _ _ (Tje.setTop (mkF m 362 #[.val (.long q0), .second, .val (.long q1), .second, .val (.int p2), .val (.int p3), .val (.int ka), .val (.int va), .val (.int kc), .val (.int vc), .val (.int kp), .val (.int vp), .val (.int f12), .val (.int f13), .val (.int f14), .val (.int f15), .val (.int f16), .val (.int nn), .val (.int f18), .val (.int f19), .val (.ref b1), .val (.ref b2), .val (.ref b3), .val (.ref b4), .val (.ref b5), .val (.ref b6), .val (.ref b7), .val (.ref b9), .val (.long (0 : Int64)), .second] []))
                            refine Rest.via (fun t k => XS.lloadN Xje.here hx rfl (hb hby at_362) rfl k) ?_
                            show Rest p.tables e below s _ _ _ (Tje.setTop (mkF m 363 #[.val (.long q0), .second, .val (.long q1), .second, .val (.int p2), .val (.int p3), .val (.int ka), .val (.int va), .val (.int kc), .val (.int vc), .val (.int kp), .val (.int vp), .val (.int f12), .val (.int f13), .val (.int f14), .val (.int f15), .val (.int f16), .val (.int nn), .val (.int f18), .val (.int f19), .val (.ref b1), .val (.ref b2), .val (.ref b3), .val (.ref b4), .val (.ref b5), .val (.ref b6), .val (.ref b7), .val (.ref b9), .val (.long (0 : Int64)), .second] [(.long q0)]))
                            refine Rest.via (fun t k => XS.lconst Xje.here hx rfl (hb hby at_363) k) ?_
                            show Rest p.tables e below s _ _ _ (Tje.setTop (mkF m 364 #[.val (.long q0), .second, .val (.long q1), .second, .val (.int p2), .val (.int p3), .val (.int ka), .val (.int va), .val (.int kc), .val (.int vc), .val (.int kp), .val (.int vp), .val (.int f12), .val (.int f13), .val (.int f14), .val (.int f15), .val (.int f16), .val (.int nn), .val (.int f18), .val (.int f19), .val (.ref b1), .val (.ref b2), .val (.ref b3), .val (.ref b4), .val (.ref b5), .val (.ref b6), .val (.ref b7), .val (.ref b9), .val (.long (0 : Int64)), .second] [(.long (0 : Int64)), (.long q0)]))
                            refine Rest.via (fun t k => XS.lcmp Xje.here hx rfl (hb hby at_364) rfl k) ?_
                            show Rest p.tables e below s _ _ _ (Tje.setTop (mkF m 365 #[.val (.long q0), .second, .val (.long q1), .second, .val (.int p2), .val (.int p3), .val (.int ka), .val (.int va), .val (.int kc), .val (.int vc), .val (.int kp), .val (.int vp), .val (.int f12), .val (.int f13), .val (.int f14), .val (.int f15), .val (.int f16), .val (.int nn), .val (.int f18), .val (.int f19), .val (.ref b1), .val (.ref b2), .val (.ref b3), .val (.ref b4), .val (.ref b5), .val (.ref b6), .val (.ref b7), .val (.ref b9), .val (.long (0 : Int64)), .second] [(.int (lcmpW q0 (0 : Int64)))]))
                            by_cases hc365 : q0 = (0 : Int64)
                            · refine Rest.via (fun t k => XS.ifYes Xje.here hx rfl (pc0 := 365) (pc' := 376) rfl (hb hby at_365) rfl ((if0 _ _).trans (teq ((lw_eq _ _).mpr hc365)).1) (by decide) (by decide) k) ?_
                              show Rest p.tables e below s _ _ _ (Tje.setTop (mkF m 376 #[.val (.long q0), .second, .val (.long q1), .second, .val (.int p2), .val (.int p3), .val (.int ka), .val (.int va), .val (.int kc), .val (.int vc), .val (.int kp), .val (.int vp), .val (.int f12), .val (.int f13), .val (.int f14), .val (.int f15), .val (.int f16), .val (.int nn), .val (.int f18), .val (.int f19), .val (.ref b1), .val (.ref b2), .val (.ref b3), .val (.ref b4), .val (.ref b5), .val (.ref b6), .val (.ref b7), .val (.ref b9), .val (.long (0 : Int64)), .second] []))
                              exact J376 _ (by rw [own_x1, if_neg hc359, if_pos hc365])
                            · refine Rest.via (fun t k => XS.ifNo Xje.here hx rfl (hb hby at_365) rfl ((if0 _ _).trans (feq (fun q => hc365 ((lw_eq _ _).mp q))).1) k) ?_
                              show Rest p.tables e below s _ _ _ (Tje.setTop (mkF m 368 #[.val (.long q0), .second, .val (.long q1), .second, .val (.int p2), .val (.int p3), .val (.int ka), .val (.int va), .val (.int kc), .val (.int vc), .val (.int kp), .val (.int vp), .val (.int f12), .val (.int f13), .val (.int f14), .val (.int f15), .val (.int f16), .val (.int nn), .val (.int f18), .val (.int f19), .val (.ref b1), .val (.ref b2), .val (.ref b3), .val (.ref b4), .val (.ref b5), .val (.ref b6), .val (.ref b7), .val (.ref b9), .val (.long (0 : Int64)), .second] []))
                              refine Rest.via (fun t k => XS.lload Xje.here hx rfl (hb hby at_368) rfl k) ?_
                              show Rest p.tables e below s _ _ _ (Tje.setTop (mkF m 370 #[.val (.long q0), .second, .val (.long q1), .second, .val (.int p2), .val (.int p3), .val (.int ka), .val (.int va), .val (.int kc), .val (.int vc), .val (.int kp), .val (.int vp), .val (.int f12), .val (.int f13), .val (.int f14), .val (.int f15), .val (.int f16), .val (.int nn), .val (.int f18), .val (.int f19), .val (.ref b1), .val (.ref b2), .val (.ref b3), .val (.ref b4), .val (.ref b5), .val (.ref b6), .val (.ref b7), .val (.ref b9), .val (.long (0 : Int64)), .second] [(.long (0 : Int64))]))
                              refine Rest.via (fun t k => Xje.ldc2Long hx hown (mvT hZ (hw _ (List.mem_of_getElem? (i := 45) rfl))) (g := (mkF m 370 #[.val (.long q0), .second, .val (.long q1), .second, .val (.int p2), .val (.int p3), .val (.int ka), .val (.int va), .val (.int kc), .val (.int vc), .val (.int kp), .val (.int vp), .val (.int f12), .val (.int f13), .val (.int f14), .val (.int f15), .val (.int f16), .val (.int nn), .val (.int f18), .val (.int f19), .val (.ref b1), .val (.ref b2), .val (.ref b3), .val (.ref b4), .val (.ref b5), .val (.ref b6), .val (.ref b7), .val (.ref b9), .val (.long (0 : Int64)), .second] [(.long (0 : Int64))])) rfl (hb hby at_370) t k) ?_
                              show Rest p.tables e below s _ _ _ (Tje.setTop (mkF m 373 #[.val (.long q0), .second, .val (.long q1), .second, .val (.int p2), .val (.int p3), .val (.int ka), .val (.int va), .val (.int kc), .val (.int vc), .val (.int kp), .val (.int vp), .val (.int f12), .val (.int f13), .val (.int f14), .val (.int f15), .val (.int f16), .val (.int nn), .val (.int f18), .val (.int f19), .val (.ref b1), .val (.ref b2), .val (.ref b3), .val (.ref b4), .val (.ref b5), .val (.ref b6), .val (.ref b7), .val (.ref b9), .val (.long (0 : Int64)), .second] [(.long (13 : Int64)), (.long (0 : Int64))]))
                              refine Rest.via (fun t k => XS.ladd Xje.here hx rfl (hb hby at_373) rfl k) ?_
                              show Rest p.tables e below s _ _ _ (Tje.setTop (mkF m 374 #[.val (.long q0), .second, .val (.long q1), .second, .val (.int p2), .val (.int p3), .val (.int ka), .val (.int va), .val (.int kc), .val (.int vc), .val (.int kp), .val (.int vp), .val (.int f12), .val (.int f13), .val (.int f14), .val (.int f15), .val (.int f16), .val (.int nn), .val (.int f18), .val (.int f19), .val (.ref b1), .val (.ref b2), .val (.ref b3), .val (.ref b4), .val (.ref b5), .val (.ref b6), .val (.ref b7), .val (.ref b9), .val (.long (0 : Int64)), .second] [(.long ((0 : Int64) + (13 : Int64)))]))
                              refine Rest.via (fun t k => XS.lstore Xje.here hx rfl (hb hby at_374) rfl (l' := #[.val (.long q0), .second, .val (.long q1), .second, .val (.int p2), .val (.int p3), .val (.int ka), .val (.int va), .val (.int kc), .val (.int vc), .val (.int kp), .val (.int vp), .val (.int f12), .val (.int f13), .val (.int f14), .val (.int f15), .val (.int f16), .val (.int nn), .val (.int f18), .val (.int f19), .val (.ref b1), .val (.ref b2), .val (.ref b3), .val (.ref b4), .val (.ref b5), .val (.ref b6), .val (.ref b7), .val (.ref b9), .val (.long ((0 : Int64) + (13 : Int64))), .second]) rfl k) ?_
                              show Rest p.tables e below s _ _ _ (Tje.setTop (mkF m 376 #[.val (.long q0), .second, .val (.long q1), .second, .val (.int p2), .val (.int p3), .val (.int ka), .val (.int va), .val (.int kc), .val (.int vc), .val (.int kp), .val (.int vp), .val (.int f12), .val (.int f13), .val (.int f14), .val (.int f15), .val (.int f16), .val (.int nn), .val (.int f18), .val (.int f19), .val (.ref b1), .val (.ref b2), .val (.ref b3), .val (.ref b4), .val (.ref b5), .val (.ref b6), .val (.ref b7), .val (.ref b9), .val (.long ((0 : Int64) + (13 : Int64))), .second] []))
                              exact J376 _ (by rw [own_x1, if_neg hc359, if_neg hc365])
                        · refine Rest.via (fun t k => XS.ifNo Xje.here hx rfl (hb hby at_343) rfl ((if0 _ _).trans (feq hc343).1) k) ?_
                          show Rest p.tables e below s _ _ _ (Tje.setTop (mkF m 346 #[.val (.long q0), .second, .val (.long q1), .second, .val (.int p2), .val (.int p3), .val (.int ka), .val (.int va), .val (.int kc), .val (.int vc), .val (.int kp), .val (.int vp), .val (.int f12), .val (.int f13), .val (.int f14), .val (.int f15), .val (.int f16), .val (.int nn), .val (.int f18), .val (.int f19), .val (.ref b1), .val (.ref b2), .val (.ref b3), .val (.ref b4), .val (.ref b5), .val (.ref b6), .val (.ref b7), .val (.ref b9), .unset, .unset] []))
                          refine Rest.via (fun t k => XS.aload Xje.here hx rfl (hb hby at_346) rfl rfl k) ?_
                          show Rest p.tables e below s _ _ _ (Tje.setTop (mkF m 348 #[.val (.long q0), .second, .val (.long q1), .second, .val (.int p2), .val (.int p3), .val (.int ka), .val (.int va), .val (.int kc), .val (.int vc), .val (.int kp), .val (.int vp), .val (.int f12), .val (.int f13), .val (.int f14), .val (.int f15), .val (.int f16), .val (.int nn), .val (.int f18), .val (.int f19), .val (.ref b1), .val (.ref b2), .val (.ref b3), .val (.ref b4), .val (.ref b5), .val (.ref b6), .val (.ref b7), .val (.ref b9), .unset, .unset] [(.ref b7)]))
                          refine Rest.via (fun t k => XS.aload Xje.here hx rfl (hb hby at_348) rfl rfl k) ?_
                          show Rest p.tables e below s _ _ _ (Tje.setTop (mkF m 350 #[.val (.long q0), .second, .val (.long q1), .second, .val (.int p2), .val (.int p3), .val (.int ka), .val (.int va), .val (.int kc), .val (.int vc), .val (.int kp), .val (.int vp), .val (.int f12), .val (.int f13), .val (.int f14), .val (.int f15), .val (.int f16), .val (.int nn), .val (.int f18), .val (.int f19), .val (.ref b1), .val (.ref b2), .val (.ref b3), .val (.ref b4), .val (.ref b5), .val (.ref b6), .val (.ref b7), .val (.ref b9), .unset, .unset] [(.ref b9), (.ref b7)]))
                          obtain ⟨cq14, kq14, q14a, q14b, q14c⟩ := isOf hZ eje Re.1
                          obtain ⟨_, _, ⟨T14, L14, k14, n14⟩, -, X14, ⟨Lc14, hQ14, l14, y14, z14⟩, st14⟩ := Xje.virtualBack hx (y := (⟨"com/example/reknit/reknit/LogRecord", "carry", "(Lcom/example/reknit/reknit/LogRecord;)Lcom/example/reknit/reknit/LogRecord;"⟩ : MethodName)) (z := (⟨"com/example/reknit/reknit/LogRecord", "carry", "(Lcom/example/reknit/reknit/LogRecord;)Lcom/example/reknit/reknit/LogRecord;"⟩ : MethodName)) hown (mvT hZ (hw _ (List.mem_of_getElem? (i := 55) rfl))) (mvT hZ (hw _ (List.mem_of_getElem? (i := 56) rfl))) (notFace_of_selects (args := #[]) (mvT hZ (hw _ (List.mem_of_getElem? (i := 58) rfl)))) (mvT hZ (hw _ (List.mem_of_getElem? (i := 58) rfl))) (mvT hZ (hw _ (List.mem_of_getElem? (i := 57) rfl))) (by decide) (backOf (W := 0) (rmCY l Z aw hw [] b7 b9 _ _ _ hje n0 (Nat.le_trans Z0 Kje.1) Re g_b7) hZ (hw _ (List.mem_of_getElem? (i := 59) rfl)) (hw _ (List.mem_of_getElem? (i := 3) rfl)) (by decide) (by decide)) q14a q14c (g := (mkF m 350 #[.val (.long q0), .second, .val (.long q1), .second, .val (.int p2), .val (.int p3), .val (.int ka), .val (.int va), .val (.int kc), .val (.int vc), .val (.int kp), .val (.int vp), .val (.int f12), .val (.int f13), .val (.int f14), .val (.int f15), .val (.int f16), .val (.int nn), .val (.int f18), .val (.int f19), .val (.ref b1), .val (.ref b2), .val (.ref b3), .val (.ref b4), .val (.ref b5), .val (.ref b6), .val (.ref b7), .val (.ref b9), .unset, .unset] [(.ref b9), (.ref b7)])) rfl (by rw [hml]; rfl) (Steps.refl _) (argsL := [(.ref b9)]) (rest := []) (lenOf pd_10 rfl) rfl (by show 2 * 0 + _ ≤ _; exact Nat.le_of_eq rfl) (hb hby at_350) (fun _ _ => ⟨rfl, eje, (by decide : 16 + 0 ≤ _), (by decide : 152 + 0 ≤ _)⟩)
                          dsimp only [Pt.U, Pt.locs, Pt.cells, Pt.slots] at X14 l14 y14 z14 st14 hQ14
                          subst l14 y14 z14
                          obtain ⟨h14, e14⟩ : ∃ z, T14.heap = z := ⟨_, rfl⟩
                          rw [e14] at hQ14
                          obtain ⟨rfl, Nq14, Kq14, Rq14⟩ := hQ14
                          have N14 := Fr.app Nje Nq14
                          have K14 : Keep h0 h14 [] := Kje.trans Kq14 (allS (Or.inr sz_b7) all0)
                          refine Rest.via (fun t k => st14.trans k) ?_
                          show Rest p.tables e below s _ _ _ (T14.setTop (mkF m 353 #[.val (.long q0), .second, .val (.long q1), .second, .val (.int p2), .val (.int p3), .val (.int ka), .val (.int va), .val (.int kc), .val (.int vc), .val (.int kp), .val (.int vp), .val (.int f12), .val (.int f13), .val (.int f14), .val (.int f15), .val (.int f16), .val (.int nn), .val (.int f18), .val (.int f19), .val (.ref b1), .val (.ref b2), .val (.ref b3), .val (.ref b4), .val (.ref b5), .val (.ref b6), .val (.ref b7), .val (.ref b9), .unset, .unset] [(.ref b7)]))
                          refine Rest.via (fun t k => XS.pop X14.here hx rfl (hb hby at_353) rfl rfl k) ?_
                          show Rest p.tables e below s _ _ _ (T14.setTop (mkF m 354 #[.val (.long q0), .second, .val (.long q1), .second, .val (.int p2), .val (.int p3), .val (.int ka), .val (.int va), .val (.int kc), .val (.int vc), .val (.int kp), .val (.int vp), .val (.int f12), .val (.int f13), .val (.int f14), .val (.int f15), .val (.int f16), .val (.int nn), .val (.int f18), .val (.int f19), .val (.ref b1), .val (.ref b2), .val (.ref b3), .val (.ref b4), .val (.ref b5), .val (.ref b6), .val (.ref b7), .val (.ref b9), .unset, .unset] []))
                          refine Rest.via (fun t k => XS.lconst X14.here hx rfl (hb hby at_354) k) ?_
                          show Rest p.tables e below s _ _ _ (T14.setTop (mkF m 355 #[.val (.long q0), .second, .val (.long q1), .second, .val (.int p2), .val (.int p3), .val (.int ka), .val (.int va), .val (.int kc), .val (.int vc), .val (.int kp), .val (.int vp), .val (.int f12), .val (.int f13), .val (.int f14), .val (.int f15), .val (.int f16), .val (.int nn), .val (.int f18), .val (.int f19), .val (.ref b1), .val (.ref b2), .val (.ref b3), .val (.ref b4), .val (.ref b5), .val (.ref b6), .val (.ref b7), .val (.ref b9), .unset, .unset] [(.long (0 : Int64))]))
                          refine Rest.via (fun t k => XS.lstore X14.here hx rfl (hb hby at_355) rfl (l' := #[.val (.long q0), .second, .val (.long q1), .second, .val (.int p2), .val (.int p3), .val (.int ka), .val (.int va), .val (.int kc), .val (.int vc), .val (.int kp), .val (.int vp), .val (.int f12), .val (.int f13), .val (.int f14), .val (.int f15), .val (.int f16), .val (.int nn), .val (.int f18), .val (.int f19), .val (.ref b1), .val (.ref b2), .val (.ref b3), .val (.ref b4), .val (.ref b5), .val (.ref b6), .val (.ref b7), .val (.ref b9), .val (.long (0 : Int64)), .second]) rfl k) ?_
                          show Rest p.tables e below s _ _ _ (T14.setTop (mkF m 357 #[.val (.long q0), .second, .val (.long q1), .second, .val (.int p2), .val (.int p3), .val (.int ka), .val (.int va), .val (.int kc), .val (.int vc), .val (.int kp), .val (.int vp), .val (.int f12), .val (.int f13), .val (.int f14), .val (.int f15), .val (.int f16), .val (.int nn), .val (.int f18), .val (.int f19), .val (.ref b1), .val (.ref b2), .val (.ref b3), .val (.ref b4), .val (.ref b5), .val (.ref b6), .val (.ref b7), .val (.ref b9), .val (.long (0 : Int64)), .second] []))
                          have J376 : ∀ (x1 : Int64), (x1 = own_x1 f12 q0) → Rest p.tables e below s (Q0 Z q0 q1 p2 p3 de h0 n0) 16 152 (T14.setTop (mkF m 376 #[.val (.long q0), .second, .val (.long q1), .second, .val (.int p2), .val (.int p3), .val (.int ka), .val (.int va), .val (.int kc), .val (.int vc), .val (.int kp), .val (.int vp), .val (.int f12), .val (.int f13), .val (.int f14), .val (.int f15), .val (.int f16), .val (.int nn), .val (.int f18), .val (.int f19), .val (.ref b1), .val (.ref b2), .val (.ref b3), .val (.ref b4), .val (.ref b5), .val (.ref b6), .val (.ref b7), .val (.ref b9), .val (.long x1), .second] [])) := by
                            intro x1 hx1
                            show Rest p.tables e below s _ _ _ (T14.setTop (mkF m 376 #[.val (.long q0), .second, .val (.long q1), .second, .val (.int p2), .val (.int p3), .val (.int ka), .val (.int va), .val (.int kc), .val (.int vc), .val (.int kp), .val (.int vp), .val (.int f12), .val (.int f13), .val (.int f14), .val (.int f15), .val (.int f16), .val (.int nn), .val (.int f18), .val (.int f19), .val (.ref b1), .val (.ref b2), .val (.ref b3), .val (.ref b4), .val (.ref b5), .val (.ref b6), .val (.ref b7), .val (.ref b9), .val (.long x1), .second] []))
                            have Jju : ∀ (Tju : State) (Lju : List Loc) (hju : Heap) (Xju : Stand p l e room_1 s m #[(.long q0), (.long q1), (.int p2), (.int p3)] below meth c Tju Lju 16 152) (eju : Tju.heap = hju) (Nju : Fr n0 Lju) (Kju : Keep h0 hju []) (x2 : Int64) (hx2 : x2 = x1 + own_wn 1 nn f13 ka va) (Rju : own_LF Z hju b7 lk wR (.ref b9)) (Fju : Fld Z hju b9 "com/example/reknit/reknit/LogRecord" "writeBytes" "J" (.long wP)), Rest p.tables e below s (Q0 Z q0 q1 p2 p3 de h0 n0) 16 152 (Tju.setTop (mkF m 396 #[.val (.long q0), .second, .val (.long q1), .second, .val (.int p2), .val (.int p3), .val (.int ka), .val (.int va), .val (.int kc), .val (.int vc), .val (.int kp), .val (.int vp), .val (.int f12), .val (.int f13), .val (.int f14), .val (.int f15), .val (.int f16), .val (.int nn), .val (.int f18), .val (.int f19), .val (.ref b1), .val (.ref b2), .val (.ref b3), .val (.ref b4), .val (.ref b5), .val (.ref b6), .val (.ref b7), .val (.ref b9), .val (.long x2), .second] [])) := by
                              intro Tju Lju hju Xju eju Nju Kju x2 hx2 Rju Fju
                              show Rest p.tables e below s _ _ _ (Tju.setTop (mkF m 396 #[.val (.long q0), .second, .val (.long q1), .second, .val (.int p2), .val (.int p3), .val (.int ka), .val (.int va), .val (.int kc), .val (.int vc), .val (.int kp), .val (.int vp), .val (.int f12), .val (.int f13), .val (.int f14), .val (.int f15), .val (.int f16), .val (.int nn), .val (.int f18), .val (.int f19), .val (.ref b1), .val (.ref b2), .val (.ref b3), .val (.ref b4), .val (.ref b5), .val (.ref b6), .val (.ref b7), .val (.ref b9), .val (.long x2), .second] []))
                              have Jjv : ∀ (Tjv : State) (Ljv : List Loc) (hjv : Heap) (Xjv : Stand p l e room_1 s m #[(.long q0), (.long q1), (.int p2), (.int p3)] below meth c Tjv Ljv 16 152) (ejv : Tjv.heap = hjv) (Njv : Fr n0 Ljv) (Kjv : Keep h0 hjv []) (x3 : Int64) (hx3 : x3 = x2 + own_wn 2 nn f14 kc vc) (Rjv : own_LF Z hjv b7 lk wR (.ref b9)) (Fjv : Fld Z hjv b9 "com/example/reknit/reknit/LogRecord" "writeBytes" "J" (.long wP)), Rest p.tables e below s (Q0 Z q0 q1 p2 p3 de h0 n0) 16 152 (Tjv.setTop (mkF m 416 #[.val (.long q0), .second, .val (.long q1), .second, .val (.int p2), .val (.int p3), .val (.int ka), .val (.int va), .val (.int kc), .val (.int vc), .val (.int kp), .val (.int vp), .val (.int f12), .val (.int f13), .val (.int f14), .val (.int f15), .val (.int f16), .val (.int nn), .val (.int f18), .val (.int f19), .val (.ref b1), .val (.ref b2), .val (.ref b3), .val (.ref b4), .val (.ref b5), .val (.ref b6), .val (.ref b7), .val (.ref b9), .val (.long x3), .second] [])) := by
                                intro Tjv Ljv hjv Xjv ejv Njv Kjv x3 hx3 Rjv Fjv
                                show Rest p.tables e below s _ _ _ (Tjv.setTop (mkF m 416 #[.val (.long q0), .second, .val (.long q1), .second, .val (.int p2), .val (.int p3), .val (.int ka), .val (.int va), .val (.int kc), .val (.int vc), .val (.int kp), .val (.int vp), .val (.int f12), .val (.int f13), .val (.int f14), .val (.int f15), .val (.int f16), .val (.int nn), .val (.int f18), .val (.int f19), .val (.ref b1), .val (.ref b2), .val (.ref b3), .val (.ref b4), .val (.ref b5), .val (.ref b6), .val (.ref b7), .val (.ref b9), .val (.long x3), .second] []))
                                have Jjw : ∀ (Tjw : State) (Ljw : List Loc) (hjw : Heap) (Xjw : Stand p l e room_1 s m #[(.long q0), (.long q1), (.int p2), (.int p3)] below meth c Tjw Ljw 16 152) (ejw : Tjw.heap = hjw) (Njw : Fr n0 Ljw) (Kjw : Keep h0 hjw []) (x4 : Int64) (hx4 : x4 = x3 + own_wc f15 f18 f16 kp vp) (Rjw : own_LF Z hjw b7 lk wR (.ref b9)) (Fjw : Fld Z hjw b9 "com/example/reknit/reknit/LogRecord" "writeBytes" "J" (.long wP)), Rest p.tables e below s (Q0 Z q0 q1 p2 p3 de h0 n0) 16 152 (Tjw.setTop (mkF m 440 #[.val (.long q0), .second, .val (.long q1), .second, .val (.int p2), .val (.int p3), .val (.int ka), .val (.int va), .val (.int kc), .val (.int vc), .val (.int kp), .val (.int vp), .val (.int f12), .val (.int f13), .val (.int f14), .val (.int f15), .val (.int f16), .val (.int nn), .val (.int f18), .val (.int f19), .val (.ref b1), .val (.ref b2), .val (.ref b3), .val (.ref b4), .val (.ref b5), .val (.ref b6), .val (.ref b7), .val (.ref b9), .val (.long x4), .second] [])) := by
                                  intro Tjw Ljw hjw Xjw ejw Njw Kjw x4 hx4 Rjw Fjw
                                  show Rest p.tables e below s _ _ _ (Tjw.setTop (mkF m 440 #[.val (.long q0), .second, .val (.long q1), .second, .val (.int p2), .val (.int p3), .val (.int ka), .val (.int va), .val (.int kc), .val (.int vc), .val (.int kp), .val (.int vp), .val (.int f12), .val (.int f13), .val (.int f14), .val (.int f15), .val (.int f16), .val (.int nn), .val (.int f18), .val (.int f19), .val (.ref b1), .val (.ref b2), .val (.ref b3), .val (.ref b4), .val (.ref b5), .val (.ref b6), .val (.ref b7), .val (.ref b9), .val (.long x4), .second] []))
                                  refine Rest.via (fun t k => XS.aload Xjw.here hx rfl (hb hby at_440) rfl rfl k) ?_
                                  show Rest p.tables e below s _ _ _ (Tjw.setTop (mkF m 442 #[.val (.long q0), .second, .val (.long q1), .second, .val (.int p2), .val (.int p3), .val (.int ka), .val (.int va), .val (.int kc), .val (.int vc), .val (.int kp), .val (.int vp), .val (.int f12), .val (.int f13), .val (.int f14), .val (.int f15), .val (.int f16), .val (.int nn), .val (.int f18), .val (.int f19), .val (.ref b1), .val (.ref b2), .val (.ref b3), .val (.ref b4), .val (.ref b5), .val (.ref b6), .val (.ref b7), .val (.ref b9), .val (.long x4), .second] [(.ref b7)]))
                                  obtain ⟨cq15, kq15, q15a, q15b, q15c⟩ := isOf hZ ejw Rjw.1
                                  obtain ⟨_, _, ⟨T15, L15, k15, n15⟩, -, X15, ⟨Lc15, hQ15, l15, y15, z15⟩, st15⟩ := Xjw.virtualBack hx (y := (⟨"com/example/reknit/reknit/LogRecord", "bodyBytes", "()J"⟩ : MethodName)) (z := (⟨"com/example/reknit/reknit/LogRecord", "bodyBytes", "()J"⟩ : MethodName)) hown (mvT hZ (hw _ (List.mem_of_getElem? (i := 46) rfl))) (mvT hZ (hw _ (List.mem_of_getElem? (i := 47) rfl))) (notFace_of_selects (args := #[]) (mvT hZ (hw _ (List.mem_of_getElem? (i := 49) rfl)))) (mvT hZ (hw _ (List.mem_of_getElem? (i := 49) rfl))) (mvT hZ (hw _ (List.mem_of_getElem? (i := 48) rfl))) (by decide) (backOf (W := 0) (rmBR l Z aw hw [] b7 lk wR b9 wP hjw n0 (Nat.le_trans Z0 Kjw.1) Rjw Fjw) hZ (hw _ (List.mem_of_getElem? (i := 50) rfl)) (hw _ (List.mem_of_getElem? (i := 3) rfl)) (by decide) (by decide)) q15a q15c (g := (mkF m 442 #[.val (.long q0), .second, .val (.long q1), .second, .val (.int p2), .val (.int p3), .val (.int ka), .val (.int va), .val (.int kc), .val (.int vc), .val (.int kp), .val (.int vp), .val (.int f12), .val (.int f13), .val (.int f14), .val (.int f15), .val (.int f16), .val (.int nn), .val (.int f18), .val (.int f19), .val (.ref b1), .val (.ref b2), .val (.ref b3), .val (.ref b4), .val (.ref b5), .val (.ref b6), .val (.ref b7), .val (.ref b9), .val (.long x4), .second] [(.ref b7)])) rfl (by rw [hml]; rfl) (Steps.refl _) (argsL := []) (rest := []) (lenOf pd_8 rfl) rfl (by show 2 * 0 + _ ≤ _; exact Nat.le_of_eq rfl) (hb hby at_442) (fun _ _ => ⟨rfl, ejw, (by decide : 16 + 0 ≤ _), (by decide : 152 + 0 ≤ _)⟩)
                                  dsimp only [Pt.U, Pt.locs, Pt.cells, Pt.slots] at X15 l15 y15 z15 st15 hQ15
                                  subst l15 y15 z15
                                  obtain ⟨rfl, Nq15, e15⟩ := hQ15
                                  have N15 := Fr.app Njw Nq15
                                  refine Rest.via (fun t k => st15.trans k) ?_
                                  show Rest p.tables e below s _ _ _ (T15.setTop (mkF m 445 #[.val (.long q0), .second, .val (.long q1), .second, .val (.int p2), .val (.int p3), .val (.int ka), .val (.int va), .val (.int kc), .val (.int vc), .val (.int kp), .val (.int vp), .val (.int f12), .val (.int f13), .val (.int f14), .val (.int f15), .val (.int f16), .val (.int nn), .val (.int f18), .val (.int f19), .val (.ref b1), .val (.ref b2), .val (.ref b3), .val (.ref b4), .val (.ref b5), .val (.ref b6), .val (.ref b7), .val (.ref b9), .val (.long x4), .second] [(.long (own_bb lk wR wP))]))
                                  refine Rest.via (fun t k => XS.lload X15.here hx rfl (hb hby at_445) rfl k) ?_
                                  show Rest p.tables e below s _ _ _ (T15.setTop (mkF m 447 #[.val (.long q0), .second, .val (.long q1), .second, .val (.int p2), .val (.int p3), .val (.int ka), .val (.int va), .val (.int kc), .val (.int vc), .val (.int kp), .val (.int vp), .val (.int f12), .val (.int f13), .val (.int f14), .val (.int f15), .val (.int f16), .val (.int nn), .val (.int f18), .val (.int f19), .val (.ref b1), .val (.ref b2), .val (.ref b3), .val (.ref b4), .val (.ref b5), .val (.ref b6), .val (.ref b7), .val (.ref b9), .val (.long x4), .second] [(.long x4), (.long (own_bb lk wR wP))]))
                                  refine Rest.via (fun t k => XS.lcmp X15.here hx rfl (hb hby at_447) rfl k) ?_
                                  show Rest p.tables e below s _ _ _ (T15.setTop (mkF m 448 #[.val (.long q0), .second, .val (.long q1), .second, .val (.int p2), .val (.int p3), .val (.int ka), .val (.int va), .val (.int kc), .val (.int vc), .val (.int kp), .val (.int vp), .val (.int f12), .val (.int f13), .val (.int f14), .val (.int f15), .val (.int f16), .val (.int nn), .val (.int f18), .val (.int f19), .val (.ref b1), .val (.ref b2), .val (.ref b3), .val (.ref b4), .val (.ref b5), .val (.ref b6), .val (.ref b7), .val (.ref b9), .val (.long x4), .second] [(.int (lcmpW (own_bb lk wR wP) x4))]))
                                  refine Rest.via (fun t k => XS.ifNo X15.here hx rfl (hb hby at_448) rfl ((if0 _ _).trans (teq ((lw_eq _ _).mpr (own_final hlnk hwR hwP (if_neg hc343).symm (by rw [hx4, hx3, hx2, hx1]) : (own_bb lk wR wP) = x4))).2) k) ?_
                                  show Rest p.tables e below s _ _ _ (T15.setTop (mkF m 451 #[.val (.long q0), .second, .val (.long q1), .second, .val (.int p2), .val (.int p3), .val (.int ka), .val (.int va), .val (.int kc), .val (.int vc), .val (.int kp), .val (.int vp), .val (.int f12), .val (.int f13), .val (.int f14), .val (.int f15), .val (.int f16), .val (.int nn), .val (.int f18), .val (.int f19), .val (.ref b1), .val (.ref b2), .val (.ref b3), .val (.ref b4), .val (.ref b5), .val (.ref b6), .val (.ref b7), .val (.ref b9), .val (.long x4), .second] []))
                                  refine Rest.via (fun t k => XS.iconst X15.here hx rfl (hb hby at_451) k) ?_
                                  show Rest p.tables e below s _ _ _ (T15.setTop (mkF m 452 #[.val (.long q0), .second, .val (.long q1), .second, .val (.int p2), .val (.int p3), .val (.int ka), .val (.int va), .val (.int kc), .val (.int vc), .val (.int kp), .val (.int vp), .val (.int f12), .val (.int f13), .val (.int f14), .val (.int f15), .val (.int f16), .val (.int nn), .val (.int f18), .val (.int f19), .val (.ref b1), .val (.ref b2), .val (.ref b3), .val (.ref b4), .val (.ref b5), .val (.ref b6), .val (.ref b7), .val (.ref b9), .val (.long x4), .second] [(.int (1 : Int32))]))
                                  refine Rest.via (fun t k => XS.goto X15.here hx rfl (pc0 := 452) (pc' := 456) rfl (hb hby at_452) (by decide) (by decide) k) ?_
                                  show Rest p.tables e below s _ _ _ (T15.setTop (mkF m 456 #[.val (.long q0), .second, .val (.long q1), .second, .val (.int p2), .val (.int p3), .val (.int ka), .val (.int va), .val (.int kc), .val (.int vc), .val (.int kp), .val (.int vp), .val (.int f12), .val (.int f13), .val (.int f14), .val (.int f15), .val (.int f16), .val (.int nn), .val (.int f18), .val (.int f19), .val (.ref b1), .val (.ref b2), .val (.ref b3), .val (.ref b4), .val (.ref b5), .val (.ref b6), .val (.ref b7), .val (.ref b9), .val (.long x4), .second] [(.int (1 : Int32))]))
                                  refine Rest.ret X15 (v := some (.int (nar .boolean (1 : Int32)))) (fun h => by rw [Bd.returns] at h; cases h) hlk (fun fs hr => retN X15 hx (t := .boolean) Bd.returns (by simp) (hb hby at_456) hr) ?_ (by decide) (by decide)
                                  rw [e15]
                                  exact ⟨rfl, N15⟩
                                show Rest p.tables e below s _ _ _ (Tjv.setTop (mkF m 416 #[.val (.long q0), .second, .val (.long q1), .second, .val (.int p2), .val (.int p3), .val (.int ka), .val (.int va), .val (.int kc), .val (.int vc), .val (.int kp), .val (.int vp), .val (.int f12), .val (.int f13), .val (.int f14), .val (.int f15), .val (.int f16), .val (.int nn), .val (.int f18), .val (.int f19), .val (.ref b1), .val (.ref b2), .val (.ref b3), .val (.ref b4), .val (.ref b5), .val (.ref b6), .val (.ref b7), .val (.ref b9), .val (.long x3), .second] []))
                                refine Rest.via (fun t k => XS.iload Xjv.here hx rfl (hb hby at_416) rfl k) ?_
                                show Rest p.tables e below s _ _ _ (Tjv.setTop (mkF m 418 #[.val (.long q0), .second, .val (.long q1), .second, .val (.int p2), .val (.int p3), .val (.int ka), .val (.int va), .val (.int kc), .val (.int vc), .val (.int kp), .val (.int vp), .val (.int f12), .val (.int f13), .val (.int f14), .val (.int f15), .val (.int f16), .val (.int nn), .val (.int f18), .val (.int f19), .val (.ref b1), .val (.ref b2), .val (.ref b3), .val (.ref b4), .val (.ref b5), .val (.ref b6), .val (.ref b7), .val (.ref b9), .val (.long x3), .second] [(.int f15)]))
                                refine Rest.via (fun t k => XS.ifNo Xjv.here hx rfl (hb hby at_418) rfl ((if0 _ _).trans (feq (hc343 : ¬ (f15 = (0 : Int32)))).1) k) ?_
                                show Rest p.tables e below s _ _ _ (Tjv.setTop (mkF m 421 #[.val (.long q0), .second, .val (.long q1), .second, .val (.int p2), .val (.int p3), .val (.int ka), .val (.int va), .val (.int kc), .val (.int vc), .val (.int kp), .val (.int vp), .val (.int f12), .val (.int f13), .val (.int f14), .val (.int f15), .val (.int f16), .val (.int nn), .val (.int f18), .val (.int f19), .val (.ref b1), .val (.ref b2), .val (.ref b3), .val (.ref b4), .val (.ref b5), .val (.ref b6), .val (.ref b7), .val (.ref b9), .val (.long x3), .second] []))
                                refine Rest.via (fun t k => XS.iload Xjv.here hx rfl (hb hby at_421) rfl k) ?_
                                show Rest p.tables e below s _ _ _ (Tjv.setTop (mkF m 423 #[.val (.long q0), .second, .val (.long q1), .second, .val (.int p2), .val (.int p3), .val (.int ka), .val (.int va), .val (.int kc), .val (.int vc), .val (.int kp), .val (.int vp), .val (.int f12), .val (.int f13), .val (.int f14), .val (.int f15), .val (.int f16), .val (.int nn), .val (.int f18), .val (.int f19), .val (.ref b1), .val (.ref b2), .val (.ref b3), .val (.ref b4), .val (.ref b5), .val (.ref b6), .val (.ref b7), .val (.ref b9), .val (.long x3), .second] [(.int f18)]))
                                by_cases hc423 : f18 = (0 : Int32)
                                · refine Rest.via (fun t k => XS.ifYes Xjv.here hx rfl (pc0 := 423) (pc' := 440) rfl (hb hby at_423) rfl ((if0 _ _).trans (teq hc423).1) (by decide) (by decide) k) ?_
                                  show Rest p.tables e below s _ _ _ (Tjv.setTop (mkF m 440 #[.val (.long q0), .second, .val (.long q1), .second, .val (.int p2), .val (.int p3), .val (.int ka), .val (.int va), .val (.int kc), .val (.int vc), .val (.int kp), .val (.int vp), .val (.int f12), .val (.int f13), .val (.int f14), .val (.int f15), .val (.int f16), .val (.int nn), .val (.int f18), .val (.int f19), .val (.ref b1), .val (.ref b2), .val (.ref b3), .val (.ref b4), .val (.ref b5), .val (.ref b6), .val (.ref b7), .val (.ref b9), .val (.long x3), .second] []))
                                  exact Jjw _ _ _ Xjv ejv Njv Kjv _ (by rw [own_wc, if_neg hc343, own_wp, if_pos hc423]; exact (Int64.add_zero _).symm) Rjv Fjv
                                · refine Rest.via (fun t k => XS.ifNo Xjv.here hx rfl (hb hby at_423) rfl ((if0 _ _).trans (feq hc423).1) k) ?_
                                  show Rest p.tables e below s _ _ _ (Tjv.setTop (mkF m 426 #[.val (.long q0), .second, .val (.long q1), .second, .val (.int p2), .val (.int p3), .val (.int ka), .val (.int va), .val (.int kc), .val (.int vc), .val (.int kp), .val (.int vp), .val (.int f12), .val (.int f13), .val (.int f14), .val (.int f15), .val (.int f16), .val (.int nn), .val (.int f18), .val (.int f19), .val (.ref b1), .val (.ref b2), .val (.ref b3), .val (.ref b4), .val (.ref b5), .val (.ref b6), .val (.ref b7), .val (.ref b9), .val (.long x3), .second] []))
                                  refine Rest.via (fun t k => XS.lload Xjv.here hx rfl (hb hby at_426) rfl k) ?_
                                  show Rest p.tables e below s _ _ _ (Tjv.setTop (mkF m 428 #[.val (.long q0), .second, .val (.long q1), .second, .val (.int p2), .val (.int p3), .val (.int ka), .val (.int va), .val (.int kc), .val (.int vc), .val (.int kp), .val (.int vp), .val (.int f12), .val (.int f13), .val (.int f14), .val (.int f15), .val (.int f16), .val (.int nn), .val (.int f18), .val (.int f19), .val (.ref b1), .val (.ref b2), .val (.ref b3), .val (.ref b4), .val (.ref b5), .val (.ref b6), .val (.ref b7), .val (.ref b9), .val (.long x3), .second] [(.long x3)]))
                                  refine Rest.via (fun t k => XS.iload Xjv.here hx rfl (hb hby at_428) rfl k) ?_
                                  show Rest p.tables e below s _ _ _ (Tjv.setTop (mkF m 430 #[.val (.long q0), .second, .val (.long q1), .second, .val (.int p2), .val (.int p3), .val (.int ka), .val (.int va), .val (.int kc), .val (.int vc), .val (.int kp), .val (.int vp), .val (.int f12), .val (.int f13), .val (.int f14), .val (.int f15), .val (.int f16), .val (.int nn), .val (.int f18), .val (.int f19), .val (.ref b1), .val (.ref b2), .val (.ref b3), .val (.ref b4), .val (.ref b5), .val (.ref b6), .val (.ref b7), .val (.ref b9), .val (.long x3), .second] [(.int f16), (.long x3)]))
                                  refine Rest.via (fun t k => XS.iload Xjv.here hx rfl (hb hby at_430) rfl k) ?_
                                  show Rest p.tables e below s _ _ _ (Tjv.setTop (mkF m 432 #[.val (.long q0), .second, .val (.long q1), .second, .val (.int p2), .val (.int p3), .val (.int ka), .val (.int va), .val (.int kc), .val (.int vc), .val (.int kp), .val (.int vp), .val (.int f12), .val (.int f13), .val (.int f14), .val (.int f15), .val (.int f16), .val (.int nn), .val (.int f18), .val (.int f19), .val (.ref b1), .val (.ref b2), .val (.ref b3), .val (.ref b4), .val (.ref b5), .val (.ref b6), .val (.ref b7), .val (.ref b9), .val (.long x3), .second] [(.int kp), (.int f16), (.long x3)]))
                                  refine Rest.via (fun t k => XS.iload Xjv.here hx rfl (hb hby at_432) rfl k) ?_
                                  show Rest p.tables e below s _ _ _ (Tjv.setTop (mkF m 434 #[.val (.long q0), .second, .val (.long q1), .second, .val (.int p2), .val (.int p3), .val (.int ka), .val (.int va), .val (.int kc), .val (.int vc), .val (.int kp), .val (.int vp), .val (.int f12), .val (.int f13), .val (.int f14), .val (.int f15), .val (.int f16), .val (.int nn), .val (.int f18), .val (.int f19), .val (.ref b1), .val (.ref b2), .val (.ref b3), .val (.ref b4), .val (.ref b5), .val (.ref b6), .val (.ref b7), .val (.ref b9), .val (.long x3), .second] [(.int vp), (.int kp), (.int f16), (.long x3)]))
                                  obtain ⟨_, _, ⟨T16, L16, k16, n16⟩, -, X16, ⟨Lc16, hQ16, l16, y16, z16⟩, st16⟩ := Jvm.LawKit.callS Xjv hx (y := (⟨"com/example/reknit/reknit/LogRecordBodyBytesPinLaw", "writeSize", "(ZII)J"⟩ : MethodName)) hown (mvT hZ (hw _ (List.mem_of_getElem? (i := 111) rfl))) (mvT hZ (hw _ (List.mem_of_getElem? (i := 112) rfl))) (mvT hZ (hw _ (List.mem_of_getElem? (i := 113) rfl))) (mvT hZ (hw _ (List.mem_of_getElem? (i := 114) rfl))) (by decide) (backOf (W := 2) (rmWS l Z aw hw [] f16 kp vp  hjv n0 (Nat.le_trans Z0 Kjv.1) ) hZ (hw _ (List.mem_of_getElem? (i := 114) rfl)) (hw _ (List.mem_of_getElem? (i := 113) rfl)) (by decide) (by decide)) (g := (mkF m 434 #[.val (.long q0), .second, .val (.long q1), .second, .val (.int p2), .val (.int p3), .val (.int ka), .val (.int va), .val (.int kc), .val (.int vc), .val (.int kp), .val (.int vp), .val (.int f12), .val (.int f13), .val (.int f14), .val (.int f15), .val (.int f16), .val (.int nn), .val (.int f18), .val (.int f19), .val (.ref b1), .val (.ref b2), .val (.ref b3), .val (.ref b4), .val (.ref b5), .val (.ref b6), .val (.ref b7), .val (.ref b9), .val (.long x3), .second] [(.int vp), (.int kp), (.int f16), (.long x3)])) rfl (by rw [hml]; rfl) (argsL := [(.int f16), (.int kp), (.int vp)]) (rest := [(.long x3)]) (lenOf pd_9 rfl) rfl (by show 2 * 0 + _ ≤ _; exact Nat.le_of_eq rfl) (hb hby at_434) (fun _ _ => ⟨rfl, ejv, (by decide : 16 + 0 ≤ _), (by decide : 152 + 0 ≤ _)⟩)
                                  dsimp only [Pt.U, Pt.locs, Pt.cells, Pt.slots] at X16 l16 y16 z16 st16 hQ16
                                  subst l16 y16 z16
                                  obtain ⟨rfl, Nq16, e16⟩ := hQ16
                                  have N16 := Fr.app Njv Nq16
                                  refine Rest.via (fun t k => st16 t k) ?_
                                  show Rest p.tables e below s _ _ _ (T16.setTop (mkF m 437 #[.val (.long q0), .second, .val (.long q1), .second, .val (.int p2), .val (.int p3), .val (.int ka), .val (.int va), .val (.int kc), .val (.int vc), .val (.int kp), .val (.int vp), .val (.int f12), .val (.int f13), .val (.int f14), .val (.int f15), .val (.int f16), .val (.int nn), .val (.int f18), .val (.int f19), .val (.ref b1), .val (.ref b2), .val (.ref b3), .val (.ref b4), .val (.ref b5), .val (.ref b6), .val (.ref b7), .val (.ref b9), .val (.long x3), .second] [(.long (own_ws f16 kp vp)), (.long x3)]))
                                  refine Rest.via (fun t k => XS.ladd X16.here hx rfl (hb hby at_437) rfl k) ?_
                                  show Rest p.tables e below s _ _ _ (T16.setTop (mkF m 438 #[.val (.long q0), .second, .val (.long q1), .second, .val (.int p2), .val (.int p3), .val (.int ka), .val (.int va), .val (.int kc), .val (.int vc), .val (.int kp), .val (.int vp), .val (.int f12), .val (.int f13), .val (.int f14), .val (.int f15), .val (.int f16), .val (.int nn), .val (.int f18), .val (.int f19), .val (.ref b1), .val (.ref b2), .val (.ref b3), .val (.ref b4), .val (.ref b5), .val (.ref b6), .val (.ref b7), .val (.ref b9), .val (.long x3), .second] [(.long (x3 + (own_ws f16 kp vp)))]))
                                  refine Rest.via (fun t k => XS.lstore X16.here hx rfl (hb hby at_438) rfl (l' := #[.val (.long q0), .second, .val (.long q1), .second, .val (.int p2), .val (.int p3), .val (.int ka), .val (.int va), .val (.int kc), .val (.int vc), .val (.int kp), .val (.int vp), .val (.int f12), .val (.int f13), .val (.int f14), .val (.int f15), .val (.int f16), .val (.int nn), .val (.int f18), .val (.int f19), .val (.ref b1), .val (.ref b2), .val (.ref b3), .val (.ref b4), .val (.ref b5), .val (.ref b6), .val (.ref b7), .val (.ref b9), .val (.long (x3 + (own_ws f16 kp vp))), .second]) rfl k) ?_
                                  show Rest p.tables e below s _ _ _ (T16.setTop (mkF m 440 #[.val (.long q0), .second, .val (.long q1), .second, .val (.int p2), .val (.int p3), .val (.int ka), .val (.int va), .val (.int kc), .val (.int vc), .val (.int kp), .val (.int vp), .val (.int f12), .val (.int f13), .val (.int f14), .val (.int f15), .val (.int f16), .val (.int nn), .val (.int f18), .val (.int f19), .val (.ref b1), .val (.ref b2), .val (.ref b3), .val (.ref b4), .val (.ref b5), .val (.ref b6), .val (.ref b7), .val (.ref b9), .val (.long (x3 + (own_ws f16 kp vp))), .second] []))
                                  exact Jjw _ _ _ X16 e16 N16 Kjv _ (by rw [own_wc, if_neg hc343, own_wp, if_neg hc423]) Rjv Fjv
                              show Rest p.tables e below s _ _ _ (Tju.setTop (mkF m 396 #[.val (.long q0), .second, .val (.long q1), .second, .val (.int p2), .val (.int p3), .val (.int ka), .val (.int va), .val (.int kc), .val (.int vc), .val (.int kp), .val (.int vp), .val (.int f12), .val (.int f13), .val (.int f14), .val (.int f15), .val (.int f16), .val (.int nn), .val (.int f18), .val (.int f19), .val (.ref b1), .val (.ref b2), .val (.ref b3), .val (.ref b4), .val (.ref b5), .val (.ref b6), .val (.ref b7), .val (.ref b9), .val (.long x2), .second] []))
                              refine Rest.via (fun t k => XS.iload Xju.here hx rfl (hb hby at_396) rfl k) ?_
                              show Rest p.tables e below s _ _ _ (Tju.setTop (mkF m 398 #[.val (.long q0), .second, .val (.long q1), .second, .val (.int p2), .val (.int p3), .val (.int ka), .val (.int va), .val (.int kc), .val (.int vc), .val (.int kp), .val (.int vp), .val (.int f12), .val (.int f13), .val (.int f14), .val (.int f15), .val (.int f16), .val (.int nn), .val (.int f18), .val (.int f19), .val (.ref b1), .val (.ref b2), .val (.ref b3), .val (.ref b4), .val (.ref b5), .val (.ref b6), .val (.ref b7), .val (.ref b9), .val (.long x2), .second] [(.int nn)]))
                              refine Rest.via (fun t k => XS.iconst Xju.here hx rfl (hb hby at_398) k) ?_
                              show Rest p.tables e below s _ _ _ (Tju.setTop (mkF m 399 #[.val (.long q0), .second, .val (.long q1), .second, .val (.int p2), .val (.int p3), .val (.int ka), .val (.int va), .val (.int kc), .val (.int vc), .val (.int kp), .val (.int vp), .val (.int f12), .val (.int f13), .val (.int f14), .val (.int f15), .val (.int f16), .val (.int nn), .val (.int f18), .val (.int f19), .val (.ref b1), .val (.ref b2), .val (.ref b3), .val (.ref b4), .val (.ref b5), .val (.ref b6), .val (.ref b7), .val (.ref b9), .val (.long x2), .second] [(.int (2 : Int32)), (.int nn)]))
                              by_cases hc399 : nn < (2 : Int32)
                              · refine Rest.via (fun t k => XS.icmpYes Xju.here hx rfl (pc0 := 399) (pc' := 416) rfl (hb hby at_399) rfl (tlt hc399).1 (by decide) (by decide) k) ?_
                                show Rest p.tables e below s _ _ _ (Tju.setTop (mkF m 416 #[.val (.long q0), .second, .val (.long q1), .second, .val (.int p2), .val (.int p3), .val (.int ka), .val (.int va), .val (.int kc), .val (.int vc), .val (.int kp), .val (.int vp), .val (.int f12), .val (.int f13), .val (.int f14), .val (.int f15), .val (.int f16), .val (.int nn), .val (.int f18), .val (.int f19), .val (.ref b1), .val (.ref b2), .val (.ref b3), .val (.ref b4), .val (.ref b5), .val (.ref b6), .val (.ref b7), .val (.ref b9), .val (.long x2), .second] []))
                                exact Jjv _ _ _ Xju eju Nju Kju _ (by rw [own_wn, if_pos hc399]; exact (Int64.add_zero _).symm) Rju Fju
                              · refine Rest.via (fun t k => XS.icmpNo Xju.here hx rfl (hb hby at_399) rfl (flt hc399).1 k) ?_
                                show Rest p.tables e below s _ _ _ (Tju.setTop (mkF m 402 #[.val (.long q0), .second, .val (.long q1), .second, .val (.int p2), .val (.int p3), .val (.int ka), .val (.int va), .val (.int kc), .val (.int vc), .val (.int kp), .val (.int vp), .val (.int f12), .val (.int f13), .val (.int f14), .val (.int f15), .val (.int f16), .val (.int nn), .val (.int f18), .val (.int f19), .val (.ref b1), .val (.ref b2), .val (.ref b3), .val (.ref b4), .val (.ref b5), .val (.ref b6), .val (.ref b7), .val (.ref b9), .val (.long x2), .second] []))
                                refine Rest.via (fun t k => XS.lload Xju.here hx rfl (hb hby at_402) rfl k) ?_
                                show Rest p.tables e below s _ _ _ (Tju.setTop (mkF m 404 #[.val (.long q0), .second, .val (.long q1), .second, .val (.int p2), .val (.int p3), .val (.int ka), .val (.int va), .val (.int kc), .val (.int vc), .val (.int kp), .val (.int vp), .val (.int f12), .val (.int f13), .val (.int f14), .val (.int f15), .val (.int f16), .val (.int nn), .val (.int f18), .val (.int f19), .val (.ref b1), .val (.ref b2), .val (.ref b3), .val (.ref b4), .val (.ref b5), .val (.ref b6), .val (.ref b7), .val (.ref b9), .val (.long x2), .second] [(.long x2)]))
                                refine Rest.via (fun t k => XS.iload Xju.here hx rfl (hb hby at_404) rfl k) ?_
                                show Rest p.tables e below s _ _ _ (Tju.setTop (mkF m 406 #[.val (.long q0), .second, .val (.long q1), .second, .val (.int p2), .val (.int p3), .val (.int ka), .val (.int va), .val (.int kc), .val (.int vc), .val (.int kp), .val (.int vp), .val (.int f12), .val (.int f13), .val (.int f14), .val (.int f15), .val (.int f16), .val (.int nn), .val (.int f18), .val (.int f19), .val (.ref b1), .val (.ref b2), .val (.ref b3), .val (.ref b4), .val (.ref b5), .val (.ref b6), .val (.ref b7), .val (.ref b9), .val (.long x2), .second] [(.int f14), (.long x2)]))
                                refine Rest.via (fun t k => XS.iload Xju.here hx rfl (hb hby at_406) rfl k) ?_
                                show Rest p.tables e below s _ _ _ (Tju.setTop (mkF m 408 #[.val (.long q0), .second, .val (.long q1), .second, .val (.int p2), .val (.int p3), .val (.int ka), .val (.int va), .val (.int kc), .val (.int vc), .val (.int kp), .val (.int vp), .val (.int f12), .val (.int f13), .val (.int f14), .val (.int f15), .val (.int f16), .val (.int nn), .val (.int f18), .val (.int f19), .val (.ref b1), .val (.ref b2), .val (.ref b3), .val (.ref b4), .val (.ref b5), .val (.ref b6), .val (.ref b7), .val (.ref b9), .val (.long x2), .second] [(.int kc), (.int f14), (.long x2)]))
                                refine Rest.via (fun t k => XS.iload Xju.here hx rfl (hb hby at_408) rfl k) ?_
                                show Rest p.tables e below s _ _ _ (Tju.setTop (mkF m 410 #[.val (.long q0), .second, .val (.long q1), .second, .val (.int p2), .val (.int p3), .val (.int ka), .val (.int va), .val (.int kc), .val (.int vc), .val (.int kp), .val (.int vp), .val (.int f12), .val (.int f13), .val (.int f14), .val (.int f15), .val (.int f16), .val (.int nn), .val (.int f18), .val (.int f19), .val (.ref b1), .val (.ref b2), .val (.ref b3), .val (.ref b4), .val (.ref b5), .val (.ref b6), .val (.ref b7), .val (.ref b9), .val (.long x2), .second] [(.int vc), (.int kc), (.int f14), (.long x2)]))
                                obtain ⟨_, _, ⟨T17, L17, k17, n17⟩, -, X17, ⟨Lc17, hQ17, l17, y17, z17⟩, st17⟩ := Jvm.LawKit.callS Xju hx (y := (⟨"com/example/reknit/reknit/LogRecordBodyBytesPinLaw", "writeSize", "(ZII)J"⟩ : MethodName)) hown (mvT hZ (hw _ (List.mem_of_getElem? (i := 111) rfl))) (mvT hZ (hw _ (List.mem_of_getElem? (i := 112) rfl))) (mvT hZ (hw _ (List.mem_of_getElem? (i := 113) rfl))) (mvT hZ (hw _ (List.mem_of_getElem? (i := 114) rfl))) (by decide) (backOf (W := 2) (rmWS l Z aw hw [] f14 kc vc  hju n0 (Nat.le_trans Z0 Kju.1) ) hZ (hw _ (List.mem_of_getElem? (i := 114) rfl)) (hw _ (List.mem_of_getElem? (i := 113) rfl)) (by decide) (by decide)) (g := (mkF m 410 #[.val (.long q0), .second, .val (.long q1), .second, .val (.int p2), .val (.int p3), .val (.int ka), .val (.int va), .val (.int kc), .val (.int vc), .val (.int kp), .val (.int vp), .val (.int f12), .val (.int f13), .val (.int f14), .val (.int f15), .val (.int f16), .val (.int nn), .val (.int f18), .val (.int f19), .val (.ref b1), .val (.ref b2), .val (.ref b3), .val (.ref b4), .val (.ref b5), .val (.ref b6), .val (.ref b7), .val (.ref b9), .val (.long x2), .second] [(.int vc), (.int kc), (.int f14), (.long x2)])) rfl (by rw [hml]; rfl) (argsL := [(.int f14), (.int kc), (.int vc)]) (rest := [(.long x2)]) (lenOf pd_9 rfl) rfl (by show 2 * 0 + _ ≤ _; exact Nat.le_of_eq rfl) (hb hby at_410) (fun _ _ => ⟨rfl, eju, (by decide : 16 + 0 ≤ _), (by decide : 152 + 0 ≤ _)⟩)
                                dsimp only [Pt.U, Pt.locs, Pt.cells, Pt.slots] at X17 l17 y17 z17 st17 hQ17
                                subst l17 y17 z17
                                obtain ⟨rfl, Nq17, e17⟩ := hQ17
                                have N17 := Fr.app Nju Nq17
                                refine Rest.via (fun t k => st17 t k) ?_
                                show Rest p.tables e below s _ _ _ (T17.setTop (mkF m 413 #[.val (.long q0), .second, .val (.long q1), .second, .val (.int p2), .val (.int p3), .val (.int ka), .val (.int va), .val (.int kc), .val (.int vc), .val (.int kp), .val (.int vp), .val (.int f12), .val (.int f13), .val (.int f14), .val (.int f15), .val (.int f16), .val (.int nn), .val (.int f18), .val (.int f19), .val (.ref b1), .val (.ref b2), .val (.ref b3), .val (.ref b4), .val (.ref b5), .val (.ref b6), .val (.ref b7), .val (.ref b9), .val (.long x2), .second] [(.long (own_ws f14 kc vc)), (.long x2)]))
                                refine Rest.via (fun t k => XS.ladd X17.here hx rfl (hb hby at_413) rfl k) ?_
                                show Rest p.tables e below s _ _ _ (T17.setTop (mkF m 414 #[.val (.long q0), .second, .val (.long q1), .second, .val (.int p2), .val (.int p3), .val (.int ka), .val (.int va), .val (.int kc), .val (.int vc), .val (.int kp), .val (.int vp), .val (.int f12), .val (.int f13), .val (.int f14), .val (.int f15), .val (.int f16), .val (.int nn), .val (.int f18), .val (.int f19), .val (.ref b1), .val (.ref b2), .val (.ref b3), .val (.ref b4), .val (.ref b5), .val (.ref b6), .val (.ref b7), .val (.ref b9), .val (.long x2), .second] [(.long (x2 + (own_ws f14 kc vc)))]))
                                refine Rest.via (fun t k => XS.lstore X17.here hx rfl (hb hby at_414) rfl (l' := #[.val (.long q0), .second, .val (.long q1), .second, .val (.int p2), .val (.int p3), .val (.int ka), .val (.int va), .val (.int kc), .val (.int vc), .val (.int kp), .val (.int vp), .val (.int f12), .val (.int f13), .val (.int f14), .val (.int f15), .val (.int f16), .val (.int nn), .val (.int f18), .val (.int f19), .val (.ref b1), .val (.ref b2), .val (.ref b3), .val (.ref b4), .val (.ref b5), .val (.ref b6), .val (.ref b7), .val (.ref b9), .val (.long (x2 + (own_ws f14 kc vc))), .second]) rfl k) ?_
                                show Rest p.tables e below s _ _ _ (T17.setTop (mkF m 416 #[.val (.long q0), .second, .val (.long q1), .second, .val (.int p2), .val (.int p3), .val (.int ka), .val (.int va), .val (.int kc), .val (.int vc), .val (.int kp), .val (.int vp), .val (.int f12), .val (.int f13), .val (.int f14), .val (.int f15), .val (.int f16), .val (.int nn), .val (.int f18), .val (.int f19), .val (.ref b1), .val (.ref b2), .val (.ref b3), .val (.ref b4), .val (.ref b5), .val (.ref b6), .val (.ref b7), .val (.ref b9), .val (.long (x2 + (own_ws f14 kc vc))), .second] []))
                                exact Jjv _ _ _ X17 e17 N17 Kju _ (by rw [own_wn, if_neg hc399]) Rju Fju
                            show Rest p.tables e below s _ _ _ (T14.setTop (mkF m 376 #[.val (.long q0), .second, .val (.long q1), .second, .val (.int p2), .val (.int p3), .val (.int ka), .val (.int va), .val (.int kc), .val (.int vc), .val (.int kp), .val (.int vp), .val (.int f12), .val (.int f13), .val (.int f14), .val (.int f15), .val (.int f16), .val (.int nn), .val (.int f18), .val (.int f19), .val (.ref b1), .val (.ref b2), .val (.ref b3), .val (.ref b4), .val (.ref b5), .val (.ref b6), .val (.ref b7), .val (.ref b9), .val (.long x1), .second] []))
                            refine Rest.via (fun t k => XS.iload X14.here hx rfl (hb hby at_376) rfl k) ?_
                            show Rest p.tables e below s _ _ _ (T14.setTop (mkF m 378 #[.val (.long q0), .second, .val (.long q1), .second, .val (.int p2), .val (.int p3), .val (.int ka), .val (.int va), .val (.int kc), .val (.int vc), .val (.int kp), .val (.int vp), .val (.int f12), .val (.int f13), .val (.int f14), .val (.int f15), .val (.int f16), .val (.int nn), .val (.int f18), .val (.int f19), .val (.ref b1), .val (.ref b2), .val (.ref b3), .val (.ref b4), .val (.ref b5), .val (.ref b6), .val (.ref b7), .val (.ref b9), .val (.long x1), .second] [(.int nn)]))
                            refine Rest.via (fun t k => XS.iconst X14.here hx rfl (hb hby at_378) k) ?_
                            show Rest p.tables e below s _ _ _ (T14.setTop (mkF m 379 #[.val (.long q0), .second, .val (.long q1), .second, .val (.int p2), .val (.int p3), .val (.int ka), .val (.int va), .val (.int kc), .val (.int vc), .val (.int kp), .val (.int vp), .val (.int f12), .val (.int f13), .val (.int f14), .val (.int f15), .val (.int f16), .val (.int nn), .val (.int f18), .val (.int f19), .val (.ref b1), .val (.ref b2), .val (.ref b3), .val (.ref b4), .val (.ref b5), .val (.ref b6), .val (.ref b7), .val (.ref b9), .val (.long x1), .second] [(.int (1 : Int32)), (.int nn)]))
                            by_cases hc379 : nn < (1 : Int32)
                            · refine Rest.via (fun t k => XS.icmpYes X14.here hx rfl (pc0 := 379) (pc' := 396) rfl (hb hby at_379) rfl (tlt hc379).1 (by decide) (by decide) k) ?_
                              show Rest p.tables e below s _ _ _ (T14.setTop (mkF m 396 #[.val (.long q0), .second, .val (.long q1), .second, .val (.int p2), .val (.int p3), .val (.int ka), .val (.int va), .val (.int kc), .val (.int vc), .val (.int kp), .val (.int vp), .val (.int f12), .val (.int f13), .val (.int f14), .val (.int f15), .val (.int f16), .val (.int nn), .val (.int f18), .val (.int f19), .val (.ref b1), .val (.ref b2), .val (.ref b3), .val (.ref b4), .val (.ref b5), .val (.ref b6), .val (.ref b7), .val (.ref b9), .val (.long x1), .second] []))
                              exact Jju _ _ _ X14 e14 N14 K14 _ (by rw [own_wn, if_pos hc379]; exact (Int64.add_zero _).symm) Rq14 (Fe.keep Kq14 (ninS (Ne.symm ne_b7_b9) nin0))
                            · refine Rest.via (fun t k => XS.icmpNo X14.here hx rfl (hb hby at_379) rfl (flt hc379).1 k) ?_
                              show Rest p.tables e below s _ _ _ (T14.setTop (mkF m 382 #[.val (.long q0), .second, .val (.long q1), .second, .val (.int p2), .val (.int p3), .val (.int ka), .val (.int va), .val (.int kc), .val (.int vc), .val (.int kp), .val (.int vp), .val (.int f12), .val (.int f13), .val (.int f14), .val (.int f15), .val (.int f16), .val (.int nn), .val (.int f18), .val (.int f19), .val (.ref b1), .val (.ref b2), .val (.ref b3), .val (.ref b4), .val (.ref b5), .val (.ref b6), .val (.ref b7), .val (.ref b9), .val (.long x1), .second] []))
                              refine Rest.via (fun t k => XS.lload X14.here hx rfl (hb hby at_382) rfl k) ?_
                              show Rest p.tables e below s _ _ _ (T14.setTop (mkF m 384 #[.val (.long q0), .second, .val (.long q1), .second, .val (.int p2), .val (.int p3), .val (.int ka), .val (.int va), .val (.int kc), .val (.int vc), .val (.int kp), .val (.int vp), .val (.int f12), .val (.int f13), .val (.int f14), .val (.int f15), .val (.int f16), .val (.int nn), .val (.int f18), .val (.int f19), .val (.ref b1), .val (.ref b2), .val (.ref b3), .val (.ref b4), .val (.ref b5), .val (.ref b6), .val (.ref b7), .val (.ref b9), .val (.long x1), .second] [(.long x1)]))
                              refine Rest.via (fun t k => XS.iload X14.here hx rfl (hb hby at_384) rfl k) ?_
                              show Rest p.tables e below s _ _ _ (T14.setTop (mkF m 386 #[.val (.long q0), .second, .val (.long q1), .second, .val (.int p2), .val (.int p3), .val (.int ka), .val (.int va), .val (.int kc), .val (.int vc), .val (.int kp), .val (.int vp), .val (.int f12), .val (.int f13), .val (.int f14), .val (.int f15), .val (.int f16), .val (.int nn), .val (.int f18), .val (.int f19), .val (.ref b1), .val (.ref b2), .val (.ref b3), .val (.ref b4), .val (.ref b5), .val (.ref b6), .val (.ref b7), .val (.ref b9), .val (.long x1), .second] [(.int f13), (.long x1)]))
                              refine Rest.via (fun t k => XS.iload X14.here hx rfl (hb hby at_386) rfl k) ?_
                              show Rest p.tables e below s _ _ _ (T14.setTop (mkF m 388 #[.val (.long q0), .second, .val (.long q1), .second, .val (.int p2), .val (.int p3), .val (.int ka), .val (.int va), .val (.int kc), .val (.int vc), .val (.int kp), .val (.int vp), .val (.int f12), .val (.int f13), .val (.int f14), .val (.int f15), .val (.int f16), .val (.int nn), .val (.int f18), .val (.int f19), .val (.ref b1), .val (.ref b2), .val (.ref b3), .val (.ref b4), .val (.ref b5), .val (.ref b6), .val (.ref b7), .val (.ref b9), .val (.long x1), .second] [(.int ka), (.int f13), (.long x1)]))
                              refine Rest.via (fun t k => XS.iload X14.here hx rfl (hb hby at_388) rfl k) ?_
                              show Rest p.tables e below s _ _ _ (T14.setTop (mkF m 390 #[.val (.long q0), .second, .val (.long q1), .second, .val (.int p2), .val (.int p3), .val (.int ka), .val (.int va), .val (.int kc), .val (.int vc), .val (.int kp), .val (.int vp), .val (.int f12), .val (.int f13), .val (.int f14), .val (.int f15), .val (.int f16), .val (.int nn), .val (.int f18), .val (.int f19), .val (.ref b1), .val (.ref b2), .val (.ref b3), .val (.ref b4), .val (.ref b5), .val (.ref b6), .val (.ref b7), .val (.ref b9), .val (.long x1), .second] [(.int va), (.int ka), (.int f13), (.long x1)]))
                              obtain ⟨_, _, ⟨T18, L18, k18, n18⟩, -, X18, ⟨Lc18, hQ18, l18, y18, z18⟩, st18⟩ := Jvm.LawKit.callS X14 hx (y := (⟨"com/example/reknit/reknit/LogRecordBodyBytesPinLaw", "writeSize", "(ZII)J"⟩ : MethodName)) hown (mvT hZ (hw _ (List.mem_of_getElem? (i := 111) rfl))) (mvT hZ (hw _ (List.mem_of_getElem? (i := 112) rfl))) (mvT hZ (hw _ (List.mem_of_getElem? (i := 113) rfl))) (mvT hZ (hw _ (List.mem_of_getElem? (i := 114) rfl))) (by decide) (backOf (W := 2) (rmWS l Z aw hw [] f13 ka va  h14 n0 (Nat.le_trans Z0 K14.1) ) hZ (hw _ (List.mem_of_getElem? (i := 114) rfl)) (hw _ (List.mem_of_getElem? (i := 113) rfl)) (by decide) (by decide)) (g := (mkF m 390 #[.val (.long q0), .second, .val (.long q1), .second, .val (.int p2), .val (.int p3), .val (.int ka), .val (.int va), .val (.int kc), .val (.int vc), .val (.int kp), .val (.int vp), .val (.int f12), .val (.int f13), .val (.int f14), .val (.int f15), .val (.int f16), .val (.int nn), .val (.int f18), .val (.int f19), .val (.ref b1), .val (.ref b2), .val (.ref b3), .val (.ref b4), .val (.ref b5), .val (.ref b6), .val (.ref b7), .val (.ref b9), .val (.long x1), .second] [(.int va), (.int ka), (.int f13), (.long x1)])) rfl (by rw [hml]; rfl) (argsL := [(.int f13), (.int ka), (.int va)]) (rest := [(.long x1)]) (lenOf pd_9 rfl) rfl (by show 2 * 0 + _ ≤ _; exact Nat.le_of_eq rfl) (hb hby at_390) (fun _ _ => ⟨rfl, e14, (by decide : 16 + 0 ≤ _), (by decide : 152 + 0 ≤ _)⟩)
                              dsimp only [Pt.U, Pt.locs, Pt.cells, Pt.slots] at X18 l18 y18 z18 st18 hQ18
                              subst l18 y18 z18
                              obtain ⟨rfl, Nq18, e18⟩ := hQ18
                              have N18 := Fr.app N14 Nq18
                              refine Rest.via (fun t k => st18 t k) ?_
                              show Rest p.tables e below s _ _ _ (T18.setTop (mkF m 393 #[.val (.long q0), .second, .val (.long q1), .second, .val (.int p2), .val (.int p3), .val (.int ka), .val (.int va), .val (.int kc), .val (.int vc), .val (.int kp), .val (.int vp), .val (.int f12), .val (.int f13), .val (.int f14), .val (.int f15), .val (.int f16), .val (.int nn), .val (.int f18), .val (.int f19), .val (.ref b1), .val (.ref b2), .val (.ref b3), .val (.ref b4), .val (.ref b5), .val (.ref b6), .val (.ref b7), .val (.ref b9), .val (.long x1), .second] [(.long (own_ws f13 ka va)), (.long x1)]))
                              refine Rest.via (fun t k => XS.ladd X18.here hx rfl (hb hby at_393) rfl k) ?_
                              show Rest p.tables e below s _ _ _ (T18.setTop (mkF m 394 #[.val (.long q0), .second, .val (.long q1), .second, .val (.int p2), .val (.int p3), .val (.int ka), .val (.int va), .val (.int kc), .val (.int vc), .val (.int kp), .val (.int vp), .val (.int f12), .val (.int f13), .val (.int f14), .val (.int f15), .val (.int f16), .val (.int nn), .val (.int f18), .val (.int f19), .val (.ref b1), .val (.ref b2), .val (.ref b3), .val (.ref b4), .val (.ref b5), .val (.ref b6), .val (.ref b7), .val (.ref b9), .val (.long x1), .second] [(.long (x1 + (own_ws f13 ka va)))]))
                              refine Rest.via (fun t k => XS.lstore X18.here hx rfl (hb hby at_394) rfl (l' := #[.val (.long q0), .second, .val (.long q1), .second, .val (.int p2), .val (.int p3), .val (.int ka), .val (.int va), .val (.int kc), .val (.int vc), .val (.int kp), .val (.int vp), .val (.int f12), .val (.int f13), .val (.int f14), .val (.int f15), .val (.int f16), .val (.int nn), .val (.int f18), .val (.int f19), .val (.ref b1), .val (.ref b2), .val (.ref b3), .val (.ref b4), .val (.ref b5), .val (.ref b6), .val (.ref b7), .val (.ref b9), .val (.long (x1 + (own_ws f13 ka va))), .second]) rfl k) ?_
                              show Rest p.tables e below s _ _ _ (T18.setTop (mkF m 396 #[.val (.long q0), .second, .val (.long q1), .second, .val (.int p2), .val (.int p3), .val (.int ka), .val (.int va), .val (.int kc), .val (.int vc), .val (.int kp), .val (.int vp), .val (.int f12), .val (.int f13), .val (.int f14), .val (.int f15), .val (.int f16), .val (.int nn), .val (.int f18), .val (.int f19), .val (.ref b1), .val (.ref b2), .val (.ref b3), .val (.ref b4), .val (.ref b5), .val (.ref b6), .val (.ref b7), .val (.ref b9), .val (.long (x1 + (own_ws f13 ka va))), .second] []))
                              exact Jju _ _ _ X18 e18 N18 K14 _ (by rw [own_wn, if_neg hc379]) Rq14 (Fe.keep Kq14 (ninS (Ne.symm ne_b7_b9) nin0))
                          show Rest p.tables e below s _ _ _ (T14.setTop (mkF m 357 #[.val (.long q0), .second, .val (.long q1), .second, .val (.int p2), .val (.int p3), .val (.int ka), .val (.int va), .val (.int kc), .val (.int vc), .val (.int kp), .val (.int vp), .val (.int f12), .val (.int f13), .val (.int f14), .val (.int f15), .val (.int f16), .val (.int nn), .val (.int f18), .val (.int f19), .val (.ref b1), .val (.ref b2), .val (.ref b3), .val (.ref b4), .val (.ref b5), .val (.ref b6), .val (.ref b7), .val (.ref b9), .val (.long (0 : Int64)), .second] []))
                          refine Rest.via (fun t k => XS.iload X14.here hx rfl (hb hby at_357) rfl k) ?_
                          show Rest p.tables e below s _ _ _ (T14.setTop (mkF m 359 #[.val (.long q0), .second, .val (.long q1), .second, .val (.int p2), .val (.int p3), .val (.int ka), .val (.int va), .val (.int kc), .val (.int vc), .val (.int kp), .val (.int vp), .val (.int f12), .val (.int f13), .val (.int f14), .val (.int f15), .val (.int f16), .val (.int nn), .val (.int f18), .val (.int f19), .val (.ref b1), .val (.ref b2), .val (.ref b3), .val (.ref b4), .val (.ref b5), .val (.ref b6), .val (.ref b7), .val (.ref b9), .val (.long (0 : Int64)), .second] [(.int f12)]))
                          by_cases hc359 : f12 = (0 : Int32)
                          · refine Rest.via (fun t k => XS.ifYes X14.here hx rfl (pc0 := 359) (pc' := 376) rfl (hb hby at_359) rfl ((if0 _ _).trans (teq hc359).1) (by decide) (by decide) k) ?_
                            show Rest p.tables e below s _ _ _ (T14.setTop (mkF m 376 #[.val (.long q0), .second, .val (.long q1), .second, .val (.int p2), .val (.int p3), .val (.int ka), .val (.int va), .val (.int kc), .val (.int vc), .val (.int kp), .val (.int vp), .val (.int f12), .val (.int f13), .val (.int f14), .val (.int f15), .val (.int f16), .val (.int nn), .val (.int f18), .val (.int f19), .val (.ref b1), .val (.ref b2), .val (.ref b3), .val (.ref b4), .val (.ref b5), .val (.ref b6), .val (.ref b7), .val (.ref b9), .val (.long (0 : Int64)), .second] []))
                            exact J376 _ (if_pos hc359).symm
                          · refine Rest.via (fun t k => XS.ifNo X14.here hx rfl (hb hby at_359) rfl ((if0 _ _).trans (feq hc359).1) k) ?_
                            show Rest p.tables e below s _ _ _ (T14.setTop (mkF m 362 #[.val (.long q0), .second, .val (.long q1), .second, .val (.int p2), .val (.int p3), .val (.int ka), .val (.int va), .val (.int kc), .val (.int vc), .val (.int kp), .val (.int vp), .val (.int f12), .val (.int f13), .val (.int f14), .val (.int f15), .val (.int f16), .val (.int nn), .val (.int f18), .val (.int f19), .val (.ref b1), .val (.ref b2), .val (.ref b3), .val (.ref b4), .val (.ref b5), .val (.ref b6), .val (.ref b7), .val (.ref b9), .val (.long (0 : Int64)), .second] []))
                            refine Rest.via (fun t k => XS.lloadN X14.here hx rfl (hb hby at_362) rfl k) ?_
                            show Rest p.tables e below s _ _ _ (T14.setTop (mkF m 363 #[.val (.long q0), .second, .val (.long q1), .second, .val (.int p2), .val (.int p3), .val (.int ka), .val (.int va), .val (.int kc), .val (.int vc), .val (.int kp), .val (.int vp), .val (.int f12), .val (.int f13), .val (.int f14), .val (.int f15), .val (.int f16), .val (.int nn), .val (.int f18), .val (.int f19), .val (.ref b1), .val (.ref b2), .val (.ref b3), .val (.ref b4), .val (.ref b5), .val (.ref b6), .val (.ref b7), .val (.ref b9), .val (.long (0 : Int64)), .second] [(.long q0)]))
                            refine Rest.via (fun t k => XS.lconst X14.here hx rfl (hb hby at_363) k) ?_
                            show Rest p.tables e below s _ _ _ (T14.setTop (mkF m 364 #[.val (.long q0), .second, .val (.long q1), .second, .val (.int p2), .val (.int p3), .val (.int ka), .val (.int va), .val (.int kc), .val (.int vc), .val (.int kp), .val (.int vp), .val (.int f12), .val (.int f13), .val (.int f14), .val (.int f15), .val (.int f16), .val (.int nn), .val (.int f18), .val (.int f19), .val (.ref b1), .val (.ref b2), .val (.ref b3), .val (.ref b4), .val (.ref b5), .val (.ref b6), .val (.ref b7), .val (.ref b9), .val (.long (0 : Int64)), .second] [(.long (0 : Int64)), (.long q0)]))
                            refine Rest.via (fun t k => XS.lcmp X14.here hx rfl (hb hby at_364) rfl k) ?_
                            show Rest p.tables e below s _ _ _ (T14.setTop (mkF m 365 #[.val (.long q0), .second, .val (.long q1), .second, .val (.int p2), .val (.int p3), .val (.int ka), .val (.int va), .val (.int kc), .val (.int vc), .val (.int kp), .val (.int vp), .val (.int f12), .val (.int f13), .val (.int f14), .val (.int f15), .val (.int f16), .val (.int nn), .val (.int f18), .val (.int f19), .val (.ref b1), .val (.ref b2), .val (.ref b3), .val (.ref b4), .val (.ref b5), .val (.ref b6), .val (.ref b7), .val (.ref b9), .val (.long (0 : Int64)), .second] [(.int (lcmpW q0 (0 : Int64)))]))
                            by_cases hc365 : q0 = (0 : Int64)
                            · refine Rest.via (fun t k => XS.ifYes X14.here hx rfl (pc0 := 365) (pc' := 376) rfl (hb hby at_365) rfl ((if0 _ _).trans (teq ((lw_eq _ _).mpr hc365)).1) (by decide) (by decide) k) ?_
                              show Rest p.tables e below s _ _ _ (T14.setTop (mkF m 376 #[.val (.long q0), .second, .val (.long q1), .second, .val (.int p2), .val (.int p3), .val (.int ka), .val (.int va), .val (.int kc), .val (.int vc), .val (.int kp), .val (.int vp), .val (.int f12), .val (.int f13), .val (.int f14), .val (.int f15), .val (.int f16), .val (.int nn), .val (.int f18), .val (.int f19), .val (.ref b1), .val (.ref b2), .val (.ref b3), .val (.ref b4), .val (.ref b5), .val (.ref b6), .val (.ref b7), .val (.ref b9), .val (.long (0 : Int64)), .second] []))
                              exact J376 _ (by rw [own_x1, if_neg hc359, if_pos hc365])
                            · refine Rest.via (fun t k => XS.ifNo X14.here hx rfl (hb hby at_365) rfl ((if0 _ _).trans (feq (fun q => hc365 ((lw_eq _ _).mp q))).1) k) ?_
                              show Rest p.tables e below s _ _ _ (T14.setTop (mkF m 368 #[.val (.long q0), .second, .val (.long q1), .second, .val (.int p2), .val (.int p3), .val (.int ka), .val (.int va), .val (.int kc), .val (.int vc), .val (.int kp), .val (.int vp), .val (.int f12), .val (.int f13), .val (.int f14), .val (.int f15), .val (.int f16), .val (.int nn), .val (.int f18), .val (.int f19), .val (.ref b1), .val (.ref b2), .val (.ref b3), .val (.ref b4), .val (.ref b5), .val (.ref b6), .val (.ref b7), .val (.ref b9), .val (.long (0 : Int64)), .second] []))
                              refine Rest.via (fun t k => XS.lload X14.here hx rfl (hb hby at_368) rfl k) ?_
                              show Rest p.tables e below s _ _ _ (T14.setTop (mkF m 370 #[.val (.long q0), .second, .val (.long q1), .second, .val (.int p2), .val (.int p3), .val (.int ka), .val (.int va), .val (.int kc), .val (.int vc), .val (.int kp), .val (.int vp), .val (.int f12), .val (.int f13), .val (.int f14), .val (.int f15), .val (.int f16), .val (.int nn), .val (.int f18), .val (.int f19), .val (.ref b1), .val (.ref b2), .val (.ref b3), .val (.ref b4), .val (.ref b5), .val (.ref b6), .val (.ref b7), .val (.ref b9), .val (.long (0 : Int64)), .second] [(.long (0 : Int64))]))
                              refine Rest.via (fun t k => X14.ldc2Long hx hown (mvT hZ (hw _ (List.mem_of_getElem? (i := 45) rfl))) (g := (mkF m 370 #[.val (.long q0), .second, .val (.long q1), .second, .val (.int p2), .val (.int p3), .val (.int ka), .val (.int va), .val (.int kc), .val (.int vc), .val (.int kp), .val (.int vp), .val (.int f12), .val (.int f13), .val (.int f14), .val (.int f15), .val (.int f16), .val (.int nn), .val (.int f18), .val (.int f19), .val (.ref b1), .val (.ref b2), .val (.ref b3), .val (.ref b4), .val (.ref b5), .val (.ref b6), .val (.ref b7), .val (.ref b9), .val (.long (0 : Int64)), .second] [(.long (0 : Int64))])) rfl (hb hby at_370) t k) ?_
                              show Rest p.tables e below s _ _ _ (T14.setTop (mkF m 373 #[.val (.long q0), .second, .val (.long q1), .second, .val (.int p2), .val (.int p3), .val (.int ka), .val (.int va), .val (.int kc), .val (.int vc), .val (.int kp), .val (.int vp), .val (.int f12), .val (.int f13), .val (.int f14), .val (.int f15), .val (.int f16), .val (.int nn), .val (.int f18), .val (.int f19), .val (.ref b1), .val (.ref b2), .val (.ref b3), .val (.ref b4), .val (.ref b5), .val (.ref b6), .val (.ref b7), .val (.ref b9), .val (.long (0 : Int64)), .second] [(.long (13 : Int64)), (.long (0 : Int64))]))
                              refine Rest.via (fun t k => XS.ladd X14.here hx rfl (hb hby at_373) rfl k) ?_
                              show Rest p.tables e below s _ _ _ (T14.setTop (mkF m 374 #[.val (.long q0), .second, .val (.long q1), .second, .val (.int p2), .val (.int p3), .val (.int ka), .val (.int va), .val (.int kc), .val (.int vc), .val (.int kp), .val (.int vp), .val (.int f12), .val (.int f13), .val (.int f14), .val (.int f15), .val (.int f16), .val (.int nn), .val (.int f18), .val (.int f19), .val (.ref b1), .val (.ref b2), .val (.ref b3), .val (.ref b4), .val (.ref b5), .val (.ref b6), .val (.ref b7), .val (.ref b9), .val (.long (0 : Int64)), .second] [(.long ((0 : Int64) + (13 : Int64)))]))
                              refine Rest.via (fun t k => XS.lstore X14.here hx rfl (hb hby at_374) rfl (l' := #[.val (.long q0), .second, .val (.long q1), .second, .val (.int p2), .val (.int p3), .val (.int ka), .val (.int va), .val (.int kc), .val (.int vc), .val (.int kp), .val (.int vp), .val (.int f12), .val (.int f13), .val (.int f14), .val (.int f15), .val (.int f16), .val (.int nn), .val (.int f18), .val (.int f19), .val (.ref b1), .val (.ref b2), .val (.ref b3), .val (.ref b4), .val (.ref b5), .val (.ref b6), .val (.ref b7), .val (.ref b9), .val (.long ((0 : Int64) + (13 : Int64))), .second]) rfl k) ?_
                              show Rest p.tables e below s _ _ _ (T14.setTop (mkF m 376 #[.val (.long q0), .second, .val (.long q1), .second, .val (.int p2), .val (.int p3), .val (.int ka), .val (.int va), .val (.int kc), .val (.int vc), .val (.int kp), .val (.int vp), .val (.int f12), .val (.int f13), .val (.int f14), .val (.int f15), .val (.int f16), .val (.int nn), .val (.int f18), .val (.int f19), .val (.ref b1), .val (.ref b2), .val (.ref b3), .val (.ref b4), .val (.ref b5), .val (.ref b6), .val (.ref b7), .val (.ref b9), .val (.long ((0 : Int64) + (13 : Int64))), .second] []))
                              exact J376 _ (by rw [own_x1, if_neg hc359, if_neg hc365])
                      show Rest p.tables e below s _ _ _ (Tjd.setTop (mkF m 310 #[.val (.long q0), .second, .val (.long q1), .second, .val (.int p2), .val (.int p3), .val (.int ka), .val (.int va), .val (.int kc), .val (.int vc), .val (.int kp), .val (.int vp), .val (.int f12), .val (.int f13), .val (.int f14), .val (.int f15), .val (.int f16), .val (.int nn), .val (.int f18), .val (.int f19), .val (.ref b1), .val (.ref b2), .val (.ref b3), .val (.ref b4), .val (.ref b5), .val (.ref b6), .val (.ref b7), .val (.ref b9), .unset, .unset] []))
                      refine Rest.via (fun t k => XS.iload Xjd.here hx rfl (hb hby at_310) rfl k) ?_
                      show Rest p.tables e below s _ _ _ (Tjd.setTop (mkF m 312 #[.val (.long q0), .second, .val (.long q1), .second, .val (.int p2), .val (.int p3), .val (.int ka), .val (.int va), .val (.int kc), .val (.int vc), .val (.int kp), .val (.int vp), .val (.int f12), .val (.int f13), .val (.int f14), .val (.int f15), .val (.int f16), .val (.int nn), .val (.int f18), .val (.int f19), .val (.ref b1), .val (.ref b2), .val (.ref b3), .val (.ref b4), .val (.ref b5), .val (.ref b6), .val (.ref b7), .val (.ref b9), .unset, .unset] [(.int f18)]))
                      by_cases hc312 : f18 = (0 : Int32)
                      · refine Rest.via (fun t k => XS.ifYes Xjd.here hx rfl (pc0 := 312) (pc' := 341) rfl (hb hby at_312) rfl ((if0 _ _).trans (teq hc312).1) (by decide) (by decide) k) ?_
                        show Rest p.tables e below s _ _ _ (Tjd.setTop (mkF m 341 #[.val (.long q0), .second, .val (.long q1), .second, .val (.int p2), .val (.int p3), .val (.int ka), .val (.int va), .val (.int kc), .val (.int vc), .val (.int kp), .val (.int vp), .val (.int f12), .val (.int f13), .val (.int f14), .val (.int f15), .val (.int f16), .val (.int nn), .val (.int f18), .val (.int f19), .val (.ref b1), .val (.ref b2), .val (.ref b3), .val (.ref b4), .val (.ref b5), .val (.ref b6), .val (.ref b7), .val (.ref b9), .unset, .unset] []))
                        exact Jje _ _ _ (Xjd.more (by decide) (by decide)) ejd Njd Kjd _ (if_pos hc312).symm Rd Pd.1.2.2.1
                      · refine Rest.via (fun t k => XS.ifNo Xjd.here hx rfl (hb hby at_312) rfl ((if0 _ _).trans (feq hc312).1) k) ?_
                        show Rest p.tables e below s _ _ _ (Tjd.setTop (mkF m 315 #[.val (.long q0), .second, .val (.long q1), .second, .val (.int p2), .val (.int p3), .val (.int ka), .val (.int va), .val (.int kc), .val (.int vc), .val (.int kp), .val (.int vp), .val (.int f12), .val (.int f13), .val (.int f14), .val (.int f15), .val (.int f16), .val (.int nn), .val (.int f18), .val (.int f19), .val (.ref b1), .val (.ref b2), .val (.ref b3), .val (.ref b4), .val (.ref b5), .val (.ref b6), .val (.ref b7), .val (.ref b9), .unset, .unset] []))
                        refine Rest.via (fun t k => XS.iload Xjd.here hx rfl (hb hby at_315) rfl k) ?_
                        show Rest p.tables e below s _ _ _ (Tjd.setTop (mkF m 317 #[.val (.long q0), .second, .val (.long q1), .second, .val (.int p2), .val (.int p3), .val (.int ka), .val (.int va), .val (.int kc), .val (.int vc), .val (.int kp), .val (.int vp), .val (.int f12), .val (.int f13), .val (.int f14), .val (.int f15), .val (.int f16), .val (.int nn), .val (.int f18), .val (.int f19), .val (.ref b1), .val (.ref b2), .val (.ref b3), .val (.ref b4), .val (.ref b5), .val (.ref b6), .val (.ref b7), .val (.ref b9), .unset, .unset] [(.int f16)]))
                        by_cases hc317 : f16 = (0 : Int32)
                        · refine Rest.via (fun t k => XS.ifYes Xjd.here hx rfl (pc0 := 317) (pc' := 333) rfl (hb hby at_317) rfl ((if0 _ _).trans (teq hc317).1) (by decide) (by decide) k) ?_
                          show Rest p.tables e below s _ _ _ (Tjd.setTop (mkF m 333 #[.val (.long q0), .second, .val (.long q1), .second, .val (.int p2), .val (.int p3), .val (.int ka), .val (.int va), .val (.int kc), .val (.int vc), .val (.int kp), .val (.int vp), .val (.int f12), .val (.int f13), .val (.int f14), .val (.int f15), .val (.int f16), .val (.int nn), .val (.int f18), .val (.int f19), .val (.ref b1), .val (.ref b2), .val (.ref b3), .val (.ref b4), .val (.ref b5), .val (.ref b6), .val (.ref b7), .val (.ref b9), .unset, .unset] []))
                          refine Rest.via (fun t k => XS.aload Xjd.here hx rfl (hb hby at_333) rfl rfl k) ?_
                          show Rest p.tables e below s _ _ _ (Tjd.setTop (mkF m 335 #[.val (.long q0), .second, .val (.long q1), .second, .val (.int p2), .val (.int p3), .val (.int ka), .val (.int va), .val (.int kc), .val (.int vc), .val (.int kp), .val (.int vp), .val (.int f12), .val (.int f13), .val (.int f14), .val (.int f15), .val (.int f16), .val (.int nn), .val (.int f18), .val (.int f19), .val (.ref b1), .val (.ref b2), .val (.ref b3), .val (.ref b4), .val (.ref b5), .val (.ref b6), .val (.ref b7), .val (.ref b9), .unset, .unset] [(.ref b9)]))
                          refine Rest.via (fun t k => XS.aload Xjd.here hx rfl (hb hby at_335) rfl rfl k) ?_
                          show Rest p.tables e below s _ _ _ (Tjd.setTop (mkF m 337 #[.val (.long q0), .second, .val (.long q1), .second, .val (.int p2), .val (.int p3), .val (.int ka), .val (.int va), .val (.int kc), .val (.int vc), .val (.int kp), .val (.int vp), .val (.int f12), .val (.int f13), .val (.int f14), .val (.int f15), .val (.int f16), .val (.int nn), .val (.int f18), .val (.int f19), .val (.ref b1), .val (.ref b2), .val (.ref b3), .val (.ref b4), .val (.ref b5), .val (.ref b6), .val (.ref b7), .val (.ref b9), .unset, .unset] [(.ref b5), (.ref b9)]))
                          obtain ⟨cq19, kq19, q19a, q19b, q19c⟩ := isOf hZ ejd Pd.1.1
                          obtain ⟨_, _, ⟨T19, L19, k19, n19⟩, -, X19, ⟨Lc19, hQ19, l19, y19, z19⟩, st19⟩ := Xjd.virtualBack hx (y := (⟨"com/example/reknit/reknit/LogRecord", "delete", "([B)Lcom/example/reknit/reknit/LogRecord;"⟩ : MethodName)) (z := (⟨"com/example/reknit/reknit/LogRecord", "delete", "([B)Lcom/example/reknit/reknit/LogRecord;"⟩ : MethodName)) hown (mvT hZ (hw _ (List.mem_of_getElem? (i := 103) rfl))) (mvT hZ (hw _ (List.mem_of_getElem? (i := 104) rfl))) (notFace_of_selects (args := #[]) (mvT hZ (hw _ (List.mem_of_getElem? (i := 106) rfl)))) (mvT hZ (hw _ (List.mem_of_getElem? (i := 106) rfl))) (mvT hZ (hw _ (List.mem_of_getElem? (i := 105) rfl))) (by decide) (backOf (W := 0) (rmX0 l Z aw hw [] b9 b5 _ _ de _ _ _ kp hjd n0 (Nat.le_trans Z0 Kjd.1) Pd g_b9 g_ks10 g_vs10 (O.keep Kjd all0) DE0 B4jd) hZ (hw _ (List.mem_of_getElem? (i := 107) rfl)) (hw _ (List.mem_of_getElem? (i := 3) rfl)) (by decide) (by decide)) q19a q19c (g := (mkF m 337 #[.val (.long q0), .second, .val (.long q1), .second, .val (.int p2), .val (.int p3), .val (.int ka), .val (.int va), .val (.int kc), .val (.int vc), .val (.int kp), .val (.int vp), .val (.int f12), .val (.int f13), .val (.int f14), .val (.int f15), .val (.int f16), .val (.int nn), .val (.int f18), .val (.int f19), .val (.ref b1), .val (.ref b2), .val (.ref b3), .val (.ref b4), .val (.ref b5), .val (.ref b6), .val (.ref b7), .val (.ref b9), .unset, .unset] [(.ref b5), (.ref b9)])) rfl (by rw [hml]; rfl) (Steps.refl _) (argsL := [(.ref b5)]) (rest := []) (lenOf pd_11 rfl) rfl (by show 2 * 0 + _ ≤ _; exact Nat.le_of_eq rfl) (hb hby at_337) (fun _ _ => ⟨rfl, ejd, (by decide : 14 + 2 ≤ _), (by decide : 132 + 20 ≤ _)⟩)
                          dsimp only [Pt.U, Pt.locs, Pt.cells, Pt.slots] at X19 l19 y19 z19 st19 hQ19
                          subst l19 y19 z19
                          obtain ⟨h19, e19⟩ : ∃ z, T19.heap = z := ⟨_, rfl⟩
                          rw [e19] at hQ19
                          obtain ⟨rfl, Nq19, Kq19, kb19, vb19, sk19, sv19, R19⟩ := hQ19
                          have N19 := Fr.app Njd Nq19
                          have sz_kb19 : h0.size ≤ kb19 := Nat.le_trans Kjd.1 sk19
                          have sz_vb19 : h0.size ≤ vb19 := Nat.le_trans Kjd.1 sv19
                          have K19 : Keep h0 h19 [] := Kjd.trans Kq19 (allS (Or.inr sz_b9) (allS (Or.inr sz_ks10) (allS (Or.inr sz_vs10) all0)))
                          refine Rest.via (fun t k => st19.trans k) ?_
                          show Rest p.tables e below s _ _ _ (T19.setTop (mkF m 340 #[.val (.long q0), .second, .val (.long q1), .second, .val (.int p2), .val (.int p3), .val (.int ka), .val (.int va), .val (.int kc), .val (.int vc), .val (.int kp), .val (.int vp), .val (.int f12), .val (.int f13), .val (.int f14), .val (.int f15), .val (.int f16), .val (.int nn), .val (.int f18), .val (.int f19), .val (.ref b1), .val (.ref b2), .val (.ref b3), .val (.ref b4), .val (.ref b5), .val (.ref b6), .val (.ref b7), .val (.ref b9), .unset, .unset] [(.ref b9)]))
                          refine Rest.via (fun t k => XS.pop X19.here hx rfl (hb hby at_340) rfl rfl k) ?_
                          show Rest p.tables e below s _ _ _ (T19.setTop (mkF m 341 #[.val (.long q0), .second, .val (.long q1), .second, .val (.int p2), .val (.int p3), .val (.int ka), .val (.int va), .val (.int kc), .val (.int vc), .val (.int kp), .val (.int vp), .val (.int f12), .val (.int f13), .val (.int f14), .val (.int f15), .val (.int f16), .val (.int nn), .val (.int f18), .val (.int f19), .val (.ref b1), .val (.ref b2), .val (.ref b3), .val (.ref b4), .val (.ref b5), .val (.ref b6), .val (.ref b7), .val (.ref b9), .unset, .unset] []))
                          exact Jje _ _ _ X19 e19 N19 K19 _ (by rw [own_wp, if_neg hc312, own_ws0 hc317]; exact Int64.zero_add _) (own_LF_keep Rd Kq19 (ninS ne_b7_b9 (ninS ne_b7_ks10 (ninS ne_b7_vs10 nin0)))) R19.1.2.2.1
                        · refine Rest.via (fun t k => XS.ifNo Xjd.here hx rfl (hb hby at_317) rfl ((if0 _ _).trans (feq hc317).1) k) ?_
                          show Rest p.tables e below s _ _ _ (Tjd.setTop (mkF m 320 #[.val (.long q0), .second, .val (.long q1), .second, .val (.int p2), .val (.int p3), .val (.int ka), .val (.int va), .val (.int kc), .val (.int vc), .val (.int kp), .val (.int vp), .val (.int f12), .val (.int f13), .val (.int f14), .val (.int f15), .val (.int f16), .val (.int nn), .val (.int f18), .val (.int f19), .val (.ref b1), .val (.ref b2), .val (.ref b3), .val (.ref b4), .val (.ref b5), .val (.ref b6), .val (.ref b7), .val (.ref b9), .unset, .unset] []))
                          refine Rest.via (fun t k => XS.aload Xjd.here hx rfl (hb hby at_320) rfl rfl k) ?_
                          show Rest p.tables e below s _ _ _ (Tjd.setTop (mkF m 322 #[.val (.long q0), .second, .val (.long q1), .second, .val (.int p2), .val (.int p3), .val (.int ka), .val (.int va), .val (.int kc), .val (.int vc), .val (.int kp), .val (.int vp), .val (.int f12), .val (.int f13), .val (.int f14), .val (.int f15), .val (.int f16), .val (.int nn), .val (.int f18), .val (.int f19), .val (.ref b1), .val (.ref b2), .val (.ref b3), .val (.ref b4), .val (.ref b5), .val (.ref b6), .val (.ref b7), .val (.ref b9), .unset, .unset] [(.ref b9)]))
                          refine Rest.via (fun t k => XS.aload Xjd.here hx rfl (hb hby at_322) rfl rfl k) ?_
                          show Rest p.tables e below s _ _ _ (Tjd.setTop (mkF m 324 #[.val (.long q0), .second, .val (.long q1), .second, .val (.int p2), .val (.int p3), .val (.int ka), .val (.int va), .val (.int kc), .val (.int vc), .val (.int kp), .val (.int vp), .val (.int f12), .val (.int f13), .val (.int f14), .val (.int f15), .val (.int f16), .val (.int nn), .val (.int f18), .val (.int f19), .val (.ref b1), .val (.ref b2), .val (.ref b3), .val (.ref b4), .val (.ref b5), .val (.ref b6), .val (.ref b7), .val (.ref b9), .unset, .unset] [(.ref b5), (.ref b9)]))
                          refine Rest.via (fun t k => XS.aload Xjd.here hx rfl (hb hby at_324) rfl rfl k) ?_
                          show Rest p.tables e below s _ _ _ (Tjd.setTop (mkF m 326 #[.val (.long q0), .second, .val (.long q1), .second, .val (.int p2), .val (.int p3), .val (.int ka), .val (.int va), .val (.int kc), .val (.int vc), .val (.int kp), .val (.int vp), .val (.int f12), .val (.int f13), .val (.int f14), .val (.int f15), .val (.int f16), .val (.int nn), .val (.int f18), .val (.int f19), .val (.ref b1), .val (.ref b2), .val (.ref b3), .val (.ref b4), .val (.ref b5), .val (.ref b6), .val (.ref b7), .val (.ref b9), .unset, .unset] [(.ref b6), (.ref b5), (.ref b9)]))
                          obtain ⟨cq20, kq20, q20a, q20b, q20c⟩ := isOf hZ ejd Pd.1.1
                          obtain ⟨_, _, ⟨T20, L20, k20, n20⟩, -, X20, ⟨Lc20, hQ20, l20, y20, z20⟩, st20⟩ := Xjd.virtualBack hx (y := (⟨"com/example/reknit/reknit/LogRecord", "set", "([B[B)Lcom/example/reknit/reknit/LogRecord;"⟩ : MethodName)) (z := (⟨"com/example/reknit/reknit/LogRecord", "set", "([B[B)Lcom/example/reknit/reknit/LogRecord;"⟩ : MethodName)) hown (mvT hZ (hw _ (List.mem_of_getElem? (i := 60) rfl))) (mvT hZ (hw _ (List.mem_of_getElem? (i := 61) rfl))) (notFace_of_selects (args := #[]) (mvT hZ (hw _ (List.mem_of_getElem? (i := 63) rfl)))) (mvT hZ (hw _ (List.mem_of_getElem? (i := 63) rfl))) (mvT hZ (hw _ (List.mem_of_getElem? (i := 62) rfl))) (by decide) (backOf (W := 0) (rmS0 l Z aw hw [] b9 b5 b6 _ _ de _ _ _ kp vp hjd n0 (Nat.le_trans Z0 Kjd.1) Pd g_b9 g_ks10 g_vs10 (O.keep Kjd all0) DE0 B4jd B5jd) hZ (hw _ (List.mem_of_getElem? (i := 64) rfl)) (hw _ (List.mem_of_getElem? (i := 3) rfl)) (by decide) (by decide)) q20a q20c (g := (mkF m 326 #[.val (.long q0), .second, .val (.long q1), .second, .val (.int p2), .val (.int p3), .val (.int ka), .val (.int va), .val (.int kc), .val (.int vc), .val (.int kp), .val (.int vp), .val (.int f12), .val (.int f13), .val (.int f14), .val (.int f15), .val (.int f16), .val (.int nn), .val (.int f18), .val (.int f19), .val (.ref b1), .val (.ref b2), .val (.ref b3), .val (.ref b4), .val (.ref b5), .val (.ref b6), .val (.ref b7), .val (.ref b9), .unset, .unset] [(.ref b6), (.ref b5), (.ref b9)])) rfl (by rw [hml]; rfl) (Steps.refl _) (argsL := [(.ref b5), (.ref b6)]) (rest := []) (lenOf pd_12 rfl) rfl (by show 2 * 0 + _ ≤ _; exact Nat.le_of_eq rfl) (hb hby at_326) (fun _ _ => ⟨rfl, ejd, (by decide : 14 + 2 ≤ _), (by decide : 132 + 20 ≤ _)⟩)
                          dsimp only [Pt.U, Pt.locs, Pt.cells, Pt.slots] at X20 l20 y20 z20 st20 hQ20
                          subst l20 y20 z20
                          obtain ⟨h20, e20⟩ : ∃ z, T20.heap = z := ⟨_, rfl⟩
                          rw [e20] at hQ20
                          obtain ⟨rfl, Nq20, Kq20, kb20, vb20, sk20, sv20, R20⟩ := hQ20
                          have N20 := Fr.app Njd Nq20
                          have sz_kb20 : h0.size ≤ kb20 := Nat.le_trans Kjd.1 sk20
                          have sz_vb20 : h0.size ≤ vb20 := Nat.le_trans Kjd.1 sv20
                          have K20 : Keep h0 h20 [] := Kjd.trans Kq20 (allS (Or.inr sz_b9) (allS (Or.inr sz_ks10) (allS (Or.inr sz_vs10) all0)))
                          refine Rest.via (fun t k => st20.trans k) ?_
                          show Rest p.tables e below s _ _ _ (T20.setTop (mkF m 329 #[.val (.long q0), .second, .val (.long q1), .second, .val (.int p2), .val (.int p3), .val (.int ka), .val (.int va), .val (.int kc), .val (.int vc), .val (.int kp), .val (.int vp), .val (.int f12), .val (.int f13), .val (.int f14), .val (.int f15), .val (.int f16), .val (.int nn), .val (.int f18), .val (.int f19), .val (.ref b1), .val (.ref b2), .val (.ref b3), .val (.ref b4), .val (.ref b5), .val (.ref b6), .val (.ref b7), .val (.ref b9), .unset, .unset] [(.ref b9)]))
                          refine Rest.via (fun t k => XS.pop X20.here hx rfl (hb hby at_329) rfl rfl k) ?_
                          show Rest p.tables e below s _ _ _ (T20.setTop (mkF m 330 #[.val (.long q0), .second, .val (.long q1), .second, .val (.int p2), .val (.int p3), .val (.int ka), .val (.int va), .val (.int kc), .val (.int vc), .val (.int kp), .val (.int vp), .val (.int f12), .val (.int f13), .val (.int f14), .val (.int f15), .val (.int f16), .val (.int nn), .val (.int f18), .val (.int f19), .val (.ref b1), .val (.ref b2), .val (.ref b3), .val (.ref b4), .val (.ref b5), .val (.ref b6), .val (.ref b7), .val (.ref b9), .unset, .unset] []))
                          refine Rest.via (fun t k => XS.goto X20.here hx rfl (pc0 := 330) (pc' := 341) rfl (hb hby at_330) (by decide) (by decide) k) ?_
                          show Rest p.tables e below s _ _ _ (T20.setTop (mkF m 341 #[.val (.long q0), .second, .val (.long q1), .second, .val (.int p2), .val (.int p3), .val (.int ka), .val (.int va), .val (.int kc), .val (.int vc), .val (.int kp), .val (.int vp), .val (.int f12), .val (.int f13), .val (.int f14), .val (.int f15), .val (.int f16), .val (.int nn), .val (.int f18), .val (.int f19), .val (.ref b1), .val (.ref b2), .val (.ref b3), .val (.ref b4), .val (.ref b5), .val (.ref b6), .val (.ref b7), .val (.ref b9), .unset, .unset] []))
                          exact Jje _ _ _ X20 e20 N20 K20 _ (by rw [own_wp, if_neg hc312, own_ws1 hc317]; exact Int64.zero_add _) (own_LF_keep Rd Kq20 (ninS ne_b7_b9 (ninS ne_b7_ks10 (ninS ne_b7_vs10 nin0)))) R20.1.2.2.1
                    show Rest p.tables e below s _ _ _ (Tjc.setTop (mkF m 298 #[.val (.long q0), .second, .val (.long q1), .second, .val (.int p2), .val (.int p3), .val (.int ka), .val (.int va), .val (.int kc), .val (.int vc), .val (.int kp), .val (.int vp), .val (.int f12), .val (.int f13), .val (.int f14), .val (.int f15), .val (.int f16), .val (.int nn), .val (.int f18), .val (.int f19), .val (.ref b1), .val (.ref b2), .val (.ref b3), .val (.ref b4), .val (.ref b5), .val (.ref b6), .val (.ref b7), .val (.ref b9), .unset, .unset] []))
                    refine Rest.via (fun t k => XS.iload Xjc.here hx rfl (hb hby at_298) rfl k) ?_
                    show Rest p.tables e below s _ _ _ (Tjc.setTop (mkF m 300 #[.val (.long q0), .second, .val (.long q1), .second, .val (.int p2), .val (.int p3), .val (.int ka), .val (.int va), .val (.int kc), .val (.int vc), .val (.int kp), .val (.int vp), .val (.int f12), .val (.int f13), .val (.int f14), .val (.int f15), .val (.int f16), .val (.int nn), .val (.int f18), .val (.int f19), .val (.ref b1), .val (.ref b2), .val (.ref b3), .val (.ref b4), .val (.ref b5), .val (.ref b6), .val (.ref b7), .val (.ref b9), .unset, .unset] [(.int f19)]))
                    by_cases hc300 : f19 = (0 : Int32)
                    · refine Rest.via (fun t k => XS.ifYes Xjc.here hx rfl (pc0 := 300) (pc' := 310) rfl (hb hby at_300) rfl ((if0 _ _).trans (teq hc300).1) (by decide) (by decide) k) ?_
                      show Rest p.tables e below s _ _ _ (Tjc.setTop (mkF m 310 #[.val (.long q0), .second, .val (.long q1), .second, .val (.int p2), .val (.int p3), .val (.int ka), .val (.int va), .val (.int kc), .val (.int vc), .val (.int kp), .val (.int vp), .val (.int f12), .val (.int f13), .val (.int f14), .val (.int f15), .val (.int f16), .val (.int nn), .val (.int f18), .val (.int f19), .val (.ref b1), .val (.ref b2), .val (.ref b3), .val (.ref b4), .val (.ref b5), .val (.ref b6), .val (.ref b7), .val (.ref b9), .unset, .unset] []))
                      exact Jjd _ _ _ Xjc ejc Njc Kjc _ Rc Pc B4jc B5jc
                    · refine Rest.via (fun t k => XS.ifNo Xjc.here hx rfl (hb hby at_300) rfl ((if0 _ _).trans (feq hc300).1) k) ?_
                      show Rest p.tables e below s _ _ _ (Tjc.setTop (mkF m 303 #[.val (.long q0), .second, .val (.long q1), .second, .val (.int p2), .val (.int p3), .val (.int ka), .val (.int va), .val (.int kc), .val (.int vc), .val (.int kp), .val (.int vp), .val (.int f12), .val (.int f13), .val (.int f14), .val (.int f15), .val (.int f16), .val (.int nn), .val (.int f18), .val (.int f19), .val (.ref b1), .val (.ref b2), .val (.ref b3), .val (.ref b4), .val (.ref b5), .val (.ref b6), .val (.ref b7), .val (.ref b9), .unset, .unset] []))
                      refine Rest.via (fun t k => XS.aload Xjc.here hx rfl (hb hby at_303) rfl rfl k) ?_
                      show Rest p.tables e below s _ _ _ (Tjc.setTop (mkF m 305 #[.val (.long q0), .second, .val (.long q1), .second, .val (.int p2), .val (.int p3), .val (.int ka), .val (.int va), .val (.int kc), .val (.int vc), .val (.int kp), .val (.int vp), .val (.int f12), .val (.int f13), .val (.int f14), .val (.int f15), .val (.int f16), .val (.int nn), .val (.int f18), .val (.int f19), .val (.ref b1), .val (.ref b2), .val (.ref b3), .val (.ref b4), .val (.ref b5), .val (.ref b6), .val (.ref b7), .val (.ref b9), .unset, .unset] [(.ref b9)]))
                      refine Rest.via (fun t k => XS.lloadN Xjc.here hx rfl (hb hby at_305) rfl k) ?_
                      show Rest p.tables e below s _ _ _ (Tjc.setTop (mkF m 306 #[.val (.long q0), .second, .val (.long q1), .second, .val (.int p2), .val (.int p3), .val (.int ka), .val (.int va), .val (.int kc), .val (.int vc), .val (.int kp), .val (.int vp), .val (.int f12), .val (.int f13), .val (.int f14), .val (.int f15), .val (.int f16), .val (.int nn), .val (.int f18), .val (.int f19), .val (.ref b1), .val (.ref b2), .val (.ref b3), .val (.ref b4), .val (.ref b5), .val (.ref b6), .val (.ref b7), .val (.ref b9), .unset, .unset] [(.long q1), (.ref b9)]))
                      obtain ⟨cq21, kq21, q21a, q21b, q21c⟩ := isOf hZ ejc Pc.1.1
                      obtain ⟨_, _, ⟨T21, L21, k21, n21⟩, -, X21, ⟨Lc21, hQ21, l21, y21, z21⟩, st21⟩ := Xjc.virtualBack hx (y := (⟨"com/example/reknit/reknit/LogRecord", "link", "(J)Lcom/example/reknit/reknit/LogRecord;"⟩ : MethodName)) (z := (⟨"com/example/reknit/reknit/LogRecord", "link", "(J)Lcom/example/reknit/reknit/LogRecord;"⟩ : MethodName)) hown (mvT hZ (hw _ (List.mem_of_getElem? (i := 40) rfl))) (mvT hZ (hw _ (List.mem_of_getElem? (i := 41) rfl))) (notFace_of_selects (args := #[]) (mvT hZ (hw _ (List.mem_of_getElem? (i := 43) rfl)))) (mvT hZ (hw _ (List.mem_of_getElem? (i := 43) rfl))) (mvT hZ (hw _ (List.mem_of_getElem? (i := 42) rfl))) (by decide) (backOf (W := 0) (rmLK l Z aw hw [] b9 q1 _ _ de _ _ _ hjc n0 (Nat.le_trans Z0 Kjc.1) Pc g_b9) hZ (hw _ (List.mem_of_getElem? (i := 44) rfl)) (hw _ (List.mem_of_getElem? (i := 3) rfl)) (by decide) (by decide)) q21a q21c (g := (mkF m 306 #[.val (.long q0), .second, .val (.long q1), .second, .val (.int p2), .val (.int p3), .val (.int ka), .val (.int va), .val (.int kc), .val (.int vc), .val (.int kp), .val (.int vp), .val (.int f12), .val (.int f13), .val (.int f14), .val (.int f15), .val (.int f16), .val (.int nn), .val (.int f18), .val (.int f19), .val (.ref b1), .val (.ref b2), .val (.ref b3), .val (.ref b4), .val (.ref b5), .val (.ref b6), .val (.ref b7), .val (.ref b9), .unset, .unset] [(.long q1), (.ref b9)])) rfl (by rw [hml]; rfl) (Steps.refl _) (argsL := [(.long q1)]) (rest := []) (lenOf pd_13 rfl) rfl (by show 2 * 0 + _ ≤ _; exact Nat.le_of_eq rfl) (hb hby at_306) (fun _ _ => ⟨rfl, ejc, (by decide : 14 + 0 ≤ _), (by decide : 132 + 0 ≤ _)⟩)
                      dsimp only [Pt.U, Pt.locs, Pt.cells, Pt.slots] at X21 l21 y21 z21 st21 hQ21
                      subst l21 y21 z21
                      obtain ⟨h21, e21⟩ : ∃ z, T21.heap = z := ⟨_, rfl⟩
                      rw [e21] at hQ21
                      obtain ⟨rfl, Nq21, Kq21, Rq21⟩ := hQ21
                      have N21 := Fr.app Njc Nq21
                      have K21 : Keep h0 h21 [] := Kjc.trans Kq21 (allS (Or.inr sz_b9) all0)
                      refine Rest.via (fun t k => st21.trans k) ?_
                      show Rest p.tables e below s _ _ _ (T21.setTop (mkF m 309 #[.val (.long q0), .second, .val (.long q1), .second, .val (.int p2), .val (.int p3), .val (.int ka), .val (.int va), .val (.int kc), .val (.int vc), .val (.int kp), .val (.int vp), .val (.int f12), .val (.int f13), .val (.int f14), .val (.int f15), .val (.int f16), .val (.int nn), .val (.int f18), .val (.int f19), .val (.ref b1), .val (.ref b2), .val (.ref b3), .val (.ref b4), .val (.ref b5), .val (.ref b6), .val (.ref b7), .val (.ref b9), .unset, .unset] [(.ref b9)]))
                      refine Rest.via (fun t k => XS.pop X21.here hx rfl (hb hby at_309) rfl rfl k) ?_
                      show Rest p.tables e below s _ _ _ (T21.setTop (mkF m 310 #[.val (.long q0), .second, .val (.long q1), .second, .val (.int p2), .val (.int p3), .val (.int ka), .val (.int va), .val (.int kc), .val (.int vc), .val (.int kp), .val (.int vp), .val (.int f12), .val (.int f13), .val (.int f14), .val (.int f15), .val (.int f16), .val (.int nn), .val (.int f18), .val (.int f19), .val (.ref b1), .val (.ref b2), .val (.ref b3), .val (.ref b4), .val (.ref b5), .val (.ref b6), .val (.ref b7), .val (.ref b9), .unset, .unset] []))
                      exact Jjd _ _ _ X21 e21 N21 K21 _ (own_LF_keep Rc Kq21 (ninS ne_b7_b9 nin0)) Rq21 (own_BA_keep B4jc Kq21) (own_BA_keep B5jc Kq21)
                  show Rest p.tables e below s _ _ _ (Tja.setTop (mkF m 234 #[.val (.long q0), .second, .val (.long q1), .second, .val (.int p2), .val (.int p3), .val (.int ka), .val (.int va), .val (.int kc), .val (.int vc), .val (.int kp), .val (.int vp), .val (.int f12), .val (.int f13), .val (.int f14), .val (.int f15), .val (.int f16), .val (.int nn), .val (.int f18), .val (.int f19), .val (.ref b1), .val (.ref b2), .val (.ref b3), .val (.ref b4), .val (.ref b5), .val (.ref b6), .val (.ref b7), .val (.ref b9), .unset, .unset] []))
                  refine Rest.via (fun t k => XS.iload Xja.here hx rfl (hb hby at_234) rfl k) ?_
                  show Rest p.tables e below s _ _ _ (Tja.setTop (mkF m 236 #[.val (.long q0), .second, .val (.long q1), .second, .val (.int p2), .val (.int p3), .val (.int ka), .val (.int va), .val (.int kc), .val (.int vc), .val (.int kp), .val (.int vp), .val (.int f12), .val (.int f13), .val (.int f14), .val (.int f15), .val (.int f16), .val (.int nn), .val (.int f18), .val (.int f19), .val (.ref b1), .val (.ref b2), .val (.ref b3), .val (.ref b4), .val (.ref b5), .val (.ref b6), .val (.ref b7), .val (.ref b9), .unset, .unset] [(.int nn)]))
                  refine Rest.via (fun t k => XS.iconst Xja.here hx rfl (hb hby at_236) k) ?_
                  show Rest p.tables e below s _ _ _ (Tja.setTop (mkF m 237 #[.val (.long q0), .second, .val (.long q1), .second, .val (.int p2), .val (.int p3), .val (.int ka), .val (.int va), .val (.int kc), .val (.int vc), .val (.int kp), .val (.int vp), .val (.int f12), .val (.int f13), .val (.int f14), .val (.int f15), .val (.int f16), .val (.int nn), .val (.int f18), .val (.int f19), .val (.ref b1), .val (.ref b2), .val (.ref b3), .val (.ref b4), .val (.ref b5), .val (.ref b6), .val (.ref b7), .val (.ref b9), .unset, .unset] [(.int (1 : Int32)), (.int nn)]))
                  by_cases hc237 : nn < (1 : Int32)
                  · refine Rest.via (fun t k => XS.icmpYes Xja.here hx rfl (pc0 := 237) (pc' := 266) rfl (hb hby at_237) rfl (tlt hc237).1 (by decide) (by decide) k) ?_
                    show Rest p.tables e below s _ _ _ (Tja.setTop (mkF m 266 #[.val (.long q0), .second, .val (.long q1), .second, .val (.int p2), .val (.int p3), .val (.int ka), .val (.int va), .val (.int kc), .val (.int vc), .val (.int kp), .val (.int vp), .val (.int f12), .val (.int f13), .val (.int f14), .val (.int f15), .val (.int f16), .val (.int nn), .val (.int f18), .val (.int f19), .val (.ref b1), .val (.ref b2), .val (.ref b3), .val (.ref b4), .val (.ref b5), .val (.ref b6), .val (.ref b7), .val (.ref b9), .unset, .unset] []))
                    refine Rest.via (fun t k => XS.iload Xja.here hx rfl (hb hby at_266) rfl k) ?_
                    show Rest p.tables e below s _ _ _ (Tja.setTop (mkF m 268 #[.val (.long q0), .second, .val (.long q1), .second, .val (.int p2), .val (.int p3), .val (.int ka), .val (.int va), .val (.int kc), .val (.int vc), .val (.int kp), .val (.int vp), .val (.int f12), .val (.int f13), .val (.int f14), .val (.int f15), .val (.int f16), .val (.int nn), .val (.int f18), .val (.int f19), .val (.ref b1), .val (.ref b2), .val (.ref b3), .val (.ref b4), .val (.ref b5), .val (.ref b6), .val (.ref b7), .val (.ref b9), .unset, .unset] [(.int nn)]))
                    refine Rest.via (fun t k => XS.iconst Xja.here hx rfl (hb hby at_268) k) ?_
                    show Rest p.tables e below s _ _ _ (Tja.setTop (mkF m 269 #[.val (.long q0), .second, .val (.long q1), .second, .val (.int p2), .val (.int p3), .val (.int ka), .val (.int va), .val (.int kc), .val (.int vc), .val (.int kp), .val (.int vp), .val (.int f12), .val (.int f13), .val (.int f14), .val (.int f15), .val (.int f16), .val (.int nn), .val (.int f18), .val (.int f19), .val (.ref b1), .val (.ref b2), .val (.ref b3), .val (.ref b4), .val (.ref b5), .val (.ref b6), .val (.ref b7), .val (.ref b9), .unset, .unset] [(.int (2 : Int32)), (.int nn)]))
                    refine Rest.via (fun t k => XS.icmpYes Xja.here hx rfl (pc0 := 269) (pc' := 298) rfl (hb hby at_269) rfl (tlt (own_n12 hc237 : nn < (2 : Int32))).1 (by decide) (by decide) k) ?_
                    show Rest p.tables e below s _ _ _ (Tja.setTop (mkF m 298 #[.val (.long q0), .second, .val (.long q1), .second, .val (.int p2), .val (.int p3), .val (.int ka), .val (.int va), .val (.int kc), .val (.int vc), .val (.int kp), .val (.int vp), .val (.int f12), .val (.int f13), .val (.int f14), .val (.int f15), .val (.int f16), .val (.int nn), .val (.int f18), .val (.int f19), .val (.ref b1), .val (.ref b2), .val (.ref b3), .val (.ref b4), .val (.ref b5), .val (.ref b6), .val (.ref b7), .val (.ref b9), .unset, .unset] []))
                    exact Jjc _ _ _ (Xja.more (by decide) (by decide)) eja Nja Kja _ (by rw [own_wn, own_wn, if_pos hc237, if_pos (own_n12 hc237)]; decide) Ra.1 Pa B4ja B5ja
                  · refine Rest.via (fun t k => XS.icmpNo Xja.here hx rfl (hb hby at_237) rfl (flt hc237).1 k) ?_
                    show Rest p.tables e below s _ _ _ (Tja.setTop (mkF m 240 #[.val (.long q0), .second, .val (.long q1), .second, .val (.int p2), .val (.int p3), .val (.int ka), .val (.int va), .val (.int kc), .val (.int vc), .val (.int kp), .val (.int vp), .val (.int f12), .val (.int f13), .val (.int f14), .val (.int f15), .val (.int f16), .val (.int nn), .val (.int f18), .val (.int f19), .val (.ref b1), .val (.ref b2), .val (.ref b3), .val (.ref b4), .val (.ref b5), .val (.ref b6), .val (.ref b7), .val (.ref b9), .unset, .unset] []))
                    have Jjb : ∀ (Tjb : State) (Ljb : List Loc) (hjb : Heap) (Xjb : Stand p l e room_1 s m #[(.long q0), (.long q1), (.int p2), (.int p3)] below meth c Tjb Ljb 14 132) (ejb : Tjb.heap = hjb) (Njb : Fr n0 Ljb) (Kjb : Keep h0 hjb []) (kb : Addr) (vb : Addr) (w1 : Int64) (hw1 : w1 = own_ws f13 ka va) (gkb : h0.size ≤ kb) (gvb : h0.size ≤ vb) (d0 : b9 ≠ kb) (d1 : ks10 ≠ kb) (d2 : vs10 ≠ kb) (d3 : b9 ≠ vb) (d4 : ks10 ≠ vb) (d5 : vs10 ≠ vb) (Rb : own_LR1 Z hjb b7 ks8 vs8 kb vb lk w1 .null) (Pb : own_LR0 Z hjb b9 ks10 vs10 de 0 0 .null) (B2jb : own_BA Z hjb b3 kc) (B3jb : own_BA Z hjb b4 vc) (B4jb : own_BA Z hjb b5 kp) (B5jb : own_BA Z hjb b6 vp), Rest p.tables e below s (Q0 Z q0 q1 p2 p3 de h0 n0) 16 152 (Tjb.setTop (mkF m 266 #[.val (.long q0), .second, .val (.long q1), .second, .val (.int p2), .val (.int p3), .val (.int ka), .val (.int va), .val (.int kc), .val (.int vc), .val (.int kp), .val (.int vp), .val (.int f12), .val (.int f13), .val (.int f14), .val (.int f15), .val (.int f16), .val (.int nn), .val (.int f18), .val (.int f19), .val (.ref b1), .val (.ref b2), .val (.ref b3), .val (.ref b4), .val (.ref b5), .val (.ref b6), .val (.ref b7), .val (.ref b9), .unset, .unset] [])) := by
                      intro Tjb Ljb hjb Xjb ejb Njb Kjb kb vb w1 hw1 gkb gvb d0 d1 d2 d3 d4 d5 Rb Pb B2jb B3jb B4jb B5jb
                      have g_kb : n0 ≤ kb := Nat.le_trans Z0 gkb
                      have g_vb : n0 ≤ vb := Nat.le_trans Z0 gvb
                      have sz_kb := gkb
                      have sz_vb := gvb
                      show Rest p.tables e below s _ _ _ (Tjb.setTop (mkF m 266 #[.val (.long q0), .second, .val (.long q1), .second, .val (.int p2), .val (.int p3), .val (.int ka), .val (.int va), .val (.int kc), .val (.int vc), .val (.int kp), .val (.int vp), .val (.int f12), .val (.int f13), .val (.int f14), .val (.int f15), .val (.int f16), .val (.int nn), .val (.int f18), .val (.int f19), .val (.ref b1), .val (.ref b2), .val (.ref b3), .val (.ref b4), .val (.ref b5), .val (.ref b6), .val (.ref b7), .val (.ref b9), .unset, .unset] []))
                      refine Rest.via (fun t k => XS.iload Xjb.here hx rfl (hb hby at_266) rfl k) ?_
                      show Rest p.tables e below s _ _ _ (Tjb.setTop (mkF m 268 #[.val (.long q0), .second, .val (.long q1), .second, .val (.int p2), .val (.int p3), .val (.int ka), .val (.int va), .val (.int kc), .val (.int vc), .val (.int kp), .val (.int vp), .val (.int f12), .val (.int f13), .val (.int f14), .val (.int f15), .val (.int f16), .val (.int nn), .val (.int f18), .val (.int f19), .val (.ref b1), .val (.ref b2), .val (.ref b3), .val (.ref b4), .val (.ref b5), .val (.ref b6), .val (.ref b7), .val (.ref b9), .unset, .unset] [(.int nn)]))
                      refine Rest.via (fun t k => XS.iconst Xjb.here hx rfl (hb hby at_268) k) ?_
                      show Rest p.tables e below s _ _ _ (Tjb.setTop (mkF m 269 #[.val (.long q0), .second, .val (.long q1), .second, .val (.int p2), .val (.int p3), .val (.int ka), .val (.int va), .val (.int kc), .val (.int vc), .val (.int kp), .val (.int vp), .val (.int f12), .val (.int f13), .val (.int f14), .val (.int f15), .val (.int f16), .val (.int nn), .val (.int f18), .val (.int f19), .val (.ref b1), .val (.ref b2), .val (.ref b3), .val (.ref b4), .val (.ref b5), .val (.ref b6), .val (.ref b7), .val (.ref b9), .unset, .unset] [(.int (2 : Int32)), (.int nn)]))
                      by_cases hc269 : nn < (2 : Int32)
                      · refine Rest.via (fun t k => XS.icmpYes Xjb.here hx rfl (pc0 := 269) (pc' := 298) rfl (hb hby at_269) rfl (tlt hc269).1 (by decide) (by decide) k) ?_
                        show Rest p.tables e below s _ _ _ (Tjb.setTop (mkF m 298 #[.val (.long q0), .second, .val (.long q1), .second, .val (.int p2), .val (.int p3), .val (.int ka), .val (.int va), .val (.int kc), .val (.int vc), .val (.int kp), .val (.int vp), .val (.int f12), .val (.int f13), .val (.int f14), .val (.int f15), .val (.int f16), .val (.int nn), .val (.int f18), .val (.int f19), .val (.ref b1), .val (.ref b2), .val (.ref b3), .val (.ref b4), .val (.ref b5), .val (.ref b6), .val (.ref b7), .val (.ref b9), .unset, .unset] []))
                        exact Jjc _ _ _ Xjb ejb Njb Kjb _ (by rw [own_wn, own_wn, if_neg hc237, if_pos hc269, hw1]; exact (Int64.add_zero _).symm) Rb.1 Pb B4jb B5jb
                      · refine Rest.via (fun t k => XS.icmpNo Xjb.here hx rfl (hb hby at_269) rfl (flt hc269).1 k) ?_
                        show Rest p.tables e below s _ _ _ (Tjb.setTop (mkF m 272 #[.val (.long q0), .second, .val (.long q1), .second, .val (.int p2), .val (.int p3), .val (.int ka), .val (.int va), .val (.int kc), .val (.int vc), .val (.int kp), .val (.int vp), .val (.int f12), .val (.int f13), .val (.int f14), .val (.int f15), .val (.int f16), .val (.int nn), .val (.int f18), .val (.int f19), .val (.ref b1), .val (.ref b2), .val (.ref b3), .val (.ref b4), .val (.ref b5), .val (.ref b6), .val (.ref b7), .val (.ref b9), .unset, .unset] []))
                        refine Rest.via (fun t k => XS.iload Xjb.here hx rfl (hb hby at_272) rfl k) ?_
                        show Rest p.tables e below s _ _ _ (Tjb.setTop (mkF m 274 #[.val (.long q0), .second, .val (.long q1), .second, .val (.int p2), .val (.int p3), .val (.int ka), .val (.int va), .val (.int kc), .val (.int vc), .val (.int kp), .val (.int vp), .val (.int f12), .val (.int f13), .val (.int f14), .val (.int f15), .val (.int f16), .val (.int nn), .val (.int f18), .val (.int f19), .val (.ref b1), .val (.ref b2), .val (.ref b3), .val (.ref b4), .val (.ref b5), .val (.ref b6), .val (.ref b7), .val (.ref b9), .unset, .unset] [(.int f14)]))
                        by_cases hc274 : f14 = (0 : Int32)
                        · refine Rest.via (fun t k => XS.ifYes Xjb.here hx rfl (pc0 := 274) (pc' := 290) rfl (hb hby at_274) rfl ((if0 _ _).trans (teq hc274).1) (by decide) (by decide) k) ?_
                          show Rest p.tables e below s _ _ _ (Tjb.setTop (mkF m 290 #[.val (.long q0), .second, .val (.long q1), .second, .val (.int p2), .val (.int p3), .val (.int ka), .val (.int va), .val (.int kc), .val (.int vc), .val (.int kp), .val (.int vp), .val (.int f12), .val (.int f13), .val (.int f14), .val (.int f15), .val (.int f16), .val (.int nn), .val (.int f18), .val (.int f19), .val (.ref b1), .val (.ref b2), .val (.ref b3), .val (.ref b4), .val (.ref b5), .val (.ref b6), .val (.ref b7), .val (.ref b9), .unset, .unset] []))
                          refine Rest.via (fun t k => XS.aload Xjb.here hx rfl (hb hby at_290) rfl rfl k) ?_
                          show Rest p.tables e below s _ _ _ (Tjb.setTop (mkF m 292 #[.val (.long q0), .second, .val (.long q1), .second, .val (.int p2), .val (.int p3), .val (.int ka), .val (.int va), .val (.int kc), .val (.int vc), .val (.int kp), .val (.int vp), .val (.int f12), .val (.int f13), .val (.int f14), .val (.int f15), .val (.int f16), .val (.int nn), .val (.int f18), .val (.int f19), .val (.ref b1), .val (.ref b2), .val (.ref b3), .val (.ref b4), .val (.ref b5), .val (.ref b6), .val (.ref b7), .val (.ref b9), .unset, .unset] [(.ref b7)]))
                          refine Rest.via (fun t k => XS.aload Xjb.here hx rfl (hb hby at_292) rfl rfl k) ?_
                          show Rest p.tables e below s _ _ _ (Tjb.setTop (mkF m 294 #[.val (.long q0), .second, .val (.long q1), .second, .val (.int p2), .val (.int p3), .val (.int ka), .val (.int va), .val (.int kc), .val (.int vc), .val (.int kp), .val (.int vp), .val (.int f12), .val (.int f13), .val (.int f14), .val (.int f15), .val (.int f16), .val (.int nn), .val (.int f18), .val (.int f19), .val (.ref b1), .val (.ref b2), .val (.ref b3), .val (.ref b4), .val (.ref b5), .val (.ref b6), .val (.ref b7), .val (.ref b9), .unset, .unset] [(.ref b3), (.ref b7)]))
                          obtain ⟨cq22, kq22, q22a, q22b, q22c⟩ := isOf hZ ejb Rb.1.1
                          obtain ⟨_, _, ⟨T22, L22, k22, n22⟩, -, X22, ⟨Lc22, hQ22, l22, y22, z22⟩, st22⟩ := Xjb.virtualBack hx (y := (⟨"com/example/reknit/reknit/LogRecord", "delete", "([B)Lcom/example/reknit/reknit/LogRecord;"⟩ : MethodName)) (z := (⟨"com/example/reknit/reknit/LogRecord", "delete", "([B)Lcom/example/reknit/reknit/LogRecord;"⟩ : MethodName)) hown (mvT hZ (hw _ (List.mem_of_getElem? (i := 103) rfl))) (mvT hZ (hw _ (List.mem_of_getElem? (i := 104) rfl))) (notFace_of_selects (args := #[]) (mvT hZ (hw _ (List.mem_of_getElem? (i := 106) rfl)))) (mvT hZ (hw _ (List.mem_of_getElem? (i := 106) rfl))) (mvT hZ (hw _ (List.mem_of_getElem? (i := 105) rfl))) (by decide) (backOf (W := 0) (rmX1 l Z aw hw [] b7 b3 _ _ kb vb _ _ _ kc hjb n0 (Nat.le_trans Z0 Kjb.1) Rb g_b7 g_ks8 g_vs8 g_kb g_vb B2jb) hZ (hw _ (List.mem_of_getElem? (i := 107) rfl)) (hw _ (List.mem_of_getElem? (i := 3) rfl)) (by decide) (by decide)) q22a q22c (g := (mkF m 294 #[.val (.long q0), .second, .val (.long q1), .second, .val (.int p2), .val (.int p3), .val (.int ka), .val (.int va), .val (.int kc), .val (.int vc), .val (.int kp), .val (.int vp), .val (.int f12), .val (.int f13), .val (.int f14), .val (.int f15), .val (.int f16), .val (.int nn), .val (.int f18), .val (.int f19), .val (.ref b1), .val (.ref b2), .val (.ref b3), .val (.ref b4), .val (.ref b5), .val (.ref b6), .val (.ref b7), .val (.ref b9), .unset, .unset] [(.ref b3), (.ref b7)])) rfl (by rw [hml]; rfl) (Steps.refl _) (argsL := [(.ref b3)]) (rest := []) (lenOf pd_11 rfl) rfl (by show 2 * 0 + _ ≤ _; exact Nat.le_of_eq rfl) (hb hby at_294) (fun _ _ => ⟨rfl, ejb, (by decide : 14 + 0 ≤ _), (by decide : 132 + 0 ≤ _)⟩)
                          dsimp only [Pt.U, Pt.locs, Pt.cells, Pt.slots] at X22 l22 y22 z22 st22 hQ22
                          subst l22 y22 z22
                          obtain ⟨h22, e22⟩ : ∃ z, T22.heap = z := ⟨_, rfl⟩
                          rw [e22] at hQ22
                          obtain ⟨rfl, Nq22, Kq22, Rq22⟩ := hQ22
                          have N22 := Fr.app Njb Nq22
                          have K22 : Keep h0 h22 [] := Kjb.trans Kq22 (allS (Or.inr sz_b7) (allS (Or.inr sz_ks8) (allS (Or.inr sz_vs8) (allS (Or.inr sz_kb) (allS (Or.inr sz_vb) all0)))))
                          refine Rest.via (fun t k => st22.trans k) ?_
                          show Rest p.tables e below s _ _ _ (T22.setTop (mkF m 297 #[.val (.long q0), .second, .val (.long q1), .second, .val (.int p2), .val (.int p3), .val (.int ka), .val (.int va), .val (.int kc), .val (.int vc), .val (.int kp), .val (.int vp), .val (.int f12), .val (.int f13), .val (.int f14), .val (.int f15), .val (.int f16), .val (.int nn), .val (.int f18), .val (.int f19), .val (.ref b1), .val (.ref b2), .val (.ref b3), .val (.ref b4), .val (.ref b5), .val (.ref b6), .val (.ref b7), .val (.ref b9), .unset, .unset] [(.ref b7)]))
                          refine Rest.via (fun t k => XS.pop X22.here hx rfl (hb hby at_297) rfl rfl k) ?_
                          show Rest p.tables e below s _ _ _ (T22.setTop (mkF m 298 #[.val (.long q0), .second, .val (.long q1), .second, .val (.int p2), .val (.int p3), .val (.int ka), .val (.int va), .val (.int kc), .val (.int vc), .val (.int kp), .val (.int vp), .val (.int f12), .val (.int f13), .val (.int f14), .val (.int f15), .val (.int f16), .val (.int nn), .val (.int f18), .val (.int f19), .val (.ref b1), .val (.ref b2), .val (.ref b3), .val (.ref b4), .val (.ref b5), .val (.ref b6), .val (.ref b7), .val (.ref b9), .unset, .unset] []))
                          exact Jjc _ _ _ X22 e22 N22 K22 _ (by rw [own_wn, own_wn, if_neg hc237, if_neg hc269, hw1, own_ws0 hc274]) Rq22 (own_LR0_keep Pb Kq22 (ninS (Ne.symm ne_b7_b9) (ninS (Ne.symm ne_ks8_b9) (ninS (Ne.symm ne_vs8_b9) (ninS d0 (ninS d3 nin0))))) (ninS (Ne.symm ne_b7_ks10) (ninS (Ne.symm ne_ks8_ks10) (ninS (Ne.symm ne_vs8_ks10) (ninS d1 (ninS d4 nin0))))) (ninS (Ne.symm ne_b7_vs10) (ninS (Ne.symm ne_ks8_vs10) (ninS (Ne.symm ne_vs8_vs10) (ninS d2 (ninS d5 nin0)))))) (own_BA_keep B4jb Kq22) (own_BA_keep B5jb Kq22)
                        · refine Rest.via (fun t k => XS.ifNo Xjb.here hx rfl (hb hby at_274) rfl ((if0 _ _).trans (feq hc274).1) k) ?_
                          show Rest p.tables e below s _ _ _ (Tjb.setTop (mkF m 277 #[.val (.long q0), .second, .val (.long q1), .second, .val (.int p2), .val (.int p3), .val (.int ka), .val (.int va), .val (.int kc), .val (.int vc), .val (.int kp), .val (.int vp), .val (.int f12), .val (.int f13), .val (.int f14), .val (.int f15), .val (.int f16), .val (.int nn), .val (.int f18), .val (.int f19), .val (.ref b1), .val (.ref b2), .val (.ref b3), .val (.ref b4), .val (.ref b5), .val (.ref b6), .val (.ref b7), .val (.ref b9), .unset, .unset] []))
                          refine Rest.via (fun t k => XS.aload Xjb.here hx rfl (hb hby at_277) rfl rfl k) ?_
                          show Rest p.tables e below s _ _ _ (Tjb.setTop (mkF m 279 #[.val (.long q0), .second, .val (.long q1), .second, .val (.int p2), .val (.int p3), .val (.int ka), .val (.int va), .val (.int kc), .val (.int vc), .val (.int kp), .val (.int vp), .val (.int f12), .val (.int f13), .val (.int f14), .val (.int f15), .val (.int f16), .val (.int nn), .val (.int f18), .val (.int f19), .val (.ref b1), .val (.ref b2), .val (.ref b3), .val (.ref b4), .val (.ref b5), .val (.ref b6), .val (.ref b7), .val (.ref b9), .unset, .unset] [(.ref b7)]))
                          refine Rest.via (fun t k => XS.aload Xjb.here hx rfl (hb hby at_279) rfl rfl k) ?_
                          show Rest p.tables e below s _ _ _ (Tjb.setTop (mkF m 281 #[.val (.long q0), .second, .val (.long q1), .second, .val (.int p2), .val (.int p3), .val (.int ka), .val (.int va), .val (.int kc), .val (.int vc), .val (.int kp), .val (.int vp), .val (.int f12), .val (.int f13), .val (.int f14), .val (.int f15), .val (.int f16), .val (.int nn), .val (.int f18), .val (.int f19), .val (.ref b1), .val (.ref b2), .val (.ref b3), .val (.ref b4), .val (.ref b5), .val (.ref b6), .val (.ref b7), .val (.ref b9), .unset, .unset] [(.ref b3), (.ref b7)]))
                          refine Rest.via (fun t k => XS.aload Xjb.here hx rfl (hb hby at_281) rfl rfl k) ?_
                          show Rest p.tables e below s _ _ _ (Tjb.setTop (mkF m 283 #[.val (.long q0), .second, .val (.long q1), .second, .val (.int p2), .val (.int p3), .val (.int ka), .val (.int va), .val (.int kc), .val (.int vc), .val (.int kp), .val (.int vp), .val (.int f12), .val (.int f13), .val (.int f14), .val (.int f15), .val (.int f16), .val (.int nn), .val (.int f18), .val (.int f19), .val (.ref b1), .val (.ref b2), .val (.ref b3), .val (.ref b4), .val (.ref b5), .val (.ref b6), .val (.ref b7), .val (.ref b9), .unset, .unset] [(.ref b4), (.ref b3), (.ref b7)]))
                          obtain ⟨cq23, kq23, q23a, q23b, q23c⟩ := isOf hZ ejb Rb.1.1
                          obtain ⟨_, _, ⟨T23, L23, k23, n23⟩, -, X23, ⟨Lc23, hQ23, l23, y23, z23⟩, st23⟩ := Xjb.virtualBack hx (y := (⟨"com/example/reknit/reknit/LogRecord", "set", "([B[B)Lcom/example/reknit/reknit/LogRecord;"⟩ : MethodName)) (z := (⟨"com/example/reknit/reknit/LogRecord", "set", "([B[B)Lcom/example/reknit/reknit/LogRecord;"⟩ : MethodName)) hown (mvT hZ (hw _ (List.mem_of_getElem? (i := 60) rfl))) (mvT hZ (hw _ (List.mem_of_getElem? (i := 61) rfl))) (notFace_of_selects (args := #[]) (mvT hZ (hw _ (List.mem_of_getElem? (i := 63) rfl)))) (mvT hZ (hw _ (List.mem_of_getElem? (i := 63) rfl))) (mvT hZ (hw _ (List.mem_of_getElem? (i := 62) rfl))) (by decide) (backOf (W := 0) (rmS1 l Z aw hw [] b7 b3 b4 _ _ kb vb _ _ _ kc vc hjb n0 (Nat.le_trans Z0 Kjb.1) Rb g_b7 g_ks8 g_vs8 g_kb g_vb B2jb B3jb) hZ (hw _ (List.mem_of_getElem? (i := 64) rfl)) (hw _ (List.mem_of_getElem? (i := 3) rfl)) (by decide) (by decide)) q23a q23c (g := (mkF m 283 #[.val (.long q0), .second, .val (.long q1), .second, .val (.int p2), .val (.int p3), .val (.int ka), .val (.int va), .val (.int kc), .val (.int vc), .val (.int kp), .val (.int vp), .val (.int f12), .val (.int f13), .val (.int f14), .val (.int f15), .val (.int f16), .val (.int nn), .val (.int f18), .val (.int f19), .val (.ref b1), .val (.ref b2), .val (.ref b3), .val (.ref b4), .val (.ref b5), .val (.ref b6), .val (.ref b7), .val (.ref b9), .unset, .unset] [(.ref b4), (.ref b3), (.ref b7)])) rfl (by rw [hml]; rfl) (Steps.refl _) (argsL := [(.ref b3), (.ref b4)]) (rest := []) (lenOf pd_12 rfl) rfl (by show 2 * 0 + _ ≤ _; exact Nat.le_of_eq rfl) (hb hby at_283) (fun _ _ => ⟨rfl, ejb, (by decide : 14 + 0 ≤ _), (by decide : 132 + 0 ≤ _)⟩)
                          dsimp only [Pt.U, Pt.locs, Pt.cells, Pt.slots] at X23 l23 y23 z23 st23 hQ23
                          subst l23 y23 z23
                          obtain ⟨h23, e23⟩ : ∃ z, T23.heap = z := ⟨_, rfl⟩
                          rw [e23] at hQ23
                          obtain ⟨rfl, Nq23, Kq23, Rq23⟩ := hQ23
                          have N23 := Fr.app Njb Nq23
                          have K23 : Keep h0 h23 [] := Kjb.trans Kq23 (allS (Or.inr sz_b7) (allS (Or.inr sz_ks8) (allS (Or.inr sz_vs8) (allS (Or.inr sz_kb) (allS (Or.inr sz_vb) all0)))))
                          refine Rest.via (fun t k => st23.trans k) ?_
                          show Rest p.tables e below s _ _ _ (T23.setTop (mkF m 286 #[.val (.long q0), .second, .val (.long q1), .second, .val (.int p2), .val (.int p3), .val (.int ka), .val (.int va), .val (.int kc), .val (.int vc), .val (.int kp), .val (.int vp), .val (.int f12), .val (.int f13), .val (.int f14), .val (.int f15), .val (.int f16), .val (.int nn), .val (.int f18), .val (.int f19), .val (.ref b1), .val (.ref b2), .val (.ref b3), .val (.ref b4), .val (.ref b5), .val (.ref b6), .val (.ref b7), .val (.ref b9), .unset, .unset] [(.ref b7)]))
                          refine Rest.via (fun t k => XS.pop X23.here hx rfl (hb hby at_286) rfl rfl k) ?_
                          show Rest p.tables e below s _ _ _ (T23.setTop (mkF m 287 #[.val (.long q0), .second, .val (.long q1), .second, .val (.int p2), .val (.int p3), .val (.int ka), .val (.int va), .val (.int kc), .val (.int vc), .val (.int kp), .val (.int vp), .val (.int f12), .val (.int f13), .val (.int f14), .val (.int f15), .val (.int f16), .val (.int nn), .val (.int f18), .val (.int f19), .val (.ref b1), .val (.ref b2), .val (.ref b3), .val (.ref b4), .val (.ref b5), .val (.ref b6), .val (.ref b7), .val (.ref b9), .unset, .unset] []))
                          refine Rest.via (fun t k => XS.goto X23.here hx rfl (pc0 := 287) (pc' := 298) rfl (hb hby at_287) (by decide) (by decide) k) ?_
                          show Rest p.tables e below s _ _ _ (T23.setTop (mkF m 298 #[.val (.long q0), .second, .val (.long q1), .second, .val (.int p2), .val (.int p3), .val (.int ka), .val (.int va), .val (.int kc), .val (.int vc), .val (.int kp), .val (.int vp), .val (.int f12), .val (.int f13), .val (.int f14), .val (.int f15), .val (.int f16), .val (.int nn), .val (.int f18), .val (.int f19), .val (.ref b1), .val (.ref b2), .val (.ref b3), .val (.ref b4), .val (.ref b5), .val (.ref b6), .val (.ref b7), .val (.ref b9), .unset, .unset] []))
                          exact Jjc _ _ _ X23 e23 N23 K23 _ (by rw [own_wn, own_wn, if_neg hc237, if_neg hc269, hw1, own_ws1 hc274]) Rq23 (own_LR0_keep Pb Kq23 (ninS (Ne.symm ne_b7_b9) (ninS (Ne.symm ne_ks8_b9) (ninS (Ne.symm ne_vs8_b9) (ninS d0 (ninS d3 nin0))))) (ninS (Ne.symm ne_b7_ks10) (ninS (Ne.symm ne_ks8_ks10) (ninS (Ne.symm ne_vs8_ks10) (ninS d1 (ninS d4 nin0))))) (ninS (Ne.symm ne_b7_vs10) (ninS (Ne.symm ne_ks8_vs10) (ninS (Ne.symm ne_vs8_vs10) (ninS d2 (ninS d5 nin0)))))) (own_BA_keep B4jb Kq23) (own_BA_keep B5jb Kq23)
                    show Rest p.tables e below s _ _ _ (Tja.setTop (mkF m 240 #[.val (.long q0), .second, .val (.long q1), .second, .val (.int p2), .val (.int p3), .val (.int ka), .val (.int va), .val (.int kc), .val (.int vc), .val (.int kp), .val (.int vp), .val (.int f12), .val (.int f13), .val (.int f14), .val (.int f15), .val (.int f16), .val (.int nn), .val (.int f18), .val (.int f19), .val (.ref b1), .val (.ref b2), .val (.ref b3), .val (.ref b4), .val (.ref b5), .val (.ref b6), .val (.ref b7), .val (.ref b9), .unset, .unset] []))
                    refine Rest.via (fun t k => XS.iload Xja.here hx rfl (hb hby at_240) rfl k) ?_
                    show Rest p.tables e below s _ _ _ (Tja.setTop (mkF m 242 #[.val (.long q0), .second, .val (.long q1), .second, .val (.int p2), .val (.int p3), .val (.int ka), .val (.int va), .val (.int kc), .val (.int vc), .val (.int kp), .val (.int vp), .val (.int f12), .val (.int f13), .val (.int f14), .val (.int f15), .val (.int f16), .val (.int nn), .val (.int f18), .val (.int f19), .val (.ref b1), .val (.ref b2), .val (.ref b3), .val (.ref b4), .val (.ref b5), .val (.ref b6), .val (.ref b7), .val (.ref b9), .unset, .unset] [(.int f13)]))
                    by_cases hc242 : f13 = (0 : Int32)
                    · refine Rest.via (fun t k => XS.ifYes Xja.here hx rfl (pc0 := 242) (pc' := 258) rfl (hb hby at_242) rfl ((if0 _ _).trans (teq hc242).1) (by decide) (by decide) k) ?_
                      show Rest p.tables e below s _ _ _ (Tja.setTop (mkF m 258 #[.val (.long q0), .second, .val (.long q1), .second, .val (.int p2), .val (.int p3), .val (.int ka), .val (.int va), .val (.int kc), .val (.int vc), .val (.int kp), .val (.int vp), .val (.int f12), .val (.int f13), .val (.int f14), .val (.int f15), .val (.int f16), .val (.int nn), .val (.int f18), .val (.int f19), .val (.ref b1), .val (.ref b2), .val (.ref b3), .val (.ref b4), .val (.ref b5), .val (.ref b6), .val (.ref b7), .val (.ref b9), .unset, .unset] []))
                      refine Rest.via (fun t k => XS.aload Xja.here hx rfl (hb hby at_258) rfl rfl k) ?_
                      show Rest p.tables e below s _ _ _ (Tja.setTop (mkF m 260 #[.val (.long q0), .second, .val (.long q1), .second, .val (.int p2), .val (.int p3), .val (.int ka), .val (.int va), .val (.int kc), .val (.int vc), .val (.int kp), .val (.int vp), .val (.int f12), .val (.int f13), .val (.int f14), .val (.int f15), .val (.int f16), .val (.int nn), .val (.int f18), .val (.int f19), .val (.ref b1), .val (.ref b2), .val (.ref b3), .val (.ref b4), .val (.ref b5), .val (.ref b6), .val (.ref b7), .val (.ref b9), .unset, .unset] [(.ref b7)]))
                      refine Rest.via (fun t k => XS.aload Xja.here hx rfl (hb hby at_260) rfl rfl k) ?_
                      show Rest p.tables e below s _ _ _ (Tja.setTop (mkF m 262 #[.val (.long q0), .second, .val (.long q1), .second, .val (.int p2), .val (.int p3), .val (.int ka), .val (.int va), .val (.int kc), .val (.int vc), .val (.int kp), .val (.int vp), .val (.int f12), .val (.int f13), .val (.int f14), .val (.int f15), .val (.int f16), .val (.int nn), .val (.int f18), .val (.int f19), .val (.ref b1), .val (.ref b2), .val (.ref b3), .val (.ref b4), .val (.ref b5), .val (.ref b6), .val (.ref b7), .val (.ref b9), .unset, .unset] [(.ref b1), (.ref b7)]))
                      obtain ⟨cq24, kq24, q24a, q24b, q24c⟩ := isOf hZ eja Ra.1.1
                      obtain ⟨_, _, ⟨T24, L24, k24, n24⟩, -, X24, ⟨Lc24, hQ24, l24, y24, z24⟩, st24⟩ := Xja.virtualBack hx (y := (⟨"com/example/reknit/reknit/LogRecord", "delete", "([B)Lcom/example/reknit/reknit/LogRecord;"⟩ : MethodName)) (z := (⟨"com/example/reknit/reknit/LogRecord", "delete", "([B)Lcom/example/reknit/reknit/LogRecord;"⟩ : MethodName)) hown (mvT hZ (hw _ (List.mem_of_getElem? (i := 103) rfl))) (mvT hZ (hw _ (List.mem_of_getElem? (i := 104) rfl))) (notFace_of_selects (args := #[]) (mvT hZ (hw _ (List.mem_of_getElem? (i := 106) rfl)))) (mvT hZ (hw _ (List.mem_of_getElem? (i := 106) rfl))) (mvT hZ (hw _ (List.mem_of_getElem? (i := 105) rfl))) (by decide) (backOf (W := 0) (rmX0 l Z aw hw [] b7 b1 _ _ de _ _ _ ka hja n0 (Nat.le_trans Z0 Kja.1) Ra g_b7 g_ks8 g_vs8 (O.keep Kja all0) DE0 B0ja) hZ (hw _ (List.mem_of_getElem? (i := 107) rfl)) (hw _ (List.mem_of_getElem? (i := 3) rfl)) (by decide) (by decide)) q24a q24c (g := (mkF m 262 #[.val (.long q0), .second, .val (.long q1), .second, .val (.int p2), .val (.int p3), .val (.int ka), .val (.int va), .val (.int kc), .val (.int vc), .val (.int kp), .val (.int vp), .val (.int f12), .val (.int f13), .val (.int f14), .val (.int f15), .val (.int f16), .val (.int nn), .val (.int f18), .val (.int f19), .val (.ref b1), .val (.ref b2), .val (.ref b3), .val (.ref b4), .val (.ref b5), .val (.ref b6), .val (.ref b7), .val (.ref b9), .unset, .unset] [(.ref b1), (.ref b7)])) rfl (by rw [hml]; rfl) (Steps.refl _) (argsL := [(.ref b1)]) (rest := []) (lenOf pd_11 rfl) rfl (by show 2 * 0 + _ ≤ _; exact Nat.le_of_eq rfl) (hb hby at_262) (fun _ _ => ⟨rfl, eja, (by decide : 12 + 2 ≤ _), (by decide : 112 + 20 ≤ _)⟩)
                      dsimp only [Pt.U, Pt.locs, Pt.cells, Pt.slots] at X24 l24 y24 z24 st24 hQ24
                      subst l24 y24 z24
                      obtain ⟨h24, e24⟩ : ∃ z, T24.heap = z := ⟨_, rfl⟩
                      rw [e24] at hQ24
                      obtain ⟨rfl, Nq24, Kq24, kb24, vb24, sk24, sv24, R24⟩ := hQ24
                      have N24 := Fr.app Nja Nq24
                      have sz_kb24 : h0.size ≤ kb24 := Nat.le_trans Kja.1 sk24
                      have sz_vb24 : h0.size ≤ vb24 := Nat.le_trans Kja.1 sv24
                      have six24_0 := (Nat.ne_of_lt (Nat.lt_of_lt_of_le (Pa.1.1).lt sk24))
                      have six24_1 := (Nat.ne_of_lt (Nat.lt_of_lt_of_le (Pa.2.2.1.1).lt sk24))
                      have six24_2 := (Nat.ne_of_lt (Nat.lt_of_lt_of_le (Pa.2.2.2.1).lt sk24))
                      have six24_3 := (Nat.ne_of_lt (Nat.lt_of_lt_of_le (Pa.1.1).lt sv24))
                      have six24_4 := (Nat.ne_of_lt (Nat.lt_of_lt_of_le (Pa.2.2.1.1).lt sv24))
                      have six24_5 := (Nat.ne_of_lt (Nat.lt_of_lt_of_le (Pa.2.2.2.1).lt sv24))
                      have K24 : Keep h0 h24 [] := Kja.trans Kq24 (allS (Or.inr sz_b7) (allS (Or.inr sz_ks8) (allS (Or.inr sz_vs8) all0)))
                      refine Rest.via (fun t k => st24.trans k) ?_
                      show Rest p.tables e below s _ _ _ (T24.setTop (mkF m 265 #[.val (.long q0), .second, .val (.long q1), .second, .val (.int p2), .val (.int p3), .val (.int ka), .val (.int va), .val (.int kc), .val (.int vc), .val (.int kp), .val (.int vp), .val (.int f12), .val (.int f13), .val (.int f14), .val (.int f15), .val (.int f16), .val (.int nn), .val (.int f18), .val (.int f19), .val (.ref b1), .val (.ref b2), .val (.ref b3), .val (.ref b4), .val (.ref b5), .val (.ref b6), .val (.ref b7), .val (.ref b9), .unset, .unset] [(.ref b7)]))
                      refine Rest.via (fun t k => XS.pop X24.here hx rfl (hb hby at_265) rfl rfl k) ?_
                      show Rest p.tables e below s _ _ _ (T24.setTop (mkF m 266 #[.val (.long q0), .second, .val (.long q1), .second, .val (.int p2), .val (.int p3), .val (.int ka), .val (.int va), .val (.int kc), .val (.int vc), .val (.int kp), .val (.int vp), .val (.int f12), .val (.int f13), .val (.int f14), .val (.int f15), .val (.int f16), .val (.int nn), .val (.int f18), .val (.int f19), .val (.ref b1), .val (.ref b2), .val (.ref b3), .val (.ref b4), .val (.ref b5), .val (.ref b6), .val (.ref b7), .val (.ref b9), .unset, .unset] []))
                      exact Jjb _ _ _ X24 e24 N24 K24 kb24 vb24 _ (by rw [own_ws0 hc242]; exact Int64.zero_add _) sz_kb24 sz_vb24 six24_0 six24_1 six24_2 six24_3 six24_4 six24_5 R24 (own_LR0_keep Pa Kq24 (ninS (Ne.symm ne_b7_b9) (ninS (Ne.symm ne_ks8_b9) (ninS (Ne.symm ne_vs8_b9) nin0))) (ninS (Ne.symm ne_b7_ks10) (ninS (Ne.symm ne_ks8_ks10) (ninS (Ne.symm ne_vs8_ks10) nin0))) (ninS (Ne.symm ne_b7_vs10) (ninS (Ne.symm ne_ks8_vs10) (ninS (Ne.symm ne_vs8_vs10) nin0)))) (own_BA_keep B2ja Kq24) (own_BA_keep B3ja Kq24) (own_BA_keep B4ja Kq24) (own_BA_keep B5ja Kq24)
                    · refine Rest.via (fun t k => XS.ifNo Xja.here hx rfl (hb hby at_242) rfl ((if0 _ _).trans (feq hc242).1) k) ?_
                      show Rest p.tables e below s _ _ _ (Tja.setTop (mkF m 245 #[.val (.long q0), .second, .val (.long q1), .second, .val (.int p2), .val (.int p3), .val (.int ka), .val (.int va), .val (.int kc), .val (.int vc), .val (.int kp), .val (.int vp), .val (.int f12), .val (.int f13), .val (.int f14), .val (.int f15), .val (.int f16), .val (.int nn), .val (.int f18), .val (.int f19), .val (.ref b1), .val (.ref b2), .val (.ref b3), .val (.ref b4), .val (.ref b5), .val (.ref b6), .val (.ref b7), .val (.ref b9), .unset, .unset] []))
                      refine Rest.via (fun t k => XS.aload Xja.here hx rfl (hb hby at_245) rfl rfl k) ?_
                      show Rest p.tables e below s _ _ _ (Tja.setTop (mkF m 247 #[.val (.long q0), .second, .val (.long q1), .second, .val (.int p2), .val (.int p3), .val (.int ka), .val (.int va), .val (.int kc), .val (.int vc), .val (.int kp), .val (.int vp), .val (.int f12), .val (.int f13), .val (.int f14), .val (.int f15), .val (.int f16), .val (.int nn), .val (.int f18), .val (.int f19), .val (.ref b1), .val (.ref b2), .val (.ref b3), .val (.ref b4), .val (.ref b5), .val (.ref b6), .val (.ref b7), .val (.ref b9), .unset, .unset] [(.ref b7)]))
                      refine Rest.via (fun t k => XS.aload Xja.here hx rfl (hb hby at_247) rfl rfl k) ?_
                      show Rest p.tables e below s _ _ _ (Tja.setTop (mkF m 249 #[.val (.long q0), .second, .val (.long q1), .second, .val (.int p2), .val (.int p3), .val (.int ka), .val (.int va), .val (.int kc), .val (.int vc), .val (.int kp), .val (.int vp), .val (.int f12), .val (.int f13), .val (.int f14), .val (.int f15), .val (.int f16), .val (.int nn), .val (.int f18), .val (.int f19), .val (.ref b1), .val (.ref b2), .val (.ref b3), .val (.ref b4), .val (.ref b5), .val (.ref b6), .val (.ref b7), .val (.ref b9), .unset, .unset] [(.ref b1), (.ref b7)]))
                      refine Rest.via (fun t k => XS.aload Xja.here hx rfl (hb hby at_249) rfl rfl k) ?_
                      show Rest p.tables e below s _ _ _ (Tja.setTop (mkF m 251 #[.val (.long q0), .second, .val (.long q1), .second, .val (.int p2), .val (.int p3), .val (.int ka), .val (.int va), .val (.int kc), .val (.int vc), .val (.int kp), .val (.int vp), .val (.int f12), .val (.int f13), .val (.int f14), .val (.int f15), .val (.int f16), .val (.int nn), .val (.int f18), .val (.int f19), .val (.ref b1), .val (.ref b2), .val (.ref b3), .val (.ref b4), .val (.ref b5), .val (.ref b6), .val (.ref b7), .val (.ref b9), .unset, .unset] [(.ref b2), (.ref b1), (.ref b7)]))
                      obtain ⟨cq25, kq25, q25a, q25b, q25c⟩ := isOf hZ eja Ra.1.1
                      obtain ⟨_, _, ⟨T25, L25, k25, n25⟩, -, X25, ⟨Lc25, hQ25, l25, y25, z25⟩, st25⟩ := Xja.virtualBack hx (y := (⟨"com/example/reknit/reknit/LogRecord", "set", "([B[B)Lcom/example/reknit/reknit/LogRecord;"⟩ : MethodName)) (z := (⟨"com/example/reknit/reknit/LogRecord", "set", "([B[B)Lcom/example/reknit/reknit/LogRecord;"⟩ : MethodName)) hown (mvT hZ (hw _ (List.mem_of_getElem? (i := 60) rfl))) (mvT hZ (hw _ (List.mem_of_getElem? (i := 61) rfl))) (notFace_of_selects (args := #[]) (mvT hZ (hw _ (List.mem_of_getElem? (i := 63) rfl)))) (mvT hZ (hw _ (List.mem_of_getElem? (i := 63) rfl))) (mvT hZ (hw _ (List.mem_of_getElem? (i := 62) rfl))) (by decide) (backOf (W := 0) (rmS0 l Z aw hw [] b7 b1 b2 _ _ de _ _ _ ka va hja n0 (Nat.le_trans Z0 Kja.1) Ra g_b7 g_ks8 g_vs8 (O.keep Kja all0) DE0 B0ja B1ja) hZ (hw _ (List.mem_of_getElem? (i := 64) rfl)) (hw _ (List.mem_of_getElem? (i := 3) rfl)) (by decide) (by decide)) q25a q25c (g := (mkF m 251 #[.val (.long q0), .second, .val (.long q1), .second, .val (.int p2), .val (.int p3), .val (.int ka), .val (.int va), .val (.int kc), .val (.int vc), .val (.int kp), .val (.int vp), .val (.int f12), .val (.int f13), .val (.int f14), .val (.int f15), .val (.int f16), .val (.int nn), .val (.int f18), .val (.int f19), .val (.ref b1), .val (.ref b2), .val (.ref b3), .val (.ref b4), .val (.ref b5), .val (.ref b6), .val (.ref b7), .val (.ref b9), .unset, .unset] [(.ref b2), (.ref b1), (.ref b7)])) rfl (by rw [hml]; rfl) (Steps.refl _) (argsL := [(.ref b1), (.ref b2)]) (rest := []) (lenOf pd_12 rfl) rfl (by show 2 * 0 + _ ≤ _; exact Nat.le_of_eq rfl) (hb hby at_251) (fun _ _ => ⟨rfl, eja, (by decide : 12 + 2 ≤ _), (by decide : 112 + 20 ≤ _)⟩)
                      dsimp only [Pt.U, Pt.locs, Pt.cells, Pt.slots] at X25 l25 y25 z25 st25 hQ25
                      subst l25 y25 z25
                      obtain ⟨h25, e25⟩ : ∃ z, T25.heap = z := ⟨_, rfl⟩
                      rw [e25] at hQ25
                      obtain ⟨rfl, Nq25, Kq25, kb25, vb25, sk25, sv25, R25⟩ := hQ25
                      have N25 := Fr.app Nja Nq25
                      have sz_kb25 : h0.size ≤ kb25 := Nat.le_trans Kja.1 sk25
                      have sz_vb25 : h0.size ≤ vb25 := Nat.le_trans Kja.1 sv25
                      have six25_0 := (Nat.ne_of_lt (Nat.lt_of_lt_of_le (Pa.1.1).lt sk25))
                      have six25_1 := (Nat.ne_of_lt (Nat.lt_of_lt_of_le (Pa.2.2.1.1).lt sk25))
                      have six25_2 := (Nat.ne_of_lt (Nat.lt_of_lt_of_le (Pa.2.2.2.1).lt sk25))
                      have six25_3 := (Nat.ne_of_lt (Nat.lt_of_lt_of_le (Pa.1.1).lt sv25))
                      have six25_4 := (Nat.ne_of_lt (Nat.lt_of_lt_of_le (Pa.2.2.1.1).lt sv25))
                      have six25_5 := (Nat.ne_of_lt (Nat.lt_of_lt_of_le (Pa.2.2.2.1).lt sv25))
                      have K25 : Keep h0 h25 [] := Kja.trans Kq25 (allS (Or.inr sz_b7) (allS (Or.inr sz_ks8) (allS (Or.inr sz_vs8) all0)))
                      refine Rest.via (fun t k => st25.trans k) ?_
                      show Rest p.tables e below s _ _ _ (T25.setTop (mkF m 254 #[.val (.long q0), .second, .val (.long q1), .second, .val (.int p2), .val (.int p3), .val (.int ka), .val (.int va), .val (.int kc), .val (.int vc), .val (.int kp), .val (.int vp), .val (.int f12), .val (.int f13), .val (.int f14), .val (.int f15), .val (.int f16), .val (.int nn), .val (.int f18), .val (.int f19), .val (.ref b1), .val (.ref b2), .val (.ref b3), .val (.ref b4), .val (.ref b5), .val (.ref b6), .val (.ref b7), .val (.ref b9), .unset, .unset] [(.ref b7)]))
                      refine Rest.via (fun t k => XS.pop X25.here hx rfl (hb hby at_254) rfl rfl k) ?_
                      show Rest p.tables e below s _ _ _ (T25.setTop (mkF m 255 #[.val (.long q0), .second, .val (.long q1), .second, .val (.int p2), .val (.int p3), .val (.int ka), .val (.int va), .val (.int kc), .val (.int vc), .val (.int kp), .val (.int vp), .val (.int f12), .val (.int f13), .val (.int f14), .val (.int f15), .val (.int f16), .val (.int nn), .val (.int f18), .val (.int f19), .val (.ref b1), .val (.ref b2), .val (.ref b3), .val (.ref b4), .val (.ref b5), .val (.ref b6), .val (.ref b7), .val (.ref b9), .unset, .unset] []))
                      refine Rest.via (fun t k => XS.goto X25.here hx rfl (pc0 := 255) (pc' := 266) rfl (hb hby at_255) (by decide) (by decide) k) ?_
                      show Rest p.tables e below s _ _ _ (T25.setTop (mkF m 266 #[.val (.long q0), .second, .val (.long q1), .second, .val (.int p2), .val (.int p3), .val (.int ka), .val (.int va), .val (.int kc), .val (.int vc), .val (.int kp), .val (.int vp), .val (.int f12), .val (.int f13), .val (.int f14), .val (.int f15), .val (.int f16), .val (.int nn), .val (.int f18), .val (.int f19), .val (.ref b1), .val (.ref b2), .val (.ref b3), .val (.ref b4), .val (.ref b5), .val (.ref b6), .val (.ref b7), .val (.ref b9), .unset, .unset] []))
                      exact Jjb _ _ _ X25 e25 N25 K25 kb25 vb25 _ (by rw [own_ws1 hc242]; exact Int64.zero_add _) sz_kb25 sz_vb25 six25_0 six25_1 six25_2 six25_3 six25_4 six25_5 R25 (own_LR0_keep Pa Kq25 (ninS (Ne.symm ne_b7_b9) (ninS (Ne.symm ne_ks8_b9) (ninS (Ne.symm ne_vs8_b9) nin0))) (ninS (Ne.symm ne_b7_ks10) (ninS (Ne.symm ne_ks8_ks10) (ninS (Ne.symm ne_vs8_ks10) nin0))) (ninS (Ne.symm ne_b7_vs10) (ninS (Ne.symm ne_ks8_vs10) (ninS (Ne.symm ne_vs8_vs10) nin0)))) (own_BA_keep B2ja Kq25) (own_BA_keep B3ja Kq25) (own_BA_keep B4ja Kq25) (own_BA_keep B5ja Kq25)
                show Rest p.tables e below s _ _ _ (T10.setTop (mkF m 222 #[.val (.long q0), .second, .val (.long q1), .second, .val (.int p2), .val (.int p3), .val (.int ka), .val (.int va), .val (.int kc), .val (.int vc), .val (.int kp), .val (.int vp), .val (.int f12), .val (.int f13), .val (.int f14), .val (.int f15), .val (.int f16), .val (.int nn), .val (.int f18), .val (.int f19), .val (.ref b1), .val (.ref b2), .val (.ref b3), .val (.ref b4), .val (.ref b5), .val (.ref b6), .val (.ref b7), .val (.ref b9), .unset, .unset] []))
                refine Rest.via (fun t k => XS.iload X10.here hx rfl (hb hby at_222) rfl k) ?_
                show Rest p.tables e below s _ _ _ (T10.setTop (mkF m 224 #[.val (.long q0), .second, .val (.long q1), .second, .val (.int p2), .val (.int p3), .val (.int ka), .val (.int va), .val (.int kc), .val (.int vc), .val (.int kp), .val (.int vp), .val (.int f12), .val (.int f13), .val (.int f14), .val (.int f15), .val (.int f16), .val (.int nn), .val (.int f18), .val (.int f19), .val (.ref b1), .val (.ref b2), .val (.ref b3), .val (.ref b4), .val (.ref b5), .val (.ref b6), .val (.ref b7), .val (.ref b9), .unset, .unset] [(.int f12)]))
                by_cases hc224 : f12 = (0 : Int32)
                · refine Rest.via (fun t k => XS.ifYes X10.here hx rfl (pc0 := 224) (pc' := 234) rfl (hb hby at_224) rfl ((if0 _ _).trans (teq hc224).1) (by decide) (by decide) k) ?_
                  show Rest p.tables e below s _ _ _ (T10.setTop (mkF m 234 #[.val (.long q0), .second, .val (.long q1), .second, .val (.int p2), .val (.int p3), .val (.int ka), .val (.int va), .val (.int kc), .val (.int vc), .val (.int kp), .val (.int vp), .val (.int f12), .val (.int f13), .val (.int f14), .val (.int f15), .val (.int f16), .val (.int nn), .val (.int f18), .val (.int f19), .val (.ref b1), .val (.ref b2), .val (.ref b3), .val (.ref b4), .val (.ref b5), .val (.ref b6), .val (.ref b7), .val (.ref b9), .unset, .unset] []))
                  exact Jja _ _ _ X10 e10 N10 K10 _ (if_pos hc224).symm (own_LR0_keep (own_LR0_keep R8 ((Keep.refl _ []).ext E9) nin0 nin0 nin0) Kq10 (ninS ne_b7_b9 nin0) (ninS ne_ks8_b9 nin0) (ninS ne_vs8_b9 nin0)) R10 (own_BA_keep (own_BA_keep (own_BA_keep (own_BA_keep (own_BA_keep (own_BA_keep (own_BA_keep (own_BA_keep (own_BA_keep V_b1 ((Keep.refl _ []).ext E2)) ((Keep.refl _ []).ext E3)) ((Keep.refl _ []).ext E4)) ((Keep.refl _ []).ext E5)) ((Keep.refl _ []).ext E6)) ((Keep.refl _ []).ext E7)) Kq8) ((Keep.refl _ []).ext E9)) Kq10) (own_BA_keep (own_BA_keep (own_BA_keep (own_BA_keep (own_BA_keep (own_BA_keep (own_BA_keep (own_BA_keep V_b2 ((Keep.refl _ []).ext E3)) ((Keep.refl _ []).ext E4)) ((Keep.refl _ []).ext E5)) ((Keep.refl _ []).ext E6)) ((Keep.refl _ []).ext E7)) Kq8) ((Keep.refl _ []).ext E9)) Kq10) (own_BA_keep (own_BA_keep (own_BA_keep (own_BA_keep (own_BA_keep (own_BA_keep (own_BA_keep V_b3 ((Keep.refl _ []).ext E4)) ((Keep.refl _ []).ext E5)) ((Keep.refl _ []).ext E6)) ((Keep.refl _ []).ext E7)) Kq8) ((Keep.refl _ []).ext E9)) Kq10) (own_BA_keep (own_BA_keep (own_BA_keep (own_BA_keep (own_BA_keep (own_BA_keep V_b4 ((Keep.refl _ []).ext E5)) ((Keep.refl _ []).ext E6)) ((Keep.refl _ []).ext E7)) Kq8) ((Keep.refl _ []).ext E9)) Kq10) (own_BA_keep (own_BA_keep (own_BA_keep (own_BA_keep (own_BA_keep V_b5 ((Keep.refl _ []).ext E6)) ((Keep.refl _ []).ext E7)) Kq8) ((Keep.refl _ []).ext E9)) Kq10) (own_BA_keep (own_BA_keep (own_BA_keep (own_BA_keep V_b6 ((Keep.refl _ []).ext E7)) Kq8) ((Keep.refl _ []).ext E9)) Kq10)
                · refine Rest.via (fun t k => XS.ifNo X10.here hx rfl (hb hby at_224) rfl ((if0 _ _).trans (feq hc224).1) k) ?_
                  show Rest p.tables e below s _ _ _ (T10.setTop (mkF m 227 #[.val (.long q0), .second, .val (.long q1), .second, .val (.int p2), .val (.int p3), .val (.int ka), .val (.int va), .val (.int kc), .val (.int vc), .val (.int kp), .val (.int vp), .val (.int f12), .val (.int f13), .val (.int f14), .val (.int f15), .val (.int f16), .val (.int nn), .val (.int f18), .val (.int f19), .val (.ref b1), .val (.ref b2), .val (.ref b3), .val (.ref b4), .val (.ref b5), .val (.ref b6), .val (.ref b7), .val (.ref b9), .unset, .unset] []))
                  refine Rest.via (fun t k => XS.aload X10.here hx rfl (hb hby at_227) rfl rfl k) ?_
                  show Rest p.tables e below s _ _ _ (T10.setTop (mkF m 229 #[.val (.long q0), .second, .val (.long q1), .second, .val (.int p2), .val (.int p3), .val (.int ka), .val (.int va), .val (.int kc), .val (.int vc), .val (.int kp), .val (.int vp), .val (.int f12), .val (.int f13), .val (.int f14), .val (.int f15), .val (.int f16), .val (.int nn), .val (.int f18), .val (.int f19), .val (.ref b1), .val (.ref b2), .val (.ref b3), .val (.ref b4), .val (.ref b5), .val (.ref b6), .val (.ref b7), .val (.ref b9), .unset, .unset] [(.ref b7)]))
                  refine Rest.via (fun t k => XS.lloadN X10.here hx rfl (hb hby at_229) rfl k) ?_
                  show Rest p.tables e below s _ _ _ (T10.setTop (mkF m 230 #[.val (.long q0), .second, .val (.long q1), .second, .val (.int p2), .val (.int p3), .val (.int ka), .val (.int va), .val (.int kc), .val (.int vc), .val (.int kp), .val (.int vp), .val (.int f12), .val (.int f13), .val (.int f14), .val (.int f15), .val (.int f16), .val (.int nn), .val (.int f18), .val (.int f19), .val (.ref b1), .val (.ref b2), .val (.ref b3), .val (.ref b4), .val (.ref b5), .val (.ref b6), .val (.ref b7), .val (.ref b9), .unset, .unset] [(.long q0), (.ref b7)]))
                  obtain ⟨cq26, kq26, q26a, q26b, q26c⟩ := isOf hZ e10 ((R8.1.1.ext E9).keep Kq10)
                  obtain ⟨_, _, ⟨T26, L26, k26, n26⟩, -, X26, ⟨Lc26, hQ26, l26, y26, z26⟩, st26⟩ := X10.virtualBack hx (y := (⟨"com/example/reknit/reknit/LogRecord", "link", "(J)Lcom/example/reknit/reknit/LogRecord;"⟩ : MethodName)) (z := (⟨"com/example/reknit/reknit/LogRecord", "link", "(J)Lcom/example/reknit/reknit/LogRecord;"⟩ : MethodName)) hown (mvT hZ (hw _ (List.mem_of_getElem? (i := 40) rfl))) (mvT hZ (hw _ (List.mem_of_getElem? (i := 41) rfl))) (notFace_of_selects (args := #[]) (mvT hZ (hw _ (List.mem_of_getElem? (i := 43) rfl)))) (mvT hZ (hw _ (List.mem_of_getElem? (i := 43) rfl))) (mvT hZ (hw _ (List.mem_of_getElem? (i := 42) rfl))) (by decide) (backOf (W := 0) (rmLK l Z aw hw [] b7 q0 _ _ de _ _ _ h10 n0 (Nat.le_trans Z0 K10.1) (own_LR0_keep (own_LR0_keep R8 ((Keep.refl _ []).ext E9) nin0 nin0 nin0) Kq10 (ninS ne_b7_b9 nin0) (ninS ne_ks8_b9 nin0) (ninS ne_vs8_b9 nin0)) g_b7) hZ (hw _ (List.mem_of_getElem? (i := 44) rfl)) (hw _ (List.mem_of_getElem? (i := 3) rfl)) (by decide) (by decide)) q26a q26c (g := (mkF m 230 #[.val (.long q0), .second, .val (.long q1), .second, .val (.int p2), .val (.int p3), .val (.int ka), .val (.int va), .val (.int kc), .val (.int vc), .val (.int kp), .val (.int vp), .val (.int f12), .val (.int f13), .val (.int f14), .val (.int f15), .val (.int f16), .val (.int nn), .val (.int f18), .val (.int f19), .val (.ref b1), .val (.ref b2), .val (.ref b3), .val (.ref b4), .val (.ref b5), .val (.ref b6), .val (.ref b7), .val (.ref b9), .unset, .unset] [(.long q0), (.ref b7)])) rfl (by rw [hml]; rfl) (Steps.refl _) (argsL := [(.long q0)]) (rest := []) (lenOf pd_13 rfl) rfl (by show 2 * 0 + _ ≤ _; exact Nat.le_of_eq rfl) (hb hby at_230) (fun _ _ => ⟨rfl, e10, (by decide : 12 + 0 ≤ _), (by decide : 112 + 0 ≤ _)⟩)
                  dsimp only [Pt.U, Pt.locs, Pt.cells, Pt.slots] at X26 l26 y26 z26 st26 hQ26
                  subst l26 y26 z26
                  obtain ⟨h26, e26⟩ : ∃ z, T26.heap = z := ⟨_, rfl⟩
                  rw [e26] at hQ26
                  obtain ⟨rfl, Nq26, Kq26, Rq26⟩ := hQ26
                  have N26 := Fr.app N10 Nq26
                  have K26 : Keep h0 h26 [] := K10.trans Kq26 (allS (Or.inr sz_b7) all0)
                  refine Rest.via (fun t k => st26.trans k) ?_
                  show Rest p.tables e below s _ _ _ (T26.setTop (mkF m 233 #[.val (.long q0), .second, .val (.long q1), .second, .val (.int p2), .val (.int p3), .val (.int ka), .val (.int va), .val (.int kc), .val (.int vc), .val (.int kp), .val (.int vp), .val (.int f12), .val (.int f13), .val (.int f14), .val (.int f15), .val (.int f16), .val (.int nn), .val (.int f18), .val (.int f19), .val (.ref b1), .val (.ref b2), .val (.ref b3), .val (.ref b4), .val (.ref b5), .val (.ref b6), .val (.ref b7), .val (.ref b9), .unset, .unset] [(.ref b7)]))
                  refine Rest.via (fun t k => XS.pop X26.here hx rfl (hb hby at_233) rfl rfl k) ?_
                  show Rest p.tables e below s _ _ _ (T26.setTop (mkF m 234 #[.val (.long q0), .second, .val (.long q1), .second, .val (.int p2), .val (.int p3), .val (.int ka), .val (.int va), .val (.int kc), .val (.int vc), .val (.int kp), .val (.int vp), .val (.int f12), .val (.int f13), .val (.int f14), .val (.int f15), .val (.int f16), .val (.int nn), .val (.int f18), .val (.int f19), .val (.ref b1), .val (.ref b2), .val (.ref b3), .val (.ref b4), .val (.ref b5), .val (.ref b6), .val (.ref b7), .val (.ref b9), .unset, .unset] []))
                  exact Jja _ _ _ X26 e26 N26 K26 _ (if_neg hc224).symm Rq26 (own_LR0_keep R10 Kq26 (ninS (Ne.symm ne_b7_b9) nin0) (ninS (Ne.symm ne_b7_ks10) nin0) (ninS (Ne.symm ne_b7_vs10) nin0)) (own_BA_keep (own_BA_keep (own_BA_keep (own_BA_keep (own_BA_keep (own_BA_keep (own_BA_keep (own_BA_keep (own_BA_keep (own_BA_keep V_b1 ((Keep.refl _ []).ext E2)) ((Keep.refl _ []).ext E3)) ((Keep.refl _ []).ext E4)) ((Keep.refl _ []).ext E5)) ((Keep.refl _ []).ext E6)) ((Keep.refl _ []).ext E7)) Kq8) ((Keep.refl _ []).ext E9)) Kq10) Kq26) (own_BA_keep (own_BA_keep (own_BA_keep (own_BA_keep (own_BA_keep (own_BA_keep (own_BA_keep (own_BA_keep (own_BA_keep V_b2 ((Keep.refl _ []).ext E3)) ((Keep.refl _ []).ext E4)) ((Keep.refl _ []).ext E5)) ((Keep.refl _ []).ext E6)) ((Keep.refl _ []).ext E7)) Kq8) ((Keep.refl _ []).ext E9)) Kq10) Kq26) (own_BA_keep (own_BA_keep (own_BA_keep (own_BA_keep (own_BA_keep (own_BA_keep (own_BA_keep (own_BA_keep V_b3 ((Keep.refl _ []).ext E4)) ((Keep.refl _ []).ext E5)) ((Keep.refl _ []).ext E6)) ((Keep.refl _ []).ext E7)) Kq8) ((Keep.refl _ []).ext E9)) Kq10) Kq26) (own_BA_keep (own_BA_keep (own_BA_keep (own_BA_keep (own_BA_keep (own_BA_keep (own_BA_keep V_b4 ((Keep.refl _ []).ext E5)) ((Keep.refl _ []).ext E6)) ((Keep.refl _ []).ext E7)) Kq8) ((Keep.refl _ []).ext E9)) Kq10) Kq26) (own_BA_keep (own_BA_keep (own_BA_keep (own_BA_keep (own_BA_keep (own_BA_keep V_b5 ((Keep.refl _ []).ext E6)) ((Keep.refl _ []).ext E7)) Kq8) ((Keep.refl _ []).ext E9)) Kq10) Kq26) (own_BA_keep (own_BA_keep (own_BA_keep (own_BA_keep (own_BA_keep V_b6 ((Keep.refl _ []).ext E7)) Kq8) ((Keep.refl _ []).ext E9)) Kq10) Kq26)
              show Rest p.tables e below s _ _ _ (s₁.setTop (mkF m 152 #[.val (.long q0), .second, .val (.long q1), .second, .val (.int p2), .val (.int p3), .val (.int ka), .val (.int va), .val (.int kc), .val (.int vc), .val (.int kp), .val (.int vp), .val (.int f12), .val (.int f13), .val (.int f14), .val (.int f15), .val (.int f16), .val (.int nn), .val (.int f18), .unset, .unset, .unset, .unset, .unset, .unset, .unset, .unset, .unset, .unset, .unset] []))
              refine Rest.via (fun t k => XS.iload X0.here hx rfl (hb hby at_152) rfl k) ?_
              show Rest p.tables e below s _ _ _ (s₁.setTop (mkF m 154 #[.val (.long q0), .second, .val (.long q1), .second, .val (.int p2), .val (.int p3), .val (.int ka), .val (.int va), .val (.int kc), .val (.int vc), .val (.int kp), .val (.int vp), .val (.int f12), .val (.int f13), .val (.int f14), .val (.int f15), .val (.int f16), .val (.int nn), .val (.int f18), .unset, .unset, .unset, .unset, .unset, .unset, .unset, .unset, .unset, .unset, .unset] [(.int p3)]))
              refine Rest.via (fun t k => XS.sipush X0.here hx rfl (hb hby at_154) k) ?_
              show Rest p.tables e below s _ _ _ (s₁.setTop (mkF m 157 #[.val (.long q0), .second, .val (.long q1), .second, .val (.int p2), .val (.int p3), .val (.int ka), .val (.int va), .val (.int kc), .val (.int vc), .val (.int kp), .val (.int vp), .val (.int f12), .val (.int f13), .val (.int f14), .val (.int f15), .val (.int f16), .val (.int nn), .val (.int f18), .unset, .unset, .unset, .unset, .unset, .unset, .unset, .unset, .unset, .unset, .unset] [(.int (256 : Int32)), (.int p3)]))
              refine Rest.via (fun t k => XS.iand X0.here hx rfl (hb hby at_157) rfl k) ?_
              show Rest p.tables e below s _ _ _ (s₁.setTop (mkF m 158 #[.val (.long q0), .second, .val (.long q1), .second, .val (.int p2), .val (.int p3), .val (.int ka), .val (.int va), .val (.int kc), .val (.int vc), .val (.int kp), .val (.int vp), .val (.int f12), .val (.int f13), .val (.int f14), .val (.int f15), .val (.int f16), .val (.int nn), .val (.int f18), .unset, .unset, .unset, .unset, .unset, .unset, .unset, .unset, .unset, .unset, .unset] [(.int (p3 &&& (256 : Int32)))]))
              by_cases hc158 : (p3 &&& (256 : Int32)) = (0 : Int32)
              · refine Rest.via (fun t k => XS.ifYes X0.here hx rfl (pc0 := 158) (pc' := 165) rfl (hb hby at_158) rfl ((if0 _ _).trans (teq hc158).1) (by decide) (by decide) k) ?_
                show Rest p.tables e below s _ _ _ (s₁.setTop (mkF m 165 #[.val (.long q0), .second, .val (.long q1), .second, .val (.int p2), .val (.int p3), .val (.int ka), .val (.int va), .val (.int kc), .val (.int vc), .val (.int kp), .val (.int vp), .val (.int f12), .val (.int f13), .val (.int f14), .val (.int f15), .val (.int f16), .val (.int nn), .val (.int f18), .unset, .unset, .unset, .unset, .unset, .unset, .unset, .unset, .unset, .unset, .unset] []))
                refine Rest.via (fun t k => XS.iconst X0.here hx rfl (hb hby at_165) k) ?_
                show Rest p.tables e below s _ _ _ (s₁.setTop (mkF m 166 #[.val (.long q0), .second, .val (.long q1), .second, .val (.int p2), .val (.int p3), .val (.int ka), .val (.int va), .val (.int kc), .val (.int vc), .val (.int kp), .val (.int vp), .val (.int f12), .val (.int f13), .val (.int f14), .val (.int f15), .val (.int f16), .val (.int nn), .val (.int f18), .unset, .unset, .unset, .unset, .unset, .unset, .unset, .unset, .unset, .unset, .unset] [(.int (0 : Int32))]))
                exact J166 _
              · refine Rest.via (fun t k => XS.ifNo X0.here hx rfl (hb hby at_158) rfl ((if0 _ _).trans (feq hc158).1) k) ?_
                show Rest p.tables e below s _ _ _ (s₁.setTop (mkF m 161 #[.val (.long q0), .second, .val (.long q1), .second, .val (.int p2), .val (.int p3), .val (.int ka), .val (.int va), .val (.int kc), .val (.int vc), .val (.int kp), .val (.int vp), .val (.int f12), .val (.int f13), .val (.int f14), .val (.int f15), .val (.int f16), .val (.int nn), .val (.int f18), .unset, .unset, .unset, .unset, .unset, .unset, .unset, .unset, .unset, .unset, .unset] []))
                refine Rest.via (fun t k => XS.iconst X0.here hx rfl (hb hby at_161) k) ?_
                show Rest p.tables e below s _ _ _ (s₁.setTop (mkF m 162 #[.val (.long q0), .second, .val (.long q1), .second, .val (.int p2), .val (.int p3), .val (.int ka), .val (.int va), .val (.int kc), .val (.int vc), .val (.int kp), .val (.int vp), .val (.int f12), .val (.int f13), .val (.int f14), .val (.int f15), .val (.int f16), .val (.int nn), .val (.int f18), .unset, .unset, .unset, .unset, .unset, .unset, .unset, .unset, .unset, .unset, .unset] [(.int (1 : Int32))]))
                refine Rest.via (fun t k => XS.goto X0.here hx rfl (pc0 := 162) (pc' := 166) rfl (hb hby at_162) (by decide) (by decide) k) ?_
                show Rest p.tables e below s _ _ _ (s₁.setTop (mkF m 166 #[.val (.long q0), .second, .val (.long q1), .second, .val (.int p2), .val (.int p3), .val (.int ka), .val (.int va), .val (.int kc), .val (.int vc), .val (.int kp), .val (.int vp), .val (.int f12), .val (.int f13), .val (.int f14), .val (.int f15), .val (.int f16), .val (.int nn), .val (.int f18), .unset, .unset, .unset, .unset, .unset, .unset, .unset, .unset, .unset, .unset, .unset] [(.int (1 : Int32))]))
                exact J166 _
            show Rest p.tables e below s _ _ _ (s₁.setTop (mkF m 136 #[.val (.long q0), .second, .val (.long q1), .second, .val (.int p2), .val (.int p3), .val (.int ka), .val (.int va), .val (.int kc), .val (.int vc), .val (.int kp), .val (.int vp), .val (.int f12), .val (.int f13), .val (.int f14), .val (.int f15), .val (.int f16), .val (.int nn), .unset, .unset, .unset, .unset, .unset, .unset, .unset, .unset, .unset, .unset, .unset, .unset] []))
            refine Rest.via (fun t k => XS.iload X0.here hx rfl (hb hby at_136) rfl k) ?_
            show Rest p.tables e below s _ _ _ (s₁.setTop (mkF m 138 #[.val (.long q0), .second, .val (.long q1), .second, .val (.int p2), .val (.int p3), .val (.int ka), .val (.int va), .val (.int kc), .val (.int vc), .val (.int kp), .val (.int vp), .val (.int f12), .val (.int f13), .val (.int f14), .val (.int f15), .val (.int f16), .val (.int nn), .unset, .unset, .unset, .unset, .unset, .unset, .unset, .unset, .unset, .unset, .unset, .unset] [(.int p3)]))
            refine Rest.via (fun t k => XS.sipush X0.here hx rfl (hb hby at_138) k) ?_
            show Rest p.tables e below s _ _ _ (s₁.setTop (mkF m 141 #[.val (.long q0), .second, .val (.long q1), .second, .val (.int p2), .val (.int p3), .val (.int ka), .val (.int va), .val (.int kc), .val (.int vc), .val (.int kp), .val (.int vp), .val (.int f12), .val (.int f13), .val (.int f14), .val (.int f15), .val (.int f16), .val (.int nn), .unset, .unset, .unset, .unset, .unset, .unset, .unset, .unset, .unset, .unset, .unset, .unset] [(.int (128 : Int32)), (.int p3)]))
            refine Rest.via (fun t k => XS.iand X0.here hx rfl (hb hby at_141) rfl k) ?_
            show Rest p.tables e below s _ _ _ (s₁.setTop (mkF m 142 #[.val (.long q0), .second, .val (.long q1), .second, .val (.int p2), .val (.int p3), .val (.int ka), .val (.int va), .val (.int kc), .val (.int vc), .val (.int kp), .val (.int vp), .val (.int f12), .val (.int f13), .val (.int f14), .val (.int f15), .val (.int f16), .val (.int nn), .unset, .unset, .unset, .unset, .unset, .unset, .unset, .unset, .unset, .unset, .unset, .unset] [(.int (p3 &&& (128 : Int32)))]))
            by_cases hc142 : (p3 &&& (128 : Int32)) = (0 : Int32)
            · refine Rest.via (fun t k => XS.ifYes X0.here hx rfl (pc0 := 142) (pc' := 149) rfl (hb hby at_142) rfl ((if0 _ _).trans (teq hc142).1) (by decide) (by decide) k) ?_
              show Rest p.tables e below s _ _ _ (s₁.setTop (mkF m 149 #[.val (.long q0), .second, .val (.long q1), .second, .val (.int p2), .val (.int p3), .val (.int ka), .val (.int va), .val (.int kc), .val (.int vc), .val (.int kp), .val (.int vp), .val (.int f12), .val (.int f13), .val (.int f14), .val (.int f15), .val (.int f16), .val (.int nn), .unset, .unset, .unset, .unset, .unset, .unset, .unset, .unset, .unset, .unset, .unset, .unset] []))
              refine Rest.via (fun t k => XS.iconst X0.here hx rfl (hb hby at_149) k) ?_
              show Rest p.tables e below s _ _ _ (s₁.setTop (mkF m 150 #[.val (.long q0), .second, .val (.long q1), .second, .val (.int p2), .val (.int p3), .val (.int ka), .val (.int va), .val (.int kc), .val (.int vc), .val (.int kp), .val (.int vp), .val (.int f12), .val (.int f13), .val (.int f14), .val (.int f15), .val (.int f16), .val (.int nn), .unset, .unset, .unset, .unset, .unset, .unset, .unset, .unset, .unset, .unset, .unset, .unset] [(.int (0 : Int32))]))
              exact J150 _
            · refine Rest.via (fun t k => XS.ifNo X0.here hx rfl (hb hby at_142) rfl ((if0 _ _).trans (feq hc142).1) k) ?_
              show Rest p.tables e below s _ _ _ (s₁.setTop (mkF m 145 #[.val (.long q0), .second, .val (.long q1), .second, .val (.int p2), .val (.int p3), .val (.int ka), .val (.int va), .val (.int kc), .val (.int vc), .val (.int kp), .val (.int vp), .val (.int f12), .val (.int f13), .val (.int f14), .val (.int f15), .val (.int f16), .val (.int nn), .unset, .unset, .unset, .unset, .unset, .unset, .unset, .unset, .unset, .unset, .unset, .unset] []))
              refine Rest.via (fun t k => XS.iconst X0.here hx rfl (hb hby at_145) k) ?_
              show Rest p.tables e below s _ _ _ (s₁.setTop (mkF m 146 #[.val (.long q0), .second, .val (.long q1), .second, .val (.int p2), .val (.int p3), .val (.int ka), .val (.int va), .val (.int kc), .val (.int vc), .val (.int kp), .val (.int vp), .val (.int f12), .val (.int f13), .val (.int f14), .val (.int f15), .val (.int f16), .val (.int nn), .unset, .unset, .unset, .unset, .unset, .unset, .unset, .unset, .unset, .unset, .unset, .unset] [(.int (1 : Int32))]))
              refine Rest.via (fun t k => XS.goto X0.here hx rfl (pc0 := 146) (pc' := 150) rfl (hb hby at_146) (by decide) (by decide) k) ?_
              show Rest p.tables e below s _ _ _ (s₁.setTop (mkF m 150 #[.val (.long q0), .second, .val (.long q1), .second, .val (.int p2), .val (.int p3), .val (.int ka), .val (.int va), .val (.int kc), .val (.int vc), .val (.int kp), .val (.int vp), .val (.int f12), .val (.int f13), .val (.int f14), .val (.int f15), .val (.int f16), .val (.int nn), .unset, .unset, .unset, .unset, .unset, .unset, .unset, .unset, .unset, .unset, .unset, .unset] [(.int (1 : Int32))]))
              exact J150 _
          show Rest p.tables e below s _ _ _ (s₁.setTop (mkF m 113 #[.val (.long q0), .second, .val (.long q1), .second, .val (.int p2), .val (.int p3), .val (.int ka), .val (.int va), .val (.int kc), .val (.int vc), .val (.int kp), .val (.int vp), .val (.int f12), .val (.int f13), .val (.int f14), .val (.int f15), .unset, .unset, .unset, .unset, .unset, .unset, .unset, .unset, .unset, .unset, .unset, .unset, .unset, .unset] []))
          refine Rest.via (fun t k => XS.iload X0.here hx rfl (hb hby at_113) rfl k) ?_
          show Rest p.tables e below s _ _ _ (s₁.setTop (mkF m 115 #[.val (.long q0), .second, .val (.long q1), .second, .val (.int p2), .val (.int p3), .val (.int ka), .val (.int va), .val (.int kc), .val (.int vc), .val (.int kp), .val (.int vp), .val (.int f12), .val (.int f13), .val (.int f14), .val (.int f15), .unset, .unset, .unset, .unset, .unset, .unset, .unset, .unset, .unset, .unset, .unset, .unset, .unset, .unset] [(.int p3)]))
          refine Rest.via (fun t k => XS.bipush X0.here hx rfl (hb hby at_115) k) ?_
          show Rest p.tables e below s _ _ _ (s₁.setTop (mkF m 117 #[.val (.long q0), .second, .val (.long q1), .second, .val (.int p2), .val (.int p3), .val (.int ka), .val (.int va), .val (.int kc), .val (.int vc), .val (.int kp), .val (.int vp), .val (.int f12), .val (.int f13), .val (.int f14), .val (.int f15), .unset, .unset, .unset, .unset, .unset, .unset, .unset, .unset, .unset, .unset, .unset, .unset, .unset, .unset] [(.int (16 : Int32)), (.int p3)]))
          refine Rest.via (fun t k => XS.iand X0.here hx rfl (hb hby at_117) rfl k) ?_
          show Rest p.tables e below s _ _ _ (s₁.setTop (mkF m 118 #[.val (.long q0), .second, .val (.long q1), .second, .val (.int p2), .val (.int p3), .val (.int ka), .val (.int va), .val (.int kc), .val (.int vc), .val (.int kp), .val (.int vp), .val (.int f12), .val (.int f13), .val (.int f14), .val (.int f15), .unset, .unset, .unset, .unset, .unset, .unset, .unset, .unset, .unset, .unset, .unset, .unset, .unset, .unset] [(.int (p3 &&& (16 : Int32)))]))
          by_cases hc118 : (p3 &&& (16 : Int32)) = (0 : Int32)
          · refine Rest.via (fun t k => XS.ifYes X0.here hx rfl (pc0 := 118) (pc' := 125) rfl (hb hby at_118) rfl ((if0 _ _).trans (teq hc118).1) (by decide) (by decide) k) ?_
            show Rest p.tables e below s _ _ _ (s₁.setTop (mkF m 125 #[.val (.long q0), .second, .val (.long q1), .second, .val (.int p2), .val (.int p3), .val (.int ka), .val (.int va), .val (.int kc), .val (.int vc), .val (.int kp), .val (.int vp), .val (.int f12), .val (.int f13), .val (.int f14), .val (.int f15), .unset, .unset, .unset, .unset, .unset, .unset, .unset, .unset, .unset, .unset, .unset, .unset, .unset, .unset] []))
            refine Rest.via (fun t k => XS.iconst X0.here hx rfl (hb hby at_125) k) ?_
            show Rest p.tables e below s _ _ _ (s₁.setTop (mkF m 126 #[.val (.long q0), .second, .val (.long q1), .second, .val (.int p2), .val (.int p3), .val (.int ka), .val (.int va), .val (.int kc), .val (.int vc), .val (.int kp), .val (.int vp), .val (.int f12), .val (.int f13), .val (.int f14), .val (.int f15), .unset, .unset, .unset, .unset, .unset, .unset, .unset, .unset, .unset, .unset, .unset, .unset, .unset, .unset] [(.int (0 : Int32))]))
            exact J126 _
          · refine Rest.via (fun t k => XS.ifNo X0.here hx rfl (hb hby at_118) rfl ((if0 _ _).trans (feq hc118).1) k) ?_
            show Rest p.tables e below s _ _ _ (s₁.setTop (mkF m 121 #[.val (.long q0), .second, .val (.long q1), .second, .val (.int p2), .val (.int p3), .val (.int ka), .val (.int va), .val (.int kc), .val (.int vc), .val (.int kp), .val (.int vp), .val (.int f12), .val (.int f13), .val (.int f14), .val (.int f15), .unset, .unset, .unset, .unset, .unset, .unset, .unset, .unset, .unset, .unset, .unset, .unset, .unset, .unset] []))
            refine Rest.via (fun t k => XS.iconst X0.here hx rfl (hb hby at_121) k) ?_
            show Rest p.tables e below s _ _ _ (s₁.setTop (mkF m 122 #[.val (.long q0), .second, .val (.long q1), .second, .val (.int p2), .val (.int p3), .val (.int ka), .val (.int va), .val (.int kc), .val (.int vc), .val (.int kp), .val (.int vp), .val (.int f12), .val (.int f13), .val (.int f14), .val (.int f15), .unset, .unset, .unset, .unset, .unset, .unset, .unset, .unset, .unset, .unset, .unset, .unset, .unset, .unset] [(.int (1 : Int32))]))
            refine Rest.via (fun t k => XS.goto X0.here hx rfl (pc0 := 122) (pc' := 126) rfl (hb hby at_122) (by decide) (by decide) k) ?_
            show Rest p.tables e below s _ _ _ (s₁.setTop (mkF m 126 #[.val (.long q0), .second, .val (.long q1), .second, .val (.int p2), .val (.int p3), .val (.int ka), .val (.int va), .val (.int kc), .val (.int vc), .val (.int kp), .val (.int vp), .val (.int f12), .val (.int f13), .val (.int f14), .val (.int f15), .unset, .unset, .unset, .unset, .unset, .unset, .unset, .unset, .unset, .unset, .unset, .unset, .unset, .unset] [(.int (1 : Int32))]))
            exact J126 _
        show Rest p.tables e below s _ _ _ (s₁.setTop (mkF m 98 #[.val (.long q0), .second, .val (.long q1), .second, .val (.int p2), .val (.int p3), .val (.int ka), .val (.int va), .val (.int kc), .val (.int vc), .val (.int kp), .val (.int vp), .val (.int f12), .val (.int f13), .val (.int f14), .unset, .unset, .unset, .unset, .unset, .unset, .unset, .unset, .unset, .unset, .unset, .unset, .unset, .unset, .unset] []))
        refine Rest.via (fun t k => XS.iload X0.here hx rfl (hb hby at_98) rfl k) ?_
        show Rest p.tables e below s _ _ _ (s₁.setTop (mkF m 100 #[.val (.long q0), .second, .val (.long q1), .second, .val (.int p2), .val (.int p3), .val (.int ka), .val (.int va), .val (.int kc), .val (.int vc), .val (.int kp), .val (.int vp), .val (.int f12), .val (.int f13), .val (.int f14), .unset, .unset, .unset, .unset, .unset, .unset, .unset, .unset, .unset, .unset, .unset, .unset, .unset, .unset, .unset] [(.int p3)]))
        refine Rest.via (fun t k => XS.bipush X0.here hx rfl (hb hby at_100) k) ?_
        show Rest p.tables e below s _ _ _ (s₁.setTop (mkF m 102 #[.val (.long q0), .second, .val (.long q1), .second, .val (.int p2), .val (.int p3), .val (.int ka), .val (.int va), .val (.int kc), .val (.int vc), .val (.int kp), .val (.int vp), .val (.int f12), .val (.int f13), .val (.int f14), .unset, .unset, .unset, .unset, .unset, .unset, .unset, .unset, .unset, .unset, .unset, .unset, .unset, .unset, .unset] [(.int (8 : Int32)), (.int p3)]))
        refine Rest.via (fun t k => XS.iand X0.here hx rfl (hb hby at_102) rfl k) ?_
        show Rest p.tables e below s _ _ _ (s₁.setTop (mkF m 103 #[.val (.long q0), .second, .val (.long q1), .second, .val (.int p2), .val (.int p3), .val (.int ka), .val (.int va), .val (.int kc), .val (.int vc), .val (.int kp), .val (.int vp), .val (.int f12), .val (.int f13), .val (.int f14), .unset, .unset, .unset, .unset, .unset, .unset, .unset, .unset, .unset, .unset, .unset, .unset, .unset, .unset, .unset] [(.int (p3 &&& (8 : Int32)))]))
        by_cases hc103 : (p3 &&& (8 : Int32)) = (0 : Int32)
        · refine Rest.via (fun t k => XS.ifYes X0.here hx rfl (pc0 := 103) (pc' := 110) rfl (hb hby at_103) rfl ((if0 _ _).trans (teq hc103).1) (by decide) (by decide) k) ?_
          show Rest p.tables e below s _ _ _ (s₁.setTop (mkF m 110 #[.val (.long q0), .second, .val (.long q1), .second, .val (.int p2), .val (.int p3), .val (.int ka), .val (.int va), .val (.int kc), .val (.int vc), .val (.int kp), .val (.int vp), .val (.int f12), .val (.int f13), .val (.int f14), .unset, .unset, .unset, .unset, .unset, .unset, .unset, .unset, .unset, .unset, .unset, .unset, .unset, .unset, .unset] []))
          refine Rest.via (fun t k => XS.iconst X0.here hx rfl (hb hby at_110) k) ?_
          show Rest p.tables e below s _ _ _ (s₁.setTop (mkF m 111 #[.val (.long q0), .second, .val (.long q1), .second, .val (.int p2), .val (.int p3), .val (.int ka), .val (.int va), .val (.int kc), .val (.int vc), .val (.int kp), .val (.int vp), .val (.int f12), .val (.int f13), .val (.int f14), .unset, .unset, .unset, .unset, .unset, .unset, .unset, .unset, .unset, .unset, .unset, .unset, .unset, .unset, .unset] [(.int (0 : Int32))]))
          exact J111 _
        · refine Rest.via (fun t k => XS.ifNo X0.here hx rfl (hb hby at_103) rfl ((if0 _ _).trans (feq hc103).1) k) ?_
          show Rest p.tables e below s _ _ _ (s₁.setTop (mkF m 106 #[.val (.long q0), .second, .val (.long q1), .second, .val (.int p2), .val (.int p3), .val (.int ka), .val (.int va), .val (.int kc), .val (.int vc), .val (.int kp), .val (.int vp), .val (.int f12), .val (.int f13), .val (.int f14), .unset, .unset, .unset, .unset, .unset, .unset, .unset, .unset, .unset, .unset, .unset, .unset, .unset, .unset, .unset] []))
          refine Rest.via (fun t k => XS.iconst X0.here hx rfl (hb hby at_106) k) ?_
          show Rest p.tables e below s _ _ _ (s₁.setTop (mkF m 107 #[.val (.long q0), .second, .val (.long q1), .second, .val (.int p2), .val (.int p3), .val (.int ka), .val (.int va), .val (.int kc), .val (.int vc), .val (.int kp), .val (.int vp), .val (.int f12), .val (.int f13), .val (.int f14), .unset, .unset, .unset, .unset, .unset, .unset, .unset, .unset, .unset, .unset, .unset, .unset, .unset, .unset, .unset] [(.int (1 : Int32))]))
          refine Rest.via (fun t k => XS.goto X0.here hx rfl (pc0 := 107) (pc' := 111) rfl (hb hby at_107) (by decide) (by decide) k) ?_
          show Rest p.tables e below s _ _ _ (s₁.setTop (mkF m 111 #[.val (.long q0), .second, .val (.long q1), .second, .val (.int p2), .val (.int p3), .val (.int ka), .val (.int va), .val (.int kc), .val (.int vc), .val (.int kp), .val (.int vp), .val (.int f12), .val (.int f13), .val (.int f14), .unset, .unset, .unset, .unset, .unset, .unset, .unset, .unset, .unset, .unset, .unset, .unset, .unset, .unset, .unset] [(.int (1 : Int32))]))
          exact J111 _
      show Rest p.tables e below s _ _ _ (s₁.setTop (mkF m 84 #[.val (.long q0), .second, .val (.long q1), .second, .val (.int p2), .val (.int p3), .val (.int ka), .val (.int va), .val (.int kc), .val (.int vc), .val (.int kp), .val (.int vp), .val (.int f12), .val (.int f13), .unset, .unset, .unset, .unset, .unset, .unset, .unset, .unset, .unset, .unset, .unset, .unset, .unset, .unset, .unset, .unset] []))
      refine Rest.via (fun t k => XS.iload X0.here hx rfl (hb hby at_84) rfl k) ?_
      show Rest p.tables e below s _ _ _ (s₁.setTop (mkF m 86 #[.val (.long q0), .second, .val (.long q1), .second, .val (.int p2), .val (.int p3), .val (.int ka), .val (.int va), .val (.int kc), .val (.int vc), .val (.int kp), .val (.int vp), .val (.int f12), .val (.int f13), .unset, .unset, .unset, .unset, .unset, .unset, .unset, .unset, .unset, .unset, .unset, .unset, .unset, .unset, .unset, .unset] [(.int p3)]))
      refine Rest.via (fun t k => XS.iconst X0.here hx rfl (hb hby at_86) k) ?_
      show Rest p.tables e below s _ _ _ (s₁.setTop (mkF m 87 #[.val (.long q0), .second, .val (.long q1), .second, .val (.int p2), .val (.int p3), .val (.int ka), .val (.int va), .val (.int kc), .val (.int vc), .val (.int kp), .val (.int vp), .val (.int f12), .val (.int f13), .unset, .unset, .unset, .unset, .unset, .unset, .unset, .unset, .unset, .unset, .unset, .unset, .unset, .unset, .unset, .unset] [(.int (4 : Int32)), (.int p3)]))
      refine Rest.via (fun t k => XS.iand X0.here hx rfl (hb hby at_87) rfl k) ?_
      show Rest p.tables e below s _ _ _ (s₁.setTop (mkF m 88 #[.val (.long q0), .second, .val (.long q1), .second, .val (.int p2), .val (.int p3), .val (.int ka), .val (.int va), .val (.int kc), .val (.int vc), .val (.int kp), .val (.int vp), .val (.int f12), .val (.int f13), .unset, .unset, .unset, .unset, .unset, .unset, .unset, .unset, .unset, .unset, .unset, .unset, .unset, .unset, .unset, .unset] [(.int (p3 &&& (4 : Int32)))]))
      by_cases hc88 : (p3 &&& (4 : Int32)) = (0 : Int32)
      · refine Rest.via (fun t k => XS.ifYes X0.here hx rfl (pc0 := 88) (pc' := 95) rfl (hb hby at_88) rfl ((if0 _ _).trans (teq hc88).1) (by decide) (by decide) k) ?_
        show Rest p.tables e below s _ _ _ (s₁.setTop (mkF m 95 #[.val (.long q0), .second, .val (.long q1), .second, .val (.int p2), .val (.int p3), .val (.int ka), .val (.int va), .val (.int kc), .val (.int vc), .val (.int kp), .val (.int vp), .val (.int f12), .val (.int f13), .unset, .unset, .unset, .unset, .unset, .unset, .unset, .unset, .unset, .unset, .unset, .unset, .unset, .unset, .unset, .unset] []))
        refine Rest.via (fun t k => XS.iconst X0.here hx rfl (hb hby at_95) k) ?_
        show Rest p.tables e below s _ _ _ (s₁.setTop (mkF m 96 #[.val (.long q0), .second, .val (.long q1), .second, .val (.int p2), .val (.int p3), .val (.int ka), .val (.int va), .val (.int kc), .val (.int vc), .val (.int kp), .val (.int vp), .val (.int f12), .val (.int f13), .unset, .unset, .unset, .unset, .unset, .unset, .unset, .unset, .unset, .unset, .unset, .unset, .unset, .unset, .unset, .unset] [(.int (0 : Int32))]))
        exact J96 _
      · refine Rest.via (fun t k => XS.ifNo X0.here hx rfl (hb hby at_88) rfl ((if0 _ _).trans (feq hc88).1) k) ?_
        show Rest p.tables e below s _ _ _ (s₁.setTop (mkF m 91 #[.val (.long q0), .second, .val (.long q1), .second, .val (.int p2), .val (.int p3), .val (.int ka), .val (.int va), .val (.int kc), .val (.int vc), .val (.int kp), .val (.int vp), .val (.int f12), .val (.int f13), .unset, .unset, .unset, .unset, .unset, .unset, .unset, .unset, .unset, .unset, .unset, .unset, .unset, .unset, .unset, .unset] []))
        refine Rest.via (fun t k => XS.iconst X0.here hx rfl (hb hby at_91) k) ?_
        show Rest p.tables e below s _ _ _ (s₁.setTop (mkF m 92 #[.val (.long q0), .second, .val (.long q1), .second, .val (.int p2), .val (.int p3), .val (.int ka), .val (.int va), .val (.int kc), .val (.int vc), .val (.int kp), .val (.int vp), .val (.int f12), .val (.int f13), .unset, .unset, .unset, .unset, .unset, .unset, .unset, .unset, .unset, .unset, .unset, .unset, .unset, .unset, .unset, .unset] [(.int (1 : Int32))]))
        refine Rest.via (fun t k => XS.goto X0.here hx rfl (pc0 := 92) (pc' := 96) rfl (hb hby at_92) (by decide) (by decide) k) ?_
        show Rest p.tables e below s _ _ _ (s₁.setTop (mkF m 96 #[.val (.long q0), .second, .val (.long q1), .second, .val (.int p2), .val (.int p3), .val (.int ka), .val (.int va), .val (.int kc), .val (.int vc), .val (.int kp), .val (.int vp), .val (.int f12), .val (.int f13), .unset, .unset, .unset, .unset, .unset, .unset, .unset, .unset, .unset, .unset, .unset, .unset, .unset, .unset, .unset, .unset] [(.int (1 : Int32))]))
        exact J96 _
    show Rest p.tables e below s _ _ _ (s₁.setTop (mkF m 70 #[.val (.long q0), .second, .val (.long q1), .second, .val (.int p2), .val (.int p3), .val (.int ka), .val (.int va), .val (.int kc), .val (.int vc), .val (.int kp), .val (.int vp), .val (.int f12), .unset, .unset, .unset, .unset, .unset, .unset, .unset, .unset, .unset, .unset, .unset, .unset, .unset, .unset, .unset, .unset, .unset] []))
    refine Rest.via (fun t k => XS.iload X0.here hx rfl (hb hby at_70) rfl k) ?_
    show Rest p.tables e below s _ _ _ (s₁.setTop (mkF m 72 #[.val (.long q0), .second, .val (.long q1), .second, .val (.int p2), .val (.int p3), .val (.int ka), .val (.int va), .val (.int kc), .val (.int vc), .val (.int kp), .val (.int vp), .val (.int f12), .unset, .unset, .unset, .unset, .unset, .unset, .unset, .unset, .unset, .unset, .unset, .unset, .unset, .unset, .unset, .unset, .unset] [(.int p3)]))
    refine Rest.via (fun t k => XS.iconst X0.here hx rfl (hb hby at_72) k) ?_
    show Rest p.tables e below s _ _ _ (s₁.setTop (mkF m 73 #[.val (.long q0), .second, .val (.long q1), .second, .val (.int p2), .val (.int p3), .val (.int ka), .val (.int va), .val (.int kc), .val (.int vc), .val (.int kp), .val (.int vp), .val (.int f12), .unset, .unset, .unset, .unset, .unset, .unset, .unset, .unset, .unset, .unset, .unset, .unset, .unset, .unset, .unset, .unset, .unset] [(.int (2 : Int32)), (.int p3)]))
    refine Rest.via (fun t k => XS.iand X0.here hx rfl (hb hby at_73) rfl k) ?_
    show Rest p.tables e below s _ _ _ (s₁.setTop (mkF m 74 #[.val (.long q0), .second, .val (.long q1), .second, .val (.int p2), .val (.int p3), .val (.int ka), .val (.int va), .val (.int kc), .val (.int vc), .val (.int kp), .val (.int vp), .val (.int f12), .unset, .unset, .unset, .unset, .unset, .unset, .unset, .unset, .unset, .unset, .unset, .unset, .unset, .unset, .unset, .unset, .unset] [(.int (p3 &&& (2 : Int32)))]))
    by_cases hc74 : (p3 &&& (2 : Int32)) = (0 : Int32)
    · refine Rest.via (fun t k => XS.ifYes X0.here hx rfl (pc0 := 74) (pc' := 81) rfl (hb hby at_74) rfl ((if0 _ _).trans (teq hc74).1) (by decide) (by decide) k) ?_
      show Rest p.tables e below s _ _ _ (s₁.setTop (mkF m 81 #[.val (.long q0), .second, .val (.long q1), .second, .val (.int p2), .val (.int p3), .val (.int ka), .val (.int va), .val (.int kc), .val (.int vc), .val (.int kp), .val (.int vp), .val (.int f12), .unset, .unset, .unset, .unset, .unset, .unset, .unset, .unset, .unset, .unset, .unset, .unset, .unset, .unset, .unset, .unset, .unset] []))
      refine Rest.via (fun t k => XS.iconst X0.here hx rfl (hb hby at_81) k) ?_
      show Rest p.tables e below s _ _ _ (s₁.setTop (mkF m 82 #[.val (.long q0), .second, .val (.long q1), .second, .val (.int p2), .val (.int p3), .val (.int ka), .val (.int va), .val (.int kc), .val (.int vc), .val (.int kp), .val (.int vp), .val (.int f12), .unset, .unset, .unset, .unset, .unset, .unset, .unset, .unset, .unset, .unset, .unset, .unset, .unset, .unset, .unset, .unset, .unset] [(.int (0 : Int32))]))
      exact J82 _
    · refine Rest.via (fun t k => XS.ifNo X0.here hx rfl (hb hby at_74) rfl ((if0 _ _).trans (feq hc74).1) k) ?_
      show Rest p.tables e below s _ _ _ (s₁.setTop (mkF m 77 #[.val (.long q0), .second, .val (.long q1), .second, .val (.int p2), .val (.int p3), .val (.int ka), .val (.int va), .val (.int kc), .val (.int vc), .val (.int kp), .val (.int vp), .val (.int f12), .unset, .unset, .unset, .unset, .unset, .unset, .unset, .unset, .unset, .unset, .unset, .unset, .unset, .unset, .unset, .unset, .unset] []))
      refine Rest.via (fun t k => XS.iconst X0.here hx rfl (hb hby at_77) k) ?_
      show Rest p.tables e below s _ _ _ (s₁.setTop (mkF m 78 #[.val (.long q0), .second, .val (.long q1), .second, .val (.int p2), .val (.int p3), .val (.int ka), .val (.int va), .val (.int kc), .val (.int vc), .val (.int kp), .val (.int vp), .val (.int f12), .unset, .unset, .unset, .unset, .unset, .unset, .unset, .unset, .unset, .unset, .unset, .unset, .unset, .unset, .unset, .unset, .unset] [(.int (1 : Int32))]))
      refine Rest.via (fun t k => XS.goto X0.here hx rfl (pc0 := 78) (pc' := 82) rfl (hb hby at_78) (by decide) (by decide) k) ?_
      show Rest p.tables e below s _ _ _ (s₁.setTop (mkF m 82 #[.val (.long q0), .second, .val (.long q1), .second, .val (.int p2), .val (.int p3), .val (.int ka), .val (.int va), .val (.int kc), .val (.int vc), .val (.int kp), .val (.int vp), .val (.int f12), .unset, .unset, .unset, .unset, .unset, .unset, .unset, .unset, .unset, .unset, .unset, .unset, .unset, .unset, .unset, .unset, .unset] [(.int (1 : Int32))]))
      exact J82 _
  show Rest p.tables e below s _ _ _ (s₁.setTop (mkF m 56 #[.val (.long q0), .second, .val (.long q1), .second, .val (.int p2), .val (.int p3), .val (.int ka), .val (.int va), .val (.int kc), .val (.int vc), .val (.int kp), .val (.int vp), .unset, .unset, .unset, .unset, .unset, .unset, .unset, .unset, .unset, .unset, .unset, .unset, .unset, .unset, .unset, .unset, .unset, .unset] []))
  refine Rest.via (fun t k => XS.iload X0.here hx rfl (hb hby at_56) rfl k) ?_
  show Rest p.tables e below s _ _ _ (s₁.setTop (mkF m 58 #[.val (.long q0), .second, .val (.long q1), .second, .val (.int p2), .val (.int p3), .val (.int ka), .val (.int va), .val (.int kc), .val (.int vc), .val (.int kp), .val (.int vp), .unset, .unset, .unset, .unset, .unset, .unset, .unset, .unset, .unset, .unset, .unset, .unset, .unset, .unset, .unset, .unset, .unset, .unset] [(.int p3)]))
  refine Rest.via (fun t k => XS.iconst X0.here hx rfl (hb hby at_58) k) ?_
  show Rest p.tables e below s _ _ _ (s₁.setTop (mkF m 59 #[.val (.long q0), .second, .val (.long q1), .second, .val (.int p2), .val (.int p3), .val (.int ka), .val (.int va), .val (.int kc), .val (.int vc), .val (.int kp), .val (.int vp), .unset, .unset, .unset, .unset, .unset, .unset, .unset, .unset, .unset, .unset, .unset, .unset, .unset, .unset, .unset, .unset, .unset, .unset] [(.int (1 : Int32)), (.int p3)]))
  refine Rest.via (fun t k => XS.iand X0.here hx rfl (hb hby at_59) rfl k) ?_
  show Rest p.tables e below s _ _ _ (s₁.setTop (mkF m 60 #[.val (.long q0), .second, .val (.long q1), .second, .val (.int p2), .val (.int p3), .val (.int ka), .val (.int va), .val (.int kc), .val (.int vc), .val (.int kp), .val (.int vp), .unset, .unset, .unset, .unset, .unset, .unset, .unset, .unset, .unset, .unset, .unset, .unset, .unset, .unset, .unset, .unset, .unset, .unset] [(.int (p3 &&& (1 : Int32)))]))
  by_cases hc60 : (p3 &&& (1 : Int32)) = (0 : Int32)
  · refine Rest.via (fun t k => XS.ifYes X0.here hx rfl (pc0 := 60) (pc' := 67) rfl (hb hby at_60) rfl ((if0 _ _).trans (teq hc60).1) (by decide) (by decide) k) ?_
    show Rest p.tables e below s _ _ _ (s₁.setTop (mkF m 67 #[.val (.long q0), .second, .val (.long q1), .second, .val (.int p2), .val (.int p3), .val (.int ka), .val (.int va), .val (.int kc), .val (.int vc), .val (.int kp), .val (.int vp), .unset, .unset, .unset, .unset, .unset, .unset, .unset, .unset, .unset, .unset, .unset, .unset, .unset, .unset, .unset, .unset, .unset, .unset] []))
    refine Rest.via (fun t k => XS.iconst X0.here hx rfl (hb hby at_67) k) ?_
    show Rest p.tables e below s _ _ _ (s₁.setTop (mkF m 68 #[.val (.long q0), .second, .val (.long q1), .second, .val (.int p2), .val (.int p3), .val (.int ka), .val (.int va), .val (.int kc), .val (.int vc), .val (.int kp), .val (.int vp), .unset, .unset, .unset, .unset, .unset, .unset, .unset, .unset, .unset, .unset, .unset, .unset, .unset, .unset, .unset, .unset, .unset, .unset] [(.int (0 : Int32))]))
    exact J68 _
  · refine Rest.via (fun t k => XS.ifNo X0.here hx rfl (hb hby at_60) rfl ((if0 _ _).trans (feq hc60).1) k) ?_
    show Rest p.tables e below s _ _ _ (s₁.setTop (mkF m 63 #[.val (.long q0), .second, .val (.long q1), .second, .val (.int p2), .val (.int p3), .val (.int ka), .val (.int va), .val (.int kc), .val (.int vc), .val (.int kp), .val (.int vp), .unset, .unset, .unset, .unset, .unset, .unset, .unset, .unset, .unset, .unset, .unset, .unset, .unset, .unset, .unset, .unset, .unset, .unset] []))
    refine Rest.via (fun t k => XS.iconst X0.here hx rfl (hb hby at_63) k) ?_
    show Rest p.tables e below s _ _ _ (s₁.setTop (mkF m 64 #[.val (.long q0), .second, .val (.long q1), .second, .val (.int p2), .val (.int p3), .val (.int ka), .val (.int va), .val (.int kc), .val (.int vc), .val (.int kp), .val (.int vp), .unset, .unset, .unset, .unset, .unset, .unset, .unset, .unset, .unset, .unset, .unset, .unset, .unset, .unset, .unset, .unset, .unset, .unset] [(.int (1 : Int32))]))
    refine Rest.via (fun t k => XS.goto X0.here hx rfl (pc0 := 64) (pc' := 68) rfl (hb hby at_64) (by decide) (by decide) k) ?_
    show Rest p.tables e below s _ _ _ (s₁.setTop (mkF m 68 #[.val (.long q0), .second, .val (.long q1), .second, .val (.int p2), .val (.int p3), .val (.int ka), .val (.int va), .val (.int kc), .val (.int vc), .val (.int kp), .val (.int vp), .unset, .unset, .unset, .unset, .unset, .unset, .unset, .unset, .unset, .unset, .unset, .unset, .unset, .unset, .unset, .unset, .unset, .unset] [(.int (1 : Int32))]))
    exact J68 _
theorem own_DE_start {s : State} {args : Array Value} (q6 : (Jvm.Cond.arrayOf (.static "java/util/ArrayList" "DEFAULTCAPACITY_EMPTY_ELEMENTDATA" "[Ljava/lang/Object;") (.object "java/lang/Object")).value args s none s [] = some true) (q2 : (Jvm.Cond.laysStatic "java/util/ArrayList" "DEFAULTCAPACITY_EMPTY_ELEMENTDATA" "[Ljava/lang/Object;").before args s = true) (q0 : (Jvm.Cond.initialized "java/util/ArrayList").before args s = true)
    (q8 : (Jvm.Cond.eq (.length (.static "java/util/ArrayList" "DEFAULTCAPACITY_EMPTY_ELEMENTDATA" "[Ljava/lang/Object;")) (.int (0 : Int32))).value args s none s [] = some true) : ∃ de, own_DE s s.heap de := by
  obtain ⟨w, ew⟩ := arr_v q6
  have S2 := Sta.start ew (Or.inr ⟨q0, q2⟩)
  obtain ⟨cl, A⟩ := Arr.start ew q6
  have hat : s.arrayAt? w = some cl := Arr.fin (Vm.Alike.refl _) A
  obtain ⟨x, y, f1, f2, j1, j2⟩ := cmp_v (Or.inl q8)
  obtain ⟨b, cell, g1, g2, g3, g4⟩ := Jvm.Lib.length_spec f1
  cases ew.symm.trans g1
  cases hat.symm.trans g2
  subst g4
  have hl : cl.slots.size.toInt32 = 0 := gotT (Cond.eq_ints f1 (Term.int_eval 0)) q8
  have hs : cl.slots.size = (0 : Int32).toNatClampNeg := by
    have h := len_toInt g3
    rw [hl] at h
    have e : (0 : Int32).toInt = 0 := by decide
    have e' : (0 : Int32).toNatClampNeg = 0 := by decide
    omega
  exact ⟨w, S2, cl, A, hs, by decide⟩
set_option maxRecDepth 65536 in
set_option maxHeartbeats 40000000 in
theorem comes_1 {Post : Tables → Env → Array Value → State → Outcome → State → Prop} (hpost : ∀ tb e args s v u, (limb_1_1.after args s (.returned v) u = true ∧ limb_1_2.after args s (.returned v) u = true ∧ True) → FrameEnd s (.returned v) u (Jvm.fieldLocs frame_1_writes args s ++ Jvm.arrayLocs frame_1_arrays args s ++ Jvm.staticLocs frame_1_statics s) 40 384 → Post tb e args s (.returned v) u) :
    ArmFor flags0 classFile x code maxLocals ret World_1 tables_1 room_1 Calls_1 rest_1 Pre_1 Post := by
  intro l hfl _ _ p e ha hc hk s m args below hf hA hF happ hP
  obtain ⟨hcalls, hrest, hpre⟩ := hP
  obtain ⟨-, -, -, hnamed, -, -, -, hat⟩ := (Spec.applies_iff hf).mp happ
  obtain ⟨hg, hn⟩ := and_e (Cond.before_iff.mp (show (Jvm.Cond.and given_1 narrow_1).before args s = true from hpre))
  obtain ⟨hcnt, hg0⟩ := and_e hg
  obtain ⟨ha0, hg1⟩ := and_e hg0
  obtain ⟨ha1, hg2⟩ := and_e hg1
  obtain ⟨ha2, hg3⟩ := and_e hg2
  have ha3 := hg3
  obtain ⟨w0, w1, w2, w3, rfl⟩ : ∃ w0 w1 w2 w3 : Value, args = #[w0, w1, w2, w3] := by
    have hs : args.size = 4 := by simpa [Cond.value, given_1] using hcnt
    obtain ⟨L⟩ := args
    match L, hs with
    | [w0, w1, w2, w3], _ => exact ⟨w0, w1, w2, w3, rfl⟩
  have hw := fun d (hd : d ∈ tables_1) => atoms_spec (ws := Jvm.Cond.code x code maxLocals ret :: tables_1) hat d (List.mem_cons_of_mem _ hd)
  obtain ⟨hsets, hown0⟩ := atoms_of _ (rest_1_c_eq ▸ (show rest_1_c.before _ s = true from hrest))
  have hr0 := Cond.before_iff.mp hown0
  have hfit : Fit s := fun {y c} hc i hi => by
    obtain ⟨ha, rfl⟩ := Array.getElem?_eq_some_iff.mp hc
    have q := List.all_eq_true.mp ((Array.all_eq_true_iff_forall_mem.mp hF) _ (Array.getElem_mem ha)) i (List.mem_range.mpr hi)
    simpa [Array.getElem?_eq_getElem hi] using q
  obtain ⟨i0, ei0⟩ := isL_v ha0
  obtain rfl : w0 = (.long i0) := Option.some.inj ei0
  obtain ⟨i1, ei1⟩ := isL_v ha1
  obtain rfl : w1 = (.long i1) := Option.some.inj ei1
  obtain ⟨i2, ei2⟩ := is_v ha2
  obtain rfl : w2 = (.int i2) := Option.some.inj ei2
  obtain ⟨i3, ei3⟩ := is_v ha3
  obtain rfl : w3 = (.int i3) := Option.some.inj ei3
  obtain ⟨de, DE0⟩ := own_DE_start (Cond.before_iff.mp (hsets _ (List.mem_of_getElem? (i := 6) rfl))) (hsets _ (List.mem_of_getElem? (i := 2) rfl)) (hw _ (List.mem_of_getElem? (i := 12) rfl)) (Cond.before_iff.mp (hsets _ (List.mem_of_getElem? (i := 8) rfl)))
  obtain ⟨n, o, h1, h2, h3, _, L, rfl, ⟨rfl, N⟩, hq⟩ := rm0 l s _ hw tables_1 i0 i1 i2 i3 de s.heap s.heap.size (Nat.le_refl _) (Old.start s) DE0 p e ha hc hk s m _ below hf ((Spec.applies_iff_loose hf).mp happ).1 ⟨rfl, State.Warmed39.refl s, rfl⟩ trivial
  refine ⟨n, _, h1, h2, h3, hpost _ _ _ _ _ _ ⟨Cond.after_iff.mpr rfl, Cond.after_iff.mpr (eq_i res_at (Term.int_eval (1)) rfl), trivial⟩ ⟨hq.1, hq.2.1, (hq.2.2.sift fun y hy => Or.inr (N y hy)).mono (by decide) (by decide)⟩⟩
theorem main_1_1 : Claimed_1_1 := comes_1 fun _ _ _ _ _ _ h hF => ⟨h.1, hF⟩
theorem main_1_2 : Claimed_1_2 := comes_1 fun _ _ _ _ _ _ h hF => ⟨h.2.1, hF⟩
end Jvm.Pilot.@@N@@
namespace Jvm.Pilot.@@N@@
open Jvm Jvm.ClassFile Sem Op Lib Jvm.Free Jvm.Stand Jvm.Pilot.@@N@@.Jvm.D
/-! MADE BY PROGRAM (witnessworld.py) out of the Statement's table words and the real class files: 19 classes; the members and pool entries that the words name. The judged class is class 1, her method 2. -/
namespace start1
open Jvm.ClassFile
def u (s : String) : CpInfo := .utf8 (stringToUtf16 s)
/-- a pool by its gaps: so many unusable entries, then the entry; so many at the end -/
def gap : Nat → List CpInfo → List CpInfo
  | 0, r => r
  | n + 1, r => .unusable :: gap n r
def poolList (es : List (Nat × CpInfo)) (last : Nat) : List CpInfo := es.foldr (fun e r => gap e.1 (e.2 :: r)) (gap last [])
def pool (es : List (Nat × CpInfo)) (last : Nat) : Array CpInfo := ⟨poolList es last⟩
def fileOf (pool : Array CpInfo) (this : Nat) (attrs : Array Attribute := #[]) (ms : Array MethodInfo := #[]) (fl : Nat := 33) (sup : Nat := 0) (ifs : Array Nat := #[]) (fds : Array FieldInfo := #[]) : ClassFile where
  minorVersion := 0
  majorVersion := 65
  constantPool := pool
  accessFlags := fl
  thisClass := this
  superClass := sup
  interfaces := ifs
  fields := fds
  methods := ms
  attributes := attrs
def plain (name : String) (sup : Option ClassId) : Class where
  name := name
  kind := .ordinary
  loader := none
  accessFlags := 33
  super := sup
  interfaces := #[]
  cf := none
  fields := #[]
  methods := #[]
  instanceTypes := #[]
  staticTypes := #[]
  resolved := #[]
  callSites := []
  init := .initialized
  statics := none
  mirror := none

def pool0 : Array CpInfo := pool [(5, u "<init>"), (0, u "()V"), (1, .class_ 10), (1, u "java/lang/Object")] 113

def k0c0 : Code := { maxStack := 0, maxLocals := 1, code := object_method_1_code, exceptionTable := #[], attributes := #[] }
def k0m0 : Method := { name := "<init>", desc := "()V", sig := { parameters := [], returnType := none }, accessFlags := 1, code := some k0c0 }
/-- java/lang/Object -/
def k0 : Class := { plain "java/lang/Object" none with
  accessFlags := 33
  interfaces := #[]
  cf := some (fileOf pool0 8 #[] #[{ accessFlags := 1, nameIndex := 5, descriptorIndex := 6, attributes := #[] }] 33 0 #[] #[])
  fields := #[]
  methods := #[k0m0]
  instanceTypes := #[]
  staticTypes := #[]
  resolved := Array.replicate 124 none
  statics := none }

def pool1 : Array CpInfo := pool [(2, .class_ 4), (0, .nameAndType 5 6), (0, u "java/lang/Object"), (0, u "<init>"), (0, u "()V"), (0, .class_ 8), (0, u "com/example/reknit/reknit/LogRecord"), (0, .methodref 7 3), (0, .methodref 7 11), (0, .nameAndType 12 13), (0, u "link"), (0, u "(J)Lcom/example/reknit/reknit/LogRecord;"), (0, .methodref 7 15), (0, .nameAndType 16 17), (0, u "set"), (0, u "([B[B)Lcom/example/reknit/reknit/LogRecord;"), (0, .methodref 7 19), (0, .nameAndType 20 21), (0, u "delete"), (0, u "([B)Lcom/example/reknit/reknit/LogRecord;"), (0, .methodref 7 23), (0, .nameAndType 24 25), (0, u "carry"), (0, u "(Lcom/example/reknit/reknit/LogRecord;)Lcom/example/reknit/reknit/LogRecord;"), (0, .long 13), (1, .methodref 29 30), (0, .class_ 31), (0, .nameAndType 32 33), (0, u "com/example/reknit/reknit/LogRecordBodyBytesPinLaw"), (0, u "writeSize"), (0, u "(ZII)J"), (0, .methodref 7 35), (0, .nameAndType 36 37), (0, u "bodyBytes"), (0, u "()J"), (3, u "law"), (0, u "(JJII)Z")] 4

def k1m0 : Method := { name := "<init>", desc := "()V", sig := { parameters := [], returnType := none }, accessFlags := 1, code := none }
def k1c1 : Code := { maxStack := 2, maxLocals := 3, code := method_2_code, exceptionTable := #[], attributes := #[] }
def k1m1 : Method := { name := "writeSize", desc := "(ZII)J", sig := { parameters := [.boolean, .int, .int], returnType := some .long }, accessFlags := 10, code := some k1c1 }
def k1c2 : Code := { maxStack := 5, maxLocals := 30, code := code, exceptionTable := #[], attributes := #[] }
def k1m2 : Method := { name := "law", desc := "(JJII)Z", sig := { parameters := [.long, .long, .int, .int], returnType := some .boolean }, accessFlags := 9, code := some k1c2 }
/-- com/example/reknit/reknit/LogRecordBodyBytesPinLaw -/
def k1 : Class := { plain "com/example/reknit/reknit/LogRecordBodyBytesPinLaw" (some 0) with
  accessFlags := 49
  interfaces := #[]
  cf := some (fileOf pool1 29 #[] #[{ accessFlags := 1, nameIndex := 5, descriptorIndex := 6, attributes := #[] }, { accessFlags := 10, nameIndex := 32, descriptorIndex := 33, attributes := #[] }, { accessFlags := 9, nameIndex := 41, descriptorIndex := 42, attributes := #[] }] 49 2 #[] #[])
  fields := #[]
  methods := #[k1m0, k1m1, k1m2]
  instanceTypes := #[]
  staticTypes := #[]
  resolved := Array.replicate 47 none
  statics := none }

def pool2 : Array CpInfo := pool [(5, .methodref 6 7), (0, .class_ 8), (0, .nameAndType 9 10), (0, u "java/lang/Object"), (0, u "<init>"), (0, u "()V"), (0, .class_ 12), (0, u "java/util/ArrayList"), (0, .methodref 11 7), (0, .fieldref 15 16), (0, .class_ 17), (0, .nameAndType 18 19), (0, u "com/example/reknit/reknit/LogRecord"), (0, u "keys"), (0, u "Ljava/util/List;"), (0, .fieldref 15 21), (0, .nameAndType 22 19), (0, u "values"), (0, .fieldref 15 24), (0, .nameAndType 25 26), (0, u "link"), (0, u "J"), (0, .interfaceMethodref 28 29), (0, .class_ 30), (0, .nameAndType 31 32), (0, u "java/util/List"), (0, u "add"), (0, u "(Ljava/lang/Object;)Z"), (0, .fieldref 15 34), (0, .nameAndType 35 26), (0, u "writeBytes"), (0, .methodref 15 37), (0, .nameAndType 38 39), (0, u "setBytes"), (0, u "([B[B)J"), (0, .methodref 15 41), (0, .nameAndType 42 43), (0, u "deleteBytes"), (0, u "([B)J"), (0, .fieldref 15 45), (0, .nameAndType 46 47), (0, u "partner"), (0, u "Lcom/example/reknit/reknit/LogRecord;"), (18, u "set"), (27, .class_ 96), (1, u "com/example/reknit/reknit/LogRecord$Source"), (22, u "(J)Lcom/example/reknit/reknit/LogRecord;"), (6, u "carry"), (0, u "(Lcom/example/reknit/reknit/LogRecord;)Lcom/example/reknit/reknit/LogRecord;"), (13, u "()J"), (2, u "([B[B)Lcom/example/reknit/reknit/LogRecord;"), (2, u "delete"), (0, u "([B)Lcom/example/reknit/reknit/LogRecord;"), (1, .class_ 152), (1, u "com/example/reknit/reknit/LogRecord$Sink"), (8, u "LINK_BYTES"), (0, u "I"), (2, u "SET"), (0, u "B"), (1, u "DELETE"), (1, u "LINK"), (1, u "PARTNER_SET"), (1, u "PARTNER_DELETE"), (1, u "TYPE_AND_LENGTH_BYTES"), (0, u "NO_LINK"), (6, u "bodyBytes"), (16, .class_ 202), (0, u "com/example/reknit/reknit/LogRecord$Replay")] 20

def k2c0 : Code := { maxStack := 3, maxLocals := 1, code := prog_27_method_1_code, exceptionTable := #[], attributes := #[] }
def k2m0 : Method := { name := "<init>", desc := "()V", sig := { parameters := [], returnType := none }, accessFlags := 0, code := some k2c0 }
def k2c1 : Code := { maxStack := 5, maxLocals := 3, code := prog_27_method_2_code, exceptionTable := #[], attributes := #[] }
def k2m1 : Method := { name := "set", desc := "([B[B)Lcom/example/reknit/reknit/LogRecord;", sig := { parameters := [(.array .byte), (.array .byte)], returnType := some (.object "com/example/reknit/reknit/LogRecord") }, accessFlags := 0, code := some k2c1 }
def k2c2 : Code := { maxStack := 5, maxLocals := 2, code := prog_27_method_3_code, exceptionTable := #[], attributes := #[] }
def k2m2 : Method := { name := "delete", desc := "([B)Lcom/example/reknit/reknit/LogRecord;", sig := { parameters := [(.array .byte)], returnType := some (.object "com/example/reknit/reknit/LogRecord") }, accessFlags := 0, code := some k2c2 }
def k2c3 : Code := { maxStack := 3, maxLocals := 3, code := prog_27_method_4_code, exceptionTable := #[], attributes := #[] }
def k2m3 : Method := { name := "link", desc := "(J)Lcom/example/reknit/reknit/LogRecord;", sig := { parameters := [.long], returnType := some (.object "com/example/reknit/reknit/LogRecord") }, accessFlags := 0, code := some k2c3 }
def k2c4 : Code := { maxStack := 2, maxLocals := 2, code := prog_27_method_5_code, exceptionTable := #[], attributes := #[] }
def k2m4 : Method := { name := "carry", desc := "(Lcom/example/reknit/reknit/LogRecord;)Lcom/example/reknit/reknit/LogRecord;", sig := { parameters := [(.object "com/example/reknit/reknit/LogRecord")], returnType := some (.object "com/example/reknit/reknit/LogRecord") }, accessFlags := 0, code := some k2c4 }
def k2c5 : Code := { maxStack := 2, maxLocals := 2, code := prog_27_method_6_code, exceptionTable := #[], attributes := #[] }
def k2m5 : Method := { name := "setBytes", desc := "([B[B)J", sig := { parameters := [(.array .byte), (.array .byte)], returnType := some .long }, accessFlags := 8, code := some k2c5 }
def k2c6 : Code := { maxStack := 2, maxLocals := 1, code := prog_27_method_7_code, exceptionTable := #[], attributes := #[] }
def k2m6 : Method := { name := "deleteBytes", desc := "([B)J", sig := { parameters := [(.array .byte)], returnType := some .long }, accessFlags := 8, code := some k2c6 }
def k2c7 : Code := { maxStack := 4, maxLocals := 1, code := prog_27_method_9_code, exceptionTable := #[], attributes := #[] }
def k2m7 : Method := { name := "bodyBytes", desc := "()J", sig := { parameters := [], returnType := some .long }, accessFlags := 0, code := some k2c7 }
/-- com/example/reknit/reknit/LogRecord -/
def k2 : Class := { plain "com/example/reknit/reknit/LogRecord" (some 0) with
  accessFlags := 48
  interfaces := #[]
  cf := some (fileOf pool2 15 #[.nestMembers #[94, 150, 201]] #[{ accessFlags := 0, nameIndex := 9, descriptorIndex := 10, attributes := #[] }, { accessFlags := 0, nameIndex := 66, descriptorIndex := 144, attributes := #[] }, { accessFlags := 0, nameIndex := 147, descriptorIndex := 148, attributes := #[] }, { accessFlags := 0, nameIndex := 25, descriptorIndex := 119, attributes := #[] }, { accessFlags := 0, nameIndex := 126, descriptorIndex := 127, attributes := #[] }, { accessFlags := 8, nameIndex := 38, descriptorIndex := 39, attributes := #[] }, { accessFlags := 8, nameIndex := 42, descriptorIndex := 43, attributes := #[] }, { accessFlags := 0, nameIndex := 184, descriptorIndex := 141, attributes := #[] }] 48 6 #[] #[{ accessFlags := 24, nameIndex := 161, descriptorIndex := 162, attributes := #[] }, { accessFlags := 26, nameIndex := 165, descriptorIndex := 166, attributes := #[] }, { accessFlags := 26, nameIndex := 168, descriptorIndex := 166, attributes := #[] }, { accessFlags := 26, nameIndex := 170, descriptorIndex := 166, attributes := #[] }, { accessFlags := 26, nameIndex := 172, descriptorIndex := 166, attributes := #[] }, { accessFlags := 26, nameIndex := 174, descriptorIndex := 166, attributes := #[] }, { accessFlags := 26, nameIndex := 176, descriptorIndex := 162, attributes := #[] }, { accessFlags := 26, nameIndex := 177, descriptorIndex := 26, attributes := #[] }, { accessFlags := 18, nameIndex := 18, descriptorIndex := 19, attributes := #[] }, { accessFlags := 18, nameIndex := 22, descriptorIndex := 19, attributes := #[] }, { accessFlags := 2, nameIndex := 35, descriptorIndex := 26, attributes := #[] }, { accessFlags := 2, nameIndex := 25, descriptorIndex := 26, attributes := #[] }, { accessFlags := 2, nameIndex := 46, descriptorIndex := 47, attributes := #[] }])
  fields := #[{ name := "LINK_BYTES", type := .int, accessFlags := 24, slot := 0, constantValue := 0 }, { name := "SET", type := .byte, accessFlags := 26, slot := 1, constantValue := 0 }, { name := "DELETE", type := .byte, accessFlags := 26, slot := 2, constantValue := 0 }, { name := "LINK", type := .byte, accessFlags := 26, slot := 3, constantValue := 0 }, { name := "PARTNER_SET", type := .byte, accessFlags := 26, slot := 4, constantValue := 0 }, { name := "PARTNER_DELETE", type := .byte, accessFlags := 26, slot := 5, constantValue := 0 }, { name := "TYPE_AND_LENGTH_BYTES", type := .int, accessFlags := 26, slot := 6, constantValue := 0 }, { name := "NO_LINK", type := .long, accessFlags := 26, slot := 7, constantValue := 0 }, { name := "keys", type := (.object "java/util/List"), accessFlags := 18, slot := 0, constantValue := 0 }, { name := "values", type := (.object "java/util/List"), accessFlags := 18, slot := 1, constantValue := 0 }, { name := "writeBytes", type := .long, accessFlags := 2, slot := 2, constantValue := 0 }, { name := "link", type := .long, accessFlags := 2, slot := 3, constantValue := 0 }, { name := "partner", type := (.object "com/example/reknit/reknit/LogRecord"), accessFlags := 2, slot := 4, constantValue := 0 }]
  methods := #[k2m0, k2m1, k2m2, k2m3, k2m4, k2m5, k2m6, k2m7]
  instanceTypes := #[(.object "java/util/List"), (.object "java/util/List"), .long, .long, (.object "com/example/reknit/reknit/LogRecord")]
  staticTypes := #[.int, .byte, .byte, .byte, .byte, .byte, .int, .long]
  resolved := Array.replicate 223 none
  statics := none }

def pool3 : Array CpInfo := pool [(8, .class_ 10), (1, u "java/lang/Iterable"), (24, .class_ 36), (0, u "java/lang/Object")] 25

/-- java/lang/Iterable -/
def k3 : Class := { plain "java/lang/Iterable" (some 0) with
  accessFlags := 1537
  interfaces := #[]
  cf := some (fileOf pool3 8 #[] #[] 1537 35 #[] #[])
  fields := #[]
  methods := #[]
  instanceTypes := #[]
  staticTypes := #[]
  resolved := Array.replicate 62 none
  statics := none }

def pool4 : Array CpInfo := pool [(10, .class_ 12), (1, u "java/util/Collection"), (47, .class_ 61), (0, u "java/lang/Object"), (0, .class_ 63), (0, u "java/lang/Iterable")] 51

/-- java/util/Collection -/
def k4 : Class := { plain "java/util/Collection" (some 0) with
  accessFlags := 1537
  interfaces := #[3]
  cf := some (fileOf pool4 10 #[] #[] 1537 60 #[62] #[])
  fields := #[]
  methods := #[]
  instanceTypes := #[]
  staticTypes := #[]
  resolved := Array.replicate 115 none
  statics := none }

def pool5 : Array CpInfo := pool [(1, .methodref 2 3), (0, .class_ 4), (0, .nameAndType 5 6), (0, u "java/lang/Object"), (0, u "<init>"), (0, u "()V"), (1, .class_ 10), (1, u "java/util/AbstractCollection"), (66, .class_ 78), (0, u "java/util/Collection")] 81

def k5c0 : Code := { maxStack := 1, maxLocals := 1, code := jdk_22_method_1_code, exceptionTable := #[], attributes := #[] }
def k5m0 : Method := { name := "<init>", desc := "()V", sig := { parameters := [], returnType := none }, accessFlags := 4, code := some k5c0 }
/-- java/util/AbstractCollection -/
def k5 : Class := { plain "java/util/AbstractCollection" (some 0) with
  accessFlags := 1057
  interfaces := #[4]
  cf := some (fileOf pool5 8 #[] #[{ accessFlags := 4, nameIndex := 5, descriptorIndex := 6, attributes := #[] }] 1057 2 #[77] #[])
  fields := #[]
  methods := #[k5m0]
  instanceTypes := #[]
  staticTypes := #[]
  resolved := Array.replicate 160 none
  statics := none }

def pool6 : Array CpInfo := pool [(8, .class_ 10), (1, u "java/util/SequencedCollection"), (15, .class_ 27), (0, u "java/lang/Object"), (0, .class_ 29), (0, u "java/util/Collection")] 27

/-- java/util/SequencedCollection -/
def k6 : Class := { plain "java/util/SequencedCollection" (some 0) with
  accessFlags := 1537
  interfaces := #[4]
  cf := some (fileOf pool6 8 #[] #[] 1537 26 #[28] #[])
  fields := #[]
  methods := #[]
  instanceTypes := #[]
  staticTypes := #[]
  resolved := Array.replicate 57 none
  statics := none }

def pool7 : Array CpInfo := pool [(8, .class_ 10), (1, u "java/util/List"), (49, u "add"), (3, u "(Ljava/lang/Object;)Z"), (38, .class_ 104), (0, u "java/lang/Object"), (15, .class_ 121), (0, u "java/util/SequencedCollection")] 129

def k7m0 : Method := { name := "add", desc := "(Ljava/lang/Object;)Z", sig := { parameters := [(.object "java/lang/Object")], returnType := some .boolean }, accessFlags := 1025, code := none }
/-- java/util/List -/
def k7 : Class := { plain "java/util/List" (some 0) with
  accessFlags := 1537
  interfaces := #[6]
  cf := some (fileOf pool7 8 #[] #[{ accessFlags := 1025, nameIndex := 60, descriptorIndex := 64, attributes := #[] }] 1537 103 #[120] #[])
  fields := #[]
  methods := #[k7m0]
  instanceTypes := #[]
  staticTypes := #[]
  resolved := Array.replicate 251 none
  statics := none }

def pool8 : Array CpInfo := pool [(1, .methodref 2 3), (0, .class_ 4), (0, .nameAndType 5 6), (0, u "java/util/AbstractCollection"), (0, u "<init>"), (0, u "()V"), (0, .fieldref 8 9), (0, .class_ 10), (0, .nameAndType 11 12), (0, u "java/util/AbstractList"), (0, u "modCount"), (0, u "I"), (64, .class_ 78), (0, u "java/util/AbstractList$Itr"), (3, .class_ 83), (0, u "java/util/AbstractList$ListItr"), (9, .class_ 94), (0, u "java/util/AbstractList$RandomAccessSubList"), (3, .class_ 99), (0, u "java/util/AbstractList$SubList"), (33, .class_ 134), (0, u "java/util/List"), (73, .class_ 209), (0, u "java/util/AbstractList$SubList$1"), (0, .class_ 211), (0, u "java/util/AbstractList$RandomAccessSpliterator")] 6

def k8c0 : Code := { maxStack := 2, maxLocals := 1, code := jdk_39_method_1_code, exceptionTable := #[], attributes := #[] }
def k8m0 : Method := { name := "<init>", desc := "()V", sig := { parameters := [], returnType := none }, accessFlags := 4, code := some k8c0 }
/-- java/util/AbstractList -/
def k8 : Class := { plain "java/util/AbstractList" (some 5) with
  accessFlags := 1057
  interfaces := #[7]
  cf := some (fileOf pool8 8 #[.nestMembers #[93, 98, 208, 210, 82, 77]] #[{ accessFlags := 4, nameIndex := 5, descriptorIndex := 6, attributes := #[] }] 1057 2 #[133] #[{ accessFlags := 132, nameIndex := 11, descriptorIndex := 12, attributes := #[] }])
  fields := #[{ name := "modCount", type := .int, accessFlags := 132, slot := 0, constantValue := 0 }]
  methods := #[k8m0]
  instanceTypes := #[.int]
  staticTypes := #[]
  resolved := Array.replicate 218 none
  statics := none }

def pool9 : Array CpInfo := pool [(1, .class_ 2), (0, u "java/util/RandomAccess"), (0, .class_ 4), (0, u "java/lang/Object")] 2

/-- java/util/RandomAccess -/
def k9 : Class := { plain "java/util/RandomAccess" (some 0) with
  accessFlags := 1537
  interfaces := #[]
  cf := some (fileOf pool9 1 #[] #[] 1537 3 #[] #[])
  fields := #[]
  methods := #[]
  instanceTypes := #[]
  staticTypes := #[]
  resolved := Array.replicate 7 none
  statics := none }

def pool10 : Array CpInfo := pool [(1, .class_ 2), (0, u "java/lang/Cloneable"), (0, .class_ 4), (0, u "java/lang/Object")] 2

/-- java/lang/Cloneable -/
def k10 : Class := { plain "java/lang/Cloneable" (some 0) with
  accessFlags := 1537
  interfaces := #[]
  cf := some (fileOf pool10 1 #[] #[] 1537 3 #[] #[])
  fields := #[]
  methods := #[]
  instanceTypes := #[]
  staticTypes := #[]
  resolved := Array.replicate 7 none
  statics := none }

def pool11 : Array CpInfo := pool [(1, .class_ 2), (0, u "java/io/Serializable"), (0, .class_ 4), (0, u "java/lang/Object")] 2

/-- java/io/Serializable -/
def k11 : Class := { plain "java/io/Serializable" (some 0) with
  accessFlags := 1537
  interfaces := #[]
  cf := some (fileOf pool11 1 #[] #[] 1537 3 #[] #[])
  fields := #[]
  methods := #[]
  instanceTypes := #[]
  staticTypes := #[]
  resolved := Array.replicate 7 none
  statics := none }

def pool12 : Array CpInfo := pool [(1, .methodref 2 3), (0, .class_ 4), (0, .nameAndType 5 6), (0, u "java/util/AbstractList"), (0, u "<init>"), (0, u "()V"), (0, .class_ 8), (0, u "java/lang/Object"), (0, .fieldref 10 11), (0, .class_ 12), (0, .nameAndType 13 14), (0, u "java/util/ArrayList"), (0, u "elementData"), (0, u "[Ljava/lang/Object;"), (2, u "EMPTY_ELEMENTDATA"), (21, .fieldref 10 40), (0, .nameAndType 41 14), (0, u "DEFAULTCAPACITY_EMPTY_ELEMENTDATA"), (5, u "()[Ljava/lang/Object;"), (0, .fieldref 10 49), (0, .nameAndType 50 51), (0, u "size"), (0, u "I"), (11, .fieldref 10 64), (0, .nameAndType 65 51), (0, u "modCount"), (3, .methodref 10 70), (0, .nameAndType 71 72), (0, u "grow"), (0, u "(I)[Ljava/lang/Object;"), (6, .methodref 80 81), (0, .class_ 82), (0, .nameAndType 83 84), (0, u "java/lang/Math"), (0, u "max"), (0, u "(II)I"), (11, u "(Ljava/lang/Object;)Z"), (32, .methodref 10 130), (0, .nameAndType 71 47), (0, .methodref 10 132), (0, .nameAndType 133 134), (0, u "add"), (0, u "(Ljava/lang/Object;[Ljava/lang/Object;I)V"), (13, .class_ 149), (0, u "java/util/List"), (112, .class_ 263), (0, u "java/util/ArrayList$ListItr"), (3, .class_ 268), (0, u "java/util/ArrayList$Itr"), (7, .class_ 277), (0, u "java/util/ArrayList$SubList"), (12, .class_ 291), (0, u "java/util/ArrayList$ArrayListSpliterator"), (37, .class_ 330), (0, u "java/util/RandomAccess"), (0, .class_ 332), (0, u "java/lang/Cloneable"), (0, .class_ 334), (0, u "java/io/Serializable"), (0, u "serialVersionUID"), (0, u "J"), (3, u "DEFAULT_CAPACITY"), (159, .class_ 501), (0, u "java/util/ArrayList$SubList$2"), (0, .class_ 503), (0, u "java/util/ArrayList$SubList$1")] 5

def k12c0 : Code := { maxStack := 2, maxLocals := 1, code := jdk_38_method_2_code, exceptionTable := #[], attributes := #[] }
def k12m0 : Method := { name := "<init>", desc := "()V", sig := { parameters := [], returnType := none }, accessFlags := 1, code := some k12c0 }
def k12c1 : Code := { maxStack := 4, maxLocals := 4, code := jdk_38_method_6_code, exceptionTable := #[], attributes := #[] }
def k12m1 : Method := { name := "grow", desc := "(I)[Ljava/lang/Object;", sig := { parameters := [.int], returnType := some (.array (.object "java/lang/Object")) }, accessFlags := 2, code := some k12c1 }
def k12c2 : Code := { maxStack := 3, maxLocals := 1, code := jdk_38_method_7_code, exceptionTable := #[], attributes := #[] }
def k12m2 : Method := { name := "grow", desc := "()[Ljava/lang/Object;", sig := { parameters := [], returnType := some (.array (.object "java/lang/Object")) }, accessFlags := 2, code := some k12c2 }
def k12c3 : Code := { maxStack := 3, maxLocals := 4, code := jdk_38_method_24_code, exceptionTable := #[], attributes := #[] }
def k12m3 : Method := { name := "add", desc := "(Ljava/lang/Object;[Ljava/lang/Object;I)V", sig := { parameters := [(.object "java/lang/Object"), (.array (.object "java/lang/Object")), .int], returnType := none }, accessFlags := 2, code := some k12c3 }
def k12c4 : Code := { maxStack := 4, maxLocals := 2, code := jdk_38_method_25_code, exceptionTable := #[], attributes := #[] }
def k12m4 : Method := { name := "add", desc := "(Ljava/lang/Object;)Z", sig := { parameters := [(.object "java/lang/Object")], returnType := some .boolean }, accessFlags := 1, code := some k12c4 }
/-- java/util/ArrayList -/
def k12 : Class := { plain "java/util/ArrayList" (some 8) with
  accessFlags := 33
  interfaces := #[7, 9, 10, 11]
  cf := some (fileOf pool12 10 #[.nestMembers #[290, 276, 500, 502, 262, 267]] #[{ accessFlags := 1, nameIndex := 5, descriptorIndex := 6, attributes := #[] }, { accessFlags := 2, nameIndex := 71, descriptorIndex := 72, attributes := #[] }, { accessFlags := 2, nameIndex := 71, descriptorIndex := 47, attributes := #[] }, { accessFlags := 2, nameIndex := 133, descriptorIndex := 134, attributes := #[] }, { accessFlags := 1, nameIndex := 133, descriptorIndex := 96, attributes := #[] }] 33 2 #[148, 329, 331, 333] #[{ accessFlags := 26, nameIndex := 335, descriptorIndex := 336, attributes := #[] }, { accessFlags := 26, nameIndex := 340, descriptorIndex := 51, attributes := #[] }, { accessFlags := 26, nameIndex := 17, descriptorIndex := 14, attributes := #[] }, { accessFlags := 26, nameIndex := 41, descriptorIndex := 14, attributes := #[] }, { accessFlags := 128, nameIndex := 13, descriptorIndex := 14, attributes := #[] }, { accessFlags := 2, nameIndex := 50, descriptorIndex := 51, attributes := #[] }])
  fields := #[{ name := "serialVersionUID", type := .long, accessFlags := 26, slot := 0, constantValue := 0 }, { name := "DEFAULT_CAPACITY", type := .int, accessFlags := 26, slot := 1, constantValue := 0 }, { name := "EMPTY_ELEMENTDATA", type := (.array (.object "java/lang/Object")), accessFlags := 26, slot := 2, constantValue := 0 }, { name := "DEFAULTCAPACITY_EMPTY_ELEMENTDATA", type := (.array (.object "java/lang/Object")), accessFlags := 26, slot := 3, constantValue := 0 }, { name := "elementData", type := (.array (.object "java/lang/Object")), accessFlags := 128, slot := 1, constantValue := 0 }, { name := "size", type := .int, accessFlags := 2, slot := 2, constantValue := 0 }]
  methods := #[k12m0, k12m1, k12m2, k12m3, k12m4]
  instanceTypes := #[.int, (.array (.object "java/lang/Object")), .int]
  staticTypes := #[.long, .int, (.array (.object "java/lang/Object")), (.array (.object "java/lang/Object"))]
  resolved := Array.replicate 509 none
  statics := some 0 }

def pool13 : Array CpInfo := pool [(1, .class_ 2), (0, u "java/lang/Math"), (1, .class_ 6), (1, u "java/lang/Object"), (0, u "<init>"), (0, u "()V"), (89, .class_ 100), (1, u "java/lang/Math$RandomNumberGeneratorHolder"), (71, u "negativeZeroFloatBits"), (0, u "J"), (2, u "negativeZeroDoubleBits"), (21, u "max"), (46, u "$assertionsDisabled"), (0, u "Z"), (88, u "(II)I"), (2, u "twoToTheDoubleScaleDown"), (0, u "D"), (4, u "twoToTheDoubleScaleUp"), (9, u "E"), (3, u "PI"), (2, u "TAU"), (2, u "DEGREES_TO_RADIANS"), (0, u "RADIANS_TO_DEGREES")] 94

def k13m0 : Method := { name := "<init>", desc := "()V", sig := { parameters := [], returnType := none }, accessFlags := 2, code := none }
def k13c1 : Code := { maxStack := 2, maxLocals := 2, code := jdk_29_method_65_code, exceptionTable := #[], attributes := #[] }
def k13m1 : Method := { name := "max", desc := "(II)I", sig := { parameters := [.int, .int], returnType := some .int }, accessFlags := 9, code := some k13c1 }
/-- java/lang/Math -/
def k13 : Class := { plain "java/lang/Math" (some 0) with
  accessFlags := 49
  interfaces := #[]
  cf := some (fileOf pool13 1 #[.nestMembers #[98]] #[{ accessFlags := 2, nameIndex := 7, descriptorIndex := 8, attributes := #[] }, { accessFlags := 9, nameIndex := 198, descriptorIndex := 335, attributes := #[] }] 49 4 #[] #[{ accessFlags := 25, nameIndex := 354, descriptorIndex := 339, attributes := #[] }, { accessFlags := 25, nameIndex := 358, descriptorIndex := 339, attributes := #[] }, { accessFlags := 25, nameIndex := 361, descriptorIndex := 339, attributes := #[] }, { accessFlags := 26, nameIndex := 364, descriptorIndex := 339, attributes := #[] }, { accessFlags := 26, nameIndex := 365, descriptorIndex := 339, attributes := #[] }, { accessFlags := 26, nameIndex := 172, descriptorIndex := 173, attributes := #[] }, { accessFlags := 26, nameIndex := 176, descriptorIndex := 173, attributes := #[] }, { accessFlags := 8, nameIndex := 344, descriptorIndex := 339, attributes := #[] }, { accessFlags := 8, nameIndex := 338, descriptorIndex := 339, attributes := #[] }, { accessFlags := 4120, nameIndex := 245, descriptorIndex := 246, attributes := #[] }])
  fields := #[{ name := "E", type := .double, accessFlags := 25, slot := 0, constantValue := 0 }, { name := "PI", type := .double, accessFlags := 25, slot := 1, constantValue := 0 }, { name := "TAU", type := .double, accessFlags := 25, slot := 2, constantValue := 0 }, { name := "DEGREES_TO_RADIANS", type := .double, accessFlags := 26, slot := 3, constantValue := 0 }, { name := "RADIANS_TO_DEGREES", type := .double, accessFlags := 26, slot := 4, constantValue := 0 }, { name := "negativeZeroFloatBits", type := .long, accessFlags := 26, slot := 5, constantValue := 0 }, { name := "negativeZeroDoubleBits", type := .long, accessFlags := 26, slot := 6, constantValue := 0 }, { name := "twoToTheDoubleScaleUp", type := .double, accessFlags := 8, slot := 7, constantValue := 0 }, { name := "twoToTheDoubleScaleDown", type := .double, accessFlags := 8, slot := 8, constantValue := 0 }, { name := "$assertionsDisabled", type := .boolean, accessFlags := 4120, slot := 9, constantValue := 0 }]
  methods := #[k13m0, k13m1]
  instanceTypes := #[]
  staticTypes := #[.double, .double, .double, .double, .double, .long, .long, .double, .double, .boolean]
  resolved := Array.replicate 460 none
  statics := none }

/-- the primitive byte -/
def k14 : Class := { plain "byte" none with kind := .primitive 'B', accessFlags := 0x411 }
/-- [B -/
def k15 : Class := { plain "[B" (some 0) with kind := .array 14 .byte, interfaces := #[10, 11], accessFlags := 1041 }

/-- the primitive int -/
def k16 : Class := { plain "int" none with kind := .primitive 'I', accessFlags := 0x411 }
/-- [I -/
def k17 : Class := { plain "[I" (some 0) with kind := .array 16 .int, interfaces := #[10, 11], accessFlags := 1041 }

/-- [Ljava/lang/Object; -/
def k18 : Class := { plain "[Ljava/lang/Object;" (some 0) with kind := .array 0 (.object "java/lang/Object"), interfaces := #[10, 11], accessFlags := 1041 }

def heap : Heap := #[{ cls := 12, slots := #[.long 0, .int 0, .ref 1, .ref 2], vm := .statics 12 },
  { cls := 18, slots := #[], vm := .none },
  { cls := 18, slots := #[], vm := .none }]
def classes : Array Class := #[k0, k1, k2, k3, k4, k5, k6, k7, k8, k9, k10, k11, k12, k13, k14, k15, k16, k17, k18]
def interned : List (Array UInt16 × Addr) := []
def slotsUsed : Nat := 4
def theMethod : MethodId := ⟨1, 2⟩
def args0 : Array Value := #[.long 5, .long 6, .int 7, .int 511]
def aboutOver (below : List Frame) : State where
  vm := { classes := classes, interned := interned.toArray }
  heap := heap
  slotsUsed := slotsUsed
  threads := #[{ frames := .invoking theMethod args0 :: below }]
def below0 : List Frame := [.native { method := ⟨0, 0⟩, args := #[] }]
def about1 : State := aboutOver below0
def p0 : Program := .bare "" "" ""
def e0 : Env := launch0.env 0 0 0
theorem w_frames : about1.frames = Frame.invoking theMethod args0 :: below0 := rfl
set_option maxRecDepth 65536 in
theorem w_args : argsFit about1.vm theMethod args0 = true := by decide +kernel
set_option maxRecDepth 65536 in
theorem w_heap : heapFits about1 = true := by decide +kernel
set_option maxRecDepth 65536 in
theorem w_runnable : about1.curStatus? = some .runnable := by decide +kernel
set_option maxRecDepth 65536 in
theorem w_alone : about1.alone = true := by decide +kernel
set_option maxRecDepth 65536 in
theorem w_named : about1.methodNamed? x = some theMethod := by decide +kernel
set_option maxRecDepth 65536 in
theorem w_hears : about1.hears theMethod below0 = true := by decide +kernel
set_option maxRecDepth 65536 in
theorem w_ripe : about1.ripe theMethod args0 below0 = true := by decide +kernel
theorem w_running : about1.status = .running := rfl
set_option maxRecDepth 65536 in
theorem w_room : about1.hasRoom e0.platform room_1 = true :=
  launch0.hasRoom_least _ room_1 (by decide +kernel) (by decide +kernel) (by decide +kernel) (by decide +kernel) (by decide +kernel) (by decide +kernel)
theorem allAtoms_all (ts : List Jvm.Cond) (a : Array Jvm.Value) (st : Jvm.State) : (allAtoms ts).before a st = ts.all (fun c => c.before a st) := by
  induction ts with
  | nil => rfl
  | cons c t ih =>
    show (Jvm.Cond.and c (allAtoms t)).before a st = _
    rw [Jvm.Cond.before_and, ih, List.all_cons]
def words1 : List Jvm.Cond := Jvm.Cond.code x code maxLocals ret :: tables_1
/-- a 'code' word, met by the world's own term for the bytes: nothing is compared byte by byte -/
theorem code_word {y : MethodName} {bytes : ByteArray} {mx : Nat} {rt : Option FieldType} {a : Array Value} {s : State} {m : MethodId} {meth : Method} {c : Code} (h1 : s.methodNamed? y = some m) (h2 : s.vm.method? m = some meth) (h3 : meth.code = some c) (h4 : c.code = bytes)
    (h5 : (c.maxLocals == mx && c.exceptionTable.isEmpty && decide (c.maxStack ≤ mostOperands) && decide (meth.sig.returnType = rt) && !meth.locks && decide (parseMethodDescriptor y.desc = some meth.sig)) = true) : (Jvm.Cond.code y bytes mx rt).before a s = true := by
  simp only [Bool.and_eq_true, beq_iff_eq, Bool.not_eq_true', decide_eq_true_eq] at h5
  obtain ⟨⟨⟨⟨⟨g1, g2⟩, g3⟩, g4⟩, g5⟩, g6⟩ := h5
  simp [Cond.before, Cond.holds, Cond.value, h1, h2, h3, h4, g1, g2, g3, g4, g5, g6]
def isCode : Jvm.Cond → Bool
  | .code _ _ _ _ => true
  | _ => false
theorem all_split {L : List Jvm.Cond} {P : Jvm.Cond → Bool} (h1 : L.all (fun c => isCode c || P c) = true) (h2 : ∀ c ∈ L.filter isCode, P c = true) : L.all P = true := by
  refine List.all_eq_true.mpr fun c hc => ?_
  have h := List.all_eq_true.mp h1 c hc
  rcases Bool.eq_false_or_eq_true (isCode c) with hi | hi
  · exact h2 c (List.mem_filter.mpr ⟨hc, hi⟩)
  · simpa [hi] using h
set_option maxRecDepth 65536 in
theorem w_c0 : (Jvm.Cond.code x code maxLocals ret).before args0 about1 = true := code_word (m := ⟨1, 2⟩) (meth := k1m2) (c := k1c2) (by decide +kernel) rfl rfl rfl (by decide +kernel)
set_option maxRecDepth 65536 in
theorem w_c1 : (Jvm.Cond.code ({ cls := "com/example/reknit/reknit/LogRecord", name := "<init>", desc := "()V" } : Jvm.MethodName) prog_27_method_1_code (1 : Nat) (Option.none : Option Jvm.ClassFile.FieldType)).before args0 about1 = true := code_word (m := ⟨2, 0⟩) (meth := k2m0) (c := k2c0) (by decide +kernel) rfl rfl rfl (by decide +kernel)
set_option maxRecDepth 65536 in
theorem w_c2 : (Jvm.Cond.code ({ cls := "java/lang/Object", name := "<init>", desc := "()V" } : Jvm.MethodName) object_method_1_code (1 : Nat) (Option.none : Option Jvm.ClassFile.FieldType)).before args0 about1 = true := code_word (m := ⟨0, 0⟩) (meth := k0m0) (c := k0c0) (by decide +kernel) rfl rfl rfl (by decide +kernel)
set_option maxRecDepth 65536 in
theorem w_c3 : (Jvm.Cond.code ({ cls := "java/util/ArrayList", name := "<init>", desc := "()V" } : Jvm.MethodName) jdk_38_method_2_code (1 : Nat) (Option.none : Option Jvm.ClassFile.FieldType)).before args0 about1 = true := code_word (m := ⟨12, 0⟩) (meth := k12m0) (c := k12c0) (by decide +kernel) rfl rfl rfl (by decide +kernel)
set_option maxRecDepth 65536 in
theorem w_c4 : (Jvm.Cond.code ({ cls := "java/util/AbstractList", name := "<init>", desc := "()V" } : Jvm.MethodName) jdk_39_method_1_code (1 : Nat) (Option.none : Option Jvm.ClassFile.FieldType)).before args0 about1 = true := code_word (m := ⟨8, 0⟩) (meth := k8m0) (c := k8c0) (by decide +kernel) rfl rfl rfl (by decide +kernel)
set_option maxRecDepth 65536 in
theorem w_c5 : (Jvm.Cond.code ({ cls := "java/util/AbstractCollection", name := "<init>", desc := "()V" } : Jvm.MethodName) jdk_22_method_1_code (1 : Nat) (Option.none : Option Jvm.ClassFile.FieldType)).before args0 about1 = true := code_word (m := ⟨5, 0⟩) (meth := k5m0) (c := k5c0) (by decide +kernel) rfl rfl rfl (by decide +kernel)
set_option maxRecDepth 65536 in
theorem w_c6 : (Jvm.Cond.code ({ cls := "com/example/reknit/reknit/LogRecord", name := "link", desc := "(J)Lcom/example/reknit/reknit/LogRecord;" } : Jvm.MethodName) prog_27_method_4_code (3 : Nat) (Option.some (Jvm.ClassFile.FieldType.object "com/example/reknit/reknit/LogRecord"))).before args0 about1 = true := code_word (m := ⟨2, 3⟩) (meth := k2m3) (c := k2c3) (by decide +kernel) rfl rfl rfl (by decide +kernel)
set_option maxRecDepth 65536 in
theorem w_c7 : (Jvm.Cond.code ({ cls := "com/example/reknit/reknit/LogRecord", name := "bodyBytes", desc := "()J" } : Jvm.MethodName) prog_27_method_9_code (1 : Nat) (Option.some Jvm.ClassFile.FieldType.long)).before args0 about1 = true := code_word (m := ⟨2, 7⟩) (meth := k2m7) (c := k2c7) (by decide +kernel) rfl rfl rfl (by decide +kernel)
set_option maxRecDepth 65536 in
theorem w_c8 : (Jvm.Cond.code ({ cls := "com/example/reknit/reknit/LogRecord", name := "carry", desc := "(Lcom/example/reknit/reknit/LogRecord;)Lcom/example/reknit/reknit/LogRecord;" } : Jvm.MethodName) prog_27_method_5_code (2 : Nat) (Option.some (Jvm.ClassFile.FieldType.object "com/example/reknit/reknit/LogRecord"))).before args0 about1 = true := code_word (m := ⟨2, 4⟩) (meth := k2m4) (c := k2c4) (by decide +kernel) rfl rfl rfl (by decide +kernel)
set_option maxRecDepth 65536 in
theorem w_c9 : (Jvm.Cond.code ({ cls := "com/example/reknit/reknit/LogRecord", name := "set", desc := "([B[B)Lcom/example/reknit/reknit/LogRecord;" } : Jvm.MethodName) prog_27_method_2_code (3 : Nat) (Option.some (Jvm.ClassFile.FieldType.object "com/example/reknit/reknit/LogRecord"))).before args0 about1 = true := code_word (m := ⟨2, 1⟩) (meth := k2m1) (c := k2c1) (by decide +kernel) rfl rfl rfl (by decide +kernel)
set_option maxRecDepth 65536 in
theorem w_c10 : (Jvm.Cond.code ({ cls := "java/util/ArrayList", name := "add", desc := "(Ljava/lang/Object;)Z" } : Jvm.MethodName) jdk_38_method_25_code (2 : Nat) (Option.some Jvm.ClassFile.FieldType.boolean)).before args0 about1 = true := code_word (m := ⟨12, 4⟩) (meth := k12m4) (c := k12c4) (by decide +kernel) rfl rfl rfl (by decide +kernel)
set_option maxRecDepth 65536 in
theorem w_c11 : (Jvm.Cond.code ({ cls := "java/util/ArrayList", name := "add", desc := "(Ljava/lang/Object;[Ljava/lang/Object;I)V" } : Jvm.MethodName) jdk_38_method_24_code (4 : Nat) (Option.none : Option Jvm.ClassFile.FieldType)).before args0 about1 = true := code_word (m := ⟨12, 3⟩) (meth := k12m3) (c := k12c3) (by decide +kernel) rfl rfl rfl (by decide +kernel)
set_option maxRecDepth 65536 in
theorem w_c12 : (Jvm.Cond.code ({ cls := "java/util/ArrayList", name := "grow", desc := "()[Ljava/lang/Object;" } : Jvm.MethodName) jdk_38_method_7_code (1 : Nat) (Option.some (Jvm.ClassFile.FieldType.array (Jvm.ClassFile.FieldType.object "java/lang/Object")))).before args0 about1 = true := code_word (m := ⟨12, 2⟩) (meth := k12m2) (c := k12c2) (by decide +kernel) rfl rfl rfl (by decide +kernel)
set_option maxRecDepth 65536 in
theorem w_c13 : (Jvm.Cond.code ({ cls := "java/util/ArrayList", name := "grow", desc := "(I)[Ljava/lang/Object;" } : Jvm.MethodName) jdk_38_method_6_code (4 : Nat) (Option.some (Jvm.ClassFile.FieldType.array (Jvm.ClassFile.FieldType.object "java/lang/Object")))).before args0 about1 = true := code_word (m := ⟨12, 1⟩) (meth := k12m1) (c := k12c1) (by decide +kernel) rfl rfl rfl (by decide +kernel)
set_option maxRecDepth 65536 in
theorem w_c14 : (Jvm.Cond.code ({ cls := "java/lang/Math", name := "max", desc := "(II)I" } : Jvm.MethodName) jdk_29_method_65_code (2 : Nat) (Option.some Jvm.ClassFile.FieldType.int)).before args0 about1 = true := code_word (m := ⟨13, 1⟩) (meth := k13m1) (c := k13c1) (by decide +kernel) rfl rfl rfl (by decide +kernel)
set_option maxRecDepth 65536 in
theorem w_c15 : (Jvm.Cond.code ({ cls := "com/example/reknit/reknit/LogRecord", name := "setBytes", desc := "([B[B)J" } : Jvm.MethodName) prog_27_method_6_code (2 : Nat) (Option.some Jvm.ClassFile.FieldType.long)).before args0 about1 = true := code_word (m := ⟨2, 5⟩) (meth := k2m5) (c := k2c5) (by decide +kernel) rfl rfl rfl (by decide +kernel)
set_option maxRecDepth 65536 in
theorem w_c16 : (Jvm.Cond.code ({ cls := "com/example/reknit/reknit/LogRecord", name := "delete", desc := "([B)Lcom/example/reknit/reknit/LogRecord;" } : Jvm.MethodName) prog_27_method_3_code (2 : Nat) (Option.some (Jvm.ClassFile.FieldType.object "com/example/reknit/reknit/LogRecord"))).before args0 about1 = true := code_word (m := ⟨2, 2⟩) (meth := k2m2) (c := k2c2) (by decide +kernel) rfl rfl rfl (by decide +kernel)
set_option maxRecDepth 65536 in
theorem w_c17 : (Jvm.Cond.code ({ cls := "com/example/reknit/reknit/LogRecord", name := "deleteBytes", desc := "([B)J" } : Jvm.MethodName) prog_27_method_7_code (1 : Nat) (Option.some Jvm.ClassFile.FieldType.long)).before args0 about1 = true := code_word (m := ⟨2, 6⟩) (meth := k2m6) (c := k2c6) (by decide +kernel) rfl rfl rfl (by decide +kernel)
set_option maxRecDepth 65536 in
theorem w_c18 : (Jvm.Cond.code ({ cls := "com/example/reknit/reknit/LogRecordBodyBytesPinLaw", name := "writeSize", desc := "(ZII)J" } : Jvm.MethodName) method_2_code (3 : Nat) (Option.some Jvm.ClassFile.FieldType.long)).before args0 about1 = true := code_word (m := ⟨1, 1⟩) (meth := k1m1) (c := k1c1) (by decide +kernel) rfl rfl rfl (by decide +kernel)
def codes1 : List Jvm.Cond := [Jvm.Cond.code x code maxLocals ret, Jvm.Cond.code ({ cls := "com/example/reknit/reknit/LogRecord", name := "<init>", desc := "()V" } : Jvm.MethodName) prog_27_method_1_code (1 : Nat) (Option.none : Option Jvm.ClassFile.FieldType), Jvm.Cond.code ({ cls := "java/lang/Object", name := "<init>", desc := "()V" } : Jvm.MethodName) object_method_1_code (1 : Nat) (Option.none : Option Jvm.ClassFile.FieldType), Jvm.Cond.code ({ cls := "java/util/ArrayList", name := "<init>", desc := "()V" } : Jvm.MethodName) jdk_38_method_2_code (1 : Nat) (Option.none : Option Jvm.ClassFile.FieldType), Jvm.Cond.code ({ cls := "java/util/AbstractList", name := "<init>", desc := "()V" } : Jvm.MethodName) jdk_39_method_1_code (1 : Nat) (Option.none : Option Jvm.ClassFile.FieldType), Jvm.Cond.code ({ cls := "java/util/AbstractCollection", name := "<init>", desc := "()V" } : Jvm.MethodName) jdk_22_method_1_code (1 : Nat) (Option.none : Option Jvm.ClassFile.FieldType), Jvm.Cond.code ({ cls := "com/example/reknit/reknit/LogRecord", name := "link", desc := "(J)Lcom/example/reknit/reknit/LogRecord;" } : Jvm.MethodName) prog_27_method_4_code (3 : Nat) (Option.some (Jvm.ClassFile.FieldType.object "com/example/reknit/reknit/LogRecord")), Jvm.Cond.code ({ cls := "com/example/reknit/reknit/LogRecord", name := "bodyBytes", desc := "()J" } : Jvm.MethodName) prog_27_method_9_code (1 : Nat) (Option.some Jvm.ClassFile.FieldType.long), Jvm.Cond.code ({ cls := "com/example/reknit/reknit/LogRecord", name := "carry", desc := "(Lcom/example/reknit/reknit/LogRecord;)Lcom/example/reknit/reknit/LogRecord;" } : Jvm.MethodName) prog_27_method_5_code (2 : Nat) (Option.some (Jvm.ClassFile.FieldType.object "com/example/reknit/reknit/LogRecord")), Jvm.Cond.code ({ cls := "com/example/reknit/reknit/LogRecord", name := "set", desc := "([B[B)Lcom/example/reknit/reknit/LogRecord;" } : Jvm.MethodName) prog_27_method_2_code (3 : Nat) (Option.some (Jvm.ClassFile.FieldType.object "com/example/reknit/reknit/LogRecord")), Jvm.Cond.code ({ cls := "java/util/ArrayList", name := "add", desc := "(Ljava/lang/Object;)Z" } : Jvm.MethodName) jdk_38_method_25_code (2 : Nat) (Option.some Jvm.ClassFile.FieldType.boolean), Jvm.Cond.code ({ cls := "java/util/ArrayList", name := "add", desc := "(Ljava/lang/Object;[Ljava/lang/Object;I)V" } : Jvm.MethodName) jdk_38_method_24_code (4 : Nat) (Option.none : Option Jvm.ClassFile.FieldType), Jvm.Cond.code ({ cls := "java/util/ArrayList", name := "grow", desc := "()[Ljava/lang/Object;" } : Jvm.MethodName) jdk_38_method_7_code (1 : Nat) (Option.some (Jvm.ClassFile.FieldType.array (Jvm.ClassFile.FieldType.object "java/lang/Object"))), Jvm.Cond.code ({ cls := "java/util/ArrayList", name := "grow", desc := "(I)[Ljava/lang/Object;" } : Jvm.MethodName) jdk_38_method_6_code (4 : Nat) (Option.some (Jvm.ClassFile.FieldType.array (Jvm.ClassFile.FieldType.object "java/lang/Object"))), Jvm.Cond.code ({ cls := "java/lang/Math", name := "max", desc := "(II)I" } : Jvm.MethodName) jdk_29_method_65_code (2 : Nat) (Option.some Jvm.ClassFile.FieldType.int), Jvm.Cond.code ({ cls := "com/example/reknit/reknit/LogRecord", name := "setBytes", desc := "([B[B)J" } : Jvm.MethodName) prog_27_method_6_code (2 : Nat) (Option.some Jvm.ClassFile.FieldType.long), Jvm.Cond.code ({ cls := "com/example/reknit/reknit/LogRecord", name := "delete", desc := "([B)Lcom/example/reknit/reknit/LogRecord;" } : Jvm.MethodName) prog_27_method_3_code (2 : Nat) (Option.some (Jvm.ClassFile.FieldType.object "com/example/reknit/reknit/LogRecord")), Jvm.Cond.code ({ cls := "com/example/reknit/reknit/LogRecord", name := "deleteBytes", desc := "([B)J" } : Jvm.MethodName) prog_27_method_7_code (1 : Nat) (Option.some Jvm.ClassFile.FieldType.long), Jvm.Cond.code ({ cls := "com/example/reknit/reknit/LogRecordBodyBytesPinLaw", name := "writeSize", desc := "(ZII)J" } : Jvm.MethodName) method_2_code (3 : Nat) (Option.some Jvm.ClassFile.FieldType.long)]
set_option maxRecDepth 65536 in
theorem codes_eq : words1.filter isCode = codes1 := rfl
theorem w_codes : ∀ c ∈ words1.filter isCode, c.before args0 about1 = true := by
  rw [codes_eq]
  intro c hc
  simp only [codes1, List.mem_cons, List.not_mem_nil, or_false] at hc
  rcases hc with rfl | rfl | rfl | rfl | rfl | rfl | rfl | rfl | rfl | rfl | rfl | rfl | rfl | rfl | rfl | rfl | rfl | rfl | rfl
  · exact w_c0
  · exact w_c1
  · exact w_c2
  · exact w_c3
  · exact w_c4
  · exact w_c5
  · exact w_c6
  · exact w_c7
  · exact w_c8
  · exact w_c9
  · exact w_c10
  · exact w_c11
  · exact w_c12
  · exact w_c13
  · exact w_c14
  · exact w_c15
  · exact w_c16
  · exact w_c17
  · exact w_c18
set_option maxRecDepth 65536 in
theorem w_t1 : (words1.take 24).all (fun c => isCode c || c.before args0 about1) = true := by decide +kernel
set_option maxRecDepth 65536 in
theorem w_t2 : ((words1.drop 24).take 24).all (fun c => isCode c || c.before args0 about1) = true := by decide +kernel
set_option maxRecDepth 65536 in
theorem w_t3 : (((words1.drop 24).drop 24).take 24).all (fun c => isCode c || c.before args0 about1) = true := by decide +kernel
set_option maxRecDepth 65536 in
theorem w_t4 : ((((words1.drop 24).drop 24).drop 24).take 24).all (fun c => isCode c || c.before args0 about1) = true := by decide +kernel
set_option maxRecDepth 65536 in
theorem w_t5 : ((((words1.drop 24).drop 24).drop 24).drop 24).all (fun c => isCode c || c.before args0 about1) = true := by decide +kernel
theorem w_tables : (allAtoms (Jvm.Cond.code x code maxLocals ret :: tables_1)).before args0 about1 = true := by
  rw [allAtoms_all]
  show words1.all (fun c => c.before args0 about1) = true
  refine all_split ?_ w_codes
  rw [← List.take_append_drop 24 words1, List.all_append, w_t1, ← List.take_append_drop 24 (words1.drop 24), List.all_append, w_t2, ← List.take_append_drop 24 ((words1.drop 24).drop 24), List.all_append, w_t3, ← List.take_append_drop 24 (((words1.drop 24).drop 24).drop 24), List.all_append, w_t4, w_t5]
  rfl
set_option maxRecDepth 65536 in
theorem w_rest : rest_1_c.before args0 about1 = true := by decide +kernel
set_option maxRecDepth 65536 in
theorem w_case : (Jvm.Cond.and given_1 narrow_1).before args0 about1 = true := by decide +kernel
theorem w_applies : (headSpec (Jvm.Cond.code x code maxLocals ret :: tables_1) room_1).applies x e0.platform about1 = true :=
  (Spec.applies_iff w_frames).mpr ⟨w_running, w_runnable, w_alone, w_named, w_hears, w_ripe, w_room, w_tables⟩
theorem atStart : AtStart classFile x code maxLocals ret World_1 tables_1 room_1 Calls_1 rest_1 Pre_1 launch0 p0 e0 about1 theMethod args0 below0 :=
  ⟨lists_1, trivial, launch0.admits_env _ _ _, launch0.least_env, fairChoices_fair.cas, fairChoices_fair.clock, w_frames, w_args, w_heap, w_applies, trivial, w_rest, w_case⟩
end start1
theorem witness_1 : WitnessClaimed_1 := ⟨start1.p0, start1.e0, start1.about1, start1.theMethod, start1.args0, start1.below0, start1.atStart⟩
end Jvm.Pilot.@@N@@
