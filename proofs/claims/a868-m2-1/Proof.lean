import JvmDerived
import JvmDerived.Pilot.@@N@@Statement
import JvmDerived.Pilot.@@N@@Code
set_option linter.unusedVariables false
set_option linter.unusedSimpArgs false
namespace Jvm.Pilot.@@N@@
open Jvm Jvm.ClassFile Sem Op Lib Jvm.Free Jvm.Stand Jvm.LawKit Jvm.RoadKit Bundle Jvm.Pilot.@@N@@.Jvm.D
/-- from S the method comes to its end, and what it leaves answers Q -/
def Rest (tb : Tables) (e : Env) (below : List Frame) (s : State) (Q : Option Value → Heap → List Loc → Prop) (k n : Nat) (S : State) : Prop :=
  ∃ t o, Steps tb e below S t ∧ t.status = .running ∧ Ended t below o ∧ ∃ v L, o = .returned v ∧ Q v t.heap L ∧ FrameEnd s o t L k n
theorem Rest.via {tb : Tables} {e : Env} {below : List Frame} {s : State} {Q : Option Value → Heap → List Loc → Prop} {k n : Nat} {S S' : State} (h : ∀ t, Steps tb e below S' t → Steps tb e below S t) (r : Rest tb e below s Q k n S') : Rest tb e below s Q k n S := by
  obtain ⟨t, o, h1, h2⟩ := r; exact ⟨t, o, h t h1, h2⟩
theorem Rest.ret {p : Program} {l : Launch} {e : Env} {R : Room} {s : State} {m : MethodId} {args : Array Value} {below : List Frame} {meth : Method} {c : Code} {T : State} {locs : List Loc} {cells slots : Nat} {Q : Option Value → Heap → List Loc → Prop} {k n : Nat} {S : State} {v : Option Value}
    (X : Stand p l e R s m args below meth c T locs cells slots) (hv : meth.sig.returnType = none → v = none) (hlocks : meth.locks = false)
    (st : ∀ fs, (∀ (f : JFrame) (acts : List Action), f.method = m → f.locked = none → f.entered = [] → (doReturn e (T.setTop f) acts v).1 = T.setFrames fs) → Steps p.tables e below S (T.setFrames fs))
    (hq : Q v T.heap locs) (hk : cells ≤ k) (hn : slots ≤ n) : Rest p.tables e below s Q k n S := by
  obtain ⟨fs, hr, hrun, hended, hW, hsame⟩ := X.leave (v := v) hv hlocks
  exact ⟨_, _, st fs hr, hrun, hended, _, _, rfl, hq, ⟨_, rfl⟩, hW, hsame.mono hk hn⟩
theorem own_nn (x : Int32) : ¬ (x &&& (2147483647 : Int32)) < (0 : Int32) := by
  have e := c_mask x 2147483647 31 (by decide) (by decide)
  rw [Int32.lt_iff_toInt_lt, e]
  have h0 : (0 : Int32).toInt = 0 := by decide
  have := Int.emod_nonneg x.toInt (b := ((2 ^ 31 : Nat) : Int)) (by decide)
  omega
def own_eq (w1 w2 u1 u2 : Int32) : Int32 := if w1 = u1 then (if w2 = u2 then 1 else 0) else 0
theorem own_eq_self (a b : Int32) : ¬ own_eq a b a b = (0 : Int32) := by rw [own_eq, if_pos rfl, if_pos rfl]; decide
theorem own_eq_hash {a b u v : Int32} (h : ¬ own_eq a b u v = (0 : Int32)) : (((31 : Int32) * a) + b) = (((31 : Int32) * u) + v) := by
  unfold own_eq at h
  split at h
  · rename_i h1
    split at h
    · rename_i h2; rw [h1, h2]
    · exact absurd rfl h
  · exact absurd rfl h
theorem d1_0 : decode prog_23_method_1_code 0 = .ok (.aload_n 0, 1) := by decide +kernel
theorem d1_1 : decode prog_23_method_1_code 1 = .ok (.invokespecial 1, 3) := by decide +kernel
theorem d1_4 : decode prog_23_method_1_code 4 = .ok (.iload_n 1, 1) := by decide +kernel
theorem d1_5 : decode prog_23_method_1_code 5 = .ok (.ifCond .lt 7, 3) := by decide +kernel
theorem d1_8 : decode prog_23_method_1_code 8 = .ok (.iload_n 2, 1) := by decide +kernel
theorem d1_9 : decode prog_23_method_1_code 9 = .ok (.ifCond .ge 18, 3) := by decide +kernel
theorem d1_27 : decode prog_23_method_1_code 27 = .ok (.aload_n 0, 1) := by decide +kernel
theorem d1_28 : decode prog_23_method_1_code 28 = .ok (.iload_n 1, 1) := by decide +kernel
theorem d1_29 : decode prog_23_method_1_code 29 = .ok (.putfield 16, 3) := by decide +kernel
theorem d1_32 : decode prog_23_method_1_code 32 = .ok (.aload_n 0, 1) := by decide +kernel
theorem d1_33 : decode prog_23_method_1_code 33 = .ok (.iload_n 2, 1) := by decide +kernel
theorem d1_34 : decode prog_23_method_1_code 34 = .ok (.putfield 22, 3) := by decide +kernel
theorem d1_37 : decode prog_23_method_1_code 37 = .ok (.return_, 1) := by decide +kernel
theorem pn_0 : plainName "com/example/rollcall/rollcall/model/spring/SpringVersion" = true := by first | (simp [plainName, overriddenIn]; done) | decide +kernel
theorem ef_I (m : MethodId) (a0 : Addr) (p1 : Int32) (p2 : Int32) : entryFrame m #[(.ref a0), (.int p1), (.int p2)] 3 = mkF m 0 #[.val (.ref a0), .val (.int p1), .val (.int p2)] [] := by first | (simp [entryFrame, mkF, argsToLocals, Value.category, maxLocals]; done) | rfl
def QI (Z : State) (a0 : Addr) (p1 : Int32) (p2 : Int32) (h0 : Heap) (n0 : Nat) (v : Option Value) (h : Heap) (L : List Loc) : Prop := v = none ∧ Fr n0 L ∧ Keep h0 h [a0] ∧ Fld Z h a0 "com/example/rollcall/rollcall/model/spring/SpringVersion" "major" "I" (.int p1) ∧ Fld Z h a0 "com/example/rollcall/rollcall/model/spring/SpringVersion" "minor" "I" (.int p2)
set_option maxRecDepth 65536 in
set_option maxHeartbeats 40000000 in
theorem rmI (l : Launch) (Z : State) (aw : Array Value) (hw : ∀ d ∈ tables_1, d.before aw Z = true) (ws : List Jvm.Cond) (a0 : Addr) (p1 : Int32) (p2 : Int32) (h0 : Heap) (n0 : Nat) (Z0 : n0 ≤ h0.size) (E_a0 : Exa Z h0 a0 "com/example/rollcall/rollcall/model/spring/SpringVersion") (F_major : Fld Z h0 a0 "com/example/rollcall/rollcall/model/spring/SpringVersion" "major" "I" (.int (0 : Int32))) (F_minor : Fld Z h0 a0 "com/example/rollcall/rollcall/model/spring/SpringVersion" "minor" "I" (.int (0 : Int32))) (g_a0 : n0 ≤ a0) (hp1 : ¬ (p1 < (0 : Int32))) (hp2 : ¬ (p2 < (0 : Int32))) :
    MetFree l (⟨"com/example/rollcall/rollcall/model/spring/SpringVersion", "<init>", "(II)V"⟩ : MethodName) (head1 (Jvm.Cond.code (⟨"com/example/rollcall/rollcall/model/spring/SpringVersion", "<init>", "(II)V"⟩ : MethodName) prog_23_method_1_code 3 none :: ws) ({ frames := 1, cells := 0, slots := 0, locals := 12 } : Room)) (fun a U => a = #[(.ref a0), (.int p1), (.int p2)] ∧ Z.Warmed39 U.vm ∧ U.heap = h0) (fun _ _ _ _ _ => True) (fun _ U o U' => ∃ v L, o = .returned v ∧ QI Z a0 p1 p2 h0 n0 v U'.heap L ∧ FrameEnd U o U' L ({ frames := 1, cells := 0, slots := 0, locals := 12 } : Room).cells ({ frames := 1, cells := 0, slots := 0, locals := 12 } : Room).slots) := by
  refine MetFree.of_bodySF (plainFor_of_name pn_0) hisR ?_
  intro p e s m args below meth c s₁ Bd hml0 hP hK
  obtain ⟨rfl, hZ, hh⟩ := hP
  have hx := Bd.exec
  have hby := Bd.bytes
  have hml : c.maxLocals = 3 := hml0
  have hown : s.vm.findClass "com/example/rollcall/rollcall/model/spring/SpringVersion" = some m.cls := findClass_of_methodNamed Bd.named
  have hnm := (name_of_methodNamed Bd.named Bd.method).1
  have hlk : meth.locks = false := BodyLoose.notSynchronized Bd
  have X0 : Stand p l e ({ frames := 1, cells := 0, slots := 0, locals := 12 } : Room) s m #[(.ref a0), (.int p1), (.int p2)] below meth c s₁ [] 0 0 := Stand.of_body Bd
  have eh0 : s₁.heap = h0 := by rw [← hh, Bd.state]; rfl
  have N0 := Fr.nil n0
  show Rest p.tables e below s (QI Z a0 p1 p2 h0 n0) _ _ (s₁.setTop (entryFrame m #[(.ref a0), (.int p1), (.int p2)] 3))
  refine Rest.via (fun t k => castTop (ef_I m a0 p1 p2) k) ?_
  show Rest p.tables e below s _ _ _ (s₁.setTop (mkF m 0 #[.val (.ref a0), .val (.int p1), .val (.int p2)] []))
  refine Rest.via (fun t k => XS.aloadN X0.here hx rfl (hb hby d1_0) rfl rfl k) ?_
  show Rest p.tables e below s _ _ _ (s₁.setTop (mkF m 1 #[.val (.ref a0), .val (.int p1), .val (.int p2)] [(.ref a0)]))
  obtain ⟨T1, X1, e1, st1⟩ := initO X0 hx hZ hown (hw _ (List.mem_of_getElem? (i := 7) rfl)) (hw _ (List.mem_of_getElem? (i := 8) rfl)) (hw _ (List.mem_of_getElem? (i := 9) rfl)) eh0 (g := (mkF m 1 #[.val (.ref a0), .val (.int p1), .val (.int p2)] [(.ref a0)])) rfl (by rw [hml]; rfl) rfl (hb hby d1_1) (by decide) (W := 0) (by show 2 * 0 + _ ≤ _; exact Nat.le_of_eq rfl) (by decide)
  refine Rest.via (fun t k => st1 t k) ?_
  show Rest p.tables e below s _ _ _ (T1.setTop (mkF m 4 #[.val (.ref a0), .val (.int p1), .val (.int p2)] []))
  refine Rest.via (fun t k => XS.iloadN X1.here hx rfl (hb hby d1_4) rfl k) ?_
  show Rest p.tables e below s _ _ _ (T1.setTop (mkF m 5 #[.val (.ref a0), .val (.int p1), .val (.int p2)] [(.int p1)]))
  refine Rest.via (fun t k => XS.ifNo X1.here hx rfl (hb hby d1_5) rfl ((if0 _ _).trans (flt (hp1 : ¬ (p1 < (0 : Int32)))).1) k) ?_
  show Rest p.tables e below s _ _ _ (T1.setTop (mkF m 8 #[.val (.ref a0), .val (.int p1), .val (.int p2)] []))
  refine Rest.via (fun t k => XS.iloadN X1.here hx rfl (hb hby d1_8) rfl k) ?_
  show Rest p.tables e below s _ _ _ (T1.setTop (mkF m 9 #[.val (.ref a0), .val (.int p1), .val (.int p2)] [(.int p2)]))
  refine Rest.via (fun t k => XS.ifYes X1.here hx rfl (pc0 := 9) (pc' := 27) rfl (hb hby d1_9) rfl ((if0 _ _).trans (flt (hp2 : ¬ (p2 < (0 : Int32)))).2.1) (by decide) (by decide) k) ?_
  show Rest p.tables e below s _ _ _ (T1.setTop (mkF m 27 #[.val (.ref a0), .val (.int p1), .val (.int p2)] []))
  refine Rest.via (fun t k => XS.aloadN X1.here hx rfl (hb hby d1_27) rfl rfl k) ?_
  show Rest p.tables e below s _ _ _ (T1.setTop (mkF m 28 #[.val (.ref a0), .val (.int p1), .val (.int p2)] [(.ref a0)]))
  refine Rest.via (fun t k => XS.iloadN X1.here hx rfl (hb hby d1_28) rfl k) ?_
  show Rest p.tables e below s _ _ _ (T1.setTop (mkF m 29 #[.val (.ref a0), .val (.int p1), .val (.int p2)] [(.int p1), (.ref a0)]))
  have Fo2 := F_major
  obtain ⟨T2, h2, X2, e2, W2, st2⟩ := putF X1 hx hZ hown (host := "") (Or.inl (hw _ (List.mem_of_getElem? (i := 10) rfl))) Via.refl e1 Fo2 E_a0 (Or.inr ⟨(hw _ (List.mem_of_getElem? (i := 11) rfl)), rfl, hnm⟩) (hw _ (List.mem_of_getElem? (i := 2) rfl)) (ty := .int) (by decide) rfl rfl (g := (mkF m 29 #[.val (.ref a0), .val (.int p1), .val (.int p2)] [(.int p1), (.ref a0)])) rfl rfl (hb hby d1_29)
  refine Rest.via (fun t k => st2 t k) ?_
  have N2 := Fr.snoc X2 N0 g_a0
  have K2 : Keep h0 h2 [a0] := (Keep.refl h0 [a0]).wr W2 (Or.inl (List.mem_of_getElem? (i := 0) rfl))
  have Fw2 := Fo2.same W2
  show Rest p.tables e below s _ _ _ (T2.setTop (mkF m 32 #[.val (.ref a0), .val (.int p1), .val (.int p2)] []))
  refine Rest.via (fun t k => XS.aloadN X2.here hx rfl (hb hby d1_32) rfl rfl k) ?_
  show Rest p.tables e below s _ _ _ (T2.setTop (mkF m 33 #[.val (.ref a0), .val (.int p1), .val (.int p2)] [(.ref a0)]))
  refine Rest.via (fun t k => XS.iloadN X2.here hx rfl (hb hby d1_33) rfl k) ?_
  show Rest p.tables e below s _ _ _ (T2.setTop (mkF m 34 #[.val (.ref a0), .val (.int p1), .val (.int p2)] [(.int p2), (.ref a0)]))
  have Fo3 := (F_minor.other W2 (Or.inr (slot_ne (Or.inr (hw _ (List.mem_of_getElem? (i := 13) rfl))) (Or.inr (hw _ (List.mem_of_getElem? (i := 11) rfl))) (by decide) (t := .int) (t' := .int) (by decide) (by decide))))
  obtain ⟨T3, h3, X3, e3, W3, st3⟩ := putF X2 hx hZ hown (host := "") (Or.inl (hw _ (List.mem_of_getElem? (i := 12) rfl))) Via.refl e2 Fo3 (E_a0.wr W2) (Or.inr ⟨(hw _ (List.mem_of_getElem? (i := 13) rfl)), rfl, hnm⟩) (hw _ (List.mem_of_getElem? (i := 2) rfl)) (ty := .int) (by decide) rfl rfl (g := (mkF m 34 #[.val (.ref a0), .val (.int p1), .val (.int p2)] [(.int p2), (.ref a0)])) rfl rfl (hb hby d1_34)
  refine Rest.via (fun t k => st3 t k) ?_
  have N3 := Fr.snoc X3 N2 g_a0
  have K3 : Keep h0 h3 [a0] := K2.wr W3 (Or.inl (List.mem_of_getElem? (i := 0) rfl))
  have Fw3 := Fo3.same W3
  show Rest p.tables e below s _ _ _ (T3.setTop (mkF m 37 #[.val (.ref a0), .val (.int p1), .val (.int p2)] []))
  refine Rest.ret X3 (v := none) (fun _ => rfl) hlk (fun fs hr => X3.returnOut hx Bd.returns (hb hby d1_37) hr) ?_ (by decide) (by decide)
  rw [e3]
  exact ⟨rfl, N3, K3, (Fw2.other W3 (Or.inr (slot_ne (Or.inr (hw _ (List.mem_of_getElem? (i := 11) rfl))) (Or.inr (hw _ (List.mem_of_getElem? (i := 13) rfl))) (by decide) (t := .int) (t' := .int) (by decide) (by decide)))), Fw3⟩
theorem d3_0 : decode prog_23_method_10_code 0 = .ok (.bipush 31, 2) := by decide +kernel
theorem d3_2 : decode prog_23_method_10_code 2 = .ok (.aload_n 0, 1) := by decide +kernel
theorem d3_3 : decode prog_23_method_10_code 3 = .ok (.getfield 16, 3) := by decide +kernel
theorem d3_6 : decode prog_23_method_10_code 6 = .ok (.imul, 1) := by decide +kernel
theorem d3_7 : decode prog_23_method_10_code 7 = .ok (.aload_n 0, 1) := by decide +kernel
theorem d3_8 : decode prog_23_method_10_code 8 = .ok (.getfield 22, 3) := by decide +kernel
theorem d3_11 : decode prog_23_method_10_code 11 = .ok (.iadd, 1) := by decide +kernel
theorem d3_12 : decode prog_23_method_10_code 12 = .ok (.ireturn, 1) := by decide +kernel
theorem ef_H (m : MethodId) (a0 : Addr) : entryFrame m #[(.ref a0)] 1 = mkF m 0 #[.val (.ref a0)] [] := by first | (simp [entryFrame, mkF, argsToLocals, Value.category, maxLocals]; done) | rfl
def QH (Z : State) (a0 : Addr) (w1 : Int32) (w2 : Int32) (h0 : Heap) (n0 : Nat) (v : Option Value) (h : Heap) (L : List Loc) : Prop := v = some (.int (((31 : Int32) * w1) + w2)) ∧ Fr n0 L ∧ h = h0
set_option maxRecDepth 65536 in
set_option maxHeartbeats 40000000 in
theorem rmH (l : Launch) (Z : State) (aw : Array Value) (hw : ∀ d ∈ tables_1, d.before aw Z = true) (ws : List Jvm.Cond) (a0 : Addr) (w1 : Int32) (w2 : Int32) (h0 : Heap) (n0 : Nat) (Z0 : n0 ≤ h0.size) (F_major_a0 : Fld Z h0 a0 "com/example/rollcall/rollcall/model/spring/SpringVersion" "major" "I" (.int w1)) (F_minor_a0 : Fld Z h0 a0 "com/example/rollcall/rollcall/model/spring/SpringVersion" "minor" "I" (.int w2)) :
    MetFree l (⟨"com/example/rollcall/rollcall/model/spring/SpringVersion", "hashCode", "()I"⟩ : MethodName) (head1 (Jvm.Cond.code (⟨"com/example/rollcall/rollcall/model/spring/SpringVersion", "hashCode", "()I"⟩ : MethodName) prog_23_method_10_code 1 (some .int) :: ws) ({ frames := 0, cells := 0, slots := 0, locals := 0 } : Room)) (fun a U => a = #[(.ref a0)] ∧ Z.Warmed39 U.vm ∧ U.heap = h0) (fun _ _ _ _ _ => True) (fun _ U o U' => ∃ v L, o = .returned v ∧ QH Z a0 w1 w2 h0 n0 v U'.heap L ∧ FrameEnd U o U' L ({ frames := 0, cells := 0, slots := 0, locals := 0 } : Room).cells ({ frames := 0, cells := 0, slots := 0, locals := 0 } : Room).slots) := by
  refine MetFree.of_bodySF (plainFor_of_name pn_0) hisR ?_
  intro p e s m args below meth c s₁ Bd hml0 hP hK
  obtain ⟨rfl, hZ, hh⟩ := hP
  have hx := Bd.exec
  have hby := Bd.bytes
  have hml : c.maxLocals = 1 := hml0
  have hown : s.vm.findClass "com/example/rollcall/rollcall/model/spring/SpringVersion" = some m.cls := findClass_of_methodNamed Bd.named
  have hnm := (name_of_methodNamed Bd.named Bd.method).1
  have hlk : meth.locks = false := BodyLoose.notSynchronized Bd
  have X0 : Stand p l e ({ frames := 0, cells := 0, slots := 0, locals := 0 } : Room) s m #[(.ref a0)] below meth c s₁ [] 0 0 := Stand.of_body Bd
  have eh0 : s₁.heap = h0 := by rw [← hh, Bd.state]; rfl
  have N0 := Fr.nil n0
  show Rest p.tables e below s (QH Z a0 w1 w2 h0 n0) _ _ (s₁.setTop (entryFrame m #[(.ref a0)] 1))
  refine Rest.via (fun t k => castTop (ef_H m a0) k) ?_
  show Rest p.tables e below s _ _ _ (s₁.setTop (mkF m 0 #[.val (.ref a0)] []))
  refine Rest.via (fun t k => XS.bipush X0.here hx rfl (hb hby d3_0) k) ?_
  show Rest p.tables e below s _ _ _ (s₁.setTop (mkF m 2 #[.val (.ref a0)] [(.int (31 : Int32))]))
  refine Rest.via (fun t k => XS.aloadN X0.here hx rfl (hb hby d3_2) rfl rfl k) ?_
  show Rest p.tables e below s _ _ _ (s₁.setTop (mkF m 3 #[.val (.ref a0)] [(.ref a0), (.int (31 : Int32))]))
  obtain ⟨T1, X1, e1, st1⟩ := getF X0 hx hZ hown (host := "") (Or.inl (hw _ (List.mem_of_getElem? (i := 10) rfl))) Via.refl eh0 F_major_a0 (g := (mkF m 3 #[.val (.ref a0)] [(.ref a0), (.int (31 : Int32))])) rfl rfl (hb hby d3_3)
  refine Rest.via (fun t k => st1 t k) ?_
  show Rest p.tables e below s _ _ _ (T1.setTop (mkF m 6 #[.val (.ref a0)] [(.int w1), (.int (31 : Int32))]))
  refine Rest.via (fun t k => XS.imul X1.here hx rfl (hb hby d3_6) rfl k) ?_
  show Rest p.tables e below s _ _ _ (T1.setTop (mkF m 7 #[.val (.ref a0)] [(.int ((31 : Int32) * w1))]))
  refine Rest.via (fun t k => XS.aloadN X1.here hx rfl (hb hby d3_7) rfl rfl k) ?_
  show Rest p.tables e below s _ _ _ (T1.setTop (mkF m 8 #[.val (.ref a0)] [(.ref a0), (.int ((31 : Int32) * w1))]))
  obtain ⟨T2, X2, e2, st2⟩ := getF X1 hx hZ hown (host := "") (Or.inl (hw _ (List.mem_of_getElem? (i := 12) rfl))) Via.refl e1 F_minor_a0 (g := (mkF m 8 #[.val (.ref a0)] [(.ref a0), (.int ((31 : Int32) * w1))])) rfl rfl (hb hby d3_8)
  refine Rest.via (fun t k => st2 t k) ?_
  show Rest p.tables e below s _ _ _ (T2.setTop (mkF m 11 #[.val (.ref a0)] [(.int w2), (.int ((31 : Int32) * w1))]))
  refine Rest.via (fun t k => XS.iadd X2.here hx rfl (hb hby d3_11) rfl k) ?_
  show Rest p.tables e below s _ _ _ (T2.setTop (mkF m 12 #[.val (.ref a0)] [(.int (((31 : Int32) * w1) + w2))]))
  refine Rest.ret X2 (v := some (.int (((31 : Int32) * w1) + w2))) (fun h => by rw [Bd.returns] at h; cases h) hlk (fun fs hr => retOut X2 hx Bd.returns rfl (Or.inl ⟨rfl, Or.inl rfl, _, rfl⟩) (hb hby d3_12) hr) ?_ (by decide) (by decide)
  rw [e2]
  exact ⟨rfl, N0, rfl⟩
theorem d4_0 : decode prog_23_method_9_code 0 = .ok (.aload_n 1, 1) := by decide +kernel
theorem d4_1 : decode prog_23_method_9_code 1 = .ok (.instanceof 17, 3) := by decide +kernel
theorem d4_4 : decode prog_23_method_9_code 4 = .ok (.ifCond .eq 34, 3) := by decide +kernel
theorem d4_7 : decode prog_23_method_9_code 7 = .ok (.aload_n 1, 1) := by decide +kernel
theorem d4_8 : decode prog_23_method_9_code 8 = .ok (.checkcast 17, 3) := by decide +kernel
theorem d4_11 : decode prog_23_method_9_code 11 = .ok (.astore_n 2, 1) := by decide +kernel
theorem d4_12 : decode prog_23_method_9_code 12 = .ok (.aload_n 0, 1) := by decide +kernel
theorem d4_13 : decode prog_23_method_9_code 13 = .ok (.getfield 16, 3) := by decide +kernel
theorem d4_16 : decode prog_23_method_9_code 16 = .ok (.aload_n 2, 1) := by decide +kernel
theorem d4_17 : decode prog_23_method_9_code 17 = .ok (.getfield 16, 3) := by decide +kernel
theorem d4_20 : decode prog_23_method_9_code 20 = .ok (.if_icmp .ne 18, 3) := by decide +kernel
theorem d4_23 : decode prog_23_method_9_code 23 = .ok (.aload_n 0, 1) := by decide +kernel
theorem d4_24 : decode prog_23_method_9_code 24 = .ok (.getfield 22, 3) := by decide +kernel
theorem d4_27 : decode prog_23_method_9_code 27 = .ok (.aload_n 2, 1) := by decide +kernel
theorem d4_28 : decode prog_23_method_9_code 28 = .ok (.getfield 22, 3) := by decide +kernel
theorem d4_31 : decode prog_23_method_9_code 31 = .ok (.if_icmp .ne 7, 3) := by decide +kernel
theorem d4_34 : decode prog_23_method_9_code 34 = .ok (.iconst 1, 1) := by decide +kernel
theorem d4_35 : decode prog_23_method_9_code 35 = .ok (.goto 4, 3) := by decide +kernel
theorem d4_38 : decode prog_23_method_9_code 38 = .ok (.iconst 0, 1) := by decide +kernel
theorem d4_39 : decode prog_23_method_9_code 39 = .ok (.ireturn, 1) := by decide +kernel
theorem ef_E (m : MethodId) (a0 : Addr) (a1 : Addr) : entryFrame m #[(.ref a0), (.ref a1)] 3 = mkF m 0 #[.val (.ref a0), .val (.ref a1), .unset] [] := by first | (simp [entryFrame, mkF, argsToLocals, Value.category, maxLocals]; done) | rfl
def QE (Z : State) (a0 : Addr) (a1 : Addr) (w1 : Int32) (w2 : Int32) (u1 : Int32) (u2 : Int32) (h0 : Heap) (n0 : Nat) (v : Option Value) (h : Heap) (L : List Loc) : Prop := v = some (.int (own_eq w1 w2 u1 u2)) ∧ Fr n0 L ∧ h = h0
set_option maxRecDepth 65536 in
set_option maxHeartbeats 40000000 in
theorem rmE (l : Launch) (Z : State) (aw : Array Value) (hw : ∀ d ∈ tables_1, d.before aw Z = true) (ws : List Jvm.Cond) (a0 : Addr) (a1 : Addr) (w1 : Int32) (w2 : Int32) (u1 : Int32) (u2 : Int32) (h0 : Heap) (n0 : Nat) (Z0 : n0 ≤ h0.size) (F_major_a0 : Fld Z h0 a0 "com/example/rollcall/rollcall/model/spring/SpringVersion" "major" "I" (.int w1)) (F_minor_a0 : Fld Z h0 a0 "com/example/rollcall/rollcall/model/spring/SpringVersion" "minor" "I" (.int w2)) (E_a1 : Exa Z h0 a1 "com/example/rollcall/rollcall/model/spring/SpringVersion") (F_major_a1 : Fld Z h0 a1 "com/example/rollcall/rollcall/model/spring/SpringVersion" "major" "I" (.int u1)) (F_minor_a1 : Fld Z h0 a1 "com/example/rollcall/rollcall/model/spring/SpringVersion" "minor" "I" (.int u2)) :
    MetFree l (⟨"com/example/rollcall/rollcall/model/spring/SpringVersion", "equals", "(Ljava/lang/Object;)Z"⟩ : MethodName) (head1 (Jvm.Cond.code (⟨"com/example/rollcall/rollcall/model/spring/SpringVersion", "equals", "(Ljava/lang/Object;)Z"⟩ : MethodName) prog_23_method_9_code 3 (some .boolean) :: ws) ({ frames := 0, cells := 0, slots := 0, locals := 0 } : Room)) (fun a U => a = #[(.ref a0), (.ref a1)] ∧ Z.Warmed39 U.vm ∧ U.heap = h0) (fun _ _ _ _ _ => True) (fun _ U o U' => ∃ v L, o = .returned v ∧ QE Z a0 a1 w1 w2 u1 u2 h0 n0 v U'.heap L ∧ FrameEnd U o U' L ({ frames := 0, cells := 0, slots := 0, locals := 0 } : Room).cells ({ frames := 0, cells := 0, slots := 0, locals := 0 } : Room).slots) := by
  refine MetFree.of_bodySF (plainFor_of_name pn_0) hisR ?_
  intro p e s m args below meth c s₁ Bd hml0 hP hK
  obtain ⟨rfl, hZ, hh⟩ := hP
  have hx := Bd.exec
  have hby := Bd.bytes
  have hml : c.maxLocals = 3 := hml0
  have hown : s.vm.findClass "com/example/rollcall/rollcall/model/spring/SpringVersion" = some m.cls := findClass_of_methodNamed Bd.named
  have hnm := (name_of_methodNamed Bd.named Bd.method).1
  have hlk : meth.locks = false := BodyLoose.notSynchronized Bd
  have X0 : Stand p l e ({ frames := 0, cells := 0, slots := 0, locals := 0 } : Room) s m #[(.ref a0), (.ref a1)] below meth c s₁ [] 0 0 := Stand.of_body Bd
  have eh0 : s₁.heap = h0 := by rw [← hh, Bd.state]; rfl
  have N0 := Fr.nil n0
  show Rest p.tables e below s (QE Z a0 a1 w1 w2 u1 u2 h0 n0) _ _ (s₁.setTop (entryFrame m #[(.ref a0), (.ref a1)] 3))
  refine Rest.via (fun t k => castTop (ef_E m a0 a1) k) ?_
  show Rest p.tables e below s _ _ _ (s₁.setTop (mkF m 0 #[.val (.ref a0), .val (.ref a1), .unset] []))
  refine Rest.via (fun t k => XS.aloadN X0.here hx rfl (hb hby d4_0) rfl rfl k) ?_
  show Rest p.tables e below s _ _ _ (s₁.setTop (mkF m 1 #[.val (.ref a0), .val (.ref a1), .unset] [(.ref a1)]))
  obtain ⟨T1, X1, e1, st1⟩ := instY X0 hx hZ hown (hw _ (List.mem_of_getElem? (i := 24) rfl)) eh0 (Ins.self E_a1) (g := (mkF m 1 #[.val (.ref a0), .val (.ref a1), .unset] [(.ref a1)])) rfl rfl (hb hby d4_1)
  refine Rest.via (fun t k => st1 t k) ?_
  show Rest p.tables e below s _ _ _ (T1.setTop (mkF m 4 #[.val (.ref a0), .val (.ref a1), .unset] [(.int (1 : Int32))]))
  refine Rest.via (fun t k => XS.ifNo X1.here hx rfl (hb hby d4_4) rfl ((if0 _ _).trans (feq (by decide : ¬ ((1 : Int32) = (0 : Int32)))).1) k) ?_
  show Rest p.tables e below s _ _ _ (T1.setTop (mkF m 7 #[.val (.ref a0), .val (.ref a1), .unset] []))
  refine Rest.via (fun t k => XS.aloadN X1.here hx rfl (hb hby d4_7) rfl rfl k) ?_
  show Rest p.tables e below s _ _ _ (T1.setTop (mkF m 8 #[.val (.ref a0), .val (.ref a1), .unset] [(.ref a1)]))
  obtain ⟨T2, X2, e2, st2⟩ := castY X1 hx hZ hown (hw _ (List.mem_of_getElem? (i := 24) rfl)) e1 (Ins.self E_a1) (g := (mkF m 8 #[.val (.ref a0), .val (.ref a1), .unset] [(.ref a1)])) rfl rfl (hb hby d4_8)
  refine Rest.via (fun t k => st2 t k) ?_
  show Rest p.tables e below s _ _ _ (T2.setTop (mkF m 11 #[.val (.ref a0), .val (.ref a1), .unset] [(.ref a1)]))
  refine Rest.via (fun t k => XS.astoreN X2.here hx rfl (hb hby d4_11) rfl rfl (l' := #[.val (.ref a0), .val (.ref a1), .val (.ref a1)]) rfl k) ?_
  show Rest p.tables e below s _ _ _ (T2.setTop (mkF m 12 #[.val (.ref a0), .val (.ref a1), .val (.ref a1)] []))
  refine Rest.via (fun t k => XS.aloadN X2.here hx rfl (hb hby d4_12) rfl rfl k) ?_
  show Rest p.tables e below s _ _ _ (T2.setTop (mkF m 13 #[.val (.ref a0), .val (.ref a1), .val (.ref a1)] [(.ref a0)]))
  obtain ⟨T3, X3, e3, st3⟩ := getF X2 hx hZ hown (host := "") (Or.inl (hw _ (List.mem_of_getElem? (i := 10) rfl))) Via.refl e2 F_major_a0 (g := (mkF m 13 #[.val (.ref a0), .val (.ref a1), .val (.ref a1)] [(.ref a0)])) rfl rfl (hb hby d4_13)
  refine Rest.via (fun t k => st3 t k) ?_
  show Rest p.tables e below s _ _ _ (T3.setTop (mkF m 16 #[.val (.ref a0), .val (.ref a1), .val (.ref a1)] [(.int w1)]))
  refine Rest.via (fun t k => XS.aloadN X3.here hx rfl (hb hby d4_16) rfl rfl k) ?_
  show Rest p.tables e below s _ _ _ (T3.setTop (mkF m 17 #[.val (.ref a0), .val (.ref a1), .val (.ref a1)] [(.ref a1), (.int w1)]))
  obtain ⟨T4, X4, e4, st4⟩ := getF X3 hx hZ hown (host := "") (Or.inl (hw _ (List.mem_of_getElem? (i := 10) rfl))) Via.refl e3 F_major_a1 (g := (mkF m 17 #[.val (.ref a0), .val (.ref a1), .val (.ref a1)] [(.ref a1), (.int w1)])) rfl rfl (hb hby d4_17)
  refine Rest.via (fun t k => st4 t k) ?_
  show Rest p.tables e below s _ _ _ (T4.setTop (mkF m 20 #[.val (.ref a0), .val (.ref a1), .val (.ref a1)] [(.int u1), (.int w1)]))
  by_cases hc20 : w1 = u1
  · refine Rest.via (fun t k => XS.icmpNo X4.here hx rfl (hb hby d4_20) rfl (teq hc20).2 k) ?_
    show Rest p.tables e below s _ _ _ (T4.setTop (mkF m 23 #[.val (.ref a0), .val (.ref a1), .val (.ref a1)] []))
    refine Rest.via (fun t k => XS.aloadN X4.here hx rfl (hb hby d4_23) rfl rfl k) ?_
    show Rest p.tables e below s _ _ _ (T4.setTop (mkF m 24 #[.val (.ref a0), .val (.ref a1), .val (.ref a1)] [(.ref a0)]))
    obtain ⟨T5, X5, e5, st5⟩ := getF X4 hx hZ hown (host := "") (Or.inl (hw _ (List.mem_of_getElem? (i := 12) rfl))) Via.refl e4 F_minor_a0 (g := (mkF m 24 #[.val (.ref a0), .val (.ref a1), .val (.ref a1)] [(.ref a0)])) rfl rfl (hb hby d4_24)
    refine Rest.via (fun t k => st5 t k) ?_
    show Rest p.tables e below s _ _ _ (T5.setTop (mkF m 27 #[.val (.ref a0), .val (.ref a1), .val (.ref a1)] [(.int w2)]))
    refine Rest.via (fun t k => XS.aloadN X5.here hx rfl (hb hby d4_27) rfl rfl k) ?_
    show Rest p.tables e below s _ _ _ (T5.setTop (mkF m 28 #[.val (.ref a0), .val (.ref a1), .val (.ref a1)] [(.ref a1), (.int w2)]))
    obtain ⟨T6, X6, e6, st6⟩ := getF X5 hx hZ hown (host := "") (Or.inl (hw _ (List.mem_of_getElem? (i := 12) rfl))) Via.refl e5 F_minor_a1 (g := (mkF m 28 #[.val (.ref a0), .val (.ref a1), .val (.ref a1)] [(.ref a1), (.int w2)])) rfl rfl (hb hby d4_28)
    refine Rest.via (fun t k => st6 t k) ?_
    show Rest p.tables e below s _ _ _ (T6.setTop (mkF m 31 #[.val (.ref a0), .val (.ref a1), .val (.ref a1)] [(.int u2), (.int w2)]))
    by_cases hc31 : w2 = u2
    · refine Rest.via (fun t k => XS.icmpNo X6.here hx rfl (hb hby d4_31) rfl (teq hc31).2 k) ?_
      show Rest p.tables e below s _ _ _ (T6.setTop (mkF m 34 #[.val (.ref a0), .val (.ref a1), .val (.ref a1)] []))
      refine Rest.via (fun t k => XS.iconst X6.here hx rfl (hb hby d4_34) k) ?_
      show Rest p.tables e below s _ _ _ (T6.setTop (mkF m 35 #[.val (.ref a0), .val (.ref a1), .val (.ref a1)] [(.int (1 : Int32))]))
      refine Rest.via (fun t k => XS.goto X6.here hx rfl (pc0 := 35) (pc' := 39) rfl (hb hby d4_35) (by decide) (by decide) k) ?_
      show Rest p.tables e below s _ _ _ (T6.setTop (mkF m 39 #[.val (.ref a0), .val (.ref a1), .val (.ref a1)] [(.int (1 : Int32))]))
      refine Rest.ret X6 (v := some (.int (nar .boolean (1 : Int32)))) (fun h => by rw [Bd.returns] at h; cases h) hlk (fun fs hr => retN X6 hx (t := .boolean) Bd.returns (by simp) (hb hby d4_39) hr) ?_ (by decide) (by decide)
      rw [e6]
      exact ⟨by show some (Value.int (1 : Int32)) = _; rw [own_eq, if_pos hc20, if_pos hc31], N0, rfl⟩
    · refine Rest.via (fun t k => XS.icmpYes X6.here hx rfl (pc0 := 31) (pc' := 38) rfl (hb hby d4_31) rfl (feq hc31).2 (by decide) (by decide) k) ?_
      show Rest p.tables e below s _ _ _ (T6.setTop (mkF m 38 #[.val (.ref a0), .val (.ref a1), .val (.ref a1)] []))
      refine Rest.via (fun t k => XS.iconst X6.here hx rfl (hb hby d4_38) k) ?_
      show Rest p.tables e below s _ _ _ (T6.setTop (mkF m 39 #[.val (.ref a0), .val (.ref a1), .val (.ref a1)] [(.int (0 : Int32))]))
      refine Rest.ret X6 (v := some (.int (nar .boolean (0 : Int32)))) (fun h => by rw [Bd.returns] at h; cases h) hlk (fun fs hr => retN X6 hx (t := .boolean) Bd.returns (by simp) (hb hby d4_39) hr) ?_ (by decide) (by decide)
      rw [e6]
      exact ⟨by show some (Value.int (0 : Int32)) = _; rw [own_eq, if_pos hc20, if_neg hc31], N0, rfl⟩
  · refine Rest.via (fun t k => XS.icmpYes X4.here hx rfl (pc0 := 20) (pc' := 38) rfl (hb hby d4_20) rfl (feq hc20).2 (by decide) (by decide) k) ?_
    show Rest p.tables e below s _ _ _ (T4.setTop (mkF m 38 #[.val (.ref a0), .val (.ref a1), .val (.ref a1)] []))
    refine Rest.via (fun t k => XS.iconst X4.here hx rfl (hb hby d4_38) k) ?_
    show Rest p.tables e below s _ _ _ (T4.setTop (mkF m 39 #[.val (.ref a0), .val (.ref a1), .val (.ref a1)] [(.int (0 : Int32))]))
    refine Rest.ret X4 (v := some (.int (nar .boolean (0 : Int32)))) (fun h => by rw [Bd.returns] at h; cases h) hlk (fun fs hr => retN X4 hx (t := .boolean) Bd.returns (by simp) (hb hby d4_39) hr) ?_ (by decide) (by decide)
    rw [e4]
    exact ⟨by show some (Value.int (0 : Int32)) = _; rw [own_eq, if_neg hc20], N0, rfl⟩
theorem pd_0 : parseMethodDescriptor "(II)V" = some ⟨[.int, .int], none⟩ := by decide +kernel
theorem pd_1 : parseMethodDescriptor "()I" = some ⟨[], some .int⟩ := by decide +kernel
theorem pd_2 : parseMethodDescriptor "(Ljava/lang/Object;)Z" = some ⟨[(.object "java/lang/Object")], some .boolean⟩ := by decide +kernel
theorem pn_1 : plainName "com/example/rollcall/rollcall/model/spring/SpringVersionHashCodePinLaw" = true := by first | (simp [plainName, overriddenIn]; done) | decide +kernel
theorem ef_0 (m : MethodId) (p0 : Int32) (p1 : Int32) (p2 : Int32) (p3 : Int32) (p4 : Int32) : entryFrame m #[(.int p0), (.int p1), (.int p2), (.int p3), (.int p4)] maxLocals = mkF m 0 #[.val (.int p0), .val (.int p1), .val (.int p2), .val (.int p3), .val (.int p4), .unset, .unset, .unset, .unset, .unset, .unset, .unset, .unset, .unset, .unset, .unset] [] := by first | (simp [entryFrame, mkF, argsToLocals, Value.category, maxLocals]; done) | rfl
def Q0 (Z : State) (p0 : Int32) (p1 : Int32) (p2 : Int32) (p3 : Int32) (p4 : Int32) (h0 : Heap) (n0 : Nat) (v : Option Value) (h : Heap) (L : List Loc) : Prop := v = some (.int 1) ∧ Fr n0 L
set_option maxRecDepth 65536 in
set_option maxHeartbeats 40000000 in
theorem rm0 (l : Launch) (Z : State) (aw : Array Value) (hw : ∀ d ∈ tables_1, d.before aw Z = true) (ws : List Jvm.Cond) (p0 : Int32) (p1 : Int32) (p2 : Int32) (p3 : Int32) (p4 : Int32) (h0 : Heap) (n0 : Nat) (Z0 : n0 ≤ h0.size)  :
    MetFree l x (head1 (Jvm.Cond.code x code maxLocals ret :: ws) room_1) (fun a U => a = #[(.int p0), (.int p1), (.int p2), (.int p3), (.int p4)] ∧ Z.Warmed39 U.vm ∧ U.heap = h0) (fun _ _ _ _ _ => True) (fun _ U o U' => ∃ v L, o = .returned v ∧ Q0 Z p0 p1 p2 p3 p4 h0 n0 v U'.heap L ∧ FrameEnd U o U' L 3 6) := by
  refine MetFree.of_bodySF (plainFor_of_name pn_1) hisR ?_
  intro p e s m args below meth c s₁ Bd hml0 hP hK
  obtain ⟨rfl, hZ, hh⟩ := hP
  have hx := Bd.exec
  have hby := Bd.bytes
  have hml : c.maxLocals = 16 := hml0
  have hown : s.vm.findClass "com/example/rollcall/rollcall/model/spring/SpringVersionHashCodePinLaw" = some m.cls := findClass_of_methodNamed Bd.named
  have hnm := (name_of_methodNamed Bd.named Bd.method).1
  have hlk : meth.locks = false := BodyLoose.notSynchronized Bd
  have X0 : Stand p l e room_1 s m #[(.int p0), (.int p1), (.int p2), (.int p3), (.int p4)] below meth c s₁ [] 0 0 := Stand.of_body Bd
  have eh0 : s₁.heap = h0 := by rw [← hh, Bd.state]; rfl
  have N0 := Fr.nil n0
  show Rest p.tables e below s (Q0 Z p0 p1 p2 p3 p4 h0 n0) _ _ (s₁.setTop (entryFrame m #[(.int p0), (.int p1), (.int p2), (.int p3), (.int p4)] maxLocals))
  refine Rest.via (fun t k => castTop (ef_0 m p0 p1 p2 p3 p4) k) ?_
  show Rest p.tables e below s _ _ _ (s₁.setTop (mkF m 0 #[.val (.int p0), .val (.int p1), .val (.int p2), .val (.int p3), .val (.int p4), .unset, .unset, .unset, .unset, .unset, .unset, .unset, .unset, .unset, .unset, .unset] []))
  refine Rest.via (fun t k => XS.iloadN X0.here hx rfl (hb hby at_0) rfl k) ?_
  show Rest p.tables e below s _ _ _ (s₁.setTop (mkF m 1 #[.val (.int p0), .val (.int p1), .val (.int p2), .val (.int p3), .val (.int p4), .unset, .unset, .unset, .unset, .unset, .unset, .unset, .unset, .unset, .unset, .unset] [(.int p0)]))
  refine Rest.via (fun t k => X0.ldcInt hx hown (mvT hZ (hw _ (List.mem_of_getElem? (i := 0) rfl))) (g := (mkF m 1 #[.val (.int p0), .val (.int p1), .val (.int p2), .val (.int p3), .val (.int p4), .unset, .unset, .unset, .unset, .unset, .unset, .unset, .unset, .unset, .unset, .unset] [(.int p0)])) rfl (hb hby at_1) t k) ?_
  show Rest p.tables e below s _ _ _ (s₁.setTop (mkF m 3 #[.val (.int p0), .val (.int p1), .val (.int p2), .val (.int p3), .val (.int p4), .unset, .unset, .unset, .unset, .unset, .unset, .unset, .unset, .unset, .unset, .unset] [(.int (2147483647 : Int32)), (.int p0)]))
  refine Rest.via (fun t k => XS.iand X0.here hx rfl (hb hby at_3) rfl k) ?_
  show Rest p.tables e below s _ _ _ (s₁.setTop (mkF m 4 #[.val (.int p0), .val (.int p1), .val (.int p2), .val (.int p3), .val (.int p4), .unset, .unset, .unset, .unset, .unset, .unset, .unset, .unset, .unset, .unset, .unset] [(.int (p0 &&& (2147483647 : Int32)))]))
  refine Rest.via (fun t k => XS.istore X0.here hx rfl (hb hby at_4) rfl (l' := #[.val (.int p0), .val (.int p1), .val (.int p2), .val (.int p3), .val (.int p4), .val (.int (p0 &&& (2147483647 : Int32))), .unset, .unset, .unset, .unset, .unset, .unset, .unset, .unset, .unset, .unset]) rfl k) ?_
  show Rest p.tables e below s _ _ _ (s₁.setTop (mkF m 6 #[.val (.int p0), .val (.int p1), .val (.int p2), .val (.int p3), .val (.int p4), .val (.int (p0 &&& (2147483647 : Int32))), .unset, .unset, .unset, .unset, .unset, .unset, .unset, .unset, .unset, .unset] []))
  obtain ⟨ma, hv_ma⟩ : ∃ z : Int32, z = (p0 &&& (2147483647 : Int32)) := ⟨_, rfl⟩
  rw [← hv_ma]
  show Rest p.tables e below s _ _ _ (s₁.setTop (mkF m 6 #[.val (.int p0), .val (.int p1), .val (.int p2), .val (.int p3), .val (.int p4), .val (.int ma), .unset, .unset, .unset, .unset, .unset, .unset, .unset, .unset, .unset, .unset] []))
  refine Rest.via (fun t k => XS.iloadN X0.here hx rfl (hb hby at_6) rfl k) ?_
  show Rest p.tables e below s _ _ _ (s₁.setTop (mkF m 7 #[.val (.int p0), .val (.int p1), .val (.int p2), .val (.int p3), .val (.int p4), .val (.int ma), .unset, .unset, .unset, .unset, .unset, .unset, .unset, .unset, .unset, .unset] [(.int p1)]))
  refine Rest.via (fun t k => X0.ldcInt hx hown (mvT hZ (hw _ (List.mem_of_getElem? (i := 0) rfl))) (g := (mkF m 7 #[.val (.int p0), .val (.int p1), .val (.int p2), .val (.int p3), .val (.int p4), .val (.int ma), .unset, .unset, .unset, .unset, .unset, .unset, .unset, .unset, .unset, .unset] [(.int p1)])) rfl (hb hby at_7) t k) ?_
  show Rest p.tables e below s _ _ _ (s₁.setTop (mkF m 9 #[.val (.int p0), .val (.int p1), .val (.int p2), .val (.int p3), .val (.int p4), .val (.int ma), .unset, .unset, .unset, .unset, .unset, .unset, .unset, .unset, .unset, .unset] [(.int (2147483647 : Int32)), (.int p1)]))
  refine Rest.via (fun t k => XS.iand X0.here hx rfl (hb hby at_9) rfl k) ?_
  show Rest p.tables e below s _ _ _ (s₁.setTop (mkF m 10 #[.val (.int p0), .val (.int p1), .val (.int p2), .val (.int p3), .val (.int p4), .val (.int ma), .unset, .unset, .unset, .unset, .unset, .unset, .unset, .unset, .unset, .unset] [(.int (p1 &&& (2147483647 : Int32)))]))
  refine Rest.via (fun t k => XS.istore X0.here hx rfl (hb hby at_10) rfl (l' := #[.val (.int p0), .val (.int p1), .val (.int p2), .val (.int p3), .val (.int p4), .val (.int ma), .val (.int (p1 &&& (2147483647 : Int32))), .unset, .unset, .unset, .unset, .unset, .unset, .unset, .unset, .unset]) rfl k) ?_
  show Rest p.tables e below s _ _ _ (s₁.setTop (mkF m 12 #[.val (.int p0), .val (.int p1), .val (.int p2), .val (.int p3), .val (.int p4), .val (.int ma), .val (.int (p1 &&& (2147483647 : Int32))), .unset, .unset, .unset, .unset, .unset, .unset, .unset, .unset, .unset] []))
  obtain ⟨mb, hv_mb⟩ : ∃ z : Int32, z = (p1 &&& (2147483647 : Int32)) := ⟨_, rfl⟩
  rw [← hv_mb]
  show Rest p.tables e below s _ _ _ (s₁.setTop (mkF m 12 #[.val (.int p0), .val (.int p1), .val (.int p2), .val (.int p3), .val (.int p4), .val (.int ma), .val (.int mb), .unset, .unset, .unset, .unset, .unset, .unset, .unset, .unset, .unset] []))
  have hma : ¬ (ma < (0 : Int32)) := by rw [hv_ma]; exact own_nn _
  have hmb : ¬ (mb < (0 : Int32)) := by rw [hv_mb]; exact own_nn _
  have J48 : ∀ (mc : Int32), ∀ (md : Int32), (¬ (mc < (0 : Int32))) → (¬ (md < (0 : Int32))) → Rest p.tables e below s (Q0 Z p0 p1 p2 p3 p4 h0 n0) 3 6 (s₁.setTop (mkF m 48 #[.val (.int p0), .val (.int p1), .val (.int p2), .val (.int p3), .val (.int p4), .val (.int ma), .val (.int mb), .val (.int mc), .val (.int md), .unset, .unset, .unset, .unset, .unset, .unset, .unset] [])) := by
    intro mc md hmc hmd
    show Rest p.tables e below s _ _ _ (s₁.setTop (mkF m 48 #[.val (.int p0), .val (.int p1), .val (.int p2), .val (.int p3), .val (.int p4), .val (.int ma), .val (.int mb), .val (.int mc), .val (.int md), .unset, .unset, .unset, .unset, .unset, .unset, .unset] []))
    obtain ⟨T1, h1, X1, e1, E1, A1, D1, -, st1⟩ := newO X0 hx hZ hown (hw _ (List.mem_of_getElem? (i := 1) rfl)) (hw _ (List.mem_of_getElem? (i := 2) rfl)) (hw _ (List.mem_of_getElem? (i := 3) rfl)) eh0 (g := (mkF m 48 #[.val (.int p0), .val (.int p1), .val (.int p2), .val (.int p3), .val (.int p4), .val (.int ma), .val (.int mb), .val (.int mc), .val (.int md), .unset, .unset, .unset, .unset, .unset, .unset, .unset] [])) rfl (hb hby at_48) (by decide) (by decide)
    obtain ⟨b1, gq1⟩ : ∃ z, z = h0.size := ⟨_, rfl⟩
    rw [← gq1] at A1 D1 st1
    have sz_b1 : h0.size ≤ b1 := Nat.le_trans (Keep.refl h0 []).1 (Nat.le_of_eq gq1.symm)
    have g_b1 : n0 ≤ b1 := Nat.le_trans Z0 sz_b1
    have K1 : Keep h0 h1 [] := (Keep.refl h0 []).ext E1
    have E_b1 := A1
    have F_major_b1 : Fld Z h1 b1 "com/example/rollcall/rollcall/model/spring/SpringVersion" "major" "I" (.int (0 : Int32)) := D1 (Or.inr (hw _ (List.mem_of_getElem? (i := 11) rfl))) (ty := .int) (by decide)
    have F_minor_b1 : Fld Z h1 b1 "com/example/rollcall/rollcall/model/spring/SpringVersion" "minor" "I" (.int (0 : Int32)) := D1 (Or.inr (hw _ (List.mem_of_getElem? (i := 13) rfl))) (ty := .int) (by decide)
    refine Rest.via (fun t k => st1 t k) ?_
    show Rest p.tables e below s _ _ _ (T1.setTop (mkF m 51 #[.val (.int p0), .val (.int p1), .val (.int p2), .val (.int p3), .val (.int p4), .val (.int ma), .val (.int mb), .val (.int mc), .val (.int md), .unset, .unset, .unset, .unset, .unset, .unset, .unset] [(.ref b1)]))
    refine Rest.via (fun t k => XS.dup X1.here hx rfl (hb hby at_51) rfl rfl k) ?_
    show Rest p.tables e below s _ _ _ (T1.setTop (mkF m 52 #[.val (.int p0), .val (.int p1), .val (.int p2), .val (.int p3), .val (.int p4), .val (.int ma), .val (.int mb), .val (.int mc), .val (.int md), .unset, .unset, .unset, .unset, .unset, .unset, .unset] [(.ref b1), (.ref b1)]))
    refine Rest.via (fun t k => XS.iload X1.here hx rfl (hb hby at_52) rfl k) ?_
    show Rest p.tables e below s _ _ _ (T1.setTop (mkF m 54 #[.val (.int p0), .val (.int p1), .val (.int p2), .val (.int p3), .val (.int p4), .val (.int ma), .val (.int mb), .val (.int mc), .val (.int md), .unset, .unset, .unset, .unset, .unset, .unset, .unset] [(.int ma), (.ref b1), (.ref b1)]))
    refine Rest.via (fun t k => XS.iload X1.here hx rfl (hb hby at_54) rfl k) ?_
    show Rest p.tables e below s _ _ _ (T1.setTop (mkF m 56 #[.val (.int p0), .val (.int p1), .val (.int p2), .val (.int p3), .val (.int p4), .val (.int ma), .val (.int mb), .val (.int mc), .val (.int md), .unset, .unset, .unset, .unset, .unset, .unset, .unset] [(.int mb), (.int ma), (.ref b1), (.ref b1)]))
    obtain ⟨_, _, ⟨T2, L2, k2, n2⟩, -, X2, ⟨Lc2, hQ2, l2, y2, z2⟩, st2⟩ := X1.specialBack hx (y := (⟨"com/example/rollcall/rollcall/model/spring/SpringVersion", "<init>", "(II)V"⟩ : MethodName)) rfl hown (mvT hZ (hw _ (List.mem_of_getElem? (i := 4) rfl))) (mvT hZ (hw _ (List.mem_of_getElem? (i := 5) rfl))) (mvT hZ (hw _ (List.mem_of_getElem? (i := 6) rfl))) (by decide) (backOf (W := 1) (rmI l Z aw hw [] b1 ma mb  h1 n0 (Nat.le_trans Z0 K1.1) E_b1 F_major_b1 F_minor_b1 g_b1 hma hmb) hZ (hw _ (List.mem_of_getElem? (i := 6) rfl)) (hw _ (List.mem_of_getElem? (i := 3) rfl)) (by decide) (by decide)) (g := (mkF m 56 #[.val (.int p0), .val (.int p1), .val (.int p2), .val (.int p3), .val (.int p4), .val (.int ma), .val (.int mb), .val (.int mc), .val (.int md), .unset, .unset, .unset, .unset, .unset, .unset, .unset] [(.int mb), (.int ma), (.ref b1), (.ref b1)])) rfl (by rw [hml]; rfl) (Steps.refl _) (a := b1) (argsL := [(.int ma), (.int mb)]) (rest := [(.ref b1)]) (lenOf pd_0 rfl) rfl (by show 2 * 0 + _ ≤ _; exact Nat.le_of_eq rfl) (hb hby at_56) (fun _ _ => ⟨rfl, e1, (by decide : 1 + 0 ≤ _), (by decide : 2 + 0 ≤ _)⟩)
    dsimp only [Pt.U, Pt.locs, Pt.cells, Pt.slots] at X2 l2 y2 z2 st2 hQ2
    subst l2 y2 z2
    obtain ⟨h2, e2⟩ : ∃ z, T2.heap = z := ⟨_, rfl⟩
    rw [e2] at hQ2
    obtain ⟨rfl, Nq2, Kq2, Fa2, Fb2⟩ := hQ2
    have N2 := Fr.app N0 Nq2
    have K2 : Keep h0 h2 [] := K1.trans Kq2 (allS (Or.inr sz_b1) all0)
    refine Rest.via (fun t k => st2.trans k) ?_
    show Rest p.tables e below s _ _ _ (T2.setTop (mkF m 59 #[.val (.int p0), .val (.int p1), .val (.int p2), .val (.int p3), .val (.int p4), .val (.int ma), .val (.int mb), .val (.int mc), .val (.int md), .unset, .unset, .unset, .unset, .unset, .unset, .unset] [(.ref b1)]))
    refine Rest.via (fun t k => XS.astore X2.here hx rfl (hb hby at_59) rfl rfl (l' := #[.val (.int p0), .val (.int p1), .val (.int p2), .val (.int p3), .val (.int p4), .val (.int ma), .val (.int mb), .val (.int mc), .val (.int md), .val (.ref b1), .unset, .unset, .unset, .unset, .unset, .unset]) rfl k) ?_
    show Rest p.tables e below s _ _ _ (T2.setTop (mkF m 61 #[.val (.int p0), .val (.int p1), .val (.int p2), .val (.int p3), .val (.int p4), .val (.int ma), .val (.int mb), .val (.int mc), .val (.int md), .val (.ref b1), .unset, .unset, .unset, .unset, .unset, .unset] []))
    obtain ⟨T3, h3, X3, e3, E3, A3, D3, -, st3⟩ := newO X2 hx hZ hown (hw _ (List.mem_of_getElem? (i := 1) rfl)) (hw _ (List.mem_of_getElem? (i := 2) rfl)) (hw _ (List.mem_of_getElem? (i := 3) rfl)) e2 (g := (mkF m 61 #[.val (.int p0), .val (.int p1), .val (.int p2), .val (.int p3), .val (.int p4), .val (.int ma), .val (.int mb), .val (.int mc), .val (.int md), .val (.ref b1), .unset, .unset, .unset, .unset, .unset, .unset] [])) rfl (hb hby at_61) (by decide) (by decide)
    obtain ⟨b3, gq3⟩ : ∃ z, z = h2.size := ⟨_, rfl⟩
    rw [← gq3] at A3 D3 st3
    have sz_b3 : h0.size ≤ b3 := Nat.le_trans K2.1 (Nat.le_of_eq gq3.symm)
    have g_b3 : n0 ≤ b3 := Nat.le_trans Z0 sz_b3
    have ne_b1_b3 : b1 ≠ b3 := Nat.ne_of_lt (Nat.lt_of_lt_of_le (E_b1.keep Kq2).lt (Nat.le_of_eq gq3.symm))
    have K3 : Keep h0 h3 [] := K2.ext E3
    have E_b3 := A3
    have F_major_b3 : Fld Z h3 b3 "com/example/rollcall/rollcall/model/spring/SpringVersion" "major" "I" (.int (0 : Int32)) := D3 (Or.inr (hw _ (List.mem_of_getElem? (i := 11) rfl))) (ty := .int) (by decide)
    have F_minor_b3 : Fld Z h3 b3 "com/example/rollcall/rollcall/model/spring/SpringVersion" "minor" "I" (.int (0 : Int32)) := D3 (Or.inr (hw _ (List.mem_of_getElem? (i := 13) rfl))) (ty := .int) (by decide)
    refine Rest.via (fun t k => st3 t k) ?_
    show Rest p.tables e below s _ _ _ (T3.setTop (mkF m 64 #[.val (.int p0), .val (.int p1), .val (.int p2), .val (.int p3), .val (.int p4), .val (.int ma), .val (.int mb), .val (.int mc), .val (.int md), .val (.ref b1), .unset, .unset, .unset, .unset, .unset, .unset] [(.ref b3)]))
    refine Rest.via (fun t k => XS.dup X3.here hx rfl (hb hby at_64) rfl rfl k) ?_
    show Rest p.tables e below s _ _ _ (T3.setTop (mkF m 65 #[.val (.int p0), .val (.int p1), .val (.int p2), .val (.int p3), .val (.int p4), .val (.int ma), .val (.int mb), .val (.int mc), .val (.int md), .val (.ref b1), .unset, .unset, .unset, .unset, .unset, .unset] [(.ref b3), (.ref b3)]))
    refine Rest.via (fun t k => XS.iload X3.here hx rfl (hb hby at_65) rfl k) ?_
    show Rest p.tables e below s _ _ _ (T3.setTop (mkF m 67 #[.val (.int p0), .val (.int p1), .val (.int p2), .val (.int p3), .val (.int p4), .val (.int ma), .val (.int mb), .val (.int mc), .val (.int md), .val (.ref b1), .unset, .unset, .unset, .unset, .unset, .unset] [(.int ma), (.ref b3), (.ref b3)]))
    refine Rest.via (fun t k => XS.iload X3.here hx rfl (hb hby at_67) rfl k) ?_
    show Rest p.tables e below s _ _ _ (T3.setTop (mkF m 69 #[.val (.int p0), .val (.int p1), .val (.int p2), .val (.int p3), .val (.int p4), .val (.int ma), .val (.int mb), .val (.int mc), .val (.int md), .val (.ref b1), .unset, .unset, .unset, .unset, .unset, .unset] [(.int mb), (.int ma), (.ref b3), (.ref b3)]))
    obtain ⟨_, _, ⟨T4, L4, k4, n4⟩, -, X4, ⟨Lc4, hQ4, l4, y4, z4⟩, st4⟩ := X3.specialBack hx (y := (⟨"com/example/rollcall/rollcall/model/spring/SpringVersion", "<init>", "(II)V"⟩ : MethodName)) rfl hown (mvT hZ (hw _ (List.mem_of_getElem? (i := 4) rfl))) (mvT hZ (hw _ (List.mem_of_getElem? (i := 5) rfl))) (mvT hZ (hw _ (List.mem_of_getElem? (i := 6) rfl))) (by decide) (backOf (W := 1) (rmI l Z aw hw [] b3 ma mb  h3 n0 (Nat.le_trans Z0 K3.1) E_b3 F_major_b3 F_minor_b3 g_b3 hma hmb) hZ (hw _ (List.mem_of_getElem? (i := 6) rfl)) (hw _ (List.mem_of_getElem? (i := 3) rfl)) (by decide) (by decide)) (g := (mkF m 69 #[.val (.int p0), .val (.int p1), .val (.int p2), .val (.int p3), .val (.int p4), .val (.int ma), .val (.int mb), .val (.int mc), .val (.int md), .val (.ref b1), .unset, .unset, .unset, .unset, .unset, .unset] [(.int mb), (.int ma), (.ref b3), (.ref b3)])) rfl (by rw [hml]; rfl) (Steps.refl _) (a := b3) (argsL := [(.int ma), (.int mb)]) (rest := [(.ref b3)]) (lenOf pd_0 rfl) rfl (by show 2 * 0 + _ ≤ _; exact Nat.le_of_eq rfl) (hb hby at_69) (fun _ _ => ⟨rfl, e3, (by decide : 2 + 0 ≤ _), (by decide : 4 + 0 ≤ _)⟩)
    dsimp only [Pt.U, Pt.locs, Pt.cells, Pt.slots] at X4 l4 y4 z4 st4 hQ4
    subst l4 y4 z4
    obtain ⟨h4, e4⟩ : ∃ z, T4.heap = z := ⟨_, rfl⟩
    rw [e4] at hQ4
    obtain ⟨rfl, Nq4, Kq4, Fa4, Fb4⟩ := hQ4
    have N4 := Fr.app N2 Nq4
    have K4 : Keep h0 h4 [] := K3.trans Kq4 (allS (Or.inr sz_b3) all0)
    refine Rest.via (fun t k => st4.trans k) ?_
    show Rest p.tables e below s _ _ _ (T4.setTop (mkF m 72 #[.val (.int p0), .val (.int p1), .val (.int p2), .val (.int p3), .val (.int p4), .val (.int ma), .val (.int mb), .val (.int mc), .val (.int md), .val (.ref b1), .unset, .unset, .unset, .unset, .unset, .unset] [(.ref b3)]))
    refine Rest.via (fun t k => XS.astore X4.here hx rfl (hb hby at_72) rfl rfl (l' := #[.val (.int p0), .val (.int p1), .val (.int p2), .val (.int p3), .val (.int p4), .val (.int ma), .val (.int mb), .val (.int mc), .val (.int md), .val (.ref b1), .val (.ref b3), .unset, .unset, .unset, .unset, .unset]) rfl k) ?_
    show Rest p.tables e below s _ _ _ (T4.setTop (mkF m 74 #[.val (.int p0), .val (.int p1), .val (.int p2), .val (.int p3), .val (.int p4), .val (.int ma), .val (.int mb), .val (.int mc), .val (.int md), .val (.ref b1), .val (.ref b3), .unset, .unset, .unset, .unset, .unset] []))
    obtain ⟨T5, h5, X5, e5, E5, A5, D5, -, st5⟩ := newO X4 hx hZ hown (hw _ (List.mem_of_getElem? (i := 1) rfl)) (hw _ (List.mem_of_getElem? (i := 2) rfl)) (hw _ (List.mem_of_getElem? (i := 3) rfl)) e4 (g := (mkF m 74 #[.val (.int p0), .val (.int p1), .val (.int p2), .val (.int p3), .val (.int p4), .val (.int ma), .val (.int mb), .val (.int mc), .val (.int md), .val (.ref b1), .val (.ref b3), .unset, .unset, .unset, .unset, .unset] [])) rfl (hb hby at_74) (by decide) (by decide)
    obtain ⟨b5, gq5⟩ : ∃ z, z = h4.size := ⟨_, rfl⟩
    rw [← gq5] at A5 D5 st5
    have sz_b5 : h0.size ≤ b5 := Nat.le_trans K4.1 (Nat.le_of_eq gq5.symm)
    have g_b5 : n0 ≤ b5 := Nat.le_trans Z0 sz_b5
    have ne_b1_b5 : b1 ≠ b5 := Nat.ne_of_lt (Nat.lt_of_lt_of_le (((E_b1.keep Kq2).ext E3).keep Kq4).lt (Nat.le_of_eq gq5.symm))
    have ne_b3_b5 : b3 ≠ b5 := Nat.ne_of_lt (Nat.lt_of_lt_of_le (E_b3.keep Kq4).lt (Nat.le_of_eq gq5.symm))
    have K5 : Keep h0 h5 [] := K4.ext E5
    have E_b5 := A5
    have F_major_b5 : Fld Z h5 b5 "com/example/rollcall/rollcall/model/spring/SpringVersion" "major" "I" (.int (0 : Int32)) := D5 (Or.inr (hw _ (List.mem_of_getElem? (i := 11) rfl))) (ty := .int) (by decide)
    have F_minor_b5 : Fld Z h5 b5 "com/example/rollcall/rollcall/model/spring/SpringVersion" "minor" "I" (.int (0 : Int32)) := D5 (Or.inr (hw _ (List.mem_of_getElem? (i := 13) rfl))) (ty := .int) (by decide)
    refine Rest.via (fun t k => st5 t k) ?_
    show Rest p.tables e below s _ _ _ (T5.setTop (mkF m 77 #[.val (.int p0), .val (.int p1), .val (.int p2), .val (.int p3), .val (.int p4), .val (.int ma), .val (.int mb), .val (.int mc), .val (.int md), .val (.ref b1), .val (.ref b3), .unset, .unset, .unset, .unset, .unset] [(.ref b5)]))
    refine Rest.via (fun t k => XS.dup X5.here hx rfl (hb hby at_77) rfl rfl k) ?_
    show Rest p.tables e below s _ _ _ (T5.setTop (mkF m 78 #[.val (.int p0), .val (.int p1), .val (.int p2), .val (.int p3), .val (.int p4), .val (.int ma), .val (.int mb), .val (.int mc), .val (.int md), .val (.ref b1), .val (.ref b3), .unset, .unset, .unset, .unset, .unset] [(.ref b5), (.ref b5)]))
    refine Rest.via (fun t k => XS.iload X5.here hx rfl (hb hby at_78) rfl k) ?_
    show Rest p.tables e below s _ _ _ (T5.setTop (mkF m 80 #[.val (.int p0), .val (.int p1), .val (.int p2), .val (.int p3), .val (.int p4), .val (.int ma), .val (.int mb), .val (.int mc), .val (.int md), .val (.ref b1), .val (.ref b3), .unset, .unset, .unset, .unset, .unset] [(.int mc), (.ref b5), (.ref b5)]))
    refine Rest.via (fun t k => XS.iload X5.here hx rfl (hb hby at_80) rfl k) ?_
    show Rest p.tables e below s _ _ _ (T5.setTop (mkF m 82 #[.val (.int p0), .val (.int p1), .val (.int p2), .val (.int p3), .val (.int p4), .val (.int ma), .val (.int mb), .val (.int mc), .val (.int md), .val (.ref b1), .val (.ref b3), .unset, .unset, .unset, .unset, .unset] [(.int md), (.int mc), (.ref b5), (.ref b5)]))
    obtain ⟨_, _, ⟨T6, L6, k6, n6⟩, -, X6, ⟨Lc6, hQ6, l6, y6, z6⟩, st6⟩ := X5.specialBack hx (y := (⟨"com/example/rollcall/rollcall/model/spring/SpringVersion", "<init>", "(II)V"⟩ : MethodName)) rfl hown (mvT hZ (hw _ (List.mem_of_getElem? (i := 4) rfl))) (mvT hZ (hw _ (List.mem_of_getElem? (i := 5) rfl))) (mvT hZ (hw _ (List.mem_of_getElem? (i := 6) rfl))) (by decide) (backOf (W := 1) (rmI l Z aw hw [] b5 mc md  h5 n0 (Nat.le_trans Z0 K5.1) E_b5 F_major_b5 F_minor_b5 g_b5 hmc hmd) hZ (hw _ (List.mem_of_getElem? (i := 6) rfl)) (hw _ (List.mem_of_getElem? (i := 3) rfl)) (by decide) (by decide)) (g := (mkF m 82 #[.val (.int p0), .val (.int p1), .val (.int p2), .val (.int p3), .val (.int p4), .val (.int ma), .val (.int mb), .val (.int mc), .val (.int md), .val (.ref b1), .val (.ref b3), .unset, .unset, .unset, .unset, .unset] [(.int md), (.int mc), (.ref b5), (.ref b5)])) rfl (by rw [hml]; rfl) (Steps.refl _) (a := b5) (argsL := [(.int mc), (.int md)]) (rest := [(.ref b5)]) (lenOf pd_0 rfl) rfl (by show 2 * 0 + _ ≤ _; exact Nat.le_of_eq rfl) (hb hby at_82) (fun _ _ => ⟨rfl, e5, (by decide : 3 + 0 ≤ _), (by decide : 6 + 0 ≤ _)⟩)
    dsimp only [Pt.U, Pt.locs, Pt.cells, Pt.slots] at X6 l6 y6 z6 st6 hQ6
    subst l6 y6 z6
    obtain ⟨h6, e6⟩ : ∃ z, T6.heap = z := ⟨_, rfl⟩
    rw [e6] at hQ6
    obtain ⟨rfl, Nq6, Kq6, Fa6, Fb6⟩ := hQ6
    have N6 := Fr.app N4 Nq6
    have K6 : Keep h0 h6 [] := K5.trans Kq6 (allS (Or.inr sz_b5) all0)
    refine Rest.via (fun t k => st6.trans k) ?_
    show Rest p.tables e below s _ _ _ (T6.setTop (mkF m 85 #[.val (.int p0), .val (.int p1), .val (.int p2), .val (.int p3), .val (.int p4), .val (.int ma), .val (.int mb), .val (.int mc), .val (.int md), .val (.ref b1), .val (.ref b3), .unset, .unset, .unset, .unset, .unset] [(.ref b5)]))
    refine Rest.via (fun t k => XS.astore X6.here hx rfl (hb hby at_85) rfl rfl (l' := #[.val (.int p0), .val (.int p1), .val (.int p2), .val (.int p3), .val (.int p4), .val (.int ma), .val (.int mb), .val (.int mc), .val (.int md), .val (.ref b1), .val (.ref b3), .val (.ref b5), .unset, .unset, .unset, .unset]) rfl k) ?_
    show Rest p.tables e below s _ _ _ (T6.setTop (mkF m 87 #[.val (.int p0), .val (.int p1), .val (.int p2), .val (.int p3), .val (.int p4), .val (.int ma), .val (.int mb), .val (.int mc), .val (.int md), .val (.ref b1), .val (.ref b3), .val (.ref b5), .unset, .unset, .unset, .unset] []))
    refine Rest.via (fun t k => XS.aload X6.here hx rfl (hb hby at_87) rfl rfl k) ?_
    show Rest p.tables e below s _ _ _ (T6.setTop (mkF m 89 #[.val (.int p0), .val (.int p1), .val (.int p2), .val (.int p3), .val (.int p4), .val (.int ma), .val (.int mb), .val (.int mc), .val (.int md), .val (.ref b1), .val (.ref b3), .val (.ref b5), .unset, .unset, .unset, .unset] [(.ref b1)]))
    obtain ⟨cq7, kq7, q7a, q7b, q7c⟩ := isOf hZ e6 (((((E_b1.keep Kq2).ext E3).keep Kq4).ext E5).keep Kq6)
    obtain ⟨_, _, ⟨T7, L7, k7, n7⟩, -, X7, ⟨Lc7, hQ7, l7, y7, z7⟩, st7⟩ := X6.virtualBack hx (y := (⟨"com/example/rollcall/rollcall/model/spring/SpringVersion", "hashCode", "()I"⟩ : MethodName)) (z := (⟨"com/example/rollcall/rollcall/model/spring/SpringVersion", "hashCode", "()I"⟩ : MethodName)) hown (mvT hZ (hw _ (List.mem_of_getElem? (i := 14) rfl))) (mvT hZ (hw _ (List.mem_of_getElem? (i := 15) rfl))) (notFace_of_selects (args := #[]) (mvT hZ (hw _ (List.mem_of_getElem? (i := 17) rfl)))) (mvT hZ (hw _ (List.mem_of_getElem? (i := 17) rfl))) (mvT hZ (hw _ (List.mem_of_getElem? (i := 16) rfl))) (by decide) (backOf (W := 0) (rmH l Z aw hw [] b1 ma mb h6 n0 (Nat.le_trans Z0 K6.1) ((((Fa2.ext E3).keep Kq4 (ninS ne_b1_b3 nin0)).ext E5).keep Kq6 (ninS ne_b1_b5 nin0)) ((((Fb2.ext E3).keep Kq4 (ninS ne_b1_b3 nin0)).ext E5).keep Kq6 (ninS ne_b1_b5 nin0))) hZ (hw _ (List.mem_of_getElem? (i := 18) rfl)) (hw _ (List.mem_of_getElem? (i := 3) rfl)) (by decide) (by decide)) q7a q7c (g := (mkF m 89 #[.val (.int p0), .val (.int p1), .val (.int p2), .val (.int p3), .val (.int p4), .val (.int ma), .val (.int mb), .val (.int mc), .val (.int md), .val (.ref b1), .val (.ref b3), .val (.ref b5), .unset, .unset, .unset, .unset] [(.ref b1)])) rfl (by rw [hml]; rfl) (Steps.refl _) (argsL := []) (rest := []) (lenOf pd_1 rfl) rfl (by show 2 * 0 + _ ≤ _; exact Nat.le_of_eq rfl) (hb hby at_89) (fun _ _ => ⟨rfl, e6, (by decide : 3 + 0 ≤ _), (by decide : 6 + 0 ≤ _)⟩)
    dsimp only [Pt.U, Pt.locs, Pt.cells, Pt.slots] at X7 l7 y7 z7 st7 hQ7
    subst l7 y7 z7
    obtain ⟨rfl, Nq7, e7⟩ := hQ7
    have N7 := Fr.app N6 Nq7
    refine Rest.via (fun t k => st7.trans k) ?_
    show Rest p.tables e below s _ _ _ (T7.setTop (mkF m 92 #[.val (.int p0), .val (.int p1), .val (.int p2), .val (.int p3), .val (.int p4), .val (.int ma), .val (.int mb), .val (.int mc), .val (.int md), .val (.ref b1), .val (.ref b3), .val (.ref b5), .unset, .unset, .unset, .unset] [(.int (((31 : Int32) * ma) + mb))]))
    refine Rest.via (fun t k => XS.istore X7.here hx rfl (hb hby at_92) rfl (l' := #[.val (.int p0), .val (.int p1), .val (.int p2), .val (.int p3), .val (.int p4), .val (.int ma), .val (.int mb), .val (.int mc), .val (.int md), .val (.ref b1), .val (.ref b3), .val (.ref b5), .val (.int (((31 : Int32) * ma) + mb)), .unset, .unset, .unset]) rfl k) ?_
    show Rest p.tables e below s _ _ _ (T7.setTop (mkF m 94 #[.val (.int p0), .val (.int p1), .val (.int p2), .val (.int p3), .val (.int p4), .val (.int ma), .val (.int mb), .val (.int mc), .val (.int md), .val (.ref b1), .val (.ref b3), .val (.ref b5), .val (.int (((31 : Int32) * ma) + mb)), .unset, .unset, .unset] []))
    refine Rest.via (fun t k => XS.aload X7.here hx rfl (hb hby at_94) rfl rfl k) ?_
    show Rest p.tables e below s _ _ _ (T7.setTop (mkF m 96 #[.val (.int p0), .val (.int p1), .val (.int p2), .val (.int p3), .val (.int p4), .val (.int ma), .val (.int mb), .val (.int mc), .val (.int md), .val (.ref b1), .val (.ref b3), .val (.ref b5), .val (.int (((31 : Int32) * ma) + mb)), .unset, .unset, .unset] [(.ref b1)]))
    obtain ⟨cq8, kq8, q8a, q8b, q8c⟩ := isOf hZ e7 (((((E_b1.keep Kq2).ext E3).keep Kq4).ext E5).keep Kq6)
    obtain ⟨_, _, ⟨T8, L8, k8, n8⟩, -, X8, ⟨Lc8, hQ8, l8, y8, z8⟩, st8⟩ := X7.virtualBack hx (y := (⟨"com/example/rollcall/rollcall/model/spring/SpringVersion", "hashCode", "()I"⟩ : MethodName)) (z := (⟨"com/example/rollcall/rollcall/model/spring/SpringVersion", "hashCode", "()I"⟩ : MethodName)) hown (mvT hZ (hw _ (List.mem_of_getElem? (i := 14) rfl))) (mvT hZ (hw _ (List.mem_of_getElem? (i := 15) rfl))) (notFace_of_selects (args := #[]) (mvT hZ (hw _ (List.mem_of_getElem? (i := 17) rfl)))) (mvT hZ (hw _ (List.mem_of_getElem? (i := 17) rfl))) (mvT hZ (hw _ (List.mem_of_getElem? (i := 16) rfl))) (by decide) (backOf (W := 0) (rmH l Z aw hw [] b1 ma mb h6 n0 (Nat.le_trans Z0 K6.1) ((((Fa2.ext E3).keep Kq4 (ninS ne_b1_b3 nin0)).ext E5).keep Kq6 (ninS ne_b1_b5 nin0)) ((((Fb2.ext E3).keep Kq4 (ninS ne_b1_b3 nin0)).ext E5).keep Kq6 (ninS ne_b1_b5 nin0))) hZ (hw _ (List.mem_of_getElem? (i := 18) rfl)) (hw _ (List.mem_of_getElem? (i := 3) rfl)) (by decide) (by decide)) q8a q8c (g := (mkF m 96 #[.val (.int p0), .val (.int p1), .val (.int p2), .val (.int p3), .val (.int p4), .val (.int ma), .val (.int mb), .val (.int mc), .val (.int md), .val (.ref b1), .val (.ref b3), .val (.ref b5), .val (.int (((31 : Int32) * ma) + mb)), .unset, .unset, .unset] [(.ref b1)])) rfl (by rw [hml]; rfl) (Steps.refl _) (argsL := []) (rest := []) (lenOf pd_1 rfl) rfl (by show 2 * 0 + _ ≤ _; exact Nat.le_of_eq rfl) (hb hby at_96) (fun _ _ => ⟨rfl, e7, (by decide : 3 + 0 ≤ _), (by decide : 6 + 0 ≤ _)⟩)
    dsimp only [Pt.U, Pt.locs, Pt.cells, Pt.slots] at X8 l8 y8 z8 st8 hQ8
    subst l8 y8 z8
    obtain ⟨rfl, Nq8, e8⟩ := hQ8
    have N8 := Fr.app N7 Nq8
    refine Rest.via (fun t k => st8.trans k) ?_
    show Rest p.tables e below s _ _ _ (T8.setTop (mkF m 99 #[.val (.int p0), .val (.int p1), .val (.int p2), .val (.int p3), .val (.int p4), .val (.int ma), .val (.int mb), .val (.int mc), .val (.int md), .val (.ref b1), .val (.ref b3), .val (.ref b5), .val (.int (((31 : Int32) * ma) + mb)), .unset, .unset, .unset] [(.int (((31 : Int32) * ma) + mb))]))
    refine Rest.via (fun t k => XS.istore X8.here hx rfl (hb hby at_99) rfl (l' := #[.val (.int p0), .val (.int p1), .val (.int p2), .val (.int p3), .val (.int p4), .val (.int ma), .val (.int mb), .val (.int mc), .val (.int md), .val (.ref b1), .val (.ref b3), .val (.ref b5), .val (.int (((31 : Int32) * ma) + mb)), .val (.int (((31 : Int32) * ma) + mb)), .unset, .unset]) rfl k) ?_
    show Rest p.tables e below s _ _ _ (T8.setTop (mkF m 101 #[.val (.int p0), .val (.int p1), .val (.int p2), .val (.int p3), .val (.int p4), .val (.int ma), .val (.int mb), .val (.int mc), .val (.int md), .val (.ref b1), .val (.ref b3), .val (.ref b5), .val (.int (((31 : Int32) * ma) + mb)), .val (.int (((31 : Int32) * ma) + mb)), .unset, .unset] []))
    refine Rest.via (fun t k => XS.aload X8.here hx rfl (hb hby at_101) rfl rfl k) ?_
    show Rest p.tables e below s _ _ _ (T8.setTop (mkF m 103 #[.val (.int p0), .val (.int p1), .val (.int p2), .val (.int p3), .val (.int p4), .val (.int ma), .val (.int mb), .val (.int mc), .val (.int md), .val (.ref b1), .val (.ref b3), .val (.ref b5), .val (.int (((31 : Int32) * ma) + mb)), .val (.int (((31 : Int32) * ma) + mb)), .unset, .unset] [(.ref b3)]))
    obtain ⟨cq9, kq9, q9a, q9b, q9c⟩ := isOf hZ e8 (((E_b3.keep Kq4).ext E5).keep Kq6)
    obtain ⟨_, _, ⟨T9, L9, k9, n9⟩, -, X9, ⟨Lc9, hQ9, l9, y9, z9⟩, st9⟩ := X8.virtualBack hx (y := (⟨"com/example/rollcall/rollcall/model/spring/SpringVersion", "hashCode", "()I"⟩ : MethodName)) (z := (⟨"com/example/rollcall/rollcall/model/spring/SpringVersion", "hashCode", "()I"⟩ : MethodName)) hown (mvT hZ (hw _ (List.mem_of_getElem? (i := 14) rfl))) (mvT hZ (hw _ (List.mem_of_getElem? (i := 15) rfl))) (notFace_of_selects (args := #[]) (mvT hZ (hw _ (List.mem_of_getElem? (i := 17) rfl)))) (mvT hZ (hw _ (List.mem_of_getElem? (i := 17) rfl))) (mvT hZ (hw _ (List.mem_of_getElem? (i := 16) rfl))) (by decide) (backOf (W := 0) (rmH l Z aw hw [] b3 ma mb h6 n0 (Nat.le_trans Z0 K6.1) ((Fa4.ext E5).keep Kq6 (ninS ne_b3_b5 nin0)) ((Fb4.ext E5).keep Kq6 (ninS ne_b3_b5 nin0))) hZ (hw _ (List.mem_of_getElem? (i := 18) rfl)) (hw _ (List.mem_of_getElem? (i := 3) rfl)) (by decide) (by decide)) q9a q9c (g := (mkF m 103 #[.val (.int p0), .val (.int p1), .val (.int p2), .val (.int p3), .val (.int p4), .val (.int ma), .val (.int mb), .val (.int mc), .val (.int md), .val (.ref b1), .val (.ref b3), .val (.ref b5), .val (.int (((31 : Int32) * ma) + mb)), .val (.int (((31 : Int32) * ma) + mb)), .unset, .unset] [(.ref b3)])) rfl (by rw [hml]; rfl) (Steps.refl _) (argsL := []) (rest := []) (lenOf pd_1 rfl) rfl (by show 2 * 0 + _ ≤ _; exact Nat.le_of_eq rfl) (hb hby at_103) (fun _ _ => ⟨rfl, e8, (by decide : 3 + 0 ≤ _), (by decide : 6 + 0 ≤ _)⟩)
    dsimp only [Pt.U, Pt.locs, Pt.cells, Pt.slots] at X9 l9 y9 z9 st9 hQ9
    subst l9 y9 z9
    obtain ⟨rfl, Nq9, e9⟩ := hQ9
    have N9 := Fr.app N8 Nq9
    refine Rest.via (fun t k => st9.trans k) ?_
    show Rest p.tables e below s _ _ _ (T9.setTop (mkF m 106 #[.val (.int p0), .val (.int p1), .val (.int p2), .val (.int p3), .val (.int p4), .val (.int ma), .val (.int mb), .val (.int mc), .val (.int md), .val (.ref b1), .val (.ref b3), .val (.ref b5), .val (.int (((31 : Int32) * ma) + mb)), .val (.int (((31 : Int32) * ma) + mb)), .unset, .unset] [(.int (((31 : Int32) * ma) + mb))]))
    refine Rest.via (fun t k => XS.istore X9.here hx rfl (hb hby at_106) rfl (l' := #[.val (.int p0), .val (.int p1), .val (.int p2), .val (.int p3), .val (.int p4), .val (.int ma), .val (.int mb), .val (.int mc), .val (.int md), .val (.ref b1), .val (.ref b3), .val (.ref b5), .val (.int (((31 : Int32) * ma) + mb)), .val (.int (((31 : Int32) * ma) + mb)), .val (.int (((31 : Int32) * ma) + mb)), .unset]) rfl k) ?_
    show Rest p.tables e below s _ _ _ (T9.setTop (mkF m 108 #[.val (.int p0), .val (.int p1), .val (.int p2), .val (.int p3), .val (.int p4), .val (.int ma), .val (.int mb), .val (.int mc), .val (.int md), .val (.ref b1), .val (.ref b3), .val (.ref b5), .val (.int (((31 : Int32) * ma) + mb)), .val (.int (((31 : Int32) * ma) + mb)), .val (.int (((31 : Int32) * ma) + mb)), .unset] []))
    refine Rest.via (fun t k => XS.aload X9.here hx rfl (hb hby at_108) rfl rfl k) ?_
    show Rest p.tables e below s _ _ _ (T9.setTop (mkF m 110 #[.val (.int p0), .val (.int p1), .val (.int p2), .val (.int p3), .val (.int p4), .val (.int ma), .val (.int mb), .val (.int mc), .val (.int md), .val (.ref b1), .val (.ref b3), .val (.ref b5), .val (.int (((31 : Int32) * ma) + mb)), .val (.int (((31 : Int32) * ma) + mb)), .val (.int (((31 : Int32) * ma) + mb)), .unset] [(.ref b5)]))
    obtain ⟨cq10, kq10, q10a, q10b, q10c⟩ := isOf hZ e9 (E_b5.keep Kq6)
    obtain ⟨_, _, ⟨T10, L10, k10, n10⟩, -, X10, ⟨Lc10, hQ10, l10, y10, z10⟩, st10⟩ := X9.virtualBack hx (y := (⟨"com/example/rollcall/rollcall/model/spring/SpringVersion", "hashCode", "()I"⟩ : MethodName)) (z := (⟨"com/example/rollcall/rollcall/model/spring/SpringVersion", "hashCode", "()I"⟩ : MethodName)) hown (mvT hZ (hw _ (List.mem_of_getElem? (i := 14) rfl))) (mvT hZ (hw _ (List.mem_of_getElem? (i := 15) rfl))) (notFace_of_selects (args := #[]) (mvT hZ (hw _ (List.mem_of_getElem? (i := 17) rfl)))) (mvT hZ (hw _ (List.mem_of_getElem? (i := 17) rfl))) (mvT hZ (hw _ (List.mem_of_getElem? (i := 16) rfl))) (by decide) (backOf (W := 0) (rmH l Z aw hw [] b5 mc md h6 n0 (Nat.le_trans Z0 K6.1) Fa6 Fb6) hZ (hw _ (List.mem_of_getElem? (i := 18) rfl)) (hw _ (List.mem_of_getElem? (i := 3) rfl)) (by decide) (by decide)) q10a q10c (g := (mkF m 110 #[.val (.int p0), .val (.int p1), .val (.int p2), .val (.int p3), .val (.int p4), .val (.int ma), .val (.int mb), .val (.int mc), .val (.int md), .val (.ref b1), .val (.ref b3), .val (.ref b5), .val (.int (((31 : Int32) * ma) + mb)), .val (.int (((31 : Int32) * ma) + mb)), .val (.int (((31 : Int32) * ma) + mb)), .unset] [(.ref b5)])) rfl (by rw [hml]; rfl) (Steps.refl _) (argsL := []) (rest := []) (lenOf pd_1 rfl) rfl (by show 2 * 0 + _ ≤ _; exact Nat.le_of_eq rfl) (hb hby at_110) (fun _ _ => ⟨rfl, e9, (by decide : 3 + 0 ≤ _), (by decide : 6 + 0 ≤ _)⟩)
    dsimp only [Pt.U, Pt.locs, Pt.cells, Pt.slots] at X10 l10 y10 z10 st10 hQ10
    subst l10 y10 z10
    obtain ⟨rfl, Nq10, e10⟩ := hQ10
    have N10 := Fr.app N9 Nq10
    refine Rest.via (fun t k => st10.trans k) ?_
    show Rest p.tables e below s _ _ _ (T10.setTop (mkF m 113 #[.val (.int p0), .val (.int p1), .val (.int p2), .val (.int p3), .val (.int p4), .val (.int ma), .val (.int mb), .val (.int mc), .val (.int md), .val (.ref b1), .val (.ref b3), .val (.ref b5), .val (.int (((31 : Int32) * ma) + mb)), .val (.int (((31 : Int32) * ma) + mb)), .val (.int (((31 : Int32) * ma) + mb)), .unset] [(.int (((31 : Int32) * mc) + md))]))
    refine Rest.via (fun t k => XS.istore X10.here hx rfl (hb hby at_113) rfl (l' := #[.val (.int p0), .val (.int p1), .val (.int p2), .val (.int p3), .val (.int p4), .val (.int ma), .val (.int mb), .val (.int mc), .val (.int md), .val (.ref b1), .val (.ref b3), .val (.ref b5), .val (.int (((31 : Int32) * ma) + mb)), .val (.int (((31 : Int32) * ma) + mb)), .val (.int (((31 : Int32) * ma) + mb)), .val (.int (((31 : Int32) * mc) + md))]) rfl k) ?_
    show Rest p.tables e below s _ _ _ (T10.setTop (mkF m 115 #[.val (.int p0), .val (.int p1), .val (.int p2), .val (.int p3), .val (.int p4), .val (.int ma), .val (.int mb), .val (.int mc), .val (.int md), .val (.ref b1), .val (.ref b3), .val (.ref b5), .val (.int (((31 : Int32) * ma) + mb)), .val (.int (((31 : Int32) * ma) + mb)), .val (.int (((31 : Int32) * ma) + mb)), .val (.int (((31 : Int32) * mc) + md))] []))
    refine Rest.via (fun t k => XS.iload X10.here hx rfl (hb hby at_115) rfl k) ?_
    show Rest p.tables e below s _ _ _ (T10.setTop (mkF m 117 #[.val (.int p0), .val (.int p1), .val (.int p2), .val (.int p3), .val (.int p4), .val (.int ma), .val (.int mb), .val (.int mc), .val (.int md), .val (.ref b1), .val (.ref b3), .val (.ref b5), .val (.int (((31 : Int32) * ma) + mb)), .val (.int (((31 : Int32) * ma) + mb)), .val (.int (((31 : Int32) * ma) + mb)), .val (.int (((31 : Int32) * mc) + md))] [(.int (((31 : Int32) * ma) + mb))]))
    refine Rest.via (fun t k => XS.iload X10.here hx rfl (hb hby at_117) rfl k) ?_
    show Rest p.tables e below s _ _ _ (T10.setTop (mkF m 119 #[.val (.int p0), .val (.int p1), .val (.int p2), .val (.int p3), .val (.int p4), .val (.int ma), .val (.int mb), .val (.int mc), .val (.int md), .val (.ref b1), .val (.ref b3), .val (.ref b5), .val (.int (((31 : Int32) * ma) + mb)), .val (.int (((31 : Int32) * ma) + mb)), .val (.int (((31 : Int32) * ma) + mb)), .val (.int (((31 : Int32) * mc) + md))] [(.int (((31 : Int32) * ma) + mb)), (.int (((31 : Int32) * ma) + mb))]))
    refine Rest.via (fun t k => XS.icmpYes X10.here hx rfl (pc0 := 119) (pc' := 124) rfl (hb hby at_119) rfl (teq (rfl : (((31 : Int32) * ma) + mb) = (((31 : Int32) * ma) + mb))).1 (by decide) (by decide) k) ?_
    show Rest p.tables e below s _ _ _ (T10.setTop (mkF m 124 #[.val (.int p0), .val (.int p1), .val (.int p2), .val (.int p3), .val (.int p4), .val (.int ma), .val (.int mb), .val (.int mc), .val (.int md), .val (.ref b1), .val (.ref b3), .val (.ref b5), .val (.int (((31 : Int32) * ma) + mb)), .val (.int (((31 : Int32) * ma) + mb)), .val (.int (((31 : Int32) * ma) + mb)), .val (.int (((31 : Int32) * mc) + md))] []))
    refine Rest.via (fun t k => XS.aload X10.here hx rfl (hb hby at_124) rfl rfl k) ?_
    show Rest p.tables e below s _ _ _ (T10.setTop (mkF m 126 #[.val (.int p0), .val (.int p1), .val (.int p2), .val (.int p3), .val (.int p4), .val (.int ma), .val (.int mb), .val (.int mc), .val (.int md), .val (.ref b1), .val (.ref b3), .val (.ref b5), .val (.int (((31 : Int32) * ma) + mb)), .val (.int (((31 : Int32) * ma) + mb)), .val (.int (((31 : Int32) * ma) + mb)), .val (.int (((31 : Int32) * mc) + md))] [(.ref b1)]))
    refine Rest.via (fun t k => XS.aload X10.here hx rfl (hb hby at_126) rfl rfl k) ?_
    show Rest p.tables e below s _ _ _ (T10.setTop (mkF m 128 #[.val (.int p0), .val (.int p1), .val (.int p2), .val (.int p3), .val (.int p4), .val (.int ma), .val (.int mb), .val (.int mc), .val (.int md), .val (.ref b1), .val (.ref b3), .val (.ref b5), .val (.int (((31 : Int32) * ma) + mb)), .val (.int (((31 : Int32) * ma) + mb)), .val (.int (((31 : Int32) * ma) + mb)), .val (.int (((31 : Int32) * mc) + md))] [(.ref b3), (.ref b1)]))
    obtain ⟨cq11, kq11, q11a, q11b, q11c⟩ := isOf hZ e10 (((((E_b1.keep Kq2).ext E3).keep Kq4).ext E5).keep Kq6)
    obtain ⟨_, _, ⟨T11, L11, k11, n11⟩, -, X11, ⟨Lc11, hQ11, l11, y11, z11⟩, st11⟩ := X10.virtualBack hx (y := (⟨"com/example/rollcall/rollcall/model/spring/SpringVersion", "equals", "(Ljava/lang/Object;)Z"⟩ : MethodName)) (z := (⟨"com/example/rollcall/rollcall/model/spring/SpringVersion", "equals", "(Ljava/lang/Object;)Z"⟩ : MethodName)) hown (mvT hZ (hw _ (List.mem_of_getElem? (i := 19) rfl))) (mvT hZ (hw _ (List.mem_of_getElem? (i := 20) rfl))) (notFace_of_selects (args := #[]) (mvT hZ (hw _ (List.mem_of_getElem? (i := 22) rfl)))) (mvT hZ (hw _ (List.mem_of_getElem? (i := 22) rfl))) (mvT hZ (hw _ (List.mem_of_getElem? (i := 21) rfl))) (by decide) (backOf (W := 0) (rmE l Z aw hw [] b1 b3 ma mb ma mb h6 n0 (Nat.le_trans Z0 K6.1) ((((Fa2.ext E3).keep Kq4 (ninS ne_b1_b3 nin0)).ext E5).keep Kq6 (ninS ne_b1_b5 nin0)) ((((Fb2.ext E3).keep Kq4 (ninS ne_b1_b3 nin0)).ext E5).keep Kq6 (ninS ne_b1_b5 nin0)) (((E_b3.keep Kq4).ext E5).keep Kq6) ((Fa4.ext E5).keep Kq6 (ninS ne_b3_b5 nin0)) ((Fb4.ext E5).keep Kq6 (ninS ne_b3_b5 nin0))) hZ (hw _ (List.mem_of_getElem? (i := 23) rfl)) (hw _ (List.mem_of_getElem? (i := 3) rfl)) (by decide) (by decide)) q11a q11c (g := (mkF m 128 #[.val (.int p0), .val (.int p1), .val (.int p2), .val (.int p3), .val (.int p4), .val (.int ma), .val (.int mb), .val (.int mc), .val (.int md), .val (.ref b1), .val (.ref b3), .val (.ref b5), .val (.int (((31 : Int32) * ma) + mb)), .val (.int (((31 : Int32) * ma) + mb)), .val (.int (((31 : Int32) * ma) + mb)), .val (.int (((31 : Int32) * mc) + md))] [(.ref b3), (.ref b1)])) rfl (by rw [hml]; rfl) (Steps.refl _) (argsL := [(.ref b3)]) (rest := []) (lenOf pd_2 rfl) rfl (by show 2 * 0 + _ ≤ _; exact Nat.le_of_eq rfl) (hb hby at_128) (fun _ _ => ⟨rfl, e10, (by decide : 3 + 0 ≤ _), (by decide : 6 + 0 ≤ _)⟩)
    dsimp only [Pt.U, Pt.locs, Pt.cells, Pt.slots] at X11 l11 y11 z11 st11 hQ11
    subst l11 y11 z11
    obtain ⟨rfl, Nq11, e11⟩ := hQ11
    have N11 := Fr.app N10 Nq11
    refine Rest.via (fun t k => st11.trans k) ?_
    show Rest p.tables e below s _ _ _ (T11.setTop (mkF m 131 #[.val (.int p0), .val (.int p1), .val (.int p2), .val (.int p3), .val (.int p4), .val (.int ma), .val (.int mb), .val (.int mc), .val (.int md), .val (.ref b1), .val (.ref b3), .val (.ref b5), .val (.int (((31 : Int32) * ma) + mb)), .val (.int (((31 : Int32) * ma) + mb)), .val (.int (((31 : Int32) * ma) + mb)), .val (.int (((31 : Int32) * mc) + md))] [(.int (own_eq ma mb ma mb))]))
    refine Rest.via (fun t k => XS.ifNo X11.here hx rfl (hb hby at_131) rfl ((if0 _ _).trans (feq (own_eq_self _ _ : ¬ ((own_eq ma mb ma mb) = (0 : Int32)))).1) k) ?_
    show Rest p.tables e below s _ _ _ (T11.setTop (mkF m 134 #[.val (.int p0), .val (.int p1), .val (.int p2), .val (.int p3), .val (.int p4), .val (.int ma), .val (.int mb), .val (.int mc), .val (.int md), .val (.ref b1), .val (.ref b3), .val (.ref b5), .val (.int (((31 : Int32) * ma) + mb)), .val (.int (((31 : Int32) * ma) + mb)), .val (.int (((31 : Int32) * ma) + mb)), .val (.int (((31 : Int32) * mc) + md))] []))
    refine Rest.via (fun t k => XS.iload X11.here hx rfl (hb hby at_134) rfl k) ?_
    show Rest p.tables e below s _ _ _ (T11.setTop (mkF m 136 #[.val (.int p0), .val (.int p1), .val (.int p2), .val (.int p3), .val (.int p4), .val (.int ma), .val (.int mb), .val (.int mc), .val (.int md), .val (.ref b1), .val (.ref b3), .val (.ref b5), .val (.int (((31 : Int32) * ma) + mb)), .val (.int (((31 : Int32) * ma) + mb)), .val (.int (((31 : Int32) * ma) + mb)), .val (.int (((31 : Int32) * mc) + md))] [(.int (((31 : Int32) * ma) + mb))]))
    refine Rest.via (fun t k => XS.iload X11.here hx rfl (hb hby at_136) rfl k) ?_
    show Rest p.tables e below s _ _ _ (T11.setTop (mkF m 138 #[.val (.int p0), .val (.int p1), .val (.int p2), .val (.int p3), .val (.int p4), .val (.int ma), .val (.int mb), .val (.int mc), .val (.int md), .val (.ref b1), .val (.ref b3), .val (.ref b5), .val (.int (((31 : Int32) * ma) + mb)), .val (.int (((31 : Int32) * ma) + mb)), .val (.int (((31 : Int32) * ma) + mb)), .val (.int (((31 : Int32) * mc) + md))] [(.int (((31 : Int32) * ma) + mb)), (.int (((31 : Int32) * ma) + mb))]))
    refine Rest.via (fun t k => XS.icmpYes X11.here hx rfl (pc0 := 138) (pc' := 143) rfl (hb hby at_138) rfl (teq (rfl : (((31 : Int32) * ma) + mb) = (((31 : Int32) * ma) + mb))).1 (by decide) (by decide) k) ?_
    show Rest p.tables e below s _ _ _ (T11.setTop (mkF m 143 #[.val (.int p0), .val (.int p1), .val (.int p2), .val (.int p3), .val (.int p4), .val (.int ma), .val (.int mb), .val (.int mc), .val (.int md), .val (.ref b1), .val (.ref b3), .val (.ref b5), .val (.int (((31 : Int32) * ma) + mb)), .val (.int (((31 : Int32) * ma) + mb)), .val (.int (((31 : Int32) * ma) + mb)), .val (.int (((31 : Int32) * mc) + md))] []))
    refine Rest.via (fun t k => XS.aload X11.here hx rfl (hb hby at_143) rfl rfl k) ?_
    show Rest p.tables e below s _ _ _ (T11.setTop (mkF m 145 #[.val (.int p0), .val (.int p1), .val (.int p2), .val (.int p3), .val (.int p4), .val (.int ma), .val (.int mb), .val (.int mc), .val (.int md), .val (.ref b1), .val (.ref b3), .val (.ref b5), .val (.int (((31 : Int32) * ma) + mb)), .val (.int (((31 : Int32) * ma) + mb)), .val (.int (((31 : Int32) * ma) + mb)), .val (.int (((31 : Int32) * mc) + md))] [(.ref b1)]))
    refine Rest.via (fun t k => XS.aload X11.here hx rfl (hb hby at_145) rfl rfl k) ?_
    show Rest p.tables e below s _ _ _ (T11.setTop (mkF m 147 #[.val (.int p0), .val (.int p1), .val (.int p2), .val (.int p3), .val (.int p4), .val (.int ma), .val (.int mb), .val (.int mc), .val (.int md), .val (.ref b1), .val (.ref b3), .val (.ref b5), .val (.int (((31 : Int32) * ma) + mb)), .val (.int (((31 : Int32) * ma) + mb)), .val (.int (((31 : Int32) * ma) + mb)), .val (.int (((31 : Int32) * mc) + md))] [(.ref b5), (.ref b1)]))
    obtain ⟨cq12, kq12, q12a, q12b, q12c⟩ := isOf hZ e11 (((((E_b1.keep Kq2).ext E3).keep Kq4).ext E5).keep Kq6)
    obtain ⟨_, _, ⟨T12, L12, k12, n12⟩, -, X12, ⟨Lc12, hQ12, l12, y12, z12⟩, st12⟩ := X11.virtualBack hx (y := (⟨"com/example/rollcall/rollcall/model/spring/SpringVersion", "equals", "(Ljava/lang/Object;)Z"⟩ : MethodName)) (z := (⟨"com/example/rollcall/rollcall/model/spring/SpringVersion", "equals", "(Ljava/lang/Object;)Z"⟩ : MethodName)) hown (mvT hZ (hw _ (List.mem_of_getElem? (i := 19) rfl))) (mvT hZ (hw _ (List.mem_of_getElem? (i := 20) rfl))) (notFace_of_selects (args := #[]) (mvT hZ (hw _ (List.mem_of_getElem? (i := 22) rfl)))) (mvT hZ (hw _ (List.mem_of_getElem? (i := 22) rfl))) (mvT hZ (hw _ (List.mem_of_getElem? (i := 21) rfl))) (by decide) (backOf (W := 0) (rmE l Z aw hw [] b1 b5 ma mb mc md h6 n0 (Nat.le_trans Z0 K6.1) ((((Fa2.ext E3).keep Kq4 (ninS ne_b1_b3 nin0)).ext E5).keep Kq6 (ninS ne_b1_b5 nin0)) ((((Fb2.ext E3).keep Kq4 (ninS ne_b1_b3 nin0)).ext E5).keep Kq6 (ninS ne_b1_b5 nin0)) (E_b5.keep Kq6) Fa6 Fb6) hZ (hw _ (List.mem_of_getElem? (i := 23) rfl)) (hw _ (List.mem_of_getElem? (i := 3) rfl)) (by decide) (by decide)) q12a q12c (g := (mkF m 147 #[.val (.int p0), .val (.int p1), .val (.int p2), .val (.int p3), .val (.int p4), .val (.int ma), .val (.int mb), .val (.int mc), .val (.int md), .val (.ref b1), .val (.ref b3), .val (.ref b5), .val (.int (((31 : Int32) * ma) + mb)), .val (.int (((31 : Int32) * ma) + mb)), .val (.int (((31 : Int32) * ma) + mb)), .val (.int (((31 : Int32) * mc) + md))] [(.ref b5), (.ref b1)])) rfl (by rw [hml]; rfl) (Steps.refl _) (argsL := [(.ref b5)]) (rest := []) (lenOf pd_2 rfl) rfl (by show 2 * 0 + _ ≤ _; exact Nat.le_of_eq rfl) (hb hby at_147) (fun _ _ => ⟨rfl, e11, (by decide : 3 + 0 ≤ _), (by decide : 6 + 0 ≤ _)⟩)
    dsimp only [Pt.U, Pt.locs, Pt.cells, Pt.slots] at X12 l12 y12 z12 st12 hQ12
    subst l12 y12 z12
    obtain ⟨rfl, Nq12, e12⟩ := hQ12
    have N12 := Fr.app N11 Nq12
    refine Rest.via (fun t k => st12.trans k) ?_
    show Rest p.tables e below s _ _ _ (T12.setTop (mkF m 150 #[.val (.int p0), .val (.int p1), .val (.int p2), .val (.int p3), .val (.int p4), .val (.int ma), .val (.int mb), .val (.int mc), .val (.int md), .val (.ref b1), .val (.ref b3), .val (.ref b5), .val (.int (((31 : Int32) * ma) + mb)), .val (.int (((31 : Int32) * ma) + mb)), .val (.int (((31 : Int32) * ma) + mb)), .val (.int (((31 : Int32) * mc) + md))] [(.int (own_eq ma mb mc md))]))
    by_cases hc150 : (own_eq ma mb mc md) = (0 : Int32)
    · refine Rest.via (fun t k => XS.ifYes X12.here hx rfl (pc0 := 150) (pc' := 162) rfl (hb hby at_150) rfl ((if0 _ _).trans (teq hc150).1) (by decide) (by decide) k) ?_
      show Rest p.tables e below s _ _ _ (T12.setTop (mkF m 162 #[.val (.int p0), .val (.int p1), .val (.int p2), .val (.int p3), .val (.int p4), .val (.int ma), .val (.int mb), .val (.int mc), .val (.int md), .val (.ref b1), .val (.ref b3), .val (.ref b5), .val (.int (((31 : Int32) * ma) + mb)), .val (.int (((31 : Int32) * ma) + mb)), .val (.int (((31 : Int32) * ma) + mb)), .val (.int (((31 : Int32) * mc) + md))] []))
      refine Rest.via (fun t k => XS.iconst X12.here hx rfl (hb hby at_162) k) ?_
      show Rest p.tables e below s _ _ _ (T12.setTop (mkF m 163 #[.val (.int p0), .val (.int p1), .val (.int p2), .val (.int p3), .val (.int p4), .val (.int ma), .val (.int mb), .val (.int mc), .val (.int md), .val (.ref b1), .val (.ref b3), .val (.ref b5), .val (.int (((31 : Int32) * ma) + mb)), .val (.int (((31 : Int32) * ma) + mb)), .val (.int (((31 : Int32) * ma) + mb)), .val (.int (((31 : Int32) * mc) + md))] [(.int (1 : Int32))]))
      refine Rest.ret X12 (v := some (.int (nar .boolean (1 : Int32)))) (fun h => by rw [Bd.returns] at h; cases h) hlk (fun fs hr => retN X12 hx (t := .boolean) Bd.returns (by simp) (hb hby at_163) hr) ?_ (by decide) (by decide)
      rw [e12]
      exact ⟨rfl, N12⟩
    · refine Rest.via (fun t k => XS.ifNo X12.here hx rfl (hb hby at_150) rfl ((if0 _ _).trans (feq hc150).1) k) ?_
      show Rest p.tables e below s _ _ _ (T12.setTop (mkF m 153 #[.val (.int p0), .val (.int p1), .val (.int p2), .val (.int p3), .val (.int p4), .val (.int ma), .val (.int mb), .val (.int mc), .val (.int md), .val (.ref b1), .val (.ref b3), .val (.ref b5), .val (.int (((31 : Int32) * ma) + mb)), .val (.int (((31 : Int32) * ma) + mb)), .val (.int (((31 : Int32) * ma) + mb)), .val (.int (((31 : Int32) * mc) + md))] []))
      refine Rest.via (fun t k => XS.iload X12.here hx rfl (hb hby at_153) rfl k) ?_
      show Rest p.tables e below s _ _ _ (T12.setTop (mkF m 155 #[.val (.int p0), .val (.int p1), .val (.int p2), .val (.int p3), .val (.int p4), .val (.int ma), .val (.int mb), .val (.int mc), .val (.int md), .val (.ref b1), .val (.ref b3), .val (.ref b5), .val (.int (((31 : Int32) * ma) + mb)), .val (.int (((31 : Int32) * ma) + mb)), .val (.int (((31 : Int32) * ma) + mb)), .val (.int (((31 : Int32) * mc) + md))] [(.int (((31 : Int32) * ma) + mb))]))
      refine Rest.via (fun t k => XS.iload X12.here hx rfl (hb hby at_155) rfl k) ?_
      show Rest p.tables e below s _ _ _ (T12.setTop (mkF m 157 #[.val (.int p0), .val (.int p1), .val (.int p2), .val (.int p3), .val (.int p4), .val (.int ma), .val (.int mb), .val (.int mc), .val (.int md), .val (.ref b1), .val (.ref b3), .val (.ref b5), .val (.int (((31 : Int32) * ma) + mb)), .val (.int (((31 : Int32) * ma) + mb)), .val (.int (((31 : Int32) * ma) + mb)), .val (.int (((31 : Int32) * mc) + md))] [(.int (((31 : Int32) * mc) + md)), (.int (((31 : Int32) * ma) + mb))]))
      refine Rest.via (fun t k => XS.icmpYes X12.here hx rfl (pc0 := 157) (pc' := 162) rfl (hb hby at_157) rfl (teq (own_eq_hash hc150 : (((31 : Int32) * ma) + mb) = (((31 : Int32) * mc) + md))).1 (by decide) (by decide) k) ?_
      show Rest p.tables e below s _ _ _ (T12.setTop (mkF m 162 #[.val (.int p0), .val (.int p1), .val (.int p2), .val (.int p3), .val (.int p4), .val (.int ma), .val (.int mb), .val (.int mc), .val (.int md), .val (.ref b1), .val (.ref b3), .val (.ref b5), .val (.int (((31 : Int32) * ma) + mb)), .val (.int (((31 : Int32) * ma) + mb)), .val (.int (((31 : Int32) * ma) + mb)), .val (.int (((31 : Int32) * mc) + md))] []))
      refine Rest.via (fun t k => XS.iconst X12.here hx rfl (hb hby at_162) k) ?_
      show Rest p.tables e below s _ _ _ (T12.setTop (mkF m 163 #[.val (.int p0), .val (.int p1), .val (.int p2), .val (.int p3), .val (.int p4), .val (.int ma), .val (.int mb), .val (.int mc), .val (.int md), .val (.ref b1), .val (.ref b3), .val (.ref b5), .val (.int (((31 : Int32) * ma) + mb)), .val (.int (((31 : Int32) * ma) + mb)), .val (.int (((31 : Int32) * ma) + mb)), .val (.int (((31 : Int32) * mc) + md))] [(.int (1 : Int32))]))
      refine Rest.ret X12 (v := some (.int (nar .boolean (1 : Int32)))) (fun h => by rw [Bd.returns] at h; cases h) hlk (fun fs hr => retN X12 hx (t := .boolean) Bd.returns (by simp) (hb hby at_163) hr) ?_ (by decide) (by decide)
      rw [e12]
      exact ⟨rfl, N12⟩
  show Rest p.tables e below s _ _ _ (s₁.setTop (mkF m 12 #[.val (.int p0), .val (.int p1), .val (.int p2), .val (.int p3), .val (.int p4), .val (.int ma), .val (.int mb), .unset, .unset, .unset, .unset, .unset, .unset, .unset, .unset, .unset] []))
  refine Rest.via (fun t k => XS.iload X0.here hx rfl (hb hby at_12) rfl k) ?_
  show Rest p.tables e below s _ _ _ (s₁.setTop (mkF m 14 #[.val (.int p0), .val (.int p1), .val (.int p2), .val (.int p3), .val (.int p4), .val (.int ma), .val (.int mb), .unset, .unset, .unset, .unset, .unset, .unset, .unset, .unset, .unset] [(.int p4)]))
  refine Rest.via (fun t k => XS.iconst X0.here hx rfl (hb hby at_14) k) ?_
  show Rest p.tables e below s _ _ _ (s₁.setTop (mkF m 15 #[.val (.int p0), .val (.int p1), .val (.int p2), .val (.int p3), .val (.int p4), .val (.int ma), .val (.int mb), .unset, .unset, .unset, .unset, .unset, .unset, .unset, .unset, .unset] [(.int (1 : Int32)), (.int p4)]))
  refine Rest.via (fun t k => XS.iand X0.here hx rfl (hb hby at_15) rfl k) ?_
  show Rest p.tables e below s _ _ _ (s₁.setTop (mkF m 16 #[.val (.int p0), .val (.int p1), .val (.int p2), .val (.int p3), .val (.int p4), .val (.int ma), .val (.int mb), .unset, .unset, .unset, .unset, .unset, .unset, .unset, .unset, .unset] [(.int (p4 &&& (1 : Int32)))]))
  by_cases hc16 : (p4 &&& (1 : Int32)) = (0 : Int32)
  · refine Rest.via (fun t k => XS.ifYes X0.here hx rfl (pc0 := 16) (pc' := 24) rfl (hb hby at_16) rfl ((if0 _ _).trans (teq hc16).1) (by decide) (by decide) k) ?_
    show Rest p.tables e below s _ _ _ (s₁.setTop (mkF m 24 #[.val (.int p0), .val (.int p1), .val (.int p2), .val (.int p3), .val (.int p4), .val (.int ma), .val (.int mb), .unset, .unset, .unset, .unset, .unset, .unset, .unset, .unset, .unset] []))
    refine Rest.via (fun t k => XS.iloadN X0.here hx rfl (hb hby at_24) rfl k) ?_
    show Rest p.tables e below s _ _ _ (s₁.setTop (mkF m 25 #[.val (.int p0), .val (.int p1), .val (.int p2), .val (.int p3), .val (.int p4), .val (.int ma), .val (.int mb), .unset, .unset, .unset, .unset, .unset, .unset, .unset, .unset, .unset] [(.int p2)]))
    refine Rest.via (fun t k => X0.ldcInt hx hown (mvT hZ (hw _ (List.mem_of_getElem? (i := 0) rfl))) (g := (mkF m 25 #[.val (.int p0), .val (.int p1), .val (.int p2), .val (.int p3), .val (.int p4), .val (.int ma), .val (.int mb), .unset, .unset, .unset, .unset, .unset, .unset, .unset, .unset, .unset] [(.int p2)])) rfl (hb hby at_25) t k) ?_
    show Rest p.tables e below s _ _ _ (s₁.setTop (mkF m 27 #[.val (.int p0), .val (.int p1), .val (.int p2), .val (.int p3), .val (.int p4), .val (.int ma), .val (.int mb), .unset, .unset, .unset, .unset, .unset, .unset, .unset, .unset, .unset] [(.int (2147483647 : Int32)), (.int p2)]))
    refine Rest.via (fun t k => XS.iand X0.here hx rfl (hb hby at_27) rfl k) ?_
    show Rest p.tables e below s _ _ _ (s₁.setTop (mkF m 28 #[.val (.int p0), .val (.int p1), .val (.int p2), .val (.int p3), .val (.int p4), .val (.int ma), .val (.int mb), .unset, .unset, .unset, .unset, .unset, .unset, .unset, .unset, .unset] [(.int (p2 &&& (2147483647 : Int32)))]))
    refine Rest.via (fun t k => XS.istore X0.here hx rfl (hb hby at_28) rfl (l' := #[.val (.int p0), .val (.int p1), .val (.int p2), .val (.int p3), .val (.int p4), .val (.int ma), .val (.int mb), .val (.int (p2 &&& (2147483647 : Int32))), .unset, .unset, .unset, .unset, .unset, .unset, .unset, .unset]) rfl k) ?_
    show Rest p.tables e below s _ _ _ (s₁.setTop (mkF m 30 #[.val (.int p0), .val (.int p1), .val (.int p2), .val (.int p3), .val (.int p4), .val (.int ma), .val (.int mb), .val (.int (p2 &&& (2147483647 : Int32))), .unset, .unset, .unset, .unset, .unset, .unset, .unset, .unset] []))
    refine Rest.via (fun t k => XS.iload X0.here hx rfl (hb hby at_30) rfl k) ?_
    show Rest p.tables e below s _ _ _ (s₁.setTop (mkF m 32 #[.val (.int p0), .val (.int p1), .val (.int p2), .val (.int p3), .val (.int p4), .val (.int ma), .val (.int mb), .val (.int (p2 &&& (2147483647 : Int32))), .unset, .unset, .unset, .unset, .unset, .unset, .unset, .unset] [(.int p4)]))
    refine Rest.via (fun t k => XS.iconst X0.here hx rfl (hb hby at_32) k) ?_
    show Rest p.tables e below s _ _ _ (s₁.setTop (mkF m 33 #[.val (.int p0), .val (.int p1), .val (.int p2), .val (.int p3), .val (.int p4), .val (.int ma), .val (.int mb), .val (.int (p2 &&& (2147483647 : Int32))), .unset, .unset, .unset, .unset, .unset, .unset, .unset, .unset] [(.int (2 : Int32)), (.int p4)]))
    refine Rest.via (fun t k => XS.iand X0.here hx rfl (hb hby at_33) rfl k) ?_
    show Rest p.tables e below s _ _ _ (s₁.setTop (mkF m 34 #[.val (.int p0), .val (.int p1), .val (.int p2), .val (.int p3), .val (.int p4), .val (.int ma), .val (.int mb), .val (.int (p2 &&& (2147483647 : Int32))), .unset, .unset, .unset, .unset, .unset, .unset, .unset, .unset] [(.int (p4 &&& (2 : Int32)))]))
    by_cases hc34 : (p4 &&& (2 : Int32)) = (0 : Int32)
    · refine Rest.via (fun t k => XS.ifYes X0.here hx rfl (pc0 := 34) (pc' := 42) rfl (hb hby at_34) rfl ((if0 _ _).trans (teq hc34).1) (by decide) (by decide) k) ?_
      show Rest p.tables e below s _ _ _ (s₁.setTop (mkF m 42 #[.val (.int p0), .val (.int p1), .val (.int p2), .val (.int p3), .val (.int p4), .val (.int ma), .val (.int mb), .val (.int (p2 &&& (2147483647 : Int32))), .unset, .unset, .unset, .unset, .unset, .unset, .unset, .unset] []))
      refine Rest.via (fun t k => XS.iloadN X0.here hx rfl (hb hby at_42) rfl k) ?_
      show Rest p.tables e below s _ _ _ (s₁.setTop (mkF m 43 #[.val (.int p0), .val (.int p1), .val (.int p2), .val (.int p3), .val (.int p4), .val (.int ma), .val (.int mb), .val (.int (p2 &&& (2147483647 : Int32))), .unset, .unset, .unset, .unset, .unset, .unset, .unset, .unset] [(.int p3)]))
      refine Rest.via (fun t k => X0.ldcInt hx hown (mvT hZ (hw _ (List.mem_of_getElem? (i := 0) rfl))) (g := (mkF m 43 #[.val (.int p0), .val (.int p1), .val (.int p2), .val (.int p3), .val (.int p4), .val (.int ma), .val (.int mb), .val (.int (p2 &&& (2147483647 : Int32))), .unset, .unset, .unset, .unset, .unset, .unset, .unset, .unset] [(.int p3)])) rfl (hb hby at_43) t k) ?_
      show Rest p.tables e below s _ _ _ (s₁.setTop (mkF m 45 #[.val (.int p0), .val (.int p1), .val (.int p2), .val (.int p3), .val (.int p4), .val (.int ma), .val (.int mb), .val (.int (p2 &&& (2147483647 : Int32))), .unset, .unset, .unset, .unset, .unset, .unset, .unset, .unset] [(.int (2147483647 : Int32)), (.int p3)]))
      refine Rest.via (fun t k => XS.iand X0.here hx rfl (hb hby at_45) rfl k) ?_
      show Rest p.tables e below s _ _ _ (s₁.setTop (mkF m 46 #[.val (.int p0), .val (.int p1), .val (.int p2), .val (.int p3), .val (.int p4), .val (.int ma), .val (.int mb), .val (.int (p2 &&& (2147483647 : Int32))), .unset, .unset, .unset, .unset, .unset, .unset, .unset, .unset] [(.int (p3 &&& (2147483647 : Int32)))]))
      refine Rest.via (fun t k => XS.istore X0.here hx rfl (hb hby at_46) rfl (l' := #[.val (.int p0), .val (.int p1), .val (.int p2), .val (.int p3), .val (.int p4), .val (.int ma), .val (.int mb), .val (.int (p2 &&& (2147483647 : Int32))), .val (.int (p3 &&& (2147483647 : Int32))), .unset, .unset, .unset, .unset, .unset, .unset, .unset]) rfl k) ?_
      show Rest p.tables e below s _ _ _ (s₁.setTop (mkF m 48 #[.val (.int p0), .val (.int p1), .val (.int p2), .val (.int p3), .val (.int p4), .val (.int ma), .val (.int mb), .val (.int (p2 &&& (2147483647 : Int32))), .val (.int (p3 &&& (2147483647 : Int32))), .unset, .unset, .unset, .unset, .unset, .unset, .unset] []))
      exact J48 _ _ (own_nn _) (own_nn _)
    · refine Rest.via (fun t k => XS.ifNo X0.here hx rfl (hb hby at_34) rfl ((if0 _ _).trans (feq hc34).1) k) ?_
      show Rest p.tables e below s _ _ _ (s₁.setTop (mkF m 37 #[.val (.int p0), .val (.int p1), .val (.int p2), .val (.int p3), .val (.int p4), .val (.int ma), .val (.int mb), .val (.int (p2 &&& (2147483647 : Int32))), .unset, .unset, .unset, .unset, .unset, .unset, .unset, .unset] []))
      refine Rest.via (fun t k => XS.iload X0.here hx rfl (hb hby at_37) rfl k) ?_
      show Rest p.tables e below s _ _ _ (s₁.setTop (mkF m 39 #[.val (.int p0), .val (.int p1), .val (.int p2), .val (.int p3), .val (.int p4), .val (.int ma), .val (.int mb), .val (.int (p2 &&& (2147483647 : Int32))), .unset, .unset, .unset, .unset, .unset, .unset, .unset, .unset] [(.int mb)]))
      refine Rest.via (fun t k => XS.goto X0.here hx rfl (pc0 := 39) (pc' := 46) rfl (hb hby at_39) (by decide) (by decide) k) ?_
      show Rest p.tables e below s _ _ _ (s₁.setTop (mkF m 46 #[.val (.int p0), .val (.int p1), .val (.int p2), .val (.int p3), .val (.int p4), .val (.int ma), .val (.int mb), .val (.int (p2 &&& (2147483647 : Int32))), .unset, .unset, .unset, .unset, .unset, .unset, .unset, .unset] [(.int mb)]))
      refine Rest.via (fun t k => XS.istore X0.here hx rfl (hb hby at_46) rfl (l' := #[.val (.int p0), .val (.int p1), .val (.int p2), .val (.int p3), .val (.int p4), .val (.int ma), .val (.int mb), .val (.int (p2 &&& (2147483647 : Int32))), .val (.int mb), .unset, .unset, .unset, .unset, .unset, .unset, .unset]) rfl k) ?_
      show Rest p.tables e below s _ _ _ (s₁.setTop (mkF m 48 #[.val (.int p0), .val (.int p1), .val (.int p2), .val (.int p3), .val (.int p4), .val (.int ma), .val (.int mb), .val (.int (p2 &&& (2147483647 : Int32))), .val (.int mb), .unset, .unset, .unset, .unset, .unset, .unset, .unset] []))
      exact J48 _ _ (own_nn _) hmb
  · refine Rest.via (fun t k => XS.ifNo X0.here hx rfl (hb hby at_16) rfl ((if0 _ _).trans (feq hc16).1) k) ?_
    show Rest p.tables e below s _ _ _ (s₁.setTop (mkF m 19 #[.val (.int p0), .val (.int p1), .val (.int p2), .val (.int p3), .val (.int p4), .val (.int ma), .val (.int mb), .unset, .unset, .unset, .unset, .unset, .unset, .unset, .unset, .unset] []))
    refine Rest.via (fun t k => XS.iload X0.here hx rfl (hb hby at_19) rfl k) ?_
    show Rest p.tables e below s _ _ _ (s₁.setTop (mkF m 21 #[.val (.int p0), .val (.int p1), .val (.int p2), .val (.int p3), .val (.int p4), .val (.int ma), .val (.int mb), .unset, .unset, .unset, .unset, .unset, .unset, .unset, .unset, .unset] [(.int ma)]))
    refine Rest.via (fun t k => XS.goto X0.here hx rfl (pc0 := 21) (pc' := 28) rfl (hb hby at_21) (by decide) (by decide) k) ?_
    show Rest p.tables e below s _ _ _ (s₁.setTop (mkF m 28 #[.val (.int p0), .val (.int p1), .val (.int p2), .val (.int p3), .val (.int p4), .val (.int ma), .val (.int mb), .unset, .unset, .unset, .unset, .unset, .unset, .unset, .unset, .unset] [(.int ma)]))
    refine Rest.via (fun t k => XS.istore X0.here hx rfl (hb hby at_28) rfl (l' := #[.val (.int p0), .val (.int p1), .val (.int p2), .val (.int p3), .val (.int p4), .val (.int ma), .val (.int mb), .val (.int ma), .unset, .unset, .unset, .unset, .unset, .unset, .unset, .unset]) rfl k) ?_
    show Rest p.tables e below s _ _ _ (s₁.setTop (mkF m 30 #[.val (.int p0), .val (.int p1), .val (.int p2), .val (.int p3), .val (.int p4), .val (.int ma), .val (.int mb), .val (.int ma), .unset, .unset, .unset, .unset, .unset, .unset, .unset, .unset] []))
    refine Rest.via (fun t k => XS.iload X0.here hx rfl (hb hby at_30) rfl k) ?_
    show Rest p.tables e below s _ _ _ (s₁.setTop (mkF m 32 #[.val (.int p0), .val (.int p1), .val (.int p2), .val (.int p3), .val (.int p4), .val (.int ma), .val (.int mb), .val (.int ma), .unset, .unset, .unset, .unset, .unset, .unset, .unset, .unset] [(.int p4)]))
    refine Rest.via (fun t k => XS.iconst X0.here hx rfl (hb hby at_32) k) ?_
    show Rest p.tables e below s _ _ _ (s₁.setTop (mkF m 33 #[.val (.int p0), .val (.int p1), .val (.int p2), .val (.int p3), .val (.int p4), .val (.int ma), .val (.int mb), .val (.int ma), .unset, .unset, .unset, .unset, .unset, .unset, .unset, .unset] [(.int (2 : Int32)), (.int p4)]))
    refine Rest.via (fun t k => XS.iand X0.here hx rfl (hb hby at_33) rfl k) ?_
    show Rest p.tables e below s _ _ _ (s₁.setTop (mkF m 34 #[.val (.int p0), .val (.int p1), .val (.int p2), .val (.int p3), .val (.int p4), .val (.int ma), .val (.int mb), .val (.int ma), .unset, .unset, .unset, .unset, .unset, .unset, .unset, .unset] [(.int (p4 &&& (2 : Int32)))]))
    by_cases hc34 : (p4 &&& (2 : Int32)) = (0 : Int32)
    · refine Rest.via (fun t k => XS.ifYes X0.here hx rfl (pc0 := 34) (pc' := 42) rfl (hb hby at_34) rfl ((if0 _ _).trans (teq hc34).1) (by decide) (by decide) k) ?_
      show Rest p.tables e below s _ _ _ (s₁.setTop (mkF m 42 #[.val (.int p0), .val (.int p1), .val (.int p2), .val (.int p3), .val (.int p4), .val (.int ma), .val (.int mb), .val (.int ma), .unset, .unset, .unset, .unset, .unset, .unset, .unset, .unset] []))
      refine Rest.via (fun t k => XS.iloadN X0.here hx rfl (hb hby at_42) rfl k) ?_
      show Rest p.tables e below s _ _ _ (s₁.setTop (mkF m 43 #[.val (.int p0), .val (.int p1), .val (.int p2), .val (.int p3), .val (.int p4), .val (.int ma), .val (.int mb), .val (.int ma), .unset, .unset, .unset, .unset, .unset, .unset, .unset, .unset] [(.int p3)]))
      refine Rest.via (fun t k => X0.ldcInt hx hown (mvT hZ (hw _ (List.mem_of_getElem? (i := 0) rfl))) (g := (mkF m 43 #[.val (.int p0), .val (.int p1), .val (.int p2), .val (.int p3), .val (.int p4), .val (.int ma), .val (.int mb), .val (.int ma), .unset, .unset, .unset, .unset, .unset, .unset, .unset, .unset] [(.int p3)])) rfl (hb hby at_43) t k) ?_
      show Rest p.tables e below s _ _ _ (s₁.setTop (mkF m 45 #[.val (.int p0), .val (.int p1), .val (.int p2), .val (.int p3), .val (.int p4), .val (.int ma), .val (.int mb), .val (.int ma), .unset, .unset, .unset, .unset, .unset, .unset, .unset, .unset] [(.int (2147483647 : Int32)), (.int p3)]))
      refine Rest.via (fun t k => XS.iand X0.here hx rfl (hb hby at_45) rfl k) ?_
      show Rest p.tables e below s _ _ _ (s₁.setTop (mkF m 46 #[.val (.int p0), .val (.int p1), .val (.int p2), .val (.int p3), .val (.int p4), .val (.int ma), .val (.int mb), .val (.int ma), .unset, .unset, .unset, .unset, .unset, .unset, .unset, .unset] [(.int (p3 &&& (2147483647 : Int32)))]))
      refine Rest.via (fun t k => XS.istore X0.here hx rfl (hb hby at_46) rfl (l' := #[.val (.int p0), .val (.int p1), .val (.int p2), .val (.int p3), .val (.int p4), .val (.int ma), .val (.int mb), .val (.int ma), .val (.int (p3 &&& (2147483647 : Int32))), .unset, .unset, .unset, .unset, .unset, .unset, .unset]) rfl k) ?_
      show Rest p.tables e below s _ _ _ (s₁.setTop (mkF m 48 #[.val (.int p0), .val (.int p1), .val (.int p2), .val (.int p3), .val (.int p4), .val (.int ma), .val (.int mb), .val (.int ma), .val (.int (p3 &&& (2147483647 : Int32))), .unset, .unset, .unset, .unset, .unset, .unset, .unset] []))
      exact J48 _ _ hma (own_nn _)
    · refine Rest.via (fun t k => XS.ifNo X0.here hx rfl (hb hby at_34) rfl ((if0 _ _).trans (feq hc34).1) k) ?_
      show Rest p.tables e below s _ _ _ (s₁.setTop (mkF m 37 #[.val (.int p0), .val (.int p1), .val (.int p2), .val (.int p3), .val (.int p4), .val (.int ma), .val (.int mb), .val (.int ma), .unset, .unset, .unset, .unset, .unset, .unset, .unset, .unset] []))
      refine Rest.via (fun t k => XS.iload X0.here hx rfl (hb hby at_37) rfl k) ?_
      show Rest p.tables e below s _ _ _ (s₁.setTop (mkF m 39 #[.val (.int p0), .val (.int p1), .val (.int p2), .val (.int p3), .val (.int p4), .val (.int ma), .val (.int mb), .val (.int ma), .unset, .unset, .unset, .unset, .unset, .unset, .unset, .unset] [(.int mb)]))
      refine Rest.via (fun t k => XS.goto X0.here hx rfl (pc0 := 39) (pc' := 46) rfl (hb hby at_39) (by decide) (by decide) k) ?_
      show Rest p.tables e below s _ _ _ (s₁.setTop (mkF m 46 #[.val (.int p0), .val (.int p1), .val (.int p2), .val (.int p3), .val (.int p4), .val (.int ma), .val (.int mb), .val (.int ma), .unset, .unset, .unset, .unset, .unset, .unset, .unset, .unset] [(.int mb)]))
      refine Rest.via (fun t k => XS.istore X0.here hx rfl (hb hby at_46) rfl (l' := #[.val (.int p0), .val (.int p1), .val (.int p2), .val (.int p3), .val (.int p4), .val (.int ma), .val (.int mb), .val (.int ma), .val (.int mb), .unset, .unset, .unset, .unset, .unset, .unset, .unset]) rfl k) ?_
      show Rest p.tables e below s _ _ _ (s₁.setTop (mkF m 48 #[.val (.int p0), .val (.int p1), .val (.int p2), .val (.int p3), .val (.int p4), .val (.int ma), .val (.int mb), .val (.int ma), .val (.int mb), .unset, .unset, .unset, .unset, .unset, .unset, .unset] []))
      exact J48 _ _ hma hmb
set_option maxRecDepth 65536 in
set_option maxHeartbeats 40000000 in
theorem comes_1 {Post : Tables → Env → Array Value → State → Outcome → State → Prop} (hpost : ∀ tb e args s v u, (limb_1_1.after args s (.returned v) u = true ∧ limb_1_2.after args s (.returned v) u = true ∧ True) → FrameEnd s (.returned v) u (Jvm.fieldLocs frame_1_writes args s ++ Jvm.arrayLocs frame_1_arrays args s ++ Jvm.staticLocs frame_1_statics s) 16 128 → Post tb e args s (.returned v) u) :
    ArmFor flags0 classFile x code maxLocals ret World_1 tables_1 room_1 Calls_1 rest_1 Pre_1 Post := by
  intro l hfl _ _ p e ha hc hk s m args below hf hA hF happ hP
  obtain ⟨hcalls, hrest, hpre⟩ := hP
  obtain ⟨-, -, -, hnamed, -, -, -, hat⟩ := (Spec.applies_iff hf).mp happ
  obtain ⟨hg, hn⟩ := and_e (Cond.before_iff.mp (show (Jvm.Cond.and given_1 narrow_1).before args s = true from hpre))
  obtain ⟨hcnt, hg0⟩ := and_e hg
  obtain ⟨ha0, hg1⟩ := and_e hg0
  obtain ⟨ha1, hg2⟩ := and_e hg1
  obtain ⟨ha2, hg3⟩ := and_e hg2
  obtain ⟨ha3, hg4⟩ := and_e hg3
  have ha4 := hg4
  obtain ⟨w0, w1, w2, w3, w4, rfl⟩ : ∃ w0 w1 w2 w3 w4 : Value, args = #[w0, w1, w2, w3, w4] := by
    have hs : args.size = 5 := by simpa [Cond.value, given_1] using hcnt
    obtain ⟨L⟩ := args
    match L, hs with
    | [w0, w1, w2, w3, w4], _ => exact ⟨w0, w1, w2, w3, w4, rfl⟩
  have hw := fun d (hd : d ∈ tables_1) => atoms_spec (ws := Jvm.Cond.code x code maxLocals ret :: tables_1) hat d (List.mem_cons_of_mem _ hd)
  have hfit : Fit s := fun {y c} hc i hi => by
    obtain ⟨ha, rfl⟩ := Array.getElem?_eq_some_iff.mp hc
    have q := List.all_eq_true.mp ((Array.all_eq_true_iff_forall_mem.mp hF) _ (Array.getElem_mem ha)) i (List.mem_range.mpr hi)
    simpa [Array.getElem?_eq_getElem hi] using q
  obtain ⟨i0, ei0⟩ := is_v ha0
  obtain rfl : w0 = (.int i0) := Option.some.inj ei0
  obtain ⟨i1, ei1⟩ := is_v ha1
  obtain rfl : w1 = (.int i1) := Option.some.inj ei1
  obtain ⟨i2, ei2⟩ := is_v ha2
  obtain rfl : w2 = (.int i2) := Option.some.inj ei2
  obtain ⟨i3, ei3⟩ := is_v ha3
  obtain rfl : w3 = (.int i3) := Option.some.inj ei3
  obtain ⟨i4, ei4⟩ := is_v ha4
  obtain rfl : w4 = (.int i4) := Option.some.inj ei4
  obtain ⟨n, o, h1, h2, h3, _, L, rfl, ⟨rfl, N⟩, hq⟩ := rm0 l s _ hw tables_1 i0 i1 i2 i3 i4  s.heap s.heap.size (Nat.le_refl _)  p e ha hc hk s m _ below hf ((Spec.applies_iff_loose hf).mp happ).1 ⟨rfl, State.Warmed39.refl s, rfl⟩ trivial
  refine ⟨n, _, h1, h2, h3, hpost _ _ _ _ _ _ ⟨Cond.after_iff.mpr rfl, Cond.after_iff.mpr (eq_i res_at (Term.int_eval (1)) rfl), trivial⟩ ⟨hq.1, hq.2.1, (hq.2.2.sift fun y hy => Or.inr (N y hy)).mono (by decide) (by decide)⟩⟩
theorem main_1_1 : Claimed_1_1 := comes_1 fun _ _ _ _ _ _ h hF => ⟨h.1, hF⟩
theorem main_1_2 : Claimed_1_2 := comes_1 fun _ _ _ _ _ _ h hF => ⟨h.2.1, hF⟩
end Jvm.Pilot.@@N@@
namespace Jvm.Pilot.@@N@@
open Jvm Jvm.ClassFile Sem Op Lib Jvm.Free Jvm.Stand Jvm.Pilot.@@N@@.Jvm.D
/-! MADE BY PROGRAM (witnessworld.py) out of the Statement's table words and the real class files: 10 classes; the members and pool entries that the words name. The judged class is class 1, her method 1. -/
namespace start1
open Jvm.ClassFile
def u (s : String) : CpInfo := .utf8 (stringToUtf16 s)
/-- a pool by its gaps: so many unusable entries, then the entry; so many at the end -/
def gap : Nat → List CpInfo → List CpInfo
  | 0, r => r
  | n + 1, r => .unusable :: gap n r
def poolList (es : List (Nat × CpInfo)) (last : Nat) : List CpInfo := es.foldr (fun e r => gap e.1 (e.2 :: r)) (gap last [])
def pool (es : List (Nat × CpInfo)) (last : Nat) : Array CpInfo := ⟨poolList es last⟩
def fileOf (pool : Array CpInfo) (this : Nat) (attrs : Array Attribute := #[]) (ms : Array MethodInfo := #[]) (fl : Nat := 33) (sup : Nat := 0) (ifs : Array Nat := #[]) (fds : Array FieldInfo := #[]) : ClassFile where
  minorVersion := 0
  majorVersion := 65
  constantPool := pool
  accessFlags := fl
  thisClass := this
  superClass := sup
  interfaces := ifs
  fields := fds
  methods := ms
  attributes := attrs
def plain (name : String) (sup : Option ClassId) : Class where
  name := name
  kind := .ordinary
  loader := none
  accessFlags := 33
  super := sup
  interfaces := #[]
  cf := none
  fields := #[]
  methods := #[]
  instanceTypes := #[]
  staticTypes := #[]
  resolved := #[]
  callSites := []
  init := .initialized
  statics := none
  mirror := none

def pool0 : Array CpInfo := pool [(5, u "<init>"), (0, u "()V"), (1, .class_ 10), (1, u "java/lang/Object")] 113

def k0c0 : Code := { maxStack := 0, maxLocals := 1, code := object_method_1_code, exceptionTable := #[], attributes := #[] }
def k0m0 : Method := { name := "<init>", desc := "()V", sig := { parameters := [], returnType := none }, accessFlags := 1, code := some k0c0 }
/-- java/lang/Object -/
def k0 : Class := { plain "java/lang/Object" none with
  accessFlags := 33
  interfaces := #[]
  cf := some (fileOf pool0 8 #[] #[{ accessFlags := 1, nameIndex := 5, descriptorIndex := 6, attributes := #[] }] 33 0 #[] #[])
  fields := #[]
  methods := #[k0m0]
  instanceTypes := #[]
  staticTypes := #[]
  resolved := Array.replicate 124 none
  statics := none }

def pool1 : Array CpInfo := pool [(2, .class_ 4), (1, u "java/lang/Object"), (0, u "<init>"), (0, u "()V"), (0, .integer 2147483647), (0, .class_ 9), (0, u "com/example/rollcall/rollcall/model/spring/SpringVersion"), (0, .methodref 8 11), (0, .nameAndType 5 12), (0, u "(II)V"), (0, .methodref 8 14), (0, .nameAndType 15 16), (0, u "hashCode"), (0, u "()I"), (0, .methodref 8 18), (0, .nameAndType 19 20), (0, u "equals"), (0, u "(Ljava/lang/Object;)Z"), (0, .class_ 22), (0, u "com/example/rollcall/rollcall/model/spring/SpringVersionHashCodePinLaw"), (2, u "law"), (0, u "(IIIII)Z")] 3

def k1m0 : Method := { name := "<init>", desc := "()V", sig := { parameters := [], returnType := none }, accessFlags := 1, code := none }
def k1c1 : Code := { maxStack := 4, maxLocals := 16, code := code, exceptionTable := #[], attributes := #[] }
def k1m1 : Method := { name := "law", desc := "(IIIII)Z", sig := { parameters := [.int, .int, .int, .int, .int], returnType := some .boolean }, accessFlags := 9, code := some k1c1 }
/-- com/example/rollcall/rollcall/model/spring/SpringVersionHashCodePinLaw -/
def k1 : Class := { plain "com/example/rollcall/rollcall/model/spring/SpringVersionHashCodePinLaw" (some 0) with
  accessFlags := 49
  interfaces := #[]
  cf := some (fileOf pool1 21 #[] #[{ accessFlags := 1, nameIndex := 5, descriptorIndex := 6, attributes := #[] }, { accessFlags := 9, nameIndex := 25, descriptorIndex := 26, attributes := #[] }] 49 2 #[] #[])
  fields := #[]
  methods := #[k1m0, k1m1]
  instanceTypes := #[]
  staticTypes := #[]
  resolved := Array.replicate 30 none
  statics := none }

def pool2 : Array CpInfo := pool [(1, .class_ 2), (0, u "java/lang/Comparable"), (0, .class_ 4), (0, u "java/lang/Object")] 7

/-- java/lang/Comparable -/
def k2 : Class := { plain "java/lang/Comparable" (some 0) with
  accessFlags := 1537
  interfaces := #[]
  cf := some (fileOf pool2 1 #[] #[] 1537 3 #[] #[])
  fields := #[]
  methods := #[]
  instanceTypes := #[]
  staticTypes := #[]
  resolved := Array.replicate 12 none
  statics := none }

def pool3 : Array CpInfo := pool [(1, .methodref 2 3), (0, .class_ 4), (0, .nameAndType 5 6), (0, u "java/lang/Object"), (0, u "<init>"), (0, u "()V"), (9, .fieldref 17 18), (0, .class_ 19), (0, .nameAndType 20 21), (0, u "com/example/rollcall/rollcall/model/spring/SpringVersion"), (0, u "major"), (0, u "I"), (0, .fieldref 17 23), (0, .nameAndType 24 21), (0, u "minor"), (2, u "LINE"), (0, u "Ljava/util/regex/Pattern;"), (12, u "RELEASE"), (30, u "(II)V"), (9, u "ORDER"), (0, u "Ljava/util/Comparator;"), (9, u "NEWEST"), (0, u "Lcom/example/rollcall/rollcall/model/spring/SpringVersion;"), (20, .class_ 116), (0, u "java/lang/Comparable"), (11, u "()I"), (3, u "equals"), (0, u "(Ljava/lang/Object;)Z"), (0, u "hashCode")] 39

def k3c0 : Code := { maxStack := 4, maxLocals := 3, code := prog_23_method_1_code, exceptionTable := #[], attributes := #[] }
def k3m0 : Method := { name := "<init>", desc := "(II)V", sig := { parameters := [.int, .int], returnType := none }, accessFlags := 1, code := some k3c0 }
def k3c1 : Code := { maxStack := 2, maxLocals := 3, code := prog_23_method_9_code, exceptionTable := #[], attributes := #[] }
def k3m1 : Method := { name := "equals", desc := "(Ljava/lang/Object;)Z", sig := { parameters := [(.object "java/lang/Object")], returnType := some .boolean }, accessFlags := 1, code := some k3c1 }
def k3c2 : Code := { maxStack := 2, maxLocals := 1, code := prog_23_method_10_code, exceptionTable := #[], attributes := #[] }
def k3m2 : Method := { name := "hashCode", desc := "()I", sig := { parameters := [], returnType := some .int }, accessFlags := 1, code := some k3c2 }
/-- com/example/rollcall/rollcall/model/spring/SpringVersion -/
def k3 : Class := { plain "com/example/rollcall/rollcall/model/spring/SpringVersion" (some 0) with
  accessFlags := 33
  interfaces := #[2]
  cf := some (fileOf pool3 17 #[] #[{ accessFlags := 1, nameIndex := 5, descriptorIndex := 72, attributes := #[] }, { accessFlags := 1, nameIndex := 132, descriptorIndex := 133, attributes := #[] }, { accessFlags := 1, nameIndex := 134, descriptorIndex := 128, attributes := #[] }] 33 2 #[115] #[{ accessFlags := 25, nameIndex := 93, descriptorIndex := 94, attributes := #[] }, { accessFlags := 26, nameIndex := 82, descriptorIndex := 83, attributes := #[] }, { accessFlags := 26, nameIndex := 27, descriptorIndex := 28, attributes := #[] }, { accessFlags := 26, nameIndex := 41, descriptorIndex := 28, attributes := #[] }, { accessFlags := 18, nameIndex := 20, descriptorIndex := 21, attributes := #[] }, { accessFlags := 18, nameIndex := 24, descriptorIndex := 21, attributes := #[] }])
  fields := #[{ name := "NEWEST", type := (.object "com/example/rollcall/rollcall/model/spring/SpringVersion"), accessFlags := 25, slot := 0, constantValue := 0 }, { name := "ORDER", type := (.object "java/util/Comparator"), accessFlags := 26, slot := 1, constantValue := 0 }, { name := "LINE", type := (.object "java/util/regex/Pattern"), accessFlags := 26, slot := 2, constantValue := 0 }, { name := "RELEASE", type := (.object "java/util/regex/Pattern"), accessFlags := 26, slot := 3, constantValue := 0 }, { name := "major", type := .int, accessFlags := 18, slot := 0, constantValue := 0 }, { name := "minor", type := .int, accessFlags := 18, slot := 1, constantValue := 0 }]
  methods := #[k3m0, k3m1, k3m2]
  instanceTypes := #[.int, .int]
  staticTypes := #[(.object "com/example/rollcall/rollcall/model/spring/SpringVersion"), (.object "java/util/Comparator"), (.object "java/util/regex/Pattern"), (.object "java/util/regex/Pattern")]
  resolved := Array.replicate 174 none
  statics := none }

def pool4 : Array CpInfo := pool [(1, u "java/lang/Cloneable"), (0, .class_ 1), (0, u "java/lang/Object"), (0, .class_ 3)] 3

/-- java/lang/Cloneable -/
def k4 : Class := { plain "java/lang/Cloneable" (some 0) with
  accessFlags := 1537
  interfaces := #[]
  cf := some (fileOf pool4 2 #[] #[] 1537 4 #[] #[])
  fields := #[]
  methods := #[]
  instanceTypes := #[]
  staticTypes := #[]
  resolved := Array.replicate 8 none
  statics := none }

def pool5 : Array CpInfo := pool [(1, u "java/io/Serializable"), (0, .class_ 1), (0, u "java/lang/Object"), (0, .class_ 3)] 3

/-- java/io/Serializable -/
def k5 : Class := { plain "java/io/Serializable" (some 0) with
  accessFlags := 1537
  interfaces := #[]
  cf := some (fileOf pool5 2 #[] #[] 1537 4 #[] #[])
  fields := #[]
  methods := #[]
  instanceTypes := #[]
  staticTypes := #[]
  resolved := Array.replicate 8 none
  statics := none }

/-- the primitive byte -/
def k6 : Class := { plain "byte" none with kind := .primitive 'B', accessFlags := 0x411 }
/-- [B -/
def k7 : Class := { plain "[B" (some 0) with kind := .array 6 .byte, interfaces := #[4, 5], accessFlags := 1041 }

/-- the primitive int -/
def k8 : Class := { plain "int" none with kind := .primitive 'I', accessFlags := 0x411 }
/-- [I -/
def k9 : Class := { plain "[I" (some 0) with kind := .array 8 .int, interfaces := #[4, 5], accessFlags := 1041 }

def heap : Heap := #[]
def classes : Array Class := #[k0, k1, k2, k3, k4, k5, k6, k7, k8, k9]
def interned : List (Array UInt16 × Addr) := []
def slotsUsed : Nat := 0
def theMethod : MethodId := ⟨1, 1⟩
def args0 : Array Value := #[.int 5, .int 6, .int 7, .int 8, .int 0]
def aboutOver (below : List Frame) : State where
  vm := { classes := classes, interned := interned.toArray }
  heap := heap
  slotsUsed := slotsUsed
  threads := #[{ frames := .invoking theMethod args0 :: below }]
def below0 : List Frame := [.native { method := ⟨0, 0⟩, args := #[] }]
def about1 : State := aboutOver below0
def p0 : Program := .bare "" "" ""
def e0 : Env := launch0.env 0 0 0
theorem w_frames : about1.frames = Frame.invoking theMethod args0 :: below0 := rfl
set_option maxRecDepth 65536 in
theorem w_args : argsFit about1.vm theMethod args0 = true := by decide +kernel
set_option maxRecDepth 65536 in
theorem w_heap : heapFits about1 = true := by decide +kernel
set_option maxRecDepth 65536 in
theorem w_runnable : about1.curStatus? = some .runnable := by decide +kernel
set_option maxRecDepth 65536 in
theorem w_alone : about1.alone = true := by decide +kernel
set_option maxRecDepth 65536 in
theorem w_named : about1.methodNamed? x = some theMethod := by decide +kernel
set_option maxRecDepth 65536 in
theorem w_hears : about1.hears theMethod below0 = true := by decide +kernel
set_option maxRecDepth 65536 in
theorem w_ripe : about1.ripe theMethod args0 below0 = true := by decide +kernel
theorem w_running : about1.status = .running := rfl
set_option maxRecDepth 65536 in
theorem w_room : about1.hasRoom e0.platform room_1 = true :=
  launch0.hasRoom_least _ room_1 (by decide +kernel) (by decide +kernel) (by decide +kernel) (by decide +kernel) (by decide +kernel) (by decide +kernel)
theorem allAtoms_all (ts : List Jvm.Cond) (a : Array Jvm.Value) (st : Jvm.State) : (allAtoms ts).before a st = ts.all (fun c => c.before a st) := by
  induction ts with
  | nil => rfl
  | cons c t ih =>
    show (Jvm.Cond.and c (allAtoms t)).before a st = _
    rw [Jvm.Cond.before_and, ih, List.all_cons]
def words1 : List Jvm.Cond := Jvm.Cond.code x code maxLocals ret :: tables_1
/-- a 'code' word, met by the world's own term for the bytes: nothing is compared byte by byte -/
theorem code_word {y : MethodName} {bytes : ByteArray} {mx : Nat} {rt : Option FieldType} {a : Array Value} {s : State} {m : MethodId} {meth : Method} {c : Code} (h1 : s.methodNamed? y = some m) (h2 : s.vm.method? m = some meth) (h3 : meth.code = some c) (h4 : c.code = bytes)
    (h5 : (c.maxLocals == mx && c.exceptionTable.isEmpty && decide (c.maxStack ≤ mostOperands) && decide (meth.sig.returnType = rt) && !meth.locks && decide (parseMethodDescriptor y.desc = some meth.sig)) = true) : (Jvm.Cond.code y bytes mx rt).before a s = true := by
  simp only [Bool.and_eq_true, beq_iff_eq, Bool.not_eq_true', decide_eq_true_eq] at h5
  obtain ⟨⟨⟨⟨⟨g1, g2⟩, g3⟩, g4⟩, g5⟩, g6⟩ := h5
  simp [Cond.before, Cond.holds, Cond.value, h1, h2, h3, h4, g1, g2, g3, g4, g5, g6]
def isCode : Jvm.Cond → Bool
  | .code _ _ _ _ => true
  | _ => false
theorem all_split {L : List Jvm.Cond} {P : Jvm.Cond → Bool} (h1 : L.all (fun c => isCode c || P c) = true) (h2 : ∀ c ∈ L.filter isCode, P c = true) : L.all P = true := by
  refine List.all_eq_true.mpr fun c hc => ?_
  have h := List.all_eq_true.mp h1 c hc
  rcases Bool.eq_false_or_eq_true (isCode c) with hi | hi
  · exact h2 c (List.mem_filter.mpr ⟨hc, hi⟩)
  · simpa [hi] using h
set_option maxRecDepth 65536 in
theorem w_c0 : (Jvm.Cond.code x code maxLocals ret).before args0 about1 = true := code_word (m := ⟨1, 1⟩) (meth := k1m1) (c := k1c1) (by decide +kernel) rfl rfl rfl (by decide +kernel)
set_option maxRecDepth 65536 in
theorem w_c1 : (Jvm.Cond.code ({ cls := "com/example/rollcall/rollcall/model/spring/SpringVersion", name := "<init>", desc := "(II)V" } : Jvm.MethodName) prog_23_method_1_code (3 : Nat) (Option.none : Option Jvm.ClassFile.FieldType)).before args0 about1 = true := code_word (m := ⟨3, 0⟩) (meth := k3m0) (c := k3c0) (by decide +kernel) rfl rfl rfl (by decide +kernel)
set_option maxRecDepth 65536 in
theorem w_c2 : (Jvm.Cond.code ({ cls := "java/lang/Object", name := "<init>", desc := "()V" } : Jvm.MethodName) object_method_1_code (1 : Nat) (Option.none : Option Jvm.ClassFile.FieldType)).before args0 about1 = true := code_word (m := ⟨0, 0⟩) (meth := k0m0) (c := k0c0) (by decide +kernel) rfl rfl rfl (by decide +kernel)
set_option maxRecDepth 65536 in
theorem w_c3 : (Jvm.Cond.code ({ cls := "com/example/rollcall/rollcall/model/spring/SpringVersion", name := "hashCode", desc := "()I" } : Jvm.MethodName) prog_23_method_10_code (1 : Nat) (Option.some Jvm.ClassFile.FieldType.int)).before args0 about1 = true := code_word (m := ⟨3, 2⟩) (meth := k3m2) (c := k3c2) (by decide +kernel) rfl rfl rfl (by decide +kernel)
set_option maxRecDepth 65536 in
theorem w_c4 : (Jvm.Cond.code ({ cls := "com/example/rollcall/rollcall/model/spring/SpringVersion", name := "equals", desc := "(Ljava/lang/Object;)Z" } : Jvm.MethodName) prog_23_method_9_code (3 : Nat) (Option.some Jvm.ClassFile.FieldType.boolean)).before args0 about1 = true := code_word (m := ⟨3, 1⟩) (meth := k3m1) (c := k3c1) (by decide +kernel) rfl rfl rfl (by decide +kernel)
def codes1 : List Jvm.Cond := [Jvm.Cond.code x code maxLocals ret, Jvm.Cond.code ({ cls := "com/example/rollcall/rollcall/model/spring/SpringVersion", name := "<init>", desc := "(II)V" } : Jvm.MethodName) prog_23_method_1_code (3 : Nat) (Option.none : Option Jvm.ClassFile.FieldType), Jvm.Cond.code ({ cls := "java/lang/Object", name := "<init>", desc := "()V" } : Jvm.MethodName) object_method_1_code (1 : Nat) (Option.none : Option Jvm.ClassFile.FieldType), Jvm.Cond.code ({ cls := "com/example/rollcall/rollcall/model/spring/SpringVersion", name := "hashCode", desc := "()I" } : Jvm.MethodName) prog_23_method_10_code (1 : Nat) (Option.some Jvm.ClassFile.FieldType.int), Jvm.Cond.code ({ cls := "com/example/rollcall/rollcall/model/spring/SpringVersion", name := "equals", desc := "(Ljava/lang/Object;)Z" } : Jvm.MethodName) prog_23_method_9_code (3 : Nat) (Option.some Jvm.ClassFile.FieldType.boolean)]
set_option maxRecDepth 65536 in
theorem codes_eq : words1.filter isCode = codes1 := rfl
theorem w_codes : ∀ c ∈ words1.filter isCode, c.before args0 about1 = true := by
  rw [codes_eq]
  intro c hc
  simp only [codes1, List.mem_cons, List.not_mem_nil, or_false] at hc
  rcases hc with rfl | rfl | rfl | rfl | rfl
  · exact w_c0
  · exact w_c1
  · exact w_c2
  · exact w_c3
  · exact w_c4
set_option maxRecDepth 65536 in
theorem w_t1 : (words1.take 24).all (fun c => isCode c || c.before args0 about1) = true := by decide +kernel
set_option maxRecDepth 65536 in
theorem w_t2 : (words1.drop 24).all (fun c => isCode c || c.before args0 about1) = true := by decide +kernel
theorem w_tables : (allAtoms (Jvm.Cond.code x code maxLocals ret :: tables_1)).before args0 about1 = true := by
  rw [allAtoms_all]
  show words1.all (fun c => c.before args0 about1) = true
  refine all_split ?_ w_codes
  rw [← List.take_append_drop 24 words1, List.all_append, w_t1, w_t2]
  rfl
set_option maxRecDepth 65536 in
theorem w_case : (Jvm.Cond.and given_1 narrow_1).before args0 about1 = true := by decide +kernel
theorem w_applies : (headSpec (Jvm.Cond.code x code maxLocals ret :: tables_1) room_1).applies x e0.platform about1 = true :=
  (Spec.applies_iff w_frames).mpr ⟨w_running, w_runnable, w_alone, w_named, w_hears, w_ripe, w_room, w_tables⟩
theorem atStart : AtStart classFile x code maxLocals ret World_1 tables_1 room_1 Calls_1 rest_1 Pre_1 launch0 p0 e0 about1 theMethod args0 below0 :=
  ⟨lists_1, trivial, launch0.admits_env _ _ _, launch0.least_env, fairChoices_fair.cas, fairChoices_fair.clock, w_frames, w_args, w_heap, w_applies, trivial, trivial, w_case⟩
end start1
theorem witness_1 : WitnessClaimed_1 := ⟨start1.p0, start1.e0, start1.about1, start1.theMethod, start1.args0, start1.below0, start1.atStart⟩
end Jvm.Pilot.@@N@@
