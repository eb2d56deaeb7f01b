import JvmDerived
import JvmDerived.Pilot.@@N@@Statement
import JvmDerived.Pilot.@@N@@Code
set_option linter.unusedVariables false
set_option linter.unusedSimpArgs false
namespace Jvm.Pilot.@@N@@
open Jvm Jvm.ClassFile Sem Op Lib Jvm.Free Jvm.Stand Jvm.LawKit Jvm.RoadKit Bundle Jvm.Pilot.@@N@@.Jvm.D
/-- from S the method comes to its end, and what it leaves answers Q -/
def Rest (tb : Tables) (e : Env) (below : List Frame) (s : State) (Q : Option Value → Heap → List Loc → Prop) (k n : Nat) (S : State) : Prop :=
  ∃ t o, Steps tb e below S t ∧ t.status = .running ∧ Ended t below o ∧ ∃ v L, o = .returned v ∧ Q v t.heap L ∧ FrameEnd s o t L k n
theorem Rest.via {tb : Tables} {e : Env} {below : List Frame} {s : State} {Q : Option Value → Heap → List Loc → Prop} {k n : Nat} {S S' : State} (h : ∀ t, Steps tb e below S' t → Steps tb e below S t) (r : Rest tb e below s Q k n S') : Rest tb e below s Q k n S := by
  obtain ⟨t, o, h1, h2⟩ := r; exact ⟨t, o, h t h1, h2⟩
theorem Rest.ret {p : Program} {l : Launch} {e : Env} {R : Room} {s : State} {m : MethodId} {args : Array Value} {below : List Frame} {meth : Method} {c : Code} {T : State} {locs : List Loc} {cells slots : Nat} {Q : Option Value → Heap → List Loc → Prop} {k n : Nat} {S : State} {v : Option Value}
    (X : Stand p l e R s m args below meth c T locs cells slots) (hv : meth.sig.returnType = none → v = none) (hlocks : meth.locks = false)
    (st : ∀ fs, (∀ (f : JFrame) (acts : List Action), f.method = m → f.locked = none → f.entered = [] → (doReturn e (T.setTop f) acts v).1 = T.setFrames fs) → Steps p.tables e below S (T.setFrames fs))
    (hq : Q v T.heap locs) (hk : cells ≤ k) (hn : slots ≤ n) : Rest p.tables e below s Q k n S := by
  obtain ⟨fs, hr, hrun, hended, hW, hsame⟩ := X.leave (v := v) hv hlocks
  exact ⟨_, _, st fs hr, hrun, hended, _, _, rfl, hq, ⟨_, rfl⟩, hW, hsame.mono hk hn⟩
theorem own_eqfld {args : Array Value} {s : State} {t : Term} {C n d : String} {a : Addr} {k : Int32} (ht : t.eval args s none [] s = some (.ref a)) (h : (Jvm.Cond.eq (.field t C n d) (.int k)).value args s none s [] = some true) : Fld s s.heap a C n d (.int k) := by
  obtain ⟨x, y, e1, e2, k1, k2⟩ := cmp_v (Or.inl h)
  cases (Option.some.inj (e2.symm.trans (Term.int_eval k)) : y = .int k)
  obtain ⟨z, rfl⟩ := k2
  have hz : z = k := gotT (Cond.eq_ints e1 (Term.int_eval k)) h
  subst hz
  exact Fld.start (by rw [← fld_at ht]; exact e1)
def own_B (Z : State) (h : Heap) (d0 d1 d2 d3 d4 : Addr) : Prop := Sta Z h "com/example/velwin/velwin/rules/Comparison" "GT" "Lcom/example/velwin/velwin/rules/Comparison;" (.ref d0) ∧ Exa Z h d0 "com/example/velwin/velwin/rules/Comparison" ∧ Fld Z h d0 "java/lang/Enum" "ordinal" "I" (.int (0 : Int32)) ∧ Sta Z h "com/example/velwin/velwin/rules/Comparison" "GTE" "Lcom/example/velwin/velwin/rules/Comparison;" (.ref d1) ∧ Exa Z h d1 "com/example/velwin/velwin/rules/Comparison" ∧ Fld Z h d1 "java/lang/Enum" "ordinal" "I" (.int (1 : Int32)) ∧ Sta Z h "com/example/velwin/velwin/rules/Comparison" "EQ" "Lcom/example/velwin/velwin/rules/Comparison;" (.ref d2) ∧ Exa Z h d2 "com/example/velwin/velwin/rules/Comparison" ∧ Fld Z h d2 "java/lang/Enum" "ordinal" "I" (.int (2 : Int32)) ∧ Sta Z h "com/example/velwin/velwin/rules/Comparison" "LT" "Lcom/example/velwin/velwin/rules/Comparison;" (.ref d3) ∧ Exa Z h d3 "com/example/velwin/velwin/rules/Comparison" ∧ Fld Z h d3 "java/lang/Enum" "ordinal" "I" (.int (3 : Int32)) ∧ Sta Z h "com/example/velwin/velwin/rules/Comparison" "LTE" "Lcom/example/velwin/velwin/rules/Comparison;" (.ref d4) ∧ Exa Z h d4 "com/example/velwin/velwin/rules/Comparison" ∧ Fld Z h d4 "java/lang/Enum" "ordinal" "I" (.int (4 : Int32)) ∧ d0 ≠ d1 ∧ d0 ≠ d2 ∧ d1 ≠ d2 ∧ d0 ≠ d3 ∧ d1 ≠ d3 ∧ d2 ≠ d3 ∧ d0 ≠ d4 ∧ d1 ≠ d4 ∧ d2 ≠ d4 ∧ d3 ≠ d4
def own_sg (v t : Int64) : Int32 := if v < t then (-1 : Int32) else if v = t then (0 : Int32) else (1 : Int32)
def own_h0 (v t : Int64) : Int32 := if t < v then (1 : Int32) else (0 : Int32)
def own_h1 (v t : Int64) : Int32 := if v < t then (0 : Int32) else (1 : Int32)
def own_h2 (v t : Int64) : Int32 := if v = t then (1 : Int32) else (0 : Int32)
def own_h3 (v t : Int64) : Int32 := if v < t then (1 : Int32) else (0 : Int32)
def own_h4 (v t : Int64) : Int32 := if t < v then (0 : Int32) else (1 : Int32)
theorem own_tri (v t : Int64) : (own_sg v t = (-1 : Int32) ∧ own_h0 v t = (0 : Int32) ∧ own_h1 v t = (0 : Int32) ∧ own_h2 v t = (0 : Int32) ∧ own_h3 v t = (1 : Int32) ∧ own_h4 v t = (1 : Int32)) ∨
    (own_sg v t = (0 : Int32) ∧ own_h0 v t = (0 : Int32) ∧ own_h1 v t = (1 : Int32) ∧ own_h2 v t = (1 : Int32) ∧ own_h3 v t = (0 : Int32) ∧ own_h4 v t = (1 : Int32)) ∨
    (own_sg v t = (1 : Int32) ∧ own_h0 v t = (1 : Int32) ∧ own_h1 v t = (1 : Int32) ∧ own_h2 v t = (0 : Int32) ∧ own_h3 v t = (0 : Int32) ∧ own_h4 v t = (0 : Int32)) := by
  unfold own_sg own_h0 own_h1 own_h2 own_h3 own_h4
  by_cases h1 : v < t
  · have h2 : ¬ t < v := by rw [Int64.lt_iff_toInt_lt] at h1 ⊢; omega
    have h3 : ¬ v = t := fun q => by subst q; rw [Int64.lt_iff_toInt_lt] at h1; omega
    left; simp only [if_pos h1, if_neg h2, if_neg h3, and_self]
  · by_cases h3 : v = t
    · have h2 : ¬ t < v := fun q => by subst h3; exact h1 q
      right; left; simp only [if_neg h1, if_neg h2, if_pos h3, and_self]
    · have h2 : t < v := by
        rw [Int64.lt_iff_toInt_lt] at h1 ⊢
        rw [← Int64.toInt_inj] at h3
        omega
      right; right; simp only [if_neg h1, if_pos h2, if_neg h3, and_self]
theorem d3_0 : decode jdk_37_method_2_code 0 = .ok (.aload_n 0, 1) := by decide +kernel
theorem d3_1 : decode jdk_37_method_2_code 1 = .ok (.getfield 7, 3) := by decide +kernel
theorem d3_4 : decode jdk_37_method_2_code 4 = .ok (.ireturn, 1) := by decide +kernel
theorem pn_0 : plainName "java/lang/Enum" = true := by first | (simp [plainName, overriddenIn]; done) | decide +kernel
theorem ef_O (m : MethodId) (a0 : Addr) : entryFrame m #[(.ref a0)] 1 = mkF m 0 #[.val (.ref a0)] [] := by first | (simp [entryFrame, mkF, argsToLocals, Value.category, maxLocals]; done) | rfl
def QO (Z : State) (a0 : Addr) (w1 : Int32) (h0 : Heap) (n0 : Nat) (v : Option Value) (h : Heap) (L : List Loc) : Prop := v = some (.int w1) ∧ Fr n0 L ∧ h = h0
set_option maxRecDepth 65536 in
set_option maxHeartbeats 40000000 in
theorem rmO (l : Launch) (Z : State) (aw : Array Value) (hw : ∀ d ∈ tables_1, d.before aw Z = true) (ws : List Jvm.Cond) (a0 : Addr) (w1 : Int32) (h0 : Heap) (n0 : Nat) (Z0 : n0 ≤ h0.size) (F : Fld Z h0 a0 "java/lang/Enum" "ordinal" "I" (.int w1)) :
    MetFree l (⟨"java/lang/Enum", "ordinal", "()I"⟩ : MethodName) (head1 (Jvm.Cond.code (⟨"java/lang/Enum", "ordinal", "()I"⟩ : MethodName) jdk_37_method_2_code 1 (some .int) :: ws) ({ frames := 0, cells := 0, slots := 0, locals := 0 } : Room)) (fun a U => a = #[(.ref a0)] ∧ Z.Warmed39 U.vm ∧ U.heap = h0) (fun _ _ _ _ _ => True) (fun _ U o U' => ∃ v L, o = .returned v ∧ QO Z a0 w1 h0 n0 v U'.heap L ∧ FrameEnd U o U' L ({ frames := 0, cells := 0, slots := 0, locals := 0 } : Room).cells ({ frames := 0, cells := 0, slots := 0, locals := 0 } : Room).slots) := by
  refine MetFree.of_bodySF (plainFor_of_name pn_0) hisR ?_
  intro p e s m args below meth c s₁ Bd hml0 hP hK
  obtain ⟨rfl, hZ, hh⟩ := hP
  have hx := Bd.exec
  have hby := Bd.bytes
  have hml : c.maxLocals = 1 := hml0
  have hown : s.vm.findClass "java/lang/Enum" = some m.cls := findClass_of_methodNamed Bd.named
  have hnm := (name_of_methodNamed Bd.named Bd.method).1
  have hlk : meth.locks = false := BodyLoose.notSynchronized Bd
  have X0 : Stand p l e ({ frames := 0, cells := 0, slots := 0, locals := 0 } : Room) s m #[(.ref a0)] below meth c s₁ [] 0 0 := Stand.of_body Bd
  have eh0 : s₁.heap = h0 := by rw [← hh, Bd.state]; rfl
  have N0 := Fr.nil n0
  show Rest p.tables e below s (QO Z a0 w1 h0 n0) _ _ (s₁.setTop (entryFrame m #[(.ref a0)] 1))
  refine Rest.via (fun t k => castTop (ef_O m a0) k) ?_
  show Rest p.tables e below s _ _ _ (s₁.setTop (mkF m 0 #[.val (.ref a0)] []))
  refine Rest.via (fun t k => XS.aloadN X0.here hx rfl (hb hby d3_0) rfl rfl k) ?_
  show Rest p.tables e below s _ _ _ (s₁.setTop (mkF m 1 #[.val (.ref a0)] [(.ref a0)]))
  obtain ⟨T1, X1, e1, st1⟩ := getF X0 hx hZ hown (host := "") (Or.inl (hw _ (List.mem_of_getElem? (i := 19) rfl))) Via.refl eh0 F (g := (mkF m 1 #[.val (.ref a0)] [(.ref a0)])) rfl rfl (hb hby d3_1)
  refine Rest.via (fun t k => st1 t k) ?_
  show Rest p.tables e below s _ _ _ (T1.setTop (mkF m 4 #[.val (.ref a0)] [(.int w1)]))
  refine Rest.ret X1 (v := some (.int w1)) (fun h => by rw [Bd.returns] at h; cases h) hlk (fun fs hr => retOut X1 hx Bd.returns rfl (Or.inl ⟨rfl, Or.inl rfl, _, rfl⟩) (hb hby d3_4) hr) ?_ (by decide) (by decide)
  rw [e1]
  exact ⟨rfl, N0, rfl⟩
theorem d1_0 : decode method_2_code 0 = .ok (.lload_n 0, 1) := by decide +kernel
theorem d1_1 : decode method_2_code 1 = .ok (.lload_n 2, 1) := by decide +kernel
theorem d1_2 : decode method_2_code 2 = .ok (.lcmp, 1) := by decide +kernel
theorem d1_3 : decode method_2_code 3 = .ok (.ifCond .ge 5, 3) := by decide +kernel
theorem d1_6 : decode method_2_code 6 = .ok (.iconst (-1), 1) := by decide +kernel
theorem d1_7 : decode method_2_code 7 = .ok (.ireturn, 1) := by decide +kernel
theorem d1_8 : decode method_2_code 8 = .ok (.lload_n 0, 1) := by decide +kernel
theorem d1_9 : decode method_2_code 9 = .ok (.lload_n 2, 1) := by decide +kernel
theorem d1_10 : decode method_2_code 10 = .ok (.lcmp, 1) := by decide +kernel
theorem d1_11 : decode method_2_code 11 = .ok (.ifCond .ne 5, 3) := by decide +kernel
theorem d1_14 : decode method_2_code 14 = .ok (.iconst 0, 1) := by decide +kernel
theorem d1_15 : decode method_2_code 15 = .ok (.ireturn, 1) := by decide +kernel
theorem d1_16 : decode method_2_code 16 = .ok (.iconst 1, 1) := by decide +kernel
theorem d1_17 : decode method_2_code 17 = .ok (.ireturn, 1) := by decide +kernel
theorem pn_1 : plainName "com/example/velwin/velwin/rules/ComparisonHoldsPinLaw" = true := by first | (simp [plainName, overriddenIn]; done) | decide +kernel
theorem ef_S (m : MethodId) (q0 : Int64) (q1 : Int64) : entryFrame m #[(.long q0), (.long q1)] 4 = mkF m 0 #[.val (.long q0), .second, .val (.long q1), .second] [] := by first | (simp [entryFrame, mkF, argsToLocals, Value.category, maxLocals]; done) | rfl
def QS (Z : State) (q0 : Int64) (q1 : Int64) (h0 : Heap) (n0 : Nat) (v : Option Value) (h : Heap) (L : List Loc) : Prop := v = some (.int (own_sg q0 q1)) ∧ Fr n0 L ∧ h = h0
set_option maxRecDepth 65536 in
set_option maxHeartbeats 40000000 in
theorem rmS (l : Launch) (Z : State) (aw : Array Value) (hw : ∀ d ∈ tables_1, d.before aw Z = true) (ws : List Jvm.Cond) (q0 : Int64) (q1 : Int64) (h0 : Heap) (n0 : Nat) (Z0 : n0 ≤ h0.size)  :
    MetFree l (⟨"com/example/velwin/velwin/rules/ComparisonHoldsPinLaw", "sign", "(JJ)I"⟩ : MethodName) (head1 (Jvm.Cond.code (⟨"com/example/velwin/velwin/rules/ComparisonHoldsPinLaw", "sign", "(JJ)I"⟩ : MethodName) method_2_code 4 (some .int) :: ws) ({ frames := 0, cells := 0, slots := 0, locals := 0 } : Room)) (fun a U => a = #[(.long q0), (.long q1)] ∧ Z.Warmed39 U.vm ∧ U.heap = h0) (fun _ _ _ _ _ => True) (fun _ U o U' => ∃ v L, o = .returned v ∧ QS Z q0 q1 h0 n0 v U'.heap L ∧ FrameEnd U o U' L ({ frames := 0, cells := 0, slots := 0, locals := 0 } : Room).cells ({ frames := 0, cells := 0, slots := 0, locals := 0 } : Room).slots) := by
  refine MetFree.of_bodySF (plainFor_of_name pn_1) hisR ?_
  intro p e s m args below meth c s₁ Bd hml0 hP hK
  obtain ⟨rfl, hZ, hh⟩ := hP
  have hx := Bd.exec
  have hby := Bd.bytes
  have hml : c.maxLocals = 4 := hml0
  have hown : s.vm.findClass "com/example/velwin/velwin/rules/ComparisonHoldsPinLaw" = some m.cls := findClass_of_methodNamed Bd.named
  have hnm := (name_of_methodNamed Bd.named Bd.method).1
  have hlk : meth.locks = false := BodyLoose.notSynchronized Bd
  have X0 : Stand p l e ({ frames := 0, cells := 0, slots := 0, locals := 0 } : Room) s m #[(.long q0), (.long q1)] below meth c s₁ [] 0 0 := Stand.of_body Bd
  have eh0 : s₁.heap = h0 := by rw [← hh, Bd.state]; rfl
  have N0 := Fr.nil n0
  show Rest p.tables e below s (QS Z q0 q1 h0 n0) _ _ (s₁.setTop (entryFrame m #[(.long q0), (.long q1)] 4))
  refine Rest.via (fun t k => castTop (ef_S m q0 q1) k) ?_
  show Rest p.tables e below s _ _ _ (s₁.setTop (mkF m 0 #[.val (.long q0), .second, .val (.long q1), .second] []))
  refine Rest.via (fun t k => XS.lloadN X0.here hx rfl (hb hby d1_0) rfl k) ?_
  show Rest p.tables e below s _ _ _ (s₁.setTop (mkF m 1 #[.val (.long q0), .second, .val (.long q1), .second] [(.long q0)]))
  refine Rest.via (fun t k => XS.lloadN X0.here hx rfl (hb hby d1_1) rfl k) ?_
  show Rest p.tables e below s _ _ _ (s₁.setTop (mkF m 2 #[.val (.long q0), .second, .val (.long q1), .second] [(.long q1), (.long q0)]))
  refine Rest.via (fun t k => XS.lcmp X0.here hx rfl (hb hby d1_2) rfl k) ?_
  show Rest p.tables e below s _ _ _ (s₁.setTop (mkF m 3 #[.val (.long q0), .second, .val (.long q1), .second] [(.int (lcmpW q0 q1))]))
  by_cases hc3 : q0 < q1
  · refine Rest.via (fun t k => XS.ifNo X0.here hx rfl (hb hby d1_3) rfl ((if0 _ _).trans (tlt ((lw_lt _ _).mpr hc3)).2.1) k) ?_
    show Rest p.tables e below s _ _ _ (s₁.setTop (mkF m 6 #[.val (.long q0), .second, .val (.long q1), .second] []))
    refine Rest.via (fun t k => XS.iconst X0.here hx rfl (hb hby d1_6) k) ?_
    show Rest p.tables e below s _ _ _ (s₁.setTop (mkF m 7 #[.val (.long q0), .second, .val (.long q1), .second] [(.int (-1 : Int32))]))
    refine Rest.ret X0 (v := some (.int (-1 : Int32))) (fun h => by rw [Bd.returns] at h; cases h) hlk (fun fs hr => retOut X0 hx Bd.returns rfl (Or.inl ⟨rfl, Or.inl rfl, _, rfl⟩) (hb hby d1_7) hr) ?_ (by decide) (by decide)
    rw [eh0]
    exact ⟨by show some (Value.int (-1 : Int32)) = _; rw [own_sg, if_pos hc3], N0, rfl⟩
  · refine Rest.via (fun t k => XS.ifYes X0.here hx rfl (pc0 := 3) (pc' := 8) rfl (hb hby d1_3) rfl ((if0 _ _).trans (flt (fun q => hc3 ((lw_lt _ _).mp q))).2.1) (by decide) (by decide) k) ?_
    show Rest p.tables e below s _ _ _ (s₁.setTop (mkF m 8 #[.val (.long q0), .second, .val (.long q1), .second] []))
    refine Rest.via (fun t k => XS.lloadN X0.here hx rfl (hb hby d1_8) rfl k) ?_
    show Rest p.tables e below s _ _ _ (s₁.setTop (mkF m 9 #[.val (.long q0), .second, .val (.long q1), .second] [(.long q0)]))
    refine Rest.via (fun t k => XS.lloadN X0.here hx rfl (hb hby d1_9) rfl k) ?_
    show Rest p.tables e below s _ _ _ (s₁.setTop (mkF m 10 #[.val (.long q0), .second, .val (.long q1), .second] [(.long q1), (.long q0)]))
    refine Rest.via (fun t k => XS.lcmp X0.here hx rfl (hb hby d1_10) rfl k) ?_
    show Rest p.tables e below s _ _ _ (s₁.setTop (mkF m 11 #[.val (.long q0), .second, .val (.long q1), .second] [(.int (lcmpW q0 q1))]))
    by_cases hc11 : q0 = q1
    · refine Rest.via (fun t k => XS.ifNo X0.here hx rfl (hb hby d1_11) rfl ((if0 _ _).trans (teq ((lw_eq _ _).mpr hc11)).2) k) ?_
      show Rest p.tables e below s _ _ _ (s₁.setTop (mkF m 14 #[.val (.long q0), .second, .val (.long q1), .second] []))
      refine Rest.via (fun t k => XS.iconst X0.here hx rfl (hb hby d1_14) k) ?_
      show Rest p.tables e below s _ _ _ (s₁.setTop (mkF m 15 #[.val (.long q0), .second, .val (.long q1), .second] [(.int (0 : Int32))]))
      refine Rest.ret X0 (v := some (.int (0 : Int32))) (fun h => by rw [Bd.returns] at h; cases h) hlk (fun fs hr => retOut X0 hx Bd.returns rfl (Or.inl ⟨rfl, Or.inl rfl, _, rfl⟩) (hb hby d1_15) hr) ?_ (by decide) (by decide)
      rw [eh0]
      exact ⟨by show some (Value.int (0 : Int32)) = _; rw [own_sg, if_neg hc3, if_pos hc11], N0, rfl⟩
    · refine Rest.via (fun t k => XS.ifYes X0.here hx rfl (pc0 := 11) (pc' := 16) rfl (hb hby d1_11) rfl ((if0 _ _).trans (feq (fun q => hc11 ((lw_eq _ _).mp q))).2) (by decide) (by decide) k) ?_
      show Rest p.tables e below s _ _ _ (s₁.setTop (mkF m 16 #[.val (.long q0), .second, .val (.long q1), .second] []))
      refine Rest.via (fun t k => XS.iconst X0.here hx rfl (hb hby d1_16) k) ?_
      show Rest p.tables e below s _ _ _ (s₁.setTop (mkF m 17 #[.val (.long q0), .second, .val (.long q1), .second] [(.int (1 : Int32))]))
      refine Rest.ret X0 (v := some (.int (1 : Int32))) (fun h => by rw [Bd.returns] at h; cases h) hlk (fun fs hr => retOut X0 hx Bd.returns rfl (Or.inl ⟨rfl, Or.inl rfl, _, rfl⟩) (hb hby d1_17) hr) ?_ (by decide) (by decide)
      rw [eh0]
      exact ⟨by show some (Value.int (1 : Int32)) = _; rw [own_sg, if_neg hc3, if_neg hc11], N0, rfl⟩
theorem pd_0 : parseMethodDescriptor "()I" = some ⟨[], some .int⟩ := by decide +kernel
theorem d2_0 : decode prog_35_method_4_code 0 = .ok (.aload_n 0, 1) := by decide +kernel
theorem d2_1 : decode prog_35_method_4_code 1 = .ok (.invokevirtual 38, 3) := by decide +kernel
theorem d2_4 : decode prog_35_method_4_code 4 = .ok (.tableswitch 36 0 4 #[46, 60, 74, 88, 102], 36) := by decide +kernel
theorem d2_50 : decode prog_35_method_4_code 50 = .ok (.lload_n 1, 1) := by decide +kernel
theorem d2_51 : decode prog_35_method_4_code 51 = .ok (.lload_n 3, 1) := by decide +kernel
theorem d2_52 : decode prog_35_method_4_code 52 = .ok (.lcmp, 1) := by decide +kernel
theorem d2_53 : decode prog_35_method_4_code 53 = .ok (.ifCond .le 7, 3) := by decide +kernel
theorem d2_56 : decode prog_35_method_4_code 56 = .ok (.iconst 1, 1) := by decide +kernel
theorem d2_57 : decode prog_35_method_4_code 57 = .ok (.goto 60, 3) := by decide +kernel
theorem d2_60 : decode prog_35_method_4_code 60 = .ok (.iconst 0, 1) := by decide +kernel
theorem d2_61 : decode prog_35_method_4_code 61 = .ok (.goto 56, 3) := by decide +kernel
theorem d2_117 : decode prog_35_method_4_code 117 = .ok (.ireturn, 1) := by decide +kernel
theorem pn_2 : plainName "com/example/velwin/velwin/rules/Comparison" = true := by first | (simp [plainName, overriddenIn]; done) | decide +kernel
theorem ef_H0 (m : MethodId) (q1 : Int64) (q2 : Int64) : entryFrame m #[(.ref d0), (.long q1), (.long q2)] 5 = mkF m 0 #[.val (.ref d0), .val (.long q1), .second, .val (.long q2), .second] [] := by first | (simp [entryFrame, mkF, argsToLocals, Value.category, maxLocals]; done) | rfl
def QH0 (Z : State) (q1 : Int64) (q2 : Int64) (d0 : Addr) (d1 : Addr) (d2 : Addr) (d3 : Addr) (d4 : Addr) (h0 : Heap) (n0 : Nat) (v : Option Value) (h : Heap) (L : List Loc) : Prop := v = some (.int (own_h0 q1 q2)) ∧ Fr n0 L ∧ h = h0
set_option maxRecDepth 65536 in
set_option maxHeartbeats 40000000 in
theorem rmH0 (l : Launch) (Z : State) (aw : Array Value) (hw : ∀ d ∈ tables_1, d.before aw Z = true) (ws : List Jvm.Cond) (q1 : Int64) (q2 : Int64) (d0 : Addr) (d1 : Addr) (d2 : Addr) (d3 : Addr) (d4 : Addr) (h0 : Heap) (n0 : Nat) (Z0 : n0 ≤ h0.size) (B : own_B Z h0 d0 d1 d2 d3 d4) :
    MetFree l (⟨"com/example/velwin/velwin/rules/Comparison", "holds", "(JJ)Z"⟩ : MethodName) (head1 (Jvm.Cond.code (⟨"com/example/velwin/velwin/rules/Comparison", "holds", "(JJ)Z"⟩ : MethodName) prog_35_method_4_code 5 (some .boolean) :: ws) ({ frames := 1, cells := 0, slots := 0, locals := 12 } : Room)) (fun a U => a = #[(.ref d0), (.long q1), (.long q2)] ∧ Z.Warmed39 U.vm ∧ U.heap = h0) (fun _ _ _ _ _ => True) (fun _ U o U' => ∃ v L, o = .returned v ∧ QH0 Z q1 q2 d0 d1 d2 d3 d4 h0 n0 v U'.heap L ∧ FrameEnd U o U' L ({ frames := 1, cells := 0, slots := 0, locals := 12 } : Room).cells ({ frames := 1, cells := 0, slots := 0, locals := 12 } : Room).slots) := by
  refine MetFree.of_bodySF (plainFor_of_name pn_2) hisR ?_
  intro p e s m args below meth c s₁ Bd hml0 hP hK
  obtain ⟨rfl, hZ, hh⟩ := hP
  have hx := Bd.exec
  have hby := Bd.bytes
  have hml : c.maxLocals = 5 := hml0
  have hown : s.vm.findClass "com/example/velwin/velwin/rules/Comparison" = some m.cls := findClass_of_methodNamed Bd.named
  have hnm := (name_of_methodNamed Bd.named Bd.method).1
  have hlk : meth.locks = false := BodyLoose.notSynchronized Bd
  have X0 : Stand p l e ({ frames := 1, cells := 0, slots := 0, locals := 12 } : Room) s m #[(.ref d0), (.long q1), (.long q2)] below meth c s₁ [] 0 0 := Stand.of_body Bd
  have eh0 : s₁.heap = h0 := by rw [← hh, Bd.state]; rfl
  have N0 := Fr.nil n0
  show Rest p.tables e below s (QH0 Z q1 q2 d0 d1 d2 d3 d4 h0 n0) _ _ (s₁.setTop (entryFrame m #[(.ref d0), (.long q1), (.long q2)] 5))
  refine Rest.via (fun t k => castTop (ef_H0 m q1 q2) k) ?_
  have B0 := B
  obtain ⟨S0, E0, F0, S1, E1, F1, S2, E2, F2, S3, E3, F3, S4, E4, F4, ne0_1, ne0_2, ne1_2, ne0_3, ne1_3, ne2_3, ne0_4, ne1_4, ne2_4, ne3_4⟩ := B0
  show Rest p.tables e below s _ _ _ (s₁.setTop (mkF m 0 #[.val (.ref d0), .val (.long q1), .second, .val (.long q2), .second] []))
  refine Rest.via (fun t k => XS.aloadN X0.here hx rfl (hb hby d2_0) rfl rfl k) ?_
  show Rest p.tables e below s _ _ _ (s₁.setTop (mkF m 1 #[.val (.ref d0), .val (.long q1), .second, .val (.long q2), .second] [(.ref d0)]))
  obtain ⟨cq1, kq1, q1a, q1b, q1c⟩ := isOf hZ eh0 E0
  obtain ⟨_, _, ⟨T1, L1, k1, n1⟩, -, X1, ⟨Lc1, hQ1, l1, y1, z1⟩, st1⟩ := X0.virtualBackUp hx (owner := "java/lang/Enum") (x := (⟨"com/example/velwin/velwin/rules/Comparison", "ordinal", "()I"⟩ : MethodName)) (y := (⟨"java/lang/Enum", "ordinal", "()I"⟩ : MethodName)) hown (mvT hZ (hw _ (List.mem_of_getElem? (i := 12) rfl))) (mvT hZ (hw _ (List.mem_of_getElem? (i := 13) rfl))) (mvT hZ (hw _ (List.mem_of_getElem? (i := 14) rfl))) (by decide) (mvT hZ (hw _ (List.mem_of_getElem? (i := 16) rfl))) (mvT hZ (hw _ (List.mem_of_getElem? (i := 15) rfl))) (backOf (W := 0) (rmO l Z aw hw [] d0 (0 : Int32) h0 n0 (Nat.le_trans Z0 (Keep.refl h0 []).1) F0) hZ (hw _ (List.mem_of_getElem? (i := 18) rfl)) (hw _ (List.mem_of_getElem? (i := 17) rfl)) (by decide) (by decide)) q1a q1c (g := (mkF m 1 #[.val (.ref d0), .val (.long q1), .second, .val (.long q2), .second] [(.ref d0)])) rfl (by rw [hml]; rfl) (Steps.refl _) (argsL := []) (rest := []) (lenOf pd_0 rfl) rfl (by show 2 * 0 + _ ≤ _; exact Nat.le_of_eq rfl) (hb hby d2_1) (fun _ _ => ⟨rfl, eh0, (by decide : 0 + 0 ≤ _), (by decide : 0 + 0 ≤ _)⟩)
  dsimp only [Pt.U, Pt.locs, Pt.cells, Pt.slots] at X1 l1 y1 z1 st1 hQ1
  subst l1 y1 z1
  obtain ⟨rfl, Nq1, e1⟩ := hQ1
  have N1 := Fr.app N0 Nq1
  refine Rest.via (fun t k => st1.trans k) ?_
  show Rest p.tables e below s _ _ _ (T1.setTop (mkF m 4 #[.val (.ref d0), .val (.long q1), .second, .val (.long q2), .second] [(.int (0 : Int32))]))
  refine Rest.via (fun t k => XS.tswIn X1.here hx rfl (pc0 := 4) (pc' := 50) (o := 46) rfl (hb hby d2_4) rfl (by decide) (by decide) (by decide) (by decide) k) ?_
  show Rest p.tables e below s _ _ _ (T1.setTop (mkF m 50 #[.val (.ref d0), .val (.long q1), .second, .val (.long q2), .second] []))
  refine Rest.via (fun t k => XS.lloadN X1.here hx rfl (hb hby d2_50) rfl k) ?_
  show Rest p.tables e below s _ _ _ (T1.setTop (mkF m 51 #[.val (.ref d0), .val (.long q1), .second, .val (.long q2), .second] [(.long q1)]))
  refine Rest.via (fun t k => XS.lloadN X1.here hx rfl (hb hby d2_51) rfl k) ?_
  show Rest p.tables e below s _ _ _ (T1.setTop (mkF m 52 #[.val (.ref d0), .val (.long q1), .second, .val (.long q2), .second] [(.long q2), (.long q1)]))
  refine Rest.via (fun t k => XS.lcmp X1.here hx rfl (hb hby d2_52) rfl k) ?_
  show Rest p.tables e below s _ _ _ (T1.setTop (mkF m 53 #[.val (.ref d0), .val (.long q1), .second, .val (.long q2), .second] [(.int (lcmpW q1 q2))]))
  by_cases hc53 : q2 < q1
  · refine Rest.via (fun t k => XS.ifNo X1.here hx rfl (hb hby d2_53) rfl ((if0 _ _).trans (tlt ((lw_gt _ _).mpr hc53)).2.2.2) k) ?_
    show Rest p.tables e below s _ _ _ (T1.setTop (mkF m 56 #[.val (.ref d0), .val (.long q1), .second, .val (.long q2), .second] []))
    refine Rest.via (fun t k => XS.iconst X1.here hx rfl (hb hby d2_56) k) ?_
    show Rest p.tables e below s _ _ _ (T1.setTop (mkF m 57 #[.val (.ref d0), .val (.long q1), .second, .val (.long q2), .second] [(.int (1 : Int32))]))
    refine Rest.via (fun t k => XS.goto X1.here hx rfl (pc0 := 57) (pc' := 117) rfl (hb hby d2_57) (by decide) (by decide) k) ?_
    show Rest p.tables e below s _ _ _ (T1.setTop (mkF m 117 #[.val (.ref d0), .val (.long q1), .second, .val (.long q2), .second] [(.int (1 : Int32))]))
    refine Rest.ret X1 (v := some (.int (nar .boolean (1 : Int32)))) (fun h => by rw [Bd.returns] at h; cases h) hlk (fun fs hr => retN X1 hx (t := .boolean) Bd.returns (by simp) (hb hby d2_117) hr) ?_ (by decide) (by decide)
    rw [e1]
    exact ⟨by show some (Value.int (1 : Int32)) = _; rw [own_h0, if_pos hc53], N1, rfl⟩
  · refine Rest.via (fun t k => XS.ifYes X1.here hx rfl (pc0 := 53) (pc' := 60) rfl (hb hby d2_53) rfl ((if0 _ _).trans (flt (fun q => hc53 ((lw_gt _ _).mp q))).2.2.2) (by decide) (by decide) k) ?_
    show Rest p.tables e below s _ _ _ (T1.setTop (mkF m 60 #[.val (.ref d0), .val (.long q1), .second, .val (.long q2), .second] []))
    refine Rest.via (fun t k => XS.iconst X1.here hx rfl (hb hby d2_60) k) ?_
    show Rest p.tables e below s _ _ _ (T1.setTop (mkF m 61 #[.val (.ref d0), .val (.long q1), .second, .val (.long q2), .second] [(.int (0 : Int32))]))
    refine Rest.via (fun t k => XS.goto X1.here hx rfl (pc0 := 61) (pc' := 117) rfl (hb hby d2_61) (by decide) (by decide) k) ?_
    show Rest p.tables e below s _ _ _ (T1.setTop (mkF m 117 #[.val (.ref d0), .val (.long q1), .second, .val (.long q2), .second] [(.int (0 : Int32))]))
    refine Rest.ret X1 (v := some (.int (nar .boolean (0 : Int32)))) (fun h => by rw [Bd.returns] at h; cases h) hlk (fun fs hr => retN X1 hx (t := .boolean) Bd.returns (by simp) (hb hby d2_117) hr) ?_ (by decide) (by decide)
    rw [e1]
    exact ⟨by show some (Value.int (0 : Int32)) = _; rw [own_h0, if_neg hc53], N1, rfl⟩
theorem d2_64 : decode prog_35_method_4_code 64 = .ok (.lload_n 1, 1) := by decide +kernel
theorem d2_65 : decode prog_35_method_4_code 65 = .ok (.lload_n 3, 1) := by decide +kernel
theorem d2_66 : decode prog_35_method_4_code 66 = .ok (.lcmp, 1) := by decide +kernel
theorem d2_67 : decode prog_35_method_4_code 67 = .ok (.ifCond .lt 7, 3) := by decide +kernel
theorem d2_70 : decode prog_35_method_4_code 70 = .ok (.iconst 1, 1) := by decide +kernel
theorem d2_71 : decode prog_35_method_4_code 71 = .ok (.goto 46, 3) := by decide +kernel
theorem d2_74 : decode prog_35_method_4_code 74 = .ok (.iconst 0, 1) := by decide +kernel
theorem d2_75 : decode prog_35_method_4_code 75 = .ok (.goto 42, 3) := by decide +kernel
theorem ef_H1 (m : MethodId) (q1 : Int64) (q2 : Int64) : entryFrame m #[(.ref d1), (.long q1), (.long q2)] 5 = mkF m 0 #[.val (.ref d1), .val (.long q1), .second, .val (.long q2), .second] [] := by first | (simp [entryFrame, mkF, argsToLocals, Value.category, maxLocals]; done) | rfl
def QH1 (Z : State) (q1 : Int64) (q2 : Int64) (d0 : Addr) (d1 : Addr) (d2 : Addr) (d3 : Addr) (d4 : Addr) (h0 : Heap) (n0 : Nat) (v : Option Value) (h : Heap) (L : List Loc) : Prop := v = some (.int (own_h1 q1 q2)) ∧ Fr n0 L ∧ h = h0
set_option maxRecDepth 65536 in
set_option maxHeartbeats 40000000 in
theorem rmH1 (l : Launch) (Z : State) (aw : Array Value) (hw : ∀ d ∈ tables_1, d.before aw Z = true) (ws : List Jvm.Cond) (q1 : Int64) (q2 : Int64) (d0 : Addr) (d1 : Addr) (d2 : Addr) (d3 : Addr) (d4 : Addr) (h0 : Heap) (n0 : Nat) (Z0 : n0 ≤ h0.size) (B : own_B Z h0 d0 d1 d2 d3 d4) :
    MetFree l (⟨"com/example/velwin/velwin/rules/Comparison", "holds", "(JJ)Z"⟩ : MethodName) (head1 (Jvm.Cond.code (⟨"com/example/velwin/velwin/rules/Comparison", "holds", "(JJ)Z"⟩ : MethodName) prog_35_method_4_code 5 (some .boolean) :: ws) ({ frames := 1, cells := 0, slots := 0, locals := 12 } : Room)) (fun a U => a = #[(.ref d1), (.long q1), (.long q2)] ∧ Z.Warmed39 U.vm ∧ U.heap = h0) (fun _ _ _ _ _ => True) (fun _ U o U' => ∃ v L, o = .returned v ∧ QH1 Z q1 q2 d0 d1 d2 d3 d4 h0 n0 v U'.heap L ∧ FrameEnd U o U' L ({ frames := 1, cells := 0, slots := 0, locals := 12 } : Room).cells ({ frames := 1, cells := 0, slots := 0, locals := 12 } : Room).slots) := by
  refine MetFree.of_bodySF (plainFor_of_name pn_2) hisR ?_
  intro p e s m args below meth c s₁ Bd hml0 hP hK
  obtain ⟨rfl, hZ, hh⟩ := hP
  have hx := Bd.exec
  have hby := Bd.bytes
  have hml : c.maxLocals = 5 := hml0
  have hown : s.vm.findClass "com/example/velwin/velwin/rules/Comparison" = some m.cls := findClass_of_methodNamed Bd.named
  have hnm := (name_of_methodNamed Bd.named Bd.method).1
  have hlk : meth.locks = false := BodyLoose.notSynchronized Bd
  have X0 : Stand p l e ({ frames := 1, cells := 0, slots := 0, locals := 12 } : Room) s m #[(.ref d1), (.long q1), (.long q2)] below meth c s₁ [] 0 0 := Stand.of_body Bd
  have eh0 : s₁.heap = h0 := by rw [← hh, Bd.state]; rfl
  have N0 := Fr.nil n0
  show Rest p.tables e below s (QH1 Z q1 q2 d0 d1 d2 d3 d4 h0 n0) _ _ (s₁.setTop (entryFrame m #[(.ref d1), (.long q1), (.long q2)] 5))
  refine Rest.via (fun t k => castTop (ef_H1 m q1 q2) k) ?_
  have B0 := B
  obtain ⟨S0, E0, F0, S1, E1, F1, S2, E2, F2, S3, E3, F3, S4, E4, F4, ne0_1, ne0_2, ne1_2, ne0_3, ne1_3, ne2_3, ne0_4, ne1_4, ne2_4, ne3_4⟩ := B0
  show Rest p.tables e below s _ _ _ (s₁.setTop (mkF m 0 #[.val (.ref d1), .val (.long q1), .second, .val (.long q2), .second] []))
  refine Rest.via (fun t k => XS.aloadN X0.here hx rfl (hb hby d2_0) rfl rfl k) ?_
  show Rest p.tables e below s _ _ _ (s₁.setTop (mkF m 1 #[.val (.ref d1), .val (.long q1), .second, .val (.long q2), .second] [(.ref d1)]))
  obtain ⟨cq1, kq1, q1a, q1b, q1c⟩ := isOf hZ eh0 E1
  obtain ⟨_, _, ⟨T1, L1, k1, n1⟩, -, X1, ⟨Lc1, hQ1, l1, y1, z1⟩, st1⟩ := X0.virtualBackUp hx (owner := "java/lang/Enum") (x := (⟨"com/example/velwin/velwin/rules/Comparison", "ordinal", "()I"⟩ : MethodName)) (y := (⟨"java/lang/Enum", "ordinal", "()I"⟩ : MethodName)) hown (mvT hZ (hw _ (List.mem_of_getElem? (i := 12) rfl))) (mvT hZ (hw _ (List.mem_of_getElem? (i := 13) rfl))) (mvT hZ (hw _ (List.mem_of_getElem? (i := 14) rfl))) (by decide) (mvT hZ (hw _ (List.mem_of_getElem? (i := 16) rfl))) (mvT hZ (hw _ (List.mem_of_getElem? (i := 15) rfl))) (backOf (W := 0) (rmO l Z aw hw [] d1 (1 : Int32) h0 n0 (Nat.le_trans Z0 (Keep.refl h0 []).1) F1) hZ (hw _ (List.mem_of_getElem? (i := 18) rfl)) (hw _ (List.mem_of_getElem? (i := 17) rfl)) (by decide) (by decide)) q1a q1c (g := (mkF m 1 #[.val (.ref d1), .val (.long q1), .second, .val (.long q2), .second] [(.ref d1)])) rfl (by rw [hml]; rfl) (Steps.refl _) (argsL := []) (rest := []) (lenOf pd_0 rfl) rfl (by show 2 * 0 + _ ≤ _; exact Nat.le_of_eq rfl) (hb hby d2_1) (fun _ _ => ⟨rfl, eh0, (by decide : 0 + 0 ≤ _), (by decide : 0 + 0 ≤ _)⟩)
  dsimp only [Pt.U, Pt.locs, Pt.cells, Pt.slots] at X1 l1 y1 z1 st1 hQ1
  subst l1 y1 z1
  obtain ⟨rfl, Nq1, e1⟩ := hQ1
  have N1 := Fr.app N0 Nq1
  refine Rest.via (fun t k => st1.trans k) ?_
  show Rest p.tables e below s _ _ _ (T1.setTop (mkF m 4 #[.val (.ref d1), .val (.long q1), .second, .val (.long q2), .second] [(.int (1 : Int32))]))
  refine Rest.via (fun t k => XS.tswIn X1.here hx rfl (pc0 := 4) (pc' := 64) (o := 60) rfl (hb hby d2_4) rfl (by decide) (by decide) (by decide) (by decide) k) ?_
  show Rest p.tables e below s _ _ _ (T1.setTop (mkF m 64 #[.val (.ref d1), .val (.long q1), .second, .val (.long q2), .second] []))
  refine Rest.via (fun t k => XS.lloadN X1.here hx rfl (hb hby d2_64) rfl k) ?_
  show Rest p.tables e below s _ _ _ (T1.setTop (mkF m 65 #[.val (.ref d1), .val (.long q1), .second, .val (.long q2), .second] [(.long q1)]))
  refine Rest.via (fun t k => XS.lloadN X1.here hx rfl (hb hby d2_65) rfl k) ?_
  show Rest p.tables e below s _ _ _ (T1.setTop (mkF m 66 #[.val (.ref d1), .val (.long q1), .second, .val (.long q2), .second] [(.long q2), (.long q1)]))
  refine Rest.via (fun t k => XS.lcmp X1.here hx rfl (hb hby d2_66) rfl k) ?_
  show Rest p.tables e below s _ _ _ (T1.setTop (mkF m 67 #[.val (.ref d1), .val (.long q1), .second, .val (.long q2), .second] [(.int (lcmpW q1 q2))]))
  by_cases hc67 : q1 < q2
  · refine Rest.via (fun t k => XS.ifYes X1.here hx rfl (pc0 := 67) (pc' := 74) rfl (hb hby d2_67) rfl ((if0 _ _).trans (tlt ((lw_lt _ _).mpr hc67)).1) (by decide) (by decide) k) ?_
    show Rest p.tables e below s _ _ _ (T1.setTop (mkF m 74 #[.val (.ref d1), .val (.long q1), .second, .val (.long q2), .second] []))
    refine Rest.via (fun t k => XS.iconst X1.here hx rfl (hb hby d2_74) k) ?_
    show Rest p.tables e below s _ _ _ (T1.setTop (mkF m 75 #[.val (.ref d1), .val (.long q1), .second, .val (.long q2), .second] [(.int (0 : Int32))]))
    refine Rest.via (fun t k => XS.goto X1.here hx rfl (pc0 := 75) (pc' := 117) rfl (hb hby d2_75) (by decide) (by decide) k) ?_
    show Rest p.tables e below s _ _ _ (T1.setTop (mkF m 117 #[.val (.ref d1), .val (.long q1), .second, .val (.long q2), .second] [(.int (0 : Int32))]))
    refine Rest.ret X1 (v := some (.int (nar .boolean (0 : Int32)))) (fun h => by rw [Bd.returns] at h; cases h) hlk (fun fs hr => retN X1 hx (t := .boolean) Bd.returns (by simp) (hb hby d2_117) hr) ?_ (by decide) (by decide)
    rw [e1]
    exact ⟨by show some (Value.int (0 : Int32)) = _; rw [own_h1, if_pos hc67], N1, rfl⟩
  · refine Rest.via (fun t k => XS.ifNo X1.here hx rfl (hb hby d2_67) rfl ((if0 _ _).trans (flt (fun q => hc67 ((lw_lt _ _).mp q))).1) k) ?_
    show Rest p.tables e below s _ _ _ (T1.setTop (mkF m 70 #[.val (.ref d1), .val (.long q1), .second, .val (.long q2), .second] []))
    refine Rest.via (fun t k => XS.iconst X1.here hx rfl (hb hby d2_70) k) ?_
    show Rest p.tables e below s _ _ _ (T1.setTop (mkF m 71 #[.val (.ref d1), .val (.long q1), .second, .val (.long q2), .second] [(.int (1 : Int32))]))
    refine Rest.via (fun t k => XS.goto X1.here hx rfl (pc0 := 71) (pc' := 117) rfl (hb hby d2_71) (by decide) (by decide) k) ?_
    show Rest p.tables e below s _ _ _ (T1.setTop (mkF m 117 #[.val (.ref d1), .val (.long q1), .second, .val (.long q2), .second] [(.int (1 : Int32))]))
    refine Rest.ret X1 (v := some (.int (nar .boolean (1 : Int32)))) (fun h => by rw [Bd.returns] at h; cases h) hlk (fun fs hr => retN X1 hx (t := .boolean) Bd.returns (by simp) (hb hby d2_117) hr) ?_ (by decide) (by decide)
    rw [e1]
    exact ⟨by show some (Value.int (1 : Int32)) = _; rw [own_h1, if_neg hc67], N1, rfl⟩
theorem d2_78 : decode prog_35_method_4_code 78 = .ok (.lload_n 1, 1) := by decide +kernel
theorem d2_79 : decode prog_35_method_4_code 79 = .ok (.lload_n 3, 1) := by decide +kernel
theorem d2_80 : decode prog_35_method_4_code 80 = .ok (.lcmp, 1) := by decide +kernel
theorem d2_81 : decode prog_35_method_4_code 81 = .ok (.ifCond .ne 7, 3) := by decide +kernel
theorem d2_84 : decode prog_35_method_4_code 84 = .ok (.iconst 1, 1) := by decide +kernel
theorem d2_85 : decode prog_35_method_4_code 85 = .ok (.goto 32, 3) := by decide +kernel
theorem d2_88 : decode prog_35_method_4_code 88 = .ok (.iconst 0, 1) := by decide +kernel
theorem d2_89 : decode prog_35_method_4_code 89 = .ok (.goto 28, 3) := by decide +kernel
theorem ef_H2 (m : MethodId) (q1 : Int64) (q2 : Int64) : entryFrame m #[(.ref d2), (.long q1), (.long q2)] 5 = mkF m 0 #[.val (.ref d2), .val (.long q1), .second, .val (.long q2), .second] [] := by first | (simp [entryFrame, mkF, argsToLocals, Value.category, maxLocals]; done) | rfl
def QH2 (Z : State) (q1 : Int64) (q2 : Int64) (d0 : Addr) (d1 : Addr) (d2 : Addr) (d3 : Addr) (d4 : Addr) (h0 : Heap) (n0 : Nat) (v : Option Value) (h : Heap) (L : List Loc) : Prop := v = some (.int (own_h2 q1 q2)) ∧ Fr n0 L ∧ h = h0
set_option maxRecDepth 65536 in
set_option maxHeartbeats 40000000 in
theorem rmH2 (l : Launch) (Z : State) (aw : Array Value) (hw : ∀ d ∈ tables_1, d.before aw Z = true) (ws : List Jvm.Cond) (q1 : Int64) (q2 : Int64) (d0 : Addr) (d1 : Addr) (d2 : Addr) (d3 : Addr) (d4 : Addr) (h0 : Heap) (n0 : Nat) (Z0 : n0 ≤ h0.size) (B : own_B Z h0 d0 d1 d2 d3 d4) :
    MetFree l (⟨"com/example/velwin/velwin/rules/Comparison", "holds", "(JJ)Z"⟩ : MethodName) (head1 (Jvm.Cond.code (⟨"com/example/velwin/velwin/rules/Comparison", "holds", "(JJ)Z"⟩ : MethodName) prog_35_method_4_code 5 (some .boolean) :: ws) ({ frames := 1, cells := 0, slots := 0, locals := 12 } : Room)) (fun a U => a = #[(.ref d2), (.long q1), (.long q2)] ∧ Z.Warmed39 U.vm ∧ U.heap = h0) (fun _ _ _ _ _ => True) (fun _ U o U' => ∃ v L, o = .returned v ∧ QH2 Z q1 q2 d0 d1 d2 d3 d4 h0 n0 v U'.heap L ∧ FrameEnd U o U' L ({ frames := 1, cells := 0, slots := 0, locals := 12 } : Room).cells ({ frames := 1, cells := 0, slots := 0, locals := 12 } : Room).slots) := by
  refine MetFree.of_bodySF (plainFor_of_name pn_2) hisR ?_
  intro p e s m args below meth c s₁ Bd hml0 hP hK
  obtain ⟨rfl, hZ, hh⟩ := hP
  have hx := Bd.exec
  have hby := Bd.bytes
  have hml : c.maxLocals = 5 := hml0
  have hown : s.vm.findClass "com/example/velwin/velwin/rules/Comparison" = some m.cls := findClass_of_methodNamed Bd.named
  have hnm := (name_of_methodNamed Bd.named Bd.method).1
  have hlk : meth.locks = false := BodyLoose.notSynchronized Bd
  have X0 : Stand p l e ({ frames := 1, cells := 0, slots := 0, locals := 12 } : Room) s m #[(.ref d2), (.long q1), (.long q2)] below meth c s₁ [] 0 0 := Stand.of_body Bd
  have eh0 : s₁.heap = h0 := by rw [← hh, Bd.state]; rfl
  have N0 := Fr.nil n0
  show Rest p.tables e below s (QH2 Z q1 q2 d0 d1 d2 d3 d4 h0 n0) _ _ (s₁.setTop (entryFrame m #[(.ref d2), (.long q1), (.long q2)] 5))
  refine Rest.via (fun t k => castTop (ef_H2 m q1 q2) k) ?_
  have B0 := B
  obtain ⟨S0, E0, F0, S1, E1, F1, S2, E2, F2, S3, E3, F3, S4, E4, F4, ne0_1, ne0_2, ne1_2, ne0_3, ne1_3, ne2_3, ne0_4, ne1_4, ne2_4, ne3_4⟩ := B0
  show Rest p.tables e below s _ _ _ (s₁.setTop (mkF m 0 #[.val (.ref d2), .val (.long q1), .second, .val (.long q2), .second] []))
  refine Rest.via (fun t k => XS.aloadN X0.here hx rfl (hb hby d2_0) rfl rfl k) ?_
  show Rest p.tables e below s _ _ _ (s₁.setTop (mkF m 1 #[.val (.ref d2), .val (.long q1), .second, .val (.long q2), .second] [(.ref d2)]))
  obtain ⟨cq1, kq1, q1a, q1b, q1c⟩ := isOf hZ eh0 E2
  obtain ⟨_, _, ⟨T1, L1, k1, n1⟩, -, X1, ⟨Lc1, hQ1, l1, y1, z1⟩, st1⟩ := X0.virtualBackUp hx (owner := "java/lang/Enum") (x := (⟨"com/example/velwin/velwin/rules/Comparison", "ordinal", "()I"⟩ : MethodName)) (y := (⟨"java/lang/Enum", "ordinal", "()I"⟩ : MethodName)) hown (mvT hZ (hw _ (List.mem_of_getElem? (i := 12) rfl))) (mvT hZ (hw _ (List.mem_of_getElem? (i := 13) rfl))) (mvT hZ (hw _ (List.mem_of_getElem? (i := 14) rfl))) (by decide) (mvT hZ (hw _ (List.mem_of_getElem? (i := 16) rfl))) (mvT hZ (hw _ (List.mem_of_getElem? (i := 15) rfl))) (backOf (W := 0) (rmO l Z aw hw [] d2 (2 : Int32) h0 n0 (Nat.le_trans Z0 (Keep.refl h0 []).1) F2) hZ (hw _ (List.mem_of_getElem? (i := 18) rfl)) (hw _ (List.mem_of_getElem? (i := 17) rfl)) (by decide) (by decide)) q1a q1c (g := (mkF m 1 #[.val (.ref d2), .val (.long q1), .second, .val (.long q2), .second] [(.ref d2)])) rfl (by rw [hml]; rfl) (Steps.refl _) (argsL := []) (rest := []) (lenOf pd_0 rfl) rfl (by show 2 * 0 + _ ≤ _; exact Nat.le_of_eq rfl) (hb hby d2_1) (fun _ _ => ⟨rfl, eh0, (by decide : 0 + 0 ≤ _), (by decide : 0 + 0 ≤ _)⟩)
  dsimp only [Pt.U, Pt.locs, Pt.cells, Pt.slots] at X1 l1 y1 z1 st1 hQ1
  subst l1 y1 z1
  obtain ⟨rfl, Nq1, e1⟩ := hQ1
  have N1 := Fr.app N0 Nq1
  refine Rest.via (fun t k => st1.trans k) ?_
  show Rest p.tables e below s _ _ _ (T1.setTop (mkF m 4 #[.val (.ref d2), .val (.long q1), .second, .val (.long q2), .second] [(.int (2 : Int32))]))
  refine Rest.via (fun t k => XS.tswIn X1.here hx rfl (pc0 := 4) (pc' := 78) (o := 74) rfl (hb hby d2_4) rfl (by decide) (by decide) (by decide) (by decide) k) ?_
  show Rest p.tables e below s _ _ _ (T1.setTop (mkF m 78 #[.val (.ref d2), .val (.long q1), .second, .val (.long q2), .second] []))
  refine Rest.via (fun t k => XS.lloadN X1.here hx rfl (hb hby d2_78) rfl k) ?_
  show Rest p.tables e below s _ _ _ (T1.setTop (mkF m 79 #[.val (.ref d2), .val (.long q1), .second, .val (.long q2), .second] [(.long q1)]))
  refine Rest.via (fun t k => XS.lloadN X1.here hx rfl (hb hby d2_79) rfl k) ?_
  show Rest p.tables e below s _ _ _ (T1.setTop (mkF m 80 #[.val (.ref d2), .val (.long q1), .second, .val (.long q2), .second] [(.long q2), (.long q1)]))
  refine Rest.via (fun t k => XS.lcmp X1.here hx rfl (hb hby d2_80) rfl k) ?_
  show Rest p.tables e below s _ _ _ (T1.setTop (mkF m 81 #[.val (.ref d2), .val (.long q1), .second, .val (.long q2), .second] [(.int (lcmpW q1 q2))]))
  by_cases hc81 : q1 = q2
  · refine Rest.via (fun t k => XS.ifNo X1.here hx rfl (hb hby d2_81) rfl ((if0 _ _).trans (teq ((lw_eq _ _).mpr hc81)).2) k) ?_
    show Rest p.tables e below s _ _ _ (T1.setTop (mkF m 84 #[.val (.ref d2), .val (.long q1), .second, .val (.long q2), .second] []))
    refine Rest.via (fun t k => XS.iconst X1.here hx rfl (hb hby d2_84) k) ?_
    show Rest p.tables e below s _ _ _ (T1.setTop (mkF m 85 #[.val (.ref d2), .val (.long q1), .second, .val (.long q2), .second] [(.int (1 : Int32))]))
    refine Rest.via (fun t k => XS.goto X1.here hx rfl (pc0 := 85) (pc' := 117) rfl (hb hby d2_85) (by decide) (by decide) k) ?_
    show Rest p.tables e below s _ _ _ (T1.setTop (mkF m 117 #[.val (.ref d2), .val (.long q1), .second, .val (.long q2), .second] [(.int (1 : Int32))]))
    refine Rest.ret X1 (v := some (.int (nar .boolean (1 : Int32)))) (fun h => by rw [Bd.returns] at h; cases h) hlk (fun fs hr => retN X1 hx (t := .boolean) Bd.returns (by simp) (hb hby d2_117) hr) ?_ (by decide) (by decide)
    rw [e1]
    exact ⟨by show some (Value.int (1 : Int32)) = _; rw [own_h2, if_pos hc81], N1, rfl⟩
  · refine Rest.via (fun t k => XS.ifYes X1.here hx rfl (pc0 := 81) (pc' := 88) rfl (hb hby d2_81) rfl ((if0 _ _).trans (feq (fun q => hc81 ((lw_eq _ _).mp q))).2) (by decide) (by decide) k) ?_
    show Rest p.tables e below s _ _ _ (T1.setTop (mkF m 88 #[.val (.ref d2), .val (.long q1), .second, .val (.long q2), .second] []))
    refine Rest.via (fun t k => XS.iconst X1.here hx rfl (hb hby d2_88) k) ?_
    show Rest p.tables e below s _ _ _ (T1.setTop (mkF m 89 #[.val (.ref d2), .val (.long q1), .second, .val (.long q2), .second] [(.int (0 : Int32))]))
    refine Rest.via (fun t k => XS.goto X1.here hx rfl (pc0 := 89) (pc' := 117) rfl (hb hby d2_89) (by decide) (by decide) k) ?_
    show Rest p.tables e below s _ _ _ (T1.setTop (mkF m 117 #[.val (.ref d2), .val (.long q1), .second, .val (.long q2), .second] [(.int (0 : Int32))]))
    refine Rest.ret X1 (v := some (.int (nar .boolean (0 : Int32)))) (fun h => by rw [Bd.returns] at h; cases h) hlk (fun fs hr => retN X1 hx (t := .boolean) Bd.returns (by simp) (hb hby d2_117) hr) ?_ (by decide) (by decide)
    rw [e1]
    exact ⟨by show some (Value.int (0 : Int32)) = _; rw [own_h2, if_neg hc81], N1, rfl⟩
theorem d2_92 : decode prog_35_method_4_code 92 = .ok (.lload_n 1, 1) := by decide +kernel
theorem d2_93 : decode prog_35_method_4_code 93 = .ok (.lload_n 3, 1) := by decide +kernel
theorem d2_94 : decode prog_35_method_4_code 94 = .ok (.lcmp, 1) := by decide +kernel
theorem d2_95 : decode prog_35_method_4_code 95 = .ok (.ifCond .ge 7, 3) := by decide +kernel
theorem d2_98 : decode prog_35_method_4_code 98 = .ok (.iconst 1, 1) := by decide +kernel
theorem d2_99 : decode prog_35_method_4_code 99 = .ok (.goto 18, 3) := by decide +kernel
theorem d2_102 : decode prog_35_method_4_code 102 = .ok (.iconst 0, 1) := by decide +kernel
theorem d2_103 : decode prog_35_method_4_code 103 = .ok (.goto 14, 3) := by decide +kernel
theorem ef_H3 (m : MethodId) (q1 : Int64) (q2 : Int64) : entryFrame m #[(.ref d3), (.long q1), (.long q2)] 5 = mkF m 0 #[.val (.ref d3), .val (.long q1), .second, .val (.long q2), .second] [] := by first | (simp [entryFrame, mkF, argsToLocals, Value.category, maxLocals]; done) | rfl
def QH3 (Z : State) (q1 : Int64) (q2 : Int64) (d0 : Addr) (d1 : Addr) (d2 : Addr) (d3 : Addr) (d4 : Addr) (h0 : Heap) (n0 : Nat) (v : Option Value) (h : Heap) (L : List Loc) : Prop := v = some (.int (own_h3 q1 q2)) ∧ Fr n0 L ∧ h = h0
set_option maxRecDepth 65536 in
set_option maxHeartbeats 40000000 in
theorem rmH3 (l : Launch) (Z : State) (aw : Array Value) (hw : ∀ d ∈ tables_1, d.before aw Z = true) (ws : List Jvm.Cond) (q1 : Int64) (q2 : Int64) (d0 : Addr) (d1 : Addr) (d2 : Addr) (d3 : Addr) (d4 : Addr) (h0 : Heap) (n0 : Nat) (Z0 : n0 ≤ h0.size) (B : own_B Z h0 d0 d1 d2 d3 d4) :
    MetFree l (⟨"com/example/velwin/velwin/rules/Comparison", "holds", "(JJ)Z"⟩ : MethodName) (head1 (Jvm.Cond.code (⟨"com/example/velwin/velwin/rules/Comparison", "holds", "(JJ)Z"⟩ : MethodName) prog_35_method_4_code 5 (some .boolean) :: ws) ({ frames := 1, cells := 0, slots := 0, locals := 12 } : Room)) (fun a U => a = #[(.ref d3), (.long q1), (.long q2)] ∧ Z.Warmed39 U.vm ∧ U.heap = h0) (fun _ _ _ _ _ => True) (fun _ U o U' => ∃ v L, o = .returned v ∧ QH3 Z q1 q2 d0 d1 d2 d3 d4 h0 n0 v U'.heap L ∧ FrameEnd U o U' L ({ frames := 1, cells := 0, slots := 0, locals := 12 } : Room).cells ({ frames := 1, cells := 0, slots := 0, locals := 12 } : Room).slots) := by
  refine MetFree.of_bodySF (plainFor_of_name pn_2) hisR ?_
  intro p e s m args below meth c s₁ Bd hml0 hP hK
  obtain ⟨rfl, hZ, hh⟩ := hP
  have hx := Bd.exec
  have hby := Bd.bytes
  have hml : c.maxLocals = 5 := hml0
  have hown : s.vm.findClass "com/example/velwin/velwin/rules/Comparison" = some m.cls := findClass_of_methodNamed Bd.named
  have hnm := (name_of_methodNamed Bd.named Bd.method).1
  have hlk : meth.locks = false := BodyLoose.notSynchronized Bd
  have X0 : Stand p l e ({ frames := 1, cells := 0, slots := 0, locals := 12 } : Room) s m #[(.ref d3), (.long q1), (.long q2)] below meth c s₁ [] 0 0 := Stand.of_body Bd
  have eh0 : s₁.heap = h0 := by rw [← hh, Bd.state]; rfl
  have N0 := Fr.nil n0
  show Rest p.tables e below s (QH3 Z q1 q2 d0 d1 d2 d3 d4 h0 n0) _ _ (s₁.setTop (entryFrame m #[(.ref d3), (.long q1), (.long q2)] 5))
  refine Rest.via (fun t k => castTop (ef_H3 m q1 q2) k) ?_
  have B0 := B
  obtain ⟨S0, E0, F0, S1, E1, F1, S2, E2, F2, S3, E3, F3, S4, E4, F4, ne0_1, ne0_2, ne1_2, ne0_3, ne1_3, ne2_3, ne0_4, ne1_4, ne2_4, ne3_4⟩ := B0
  show Rest p.tables e below s _ _ _ (s₁.setTop (mkF m 0 #[.val (.ref d3), .val (.long q1), .second, .val (.long q2), .second] []))
  refine Rest.via (fun t k => XS.aloadN X0.here hx rfl (hb hby d2_0) rfl rfl k) ?_
  show Rest p.tables e below s _ _ _ (s₁.setTop (mkF m 1 #[.val (.ref d3), .val (.long q1), .second, .val (.long q2), .second] [(.ref d3)]))
  obtain ⟨cq1, kq1, q1a, q1b, q1c⟩ := isOf hZ eh0 E3
  obtain ⟨_, _, ⟨T1, L1, k1, n1⟩, -, X1, ⟨Lc1, hQ1, l1, y1, z1⟩, st1⟩ := X0.virtualBackUp hx (owner := "java/lang/Enum") (x := (⟨"com/example/velwin/velwin/rules/Comparison", "ordinal", "()I"⟩ : MethodName)) (y := (⟨"java/lang/Enum", "ordinal", "()I"⟩ : MethodName)) hown (mvT hZ (hw _ (List.mem_of_getElem? (i := 12) rfl))) (mvT hZ (hw _ (List.mem_of_getElem? (i := 13) rfl))) (mvT hZ (hw _ (List.mem_of_getElem? (i := 14) rfl))) (by decide) (mvT hZ (hw _ (List.mem_of_getElem? (i := 16) rfl))) (mvT hZ (hw _ (List.mem_of_getElem? (i := 15) rfl))) (backOf (W := 0) (rmO l Z aw hw [] d3 (3 : Int32) h0 n0 (Nat.le_trans Z0 (Keep.refl h0 []).1) F3) hZ (hw _ (List.mem_of_getElem? (i := 18) rfl)) (hw _ (List.mem_of_getElem? (i := 17) rfl)) (by decide) (by decide)) q1a q1c (g := (mkF m 1 #[.val (.ref d3), .val (.long q1), .second, .val (.long q2), .second] [(.ref d3)])) rfl (by rw [hml]; rfl) (Steps.refl _) (argsL := []) (rest := []) (lenOf pd_0 rfl) rfl (by show 2 * 0 + _ ≤ _; exact Nat.le_of_eq rfl) (hb hby d2_1) (fun _ _ => ⟨rfl, eh0, (by decide : 0 + 0 ≤ _), (by decide : 0 + 0 ≤ _)⟩)
  dsimp only [Pt.U, Pt.locs, Pt.cells, Pt.slots] at X1 l1 y1 z1 st1 hQ1
  subst l1 y1 z1
  obtain ⟨rfl, Nq1, e1⟩ := hQ1
  have N1 := Fr.app N0 Nq1
  refine Rest.via (fun t k => st1.trans k) ?_
  show Rest p.tables e below s _ _ _ (T1.setTop (mkF m 4 #[.val (.ref d3), .val (.long q1), .second, .val (.long q2), .second] [(.int (3 : Int32))]))
  refine Rest.via (fun t k => XS.tswIn X1.here hx rfl (pc0 := 4) (pc' := 92) (o := 88) rfl (hb hby d2_4) rfl (by decide) (by decide) (by decide) (by decide) k) ?_
  show Rest p.tables e below s _ _ _ (T1.setTop (mkF m 92 #[.val (.ref d3), .val (.long q1), .second, .val (.long q2), .second] []))
  refine Rest.via (fun t k => XS.lloadN X1.here hx rfl (hb hby d2_92) rfl k) ?_
  show Rest p.tables e below s _ _ _ (T1.setTop (mkF m 93 #[.val (.ref d3), .val (.long q1), .second, .val (.long q2), .second] [(.long q1)]))
  refine Rest.via (fun t k => XS.lloadN X1.here hx rfl (hb hby d2_93) rfl k) ?_
  show Rest p.tables e below s _ _ _ (T1.setTop (mkF m 94 #[.val (.ref d3), .val (.long q1), .second, .val (.long q2), .second] [(.long q2), (.long q1)]))
  refine Rest.via (fun t k => XS.lcmp X1.here hx rfl (hb hby d2_94) rfl k) ?_
  show Rest p.tables e below s _ _ _ (T1.setTop (mkF m 95 #[.val (.ref d3), .val (.long q1), .second, .val (.long q2), .second] [(.int (lcmpW q1 q2))]))
  by_cases hc95 : q1 < q2
  · refine Rest.via (fun t k => XS.ifNo X1.here hx rfl (hb hby d2_95) rfl ((if0 _ _).trans (tlt ((lw_lt _ _).mpr hc95)).2.1) k) ?_
    show Rest p.tables e below s _ _ _ (T1.setTop (mkF m 98 #[.val (.ref d3), .val (.long q1), .second, .val (.long q2), .second] []))
    refine Rest.via (fun t k => XS.iconst X1.here hx rfl (hb hby d2_98) k) ?_
    show Rest p.tables e below s _ _ _ (T1.setTop (mkF m 99 #[.val (.ref d3), .val (.long q1), .second, .val (.long q2), .second] [(.int (1 : Int32))]))
    refine Rest.via (fun t k => XS.goto X1.here hx rfl (pc0 := 99) (pc' := 117) rfl (hb hby d2_99) (by decide) (by decide) k) ?_
    show Rest p.tables e below s _ _ _ (T1.setTop (mkF m 117 #[.val (.ref d3), .val (.long q1), .second, .val (.long q2), .second] [(.int (1 : Int32))]))
    refine Rest.ret X1 (v := some (.int (nar .boolean (1 : Int32)))) (fun h => by rw [Bd.returns] at h; cases h) hlk (fun fs hr => retN X1 hx (t := .boolean) Bd.returns (by simp) (hb hby d2_117) hr) ?_ (by decide) (by decide)
    rw [e1]
    exact ⟨by show some (Value.int (1 : Int32)) = _; rw [own_h3, if_pos hc95], N1, rfl⟩
  · refine Rest.via (fun t k => XS.ifYes X1.here hx rfl (pc0 := 95) (pc' := 102) rfl (hb hby d2_95) rfl ((if0 _ _).trans (flt (fun q => hc95 ((lw_lt _ _).mp q))).2.1) (by decide) (by decide) k) ?_
    show Rest p.tables e below s _ _ _ (T1.setTop (mkF m 102 #[.val (.ref d3), .val (.long q1), .second, .val (.long q2), .second] []))
    refine Rest.via (fun t k => XS.iconst X1.here hx rfl (hb hby d2_102) k) ?_
    show Rest p.tables e below s _ _ _ (T1.setTop (mkF m 103 #[.val (.ref d3), .val (.long q1), .second, .val (.long q2), .second] [(.int (0 : Int32))]))
    refine Rest.via (fun t k => XS.goto X1.here hx rfl (pc0 := 103) (pc' := 117) rfl (hb hby d2_103) (by decide) (by decide) k) ?_
    show Rest p.tables e below s _ _ _ (T1.setTop (mkF m 117 #[.val (.ref d3), .val (.long q1), .second, .val (.long q2), .second] [(.int (0 : Int32))]))
    refine Rest.ret X1 (v := some (.int (nar .boolean (0 : Int32)))) (fun h => by rw [Bd.returns] at h; cases h) hlk (fun fs hr => retN X1 hx (t := .boolean) Bd.returns (by simp) (hb hby d2_117) hr) ?_ (by decide) (by decide)
    rw [e1]
    exact ⟨by show some (Value.int (0 : Int32)) = _; rw [own_h3, if_neg hc95], N1, rfl⟩
theorem d2_106 : decode prog_35_method_4_code 106 = .ok (.lload_n 1, 1) := by decide +kernel
theorem d2_107 : decode prog_35_method_4_code 107 = .ok (.lload_n 3, 1) := by decide +kernel
theorem d2_108 : decode prog_35_method_4_code 108 = .ok (.lcmp, 1) := by decide +kernel
theorem d2_109 : decode prog_35_method_4_code 109 = .ok (.ifCond .gt 7, 3) := by decide +kernel
theorem d2_112 : decode prog_35_method_4_code 112 = .ok (.iconst 1, 1) := by decide +kernel
theorem d2_113 : decode prog_35_method_4_code 113 = .ok (.goto 4, 3) := by decide +kernel
theorem d2_116 : decode prog_35_method_4_code 116 = .ok (.iconst 0, 1) := by decide +kernel
theorem ef_H4 (m : MethodId) (q1 : Int64) (q2 : Int64) : entryFrame m #[(.ref d4), (.long q1), (.long q2)] 5 = mkF m 0 #[.val (.ref d4), .val (.long q1), .second, .val (.long q2), .second] [] := by first | (simp [entryFrame, mkF, argsToLocals, Value.category, maxLocals]; done) | rfl
def QH4 (Z : State) (q1 : Int64) (q2 : Int64) (d0 : Addr) (d1 : Addr) (d2 : Addr) (d3 : Addr) (d4 : Addr) (h0 : Heap) (n0 : Nat) (v : Option Value) (h : Heap) (L : List Loc) : Prop := v = some (.int (own_h4 q1 q2)) ∧ Fr n0 L ∧ h = h0
set_option maxRecDepth 65536 in
set_option maxHeartbeats 40000000 in
theorem rmH4 (l : Launch) (Z : State) (aw : Array Value) (hw : ∀ d ∈ tables_1, d.before aw Z = true) (ws : List Jvm.Cond) (q1 : Int64) (q2 : Int64) (d0 : Addr) (d1 : Addr) (d2 : Addr) (d3 : Addr) (d4 : Addr) (h0 : Heap) (n0 : Nat) (Z0 : n0 ≤ h0.size) (B : own_B Z h0 d0 d1 d2 d3 d4) :
    MetFree l (⟨"com/example/velwin/velwin/rules/Comparison", "holds", "(JJ)Z"⟩ : MethodName) (head1 (Jvm.Cond.code (⟨"com/example/velwin/velwin/rules/Comparison", "holds", "(JJ)Z"⟩ : MethodName) prog_35_method_4_code 5 (some .boolean) :: ws) ({ frames := 1, cells := 0, slots := 0, locals := 12 } : Room)) (fun a U => a = #[(.ref d4), (.long q1), (.long q2)] ∧ Z.Warmed39 U.vm ∧ U.heap = h0) (fun _ _ _ _ _ => True) (fun _ U o U' => ∃ v L, o = .returned v ∧ QH4 Z q1 q2 d0 d1 d2 d3 d4 h0 n0 v U'.heap L ∧ FrameEnd U o U' L ({ frames := 1, cells := 0, slots := 0, locals := 12 } : Room).cells ({ frames := 1, cells := 0, slots := 0, locals := 12 } : Room).slots) := by
  refine MetFree.of_bodySF (plainFor_of_name pn_2) hisR ?_
  intro p e s m args below meth c s₁ Bd hml0 hP hK
  obtain ⟨rfl, hZ, hh⟩ := hP
  have hx := Bd.exec
  have hby := Bd.bytes
  have hml : c.maxLocals = 5 := hml0
  have hown : s.vm.findClass "com/example/velwin/velwin/rules/Comparison" = some m.cls := findClass_of_methodNamed Bd.named
  have hnm := (name_of_methodNamed Bd.named Bd.method).1
  have hlk : meth.locks = false := BodyLoose.notSynchronized Bd
  have X0 : Stand p l e ({ frames := 1, cells := 0, slots := 0, locals := 12 } : Room) s m #[(.ref d4), (.long q1), (.long q2)] below meth c s₁ [] 0 0 := Stand.of_body Bd
  have eh0 : s₁.heap = h0 := by rw [← hh, Bd.state]; rfl
  have N0 := Fr.nil n0
  show Rest p.tables e below s (QH4 Z q1 q2 d0 d1 d2 d3 d4 h0 n0) _ _ (s₁.setTop (entryFrame m #[(.ref d4), (.long q1), (.long q2)] 5))
  refine Rest.via (fun t k => castTop (ef_H4 m q1 q2) k) ?_
  have B0 := B
  obtain ⟨S0, E0, F0, S1, E1, F1, S2, E2, F2, S3, E3, F3, S4, E4, F4, ne0_1, ne0_2, ne1_2, ne0_3, ne1_3, ne2_3, ne0_4, ne1_4, ne2_4, ne3_4⟩ := B0
  show Rest p.tables e below s _ _ _ (s₁.setTop (mkF m 0 #[.val (.ref d4), .val (.long q1), .second, .val (.long q2), .second] []))
  refine Rest.via (fun t k => XS.aloadN X0.here hx rfl (hb hby d2_0) rfl rfl k) ?_
  show Rest p.tables e below s _ _ _ (s₁.setTop (mkF m 1 #[.val (.ref d4), .val (.long q1), .second, .val (.long q2), .second] [(.ref d4)]))
  obtain ⟨cq1, kq1, q1a, q1b, q1c⟩ := isOf hZ eh0 E4
  obtain ⟨_, _, ⟨T1, L1, k1, n1⟩, -, X1, ⟨Lc1, hQ1, l1, y1, z1⟩, st1⟩ := X0.virtualBackUp hx (owner := "java/lang/Enum") (x := (⟨"com/example/velwin/velwin/rules/Comparison", "ordinal", "()I"⟩ : MethodName)) (y := (⟨"java/lang/Enum", "ordinal", "()I"⟩ : MethodName)) hown (mvT hZ (hw _ (List.mem_of_getElem? (i := 12) rfl))) (mvT hZ (hw _ (List.mem_of_getElem? (i := 13) rfl))) (mvT hZ (hw _ (List.mem_of_getElem? (i := 14) rfl))) (by decide) (mvT hZ (hw _ (List.mem_of_getElem? (i := 16) rfl))) (mvT hZ (hw _ (List.mem_of_getElem? (i := 15) rfl))) (backOf (W := 0) (rmO l Z aw hw [] d4 (4 : Int32) h0 n0 (Nat.le_trans Z0 (Keep.refl h0 []).1) F4) hZ (hw _ (List.mem_of_getElem? (i := 18) rfl)) (hw _ (List.mem_of_getElem? (i := 17) rfl)) (by decide) (by decide)) q1a q1c (g := (mkF m 1 #[.val (.ref d4), .val (.long q1), .second, .val (.long q2), .second] [(.ref d4)])) rfl (by rw [hml]; rfl) (Steps.refl _) (argsL := []) (rest := []) (lenOf pd_0 rfl) rfl (by show 2 * 0 + _ ≤ _; exact Nat.le_of_eq rfl) (hb hby d2_1) (fun _ _ => ⟨rfl, eh0, (by decide : 0 + 0 ≤ _), (by decide : 0 + 0 ≤ _)⟩)
  dsimp only [Pt.U, Pt.locs, Pt.cells, Pt.slots] at X1 l1 y1 z1 st1 hQ1
  subst l1 y1 z1
  obtain ⟨rfl, Nq1, e1⟩ := hQ1
  have N1 := Fr.app N0 Nq1
  refine Rest.via (fun t k => st1.trans k) ?_
  show Rest p.tables e below s _ _ _ (T1.setTop (mkF m 4 #[.val (.ref d4), .val (.long q1), .second, .val (.long q2), .second] [(.int (4 : Int32))]))
  refine Rest.via (fun t k => XS.tswIn X1.here hx rfl (pc0 := 4) (pc' := 106) (o := 102) rfl (hb hby d2_4) rfl (by decide) (by decide) (by decide) (by decide) k) ?_
  show Rest p.tables e below s _ _ _ (T1.setTop (mkF m 106 #[.val (.ref d4), .val (.long q1), .second, .val (.long q2), .second] []))
  refine Rest.via (fun t k => XS.lloadN X1.here hx rfl (hb hby d2_106) rfl k) ?_
  show Rest p.tables e below s _ _ _ (T1.setTop (mkF m 107 #[.val (.ref d4), .val (.long q1), .second, .val (.long q2), .second] [(.long q1)]))
  refine Rest.via (fun t k => XS.lloadN X1.here hx rfl (hb hby d2_107) rfl k) ?_
  show Rest p.tables e below s _ _ _ (T1.setTop (mkF m 108 #[.val (.ref d4), .val (.long q1), .second, .val (.long q2), .second] [(.long q2), (.long q1)]))
  refine Rest.via (fun t k => XS.lcmp X1.here hx rfl (hb hby d2_108) rfl k) ?_
  show Rest p.tables e below s _ _ _ (T1.setTop (mkF m 109 #[.val (.ref d4), .val (.long q1), .second, .val (.long q2), .second] [(.int (lcmpW q1 q2))]))
  by_cases hc109 : q2 < q1
  · refine Rest.via (fun t k => XS.ifYes X1.here hx rfl (pc0 := 109) (pc' := 116) rfl (hb hby d2_109) rfl ((if0 _ _).trans (tlt ((lw_gt _ _).mpr hc109)).2.2.1) (by decide) (by decide) k) ?_
    show Rest p.tables e below s _ _ _ (T1.setTop (mkF m 116 #[.val (.ref d4), .val (.long q1), .second, .val (.long q2), .second] []))
    refine Rest.via (fun t k => XS.iconst X1.here hx rfl (hb hby d2_116) k) ?_
    show Rest p.tables e below s _ _ _ (T1.setTop (mkF m 117 #[.val (.ref d4), .val (.long q1), .second, .val (.long q2), .second] [(.int (0 : Int32))]))
    refine Rest.ret X1 (v := some (.int (nar .boolean (0 : Int32)))) (fun h => by rw [Bd.returns] at h; cases h) hlk (fun fs hr => retN X1 hx (t := .boolean) Bd.returns (by simp) (hb hby d2_117) hr) ?_ (by decide) (by decide)
    rw [e1]
    exact ⟨by show some (Value.int (0 : Int32)) = _; rw [own_h4, if_pos hc109], N1, rfl⟩
  · refine Rest.via (fun t k => XS.ifNo X1.here hx rfl (hb hby d2_109) rfl ((if0 _ _).trans (flt (fun q => hc109 ((lw_gt _ _).mp q))).2.2.1) k) ?_
    show Rest p.tables e below s _ _ _ (T1.setTop (mkF m 112 #[.val (.ref d4), .val (.long q1), .second, .val (.long q2), .second] []))
    refine Rest.via (fun t k => XS.iconst X1.here hx rfl (hb hby d2_112) k) ?_
    show Rest p.tables e below s _ _ _ (T1.setTop (mkF m 113 #[.val (.ref d4), .val (.long q1), .second, .val (.long q2), .second] [(.int (1 : Int32))]))
    refine Rest.via (fun t k => XS.goto X1.here hx rfl (pc0 := 113) (pc' := 117) rfl (hb hby d2_113) (by decide) (by decide) k) ?_
    show Rest p.tables e below s _ _ _ (T1.setTop (mkF m 117 #[.val (.ref d4), .val (.long q1), .second, .val (.long q2), .second] [(.int (1 : Int32))]))
    refine Rest.ret X1 (v := some (.int (nar .boolean (1 : Int32)))) (fun h => by rw [Bd.returns] at h; cases h) hlk (fun fs hr => retN X1 hx (t := .boolean) Bd.returns (by simp) (hb hby d2_117) hr) ?_ (by decide) (by decide)
    rw [e1]
    exact ⟨by show some (Value.int (1 : Int32)) = _; rw [own_h4, if_neg hc109], N1, rfl⟩
theorem pd_1 : parseMethodDescriptor "(JJ)I" = some ⟨[.long, .long], some .int⟩ := by decide +kernel
theorem pd_2 : parseMethodDescriptor "(JJ)Z" = some ⟨[.long, .long], some .boolean⟩ := by decide +kernel
theorem ef_0 (m : MethodId) (q0 : Int64) (q1 : Int64) (p2 : Int32) : entryFrame m #[(.long q0), (.long q1), (.int p2)] maxLocals = mkF m 0 #[.val (.long q0), .second, .val (.long q1), .second, .val (.int p2), .unset, .unset, .unset, .unset, .unset, .unset, .unset, .unset, .unset, .unset, .unset] [] := by first | (simp [entryFrame, mkF, argsToLocals, Value.category, maxLocals]; done) | rfl
def Q0 (Z : State) (q0 : Int64) (q1 : Int64) (p2 : Int32) (d0 : Addr) (d1 : Addr) (d2 : Addr) (d3 : Addr) (d4 : Addr) (h0 : Heap) (n0 : Nat) (v : Option Value) (h : Heap) (L : List Loc) : Prop := v = some (.int 1) ∧ Fr n0 L
set_option maxRecDepth 65536 in
set_option maxHeartbeats 40000000 in
theorem rm0 (l : Launch) (Z : State) (aw : Array Value) (hw : ∀ d ∈ tables_1, d.before aw Z = true) (ws : List Jvm.Cond) (q0 : Int64) (q1 : Int64) (p2 : Int32) (d0 : Addr) (d1 : Addr) (d2 : Addr) (d3 : Addr) (d4 : Addr) (h0 : Heap) (n0 : Nat) (Z0 : n0 ≤ h0.size) (B : own_B Z h0 d0 d1 d2 d3 d4) :
    MetFree l x (head1 (Jvm.Cond.code x code maxLocals ret :: ws) room_1) (fun a U => a = #[(.long q0), (.long q1), (.int p2)] ∧ Z.Warmed39 U.vm ∧ U.heap = h0) (fun _ _ _ _ _ => True) (fun _ U o U' => ∃ v L, o = .returned v ∧ Q0 Z q0 q1 p2 d0 d1 d2 d3 d4 h0 n0 v U'.heap L ∧ FrameEnd U o U' L 0 0) := by
  refine MetFree.of_bodySF (plainFor_of_name pn_1) hisR ?_
  intro p e s m args below meth c s₁ Bd hml0 hP hK
  obtain ⟨rfl, hZ, hh⟩ := hP
  have hx := Bd.exec
  have hby := Bd.bytes
  have hml : c.maxLocals = 16 := hml0
  have hown : s.vm.findClass "com/example/velwin/velwin/rules/ComparisonHoldsPinLaw" = some m.cls := findClass_of_methodNamed Bd.named
  have hnm := (name_of_methodNamed Bd.named Bd.method).1
  have hlk : meth.locks = false := BodyLoose.notSynchronized Bd
  have X0 : Stand p l e room_1 s m #[(.long q0), (.long q1), (.int p2)] below meth c s₁ [] 0 0 := Stand.of_body Bd
  have eh0 : s₁.heap = h0 := by rw [← hh, Bd.state]; rfl
  have N0 := Fr.nil n0
  show Rest p.tables e below s (Q0 Z q0 q1 p2 d0 d1 d2 d3 d4 h0 n0) _ _ (s₁.setTop (entryFrame m #[(.long q0), (.long q1), (.int p2)] maxLocals))
  refine Rest.via (fun t k => castTop (ef_0 m q0 q1 p2) k) ?_
  have B0 := B
  obtain ⟨S0, E0, F0, S1, E1, F1, S2, E2, F2, S3, E3, F3, S4, E4, F4, ne0_1, ne0_2, ne1_2, ne0_3, ne1_3, ne2_3, ne0_4, ne1_4, ne2_4, ne3_4⟩ := B0
  show Rest p.tables e below s _ _ _ (s₁.setTop (mkF m 0 #[.val (.long q0), .second, .val (.long q1), .second, .val (.int p2), .unset, .unset, .unset, .unset, .unset, .unset, .unset, .unset, .unset, .unset, .unset] []))
  refine Rest.via (fun t k => XS.lloadN X0.here hx rfl (hb hby at_0) rfl k) ?_
  show Rest p.tables e below s _ _ _ (s₁.setTop (mkF m 1 #[.val (.long q0), .second, .val (.long q1), .second, .val (.int p2), .unset, .unset, .unset, .unset, .unset, .unset, .unset, .unset, .unset, .unset, .unset] [(.long q0)]))
  refine Rest.via (fun t k => XS.lstore X0.here hx rfl (hb hby at_1) rfl (l' := #[.val (.long q0), .second, .val (.long q1), .second, .val (.int p2), .val (.long q0), .second, .unset, .unset, .unset, .unset, .unset, .unset, .unset, .unset, .unset]) rfl k) ?_
  show Rest p.tables e below s _ _ _ (s₁.setTop (mkF m 3 #[.val (.long q0), .second, .val (.long q1), .second, .val (.int p2), .val (.long q0), .second, .unset, .unset, .unset, .unset, .unset, .unset, .unset, .unset, .unset] []))
  refine Rest.via (fun t k => XS.lloadN X0.here hx rfl (hb hby at_3) rfl k) ?_
  show Rest p.tables e below s _ _ _ (s₁.setTop (mkF m 4 #[.val (.long q0), .second, .val (.long q1), .second, .val (.int p2), .val (.long q0), .second, .unset, .unset, .unset, .unset, .unset, .unset, .unset, .unset, .unset] [(.long q1)]))
  refine Rest.via (fun t k => XS.lstore X0.here hx rfl (hb hby at_4) rfl (l' := #[.val (.long q0), .second, .val (.long q1), .second, .val (.int p2), .val (.long q0), .second, .val (.long q1), .second, .unset, .unset, .unset, .unset, .unset, .unset, .unset]) rfl k) ?_
  show Rest p.tables e below s _ _ _ (s₁.setTop (mkF m 6 #[.val (.long q0), .second, .val (.long q1), .second, .val (.int p2), .val (.long q0), .second, .val (.long q1), .second, .unset, .unset, .unset, .unset, .unset, .unset, .unset] []))
  refine Rest.via (fun t k => XS.iload X0.here hx rfl (hb hby at_6) rfl k) ?_
  show Rest p.tables e below s _ _ _ (s₁.setTop (mkF m 8 #[.val (.long q0), .second, .val (.long q1), .second, .val (.int p2), .val (.long q0), .second, .val (.long q1), .second, .unset, .unset, .unset, .unset, .unset, .unset, .unset] [(.int p2)]))
  refine Rest.via (fun t k => XS.iconst X0.here hx rfl (hb hby at_8) k) ?_
  show Rest p.tables e below s _ _ _ (s₁.setTop (mkF m 9 #[.val (.long q0), .second, .val (.long q1), .second, .val (.int p2), .val (.long q0), .second, .val (.long q1), .second, .unset, .unset, .unset, .unset, .unset, .unset, .unset] [(.int (3 : Int32)), (.int p2)]))
  refine Rest.via (fun t k => XS.iand X0.here hx rfl (hb hby at_9) rfl k) ?_
  show Rest p.tables e below s _ _ _ (s₁.setTop (mkF m 10 #[.val (.long q0), .second, .val (.long q1), .second, .val (.int p2), .val (.long q0), .second, .val (.long q1), .second, .unset, .unset, .unset, .unset, .unset, .unset, .unset] [(.int (p2 &&& (3 : Int32)))]))
  refine Rest.via (fun t k => XS.istore X0.here hx rfl (hb hby at_10) rfl (l' := #[.val (.long q0), .second, .val (.long q1), .second, .val (.int p2), .val (.long q0), .second, .val (.long q1), .second, .val (.int (p2 &&& (3 : Int32))), .unset, .unset, .unset, .unset, .unset, .unset]) rfl k) ?_
  show Rest p.tables e below s _ _ _ (s₁.setTop (mkF m 12 #[.val (.long q0), .second, .val (.long q1), .second, .val (.int p2), .val (.long q0), .second, .val (.long q1), .second, .val (.int (p2 &&& (3 : Int32))), .unset, .unset, .unset, .unset, .unset, .unset] []))
  have J49 : ∀ (tt : Int64),  Rest p.tables e below s (Q0 Z q0 q1 p2 d0 d1 d2 d3 d4 h0 n0) 0 0 (s₁.setTop (mkF m 49 #[.val (.long q0), .second, .val (.long q1), .second, .val (.int p2), .val (.long q0), .second, .val (.long tt), .second, .val (.int (p2 &&& (3 : Int32))), .unset, .unset, .unset, .unset, .unset, .unset] [])) := by
    intro tt
    show Rest p.tables e below s _ _ _ (s₁.setTop (mkF m 49 #[.val (.long q0), .second, .val (.long q1), .second, .val (.int p2), .val (.long q0), .second, .val (.long tt), .second, .val (.int (p2 &&& (3 : Int32))), .unset, .unset, .unset, .unset, .unset, .unset] []))
    obtain ⟨hsg, hh0, hh1, hh2, hh3, hh4⟩ | ⟨hsg, hh0, hh1, hh2, hh3, hh4⟩ | ⟨hsg, hh0, hh1, hh2, hh3, hh4⟩ := own_tri q0 tt
    · show Rest p.tables e below s _ _ _ (s₁.setTop (mkF m 49 #[.val (.long q0), .second, .val (.long q1), .second, .val (.int p2), .val (.long q0), .second, .val (.long tt), .second, .val (.int (p2 &&& (3 : Int32))), .unset, .unset, .unset, .unset, .unset, .unset] []))
      refine Rest.via (fun t k => XS.lload X0.here hx rfl (hb hby at_49) rfl k) ?_
      show Rest p.tables e below s _ _ _ (s₁.setTop (mkF m 51 #[.val (.long q0), .second, .val (.long q1), .second, .val (.int p2), .val (.long q0), .second, .val (.long tt), .second, .val (.int (p2 &&& (3 : Int32))), .unset, .unset, .unset, .unset, .unset, .unset] [(.long q0)]))
      refine Rest.via (fun t k => XS.lload X0.here hx rfl (hb hby at_51) rfl k) ?_
      show Rest p.tables e below s _ _ _ (s₁.setTop (mkF m 53 #[.val (.long q0), .second, .val (.long q1), .second, .val (.int p2), .val (.long q0), .second, .val (.long tt), .second, .val (.int (p2 &&& (3 : Int32))), .unset, .unset, .unset, .unset, .unset, .unset] [(.long tt), (.long q0)]))
      obtain ⟨_, _, ⟨T1, L1, k1, n1⟩, -, X1, ⟨Lc1, hQ1, l1, y1, z1⟩, st1⟩ := Jvm.LawKit.callS X0 hx (y := (⟨"com/example/velwin/velwin/rules/ComparisonHoldsPinLaw", "sign", "(JJ)I"⟩ : MethodName)) hown (mvT hZ (hw _ (List.mem_of_getElem? (i := 0) rfl))) (mvT hZ (hw _ (List.mem_of_getElem? (i := 1) rfl))) (mvT hZ (hw _ (List.mem_of_getElem? (i := 2) rfl))) (mvT hZ (hw _ (List.mem_of_getElem? (i := 3) rfl))) (by decide) (backOf (W := 0) (rmS l Z aw hw [] q0 tt  h0 n0 (Nat.le_trans Z0 (Keep.refl h0 []).1) ) hZ (hw _ (List.mem_of_getElem? (i := 3) rfl)) (hw _ (List.mem_of_getElem? (i := 2) rfl)) (by decide) (by decide)) (g := (mkF m 53 #[.val (.long q0), .second, .val (.long q1), .second, .val (.int p2), .val (.long q0), .second, .val (.long tt), .second, .val (.int (p2 &&& (3 : Int32))), .unset, .unset, .unset, .unset, .unset, .unset] [(.long tt), (.long q0)])) rfl (by rw [hml]; rfl) (argsL := [(.long q0), (.long tt)]) (rest := []) (lenOf pd_1 rfl) rfl (by show 2 * 0 + _ ≤ _; exact Nat.le_of_eq rfl) (hb hby at_53) (fun _ _ => ⟨rfl, eh0, (by decide : 0 + 0 ≤ _), (by decide : 0 + 0 ≤ _)⟩)
      dsimp only [Pt.U, Pt.locs, Pt.cells, Pt.slots] at X1 l1 y1 z1 st1 hQ1
      subst l1 y1 z1
      obtain ⟨rfl, Nq1, e1⟩ := hQ1
      have N1 := Fr.app N0 Nq1
      refine Rest.via (fun t k => st1 t k) ?_
      show Rest p.tables e below s _ _ _ (T1.setTop (mkF m 56 #[.val (.long q0), .second, .val (.long q1), .second, .val (.int p2), .val (.long q0), .second, .val (.long tt), .second, .val (.int (p2 &&& (3 : Int32))), .unset, .unset, .unset, .unset, .unset, .unset] [(.int (own_sg q0 tt))]))
      rw [hsg]
      show Rest p.tables e below s _ _ _ (T1.setTop (mkF m 56 #[.val (.long q0), .second, .val (.long q1), .second, .val (.int p2), .val (.long q0), .second, .val (.long tt), .second, .val (.int (p2 &&& (3 : Int32))), .unset, .unset, .unset, .unset, .unset, .unset] [(.int (-1 : Int32))]))
      refine Rest.via (fun t k => XS.istore X1.here hx rfl (hb hby at_56) rfl (l' := #[.val (.long q0), .second, .val (.long q1), .second, .val (.int p2), .val (.long q0), .second, .val (.long tt), .second, .val (.int (p2 &&& (3 : Int32))), .val (.int (-1 : Int32)), .unset, .unset, .unset, .unset, .unset]) rfl k) ?_
      show Rest p.tables e below s _ _ _ (T1.setTop (mkF m 58 #[.val (.long q0), .second, .val (.long q1), .second, .val (.int p2), .val (.long q0), .second, .val (.long tt), .second, .val (.int (p2 &&& (3 : Int32))), .val (.int (-1 : Int32)), .unset, .unset, .unset, .unset, .unset] []))
      obtain ⟨T2, X2, e2, st2⟩ := getS2 X1 hx hZ hown (host := "") (Or.inl (hw _ (List.mem_of_getElem? (i := 4) rfl))) Via.refl e1 S0 (g := (mkF m 58 #[.val (.long q0), .second, .val (.long q1), .second, .val (.int p2), .val (.long q0), .second, .val (.long tt), .second, .val (.int (p2 &&& (3 : Int32))), .val (.int (-1 : Int32)), .unset, .unset, .unset, .unset, .unset] [])) rfl (hb hby at_58)
      refine Rest.via (fun t k => st2 t k) ?_
      show Rest p.tables e below s _ _ _ (T2.setTop (mkF m 61 #[.val (.long q0), .second, .val (.long q1), .second, .val (.int p2), .val (.long q0), .second, .val (.long tt), .second, .val (.int (p2 &&& (3 : Int32))), .val (.int (-1 : Int32)), .unset, .unset, .unset, .unset, .unset] [(.ref d0)]))
      refine Rest.via (fun t k => XS.lload X2.here hx rfl (hb hby at_61) rfl k) ?_
      show Rest p.tables e below s _ _ _ (T2.setTop (mkF m 63 #[.val (.long q0), .second, .val (.long q1), .second, .val (.int p2), .val (.long q0), .second, .val (.long tt), .second, .val (.int (p2 &&& (3 : Int32))), .val (.int (-1 : Int32)), .unset, .unset, .unset, .unset, .unset] [(.long q0), (.ref d0)]))
      refine Rest.via (fun t k => XS.lload X2.here hx rfl (hb hby at_63) rfl k) ?_
      show Rest p.tables e below s _ _ _ (T2.setTop (mkF m 65 #[.val (.long q0), .second, .val (.long q1), .second, .val (.int p2), .val (.long q0), .second, .val (.long tt), .second, .val (.int (p2 &&& (3 : Int32))), .val (.int (-1 : Int32)), .unset, .unset, .unset, .unset, .unset] [(.long tt), (.long q0), (.ref d0)]))
      obtain ⟨cq3, kq3, q3a, q3b, q3c⟩ := isOf hZ e2 E0
      obtain ⟨_, _, ⟨T3, L3, k3, n3⟩, -, X3, ⟨Lc3, hQ3, l3, y3, z3⟩, st3⟩ := X2.virtualBack hx (y := (⟨"com/example/velwin/velwin/rules/Comparison", "holds", "(JJ)Z"⟩ : MethodName)) (z := (⟨"com/example/velwin/velwin/rules/Comparison", "holds", "(JJ)Z"⟩ : MethodName)) hown (mvT hZ (hw _ (List.mem_of_getElem? (i := 7) rfl))) (mvT hZ (hw _ (List.mem_of_getElem? (i := 8) rfl))) (notFace_of_selects (args := #[]) (mvT hZ (hw _ (List.mem_of_getElem? (i := 10) rfl)))) (mvT hZ (hw _ (List.mem_of_getElem? (i := 10) rfl))) (mvT hZ (hw _ (List.mem_of_getElem? (i := 9) rfl))) (by decide) (backOf (W := 0) (rmH0 l Z aw hw [] q0 tt d0 d1 d2 d3 d4 h0 n0 (Nat.le_trans Z0 (Keep.refl h0 []).1) B) hZ (hw _ (List.mem_of_getElem? (i := 11) rfl)) (hw _ (List.mem_of_getElem? (i := 5) rfl)) (by decide) (by decide)) q3a q3c (g := (mkF m 65 #[.val (.long q0), .second, .val (.long q1), .second, .val (.int p2), .val (.long q0), .second, .val (.long tt), .second, .val (.int (p2 &&& (3 : Int32))), .val (.int (-1 : Int32)), .unset, .unset, .unset, .unset, .unset] [(.long tt), (.long q0), (.ref d0)])) rfl (by rw [hml]; rfl) (Steps.refl _) (argsL := [(.long q0), (.long tt)]) (rest := []) (lenOf pd_2 rfl) rfl (by show 2 * 0 + _ ≤ _; exact Nat.le_of_eq rfl) (hb hby at_65) (fun _ _ => ⟨rfl, e2, (by decide : 0 + 0 ≤ _), (by decide : 0 + 0 ≤ _)⟩)
      dsimp only [Pt.U, Pt.locs, Pt.cells, Pt.slots] at X3 l3 y3 z3 st3 hQ3
      subst l3 y3 z3
      obtain ⟨rfl, Nq3, e3⟩ := hQ3
      have N3 := Fr.app N1 Nq3
      refine Rest.via (fun t k => st3.trans k) ?_
      show Rest p.tables e below s _ _ _ (T3.setTop (mkF m 68 #[.val (.long q0), .second, .val (.long q1), .second, .val (.int p2), .val (.long q0), .second, .val (.long tt), .second, .val (.int (p2 &&& (3 : Int32))), .val (.int (-1 : Int32)), .unset, .unset, .unset, .unset, .unset] [(.int (own_h0 q0 tt))]))
      rw [hh0]
      show Rest p.tables e below s _ _ _ (T3.setTop (mkF m 68 #[.val (.long q0), .second, .val (.long q1), .second, .val (.int p2), .val (.long q0), .second, .val (.long tt), .second, .val (.int (p2 &&& (3 : Int32))), .val (.int (-1 : Int32)), .unset, .unset, .unset, .unset, .unset] [(.int (0 : Int32))]))
      refine Rest.via (fun t k => XS.istore X3.here hx rfl (hb hby at_68) rfl (l' := #[.val (.long q0), .second, .val (.long q1), .second, .val (.int p2), .val (.long q0), .second, .val (.long tt), .second, .val (.int (p2 &&& (3 : Int32))), .val (.int (-1 : Int32)), .val (.int (0 : Int32)), .unset, .unset, .unset, .unset]) rfl k) ?_
      show Rest p.tables e below s _ _ _ (T3.setTop (mkF m 70 #[.val (.long q0), .second, .val (.long q1), .second, .val (.int p2), .val (.long q0), .second, .val (.long tt), .second, .val (.int (p2 &&& (3 : Int32))), .val (.int (-1 : Int32)), .val (.int (0 : Int32)), .unset, .unset, .unset, .unset] []))
      obtain ⟨T4, X4, e4, st4⟩ := getS2 X3 hx hZ hown (host := "") (Or.inl (hw _ (List.mem_of_getElem? (i := 21) rfl))) Via.refl e3 S1 (g := (mkF m 70 #[.val (.long q0), .second, .val (.long q1), .second, .val (.int p2), .val (.long q0), .second, .val (.long tt), .second, .val (.int (p2 &&& (3 : Int32))), .val (.int (-1 : Int32)), .val (.int (0 : Int32)), .unset, .unset, .unset, .unset] [])) rfl (hb hby at_70)
      refine Rest.via (fun t k => st4 t k) ?_
      show Rest p.tables e below s _ _ _ (T4.setTop (mkF m 73 #[.val (.long q0), .second, .val (.long q1), .second, .val (.int p2), .val (.long q0), .second, .val (.long tt), .second, .val (.int (p2 &&& (3 : Int32))), .val (.int (-1 : Int32)), .val (.int (0 : Int32)), .unset, .unset, .unset, .unset] [(.ref d1)]))
      refine Rest.via (fun t k => XS.lload X4.here hx rfl (hb hby at_73) rfl k) ?_
      show Rest p.tables e below s _ _ _ (T4.setTop (mkF m 75 #[.val (.long q0), .second, .val (.long q1), .second, .val (.int p2), .val (.long q0), .second, .val (.long tt), .second, .val (.int (p2 &&& (3 : Int32))), .val (.int (-1 : Int32)), .val (.int (0 : Int32)), .unset, .unset, .unset, .unset] [(.long q0), (.ref d1)]))
      refine Rest.via (fun t k => XS.lload X4.here hx rfl (hb hby at_75) rfl k) ?_
      show Rest p.tables e below s _ _ _ (T4.setTop (mkF m 77 #[.val (.long q0), .second, .val (.long q1), .second, .val (.int p2), .val (.long q0), .second, .val (.long tt), .second, .val (.int (p2 &&& (3 : Int32))), .val (.int (-1 : Int32)), .val (.int (0 : Int32)), .unset, .unset, .unset, .unset] [(.long tt), (.long q0), (.ref d1)]))
      obtain ⟨cq5, kq5, q5a, q5b, q5c⟩ := isOf hZ e4 E1
      obtain ⟨_, _, ⟨T5, L5, k5, n5⟩, -, X5, ⟨Lc5, hQ5, l5, y5, z5⟩, st5⟩ := X4.virtualBack hx (y := (⟨"com/example/velwin/velwin/rules/Comparison", "holds", "(JJ)Z"⟩ : MethodName)) (z := (⟨"com/example/velwin/velwin/rules/Comparison", "holds", "(JJ)Z"⟩ : MethodName)) hown (mvT hZ (hw _ (List.mem_of_getElem? (i := 7) rfl))) (mvT hZ (hw _ (List.mem_of_getElem? (i := 8) rfl))) (notFace_of_selects (args := #[]) (mvT hZ (hw _ (List.mem_of_getElem? (i := 10) rfl)))) (mvT hZ (hw _ (List.mem_of_getElem? (i := 10) rfl))) (mvT hZ (hw _ (List.mem_of_getElem? (i := 9) rfl))) (by decide) (backOf (W := 0) (rmH1 l Z aw hw [] q0 tt d0 d1 d2 d3 d4 h0 n0 (Nat.le_trans Z0 (Keep.refl h0 []).1) B) hZ (hw _ (List.mem_of_getElem? (i := 11) rfl)) (hw _ (List.mem_of_getElem? (i := 5) rfl)) (by decide) (by decide)) q5a q5c (g := (mkF m 77 #[.val (.long q0), .second, .val (.long q1), .second, .val (.int p2), .val (.long q0), .second, .val (.long tt), .second, .val (.int (p2 &&& (3 : Int32))), .val (.int (-1 : Int32)), .val (.int (0 : Int32)), .unset, .unset, .unset, .unset] [(.long tt), (.long q0), (.ref d1)])) rfl (by rw [hml]; rfl) (Steps.refl _) (argsL := [(.long q0), (.long tt)]) (rest := []) (lenOf pd_2 rfl) rfl (by show 2 * 0 + _ ≤ _; exact Nat.le_of_eq rfl) (hb hby at_77) (fun _ _ => ⟨rfl, e4, (by decide : 0 + 0 ≤ _), (by decide : 0 + 0 ≤ _)⟩)
      dsimp only [Pt.U, Pt.locs, Pt.cells, Pt.slots] at X5 l5 y5 z5 st5 hQ5
      subst l5 y5 z5
      obtain ⟨rfl, Nq5, e5⟩ := hQ5
      have N5 := Fr.app N3 Nq5
      refine Rest.via (fun t k => st5.trans k) ?_
      show Rest p.tables e below s _ _ _ (T5.setTop (mkF m 80 #[.val (.long q0), .second, .val (.long q1), .second, .val (.int p2), .val (.long q0), .second, .val (.long tt), .second, .val (.int (p2 &&& (3 : Int32))), .val (.int (-1 : Int32)), .val (.int (0 : Int32)), .unset, .unset, .unset, .unset] [(.int (own_h1 q0 tt))]))
      rw [hh1]
      show Rest p.tables e below s _ _ _ (T5.setTop (mkF m 80 #[.val (.long q0), .second, .val (.long q1), .second, .val (.int p2), .val (.long q0), .second, .val (.long tt), .second, .val (.int (p2 &&& (3 : Int32))), .val (.int (-1 : Int32)), .val (.int (0 : Int32)), .unset, .unset, .unset, .unset] [(.int (0 : Int32))]))
      refine Rest.via (fun t k => XS.istore X5.here hx rfl (hb hby at_80) rfl (l' := #[.val (.long q0), .second, .val (.long q1), .second, .val (.int p2), .val (.long q0), .second, .val (.long tt), .second, .val (.int (p2 &&& (3 : Int32))), .val (.int (-1 : Int32)), .val (.int (0 : Int32)), .val (.int (0 : Int32)), .unset, .unset, .unset]) rfl k) ?_
      show Rest p.tables e below s _ _ _ (T5.setTop (mkF m 82 #[.val (.long q0), .second, .val (.long q1), .second, .val (.int p2), .val (.long q0), .second, .val (.long tt), .second, .val (.int (p2 &&& (3 : Int32))), .val (.int (-1 : Int32)), .val (.int (0 : Int32)), .val (.int (0 : Int32)), .unset, .unset, .unset] []))
      obtain ⟨T6, X6, e6, st6⟩ := getS2 X5 hx hZ hown (host := "") (Or.inl (hw _ (List.mem_of_getElem? (i := 23) rfl))) Via.refl e5 S2 (g := (mkF m 82 #[.val (.long q0), .second, .val (.long q1), .second, .val (.int p2), .val (.long q0), .second, .val (.long tt), .second, .val (.int (p2 &&& (3 : Int32))), .val (.int (-1 : Int32)), .val (.int (0 : Int32)), .val (.int (0 : Int32)), .unset, .unset, .unset] [])) rfl (hb hby at_82)
      refine Rest.via (fun t k => st6 t k) ?_
      show Rest p.tables e below s _ _ _ (T6.setTop (mkF m 85 #[.val (.long q0), .second, .val (.long q1), .second, .val (.int p2), .val (.long q0), .second, .val (.long tt), .second, .val (.int (p2 &&& (3 : Int32))), .val (.int (-1 : Int32)), .val (.int (0 : Int32)), .val (.int (0 : Int32)), .unset, .unset, .unset] [(.ref d2)]))
      refine Rest.via (fun t k => XS.lload X6.here hx rfl (hb hby at_85) rfl k) ?_
      show Rest p.tables e below s _ _ _ (T6.setTop (mkF m 87 #[.val (.long q0), .second, .val (.long q1), .second, .val (.int p2), .val (.long q0), .second, .val (.long tt), .second, .val (.int (p2 &&& (3 : Int32))), .val (.int (-1 : Int32)), .val (.int (0 : Int32)), .val (.int (0 : Int32)), .unset, .unset, .unset] [(.long q0), (.ref d2)]))
      refine Rest.via (fun t k => XS.lload X6.here hx rfl (hb hby at_87) rfl k) ?_
      show Rest p.tables e below s _ _ _ (T6.setTop (mkF m 89 #[.val (.long q0), .second, .val (.long q1), .second, .val (.int p2), .val (.long q0), .second, .val (.long tt), .second, .val (.int (p2 &&& (3 : Int32))), .val (.int (-1 : Int32)), .val (.int (0 : Int32)), .val (.int (0 : Int32)), .unset, .unset, .unset] [(.long tt), (.long q0), (.ref d2)]))
      obtain ⟨cq7, kq7, q7a, q7b, q7c⟩ := isOf hZ e6 E2
      obtain ⟨_, _, ⟨T7, L7, k7, n7⟩, -, X7, ⟨Lc7, hQ7, l7, y7, z7⟩, st7⟩ := X6.virtualBack hx (y := (⟨"com/example/velwin/velwin/rules/Comparison", "holds", "(JJ)Z"⟩ : MethodName)) (z := (⟨"com/example/velwin/velwin/rules/Comparison", "holds", "(JJ)Z"⟩ : MethodName)) hown (mvT hZ (hw _ (List.mem_of_getElem? (i := 7) rfl))) (mvT hZ (hw _ (List.mem_of_getElem? (i := 8) rfl))) (notFace_of_selects (args := #[]) (mvT hZ (hw _ (List.mem_of_getElem? (i := 10) rfl)))) (mvT hZ (hw _ (List.mem_of_getElem? (i := 10) rfl))) (mvT hZ (hw _ (List.mem_of_getElem? (i := 9) rfl))) (by decide) (backOf (W := 0) (rmH2 l Z aw hw [] q0 tt d0 d1 d2 d3 d4 h0 n0 (Nat.le_trans Z0 (Keep.refl h0 []).1) B) hZ (hw _ (List.mem_of_getElem? (i := 11) rfl)) (hw _ (List.mem_of_getElem? (i := 5) rfl)) (by decide) (by decide)) q7a q7c (g := (mkF m 89 #[.val (.long q0), .second, .val (.long q1), .second, .val (.int p2), .val (.long q0), .second, .val (.long tt), .second, .val (.int (p2 &&& (3 : Int32))), .val (.int (-1 : Int32)), .val (.int (0 : Int32)), .val (.int (0 : Int32)), .unset, .unset, .unset] [(.long tt), (.long q0), (.ref d2)])) rfl (by rw [hml]; rfl) (Steps.refl _) (argsL := [(.long q0), (.long tt)]) (rest := []) (lenOf pd_2 rfl) rfl (by show 2 * 0 + _ ≤ _; exact Nat.le_of_eq rfl) (hb hby at_89) (fun _ _ => ⟨rfl, e6, (by decide : 0 + 0 ≤ _), (by decide : 0 + 0 ≤ _)⟩)
      dsimp only [Pt.U, Pt.locs, Pt.cells, Pt.slots] at X7 l7 y7 z7 st7 hQ7
      subst l7 y7 z7
      obtain ⟨rfl, Nq7, e7⟩ := hQ7
      have N7 := Fr.app N5 Nq7
      refine Rest.via (fun t k => st7.trans k) ?_
      show Rest p.tables e below s _ _ _ (T7.setTop (mkF m 92 #[.val (.long q0), .second, .val (.long q1), .second, .val (.int p2), .val (.long q0), .second, .val (.long tt), .second, .val (.int (p2 &&& (3 : Int32))), .val (.int (-1 : Int32)), .val (.int (0 : Int32)), .val (.int (0 : Int32)), .unset, .unset, .unset] [(.int (own_h2 q0 tt))]))
      rw [hh2]
      show Rest p.tables e below s _ _ _ (T7.setTop (mkF m 92 #[.val (.long q0), .second, .val (.long q1), .second, .val (.int p2), .val (.long q0), .second, .val (.long tt), .second, .val (.int (p2 &&& (3 : Int32))), .val (.int (-1 : Int32)), .val (.int (0 : Int32)), .val (.int (0 : Int32)), .unset, .unset, .unset] [(.int (0 : Int32))]))
      refine Rest.via (fun t k => XS.istore X7.here hx rfl (hb hby at_92) rfl (l' := #[.val (.long q0), .second, .val (.long q1), .second, .val (.int p2), .val (.long q0), .second, .val (.long tt), .second, .val (.int (p2 &&& (3 : Int32))), .val (.int (-1 : Int32)), .val (.int (0 : Int32)), .val (.int (0 : Int32)), .val (.int (0 : Int32)), .unset, .unset]) rfl k) ?_
      show Rest p.tables e below s _ _ _ (T7.setTop (mkF m 94 #[.val (.long q0), .second, .val (.long q1), .second, .val (.int p2), .val (.long q0), .second, .val (.long tt), .second, .val (.int (p2 &&& (3 : Int32))), .val (.int (-1 : Int32)), .val (.int (0 : Int32)), .val (.int (0 : Int32)), .val (.int (0 : Int32)), .unset, .unset] []))
      obtain ⟨T8, X8, e8, st8⟩ := getS2 X7 hx hZ hown (host := "") (Or.inl (hw _ (List.mem_of_getElem? (i := 25) rfl))) Via.refl e7 S3 (g := (mkF m 94 #[.val (.long q0), .second, .val (.long q1), .second, .val (.int p2), .val (.long q0), .second, .val (.long tt), .second, .val (.int (p2 &&& (3 : Int32))), .val (.int (-1 : Int32)), .val (.int (0 : Int32)), .val (.int (0 : Int32)), .val (.int (0 : Int32)), .unset, .unset] [])) rfl (hb hby at_94)
      refine Rest.via (fun t k => st8 t k) ?_
      show Rest p.tables e below s _ _ _ (T8.setTop (mkF m 97 #[.val (.long q0), .second, .val (.long q1), .second, .val (.int p2), .val (.long q0), .second, .val (.long tt), .second, .val (.int (p2 &&& (3 : Int32))), .val (.int (-1 : Int32)), .val (.int (0 : Int32)), .val (.int (0 : Int32)), .val (.int (0 : Int32)), .unset, .unset] [(.ref d3)]))
      refine Rest.via (fun t k => XS.lload X8.here hx rfl (hb hby at_97) rfl k) ?_
      show Rest p.tables e below s _ _ _ (T8.setTop (mkF m 99 #[.val (.long q0), .second, .val (.long q1), .second, .val (.int p2), .val (.long q0), .second, .val (.long tt), .second, .val (.int (p2 &&& (3 : Int32))), .val (.int (-1 : Int32)), .val (.int (0 : Int32)), .val (.int (0 : Int32)), .val (.int (0 : Int32)), .unset, .unset] [(.long q0), (.ref d3)]))
      refine Rest.via (fun t k => XS.lload X8.here hx rfl (hb hby at_99) rfl k) ?_
      show Rest p.tables e below s _ _ _ (T8.setTop (mkF m 101 #[.val (.long q0), .second, .val (.long q1), .second, .val (.int p2), .val (.long q0), .second, .val (.long tt), .second, .val (.int (p2 &&& (3 : Int32))), .val (.int (-1 : Int32)), .val (.int (0 : Int32)), .val (.int (0 : Int32)), .val (.int (0 : Int32)), .unset, .unset] [(.long tt), (.long q0), (.ref d3)]))
      obtain ⟨cq9, kq9, q9a, q9b, q9c⟩ := isOf hZ e8 E3
      obtain ⟨_, _, ⟨T9, L9, k9, n9⟩, -, X9, ⟨Lc9, hQ9, l9, y9, z9⟩, st9⟩ := X8.virtualBack hx (y := (⟨"com/example/velwin/velwin/rules/Comparison", "holds", "(JJ)Z"⟩ : MethodName)) (z := (⟨"com/example/velwin/velwin/rules/Comparison", "holds", "(JJ)Z"⟩ : MethodName)) hown (mvT hZ (hw _ (List.mem_of_getElem? (i := 7) rfl))) (mvT hZ (hw _ (List.mem_of_getElem? (i := 8) rfl))) (notFace_of_selects (args := #[]) (mvT hZ (hw _ (List.mem_of_getElem? (i := 10) rfl)))) (mvT hZ (hw _ (List.mem_of_getElem? (i := 10) rfl))) (mvT hZ (hw _ (List.mem_of_getElem? (i := 9) rfl))) (by decide) (backOf (W := 0) (rmH3 l Z aw hw [] q0 tt d0 d1 d2 d3 d4 h0 n0 (Nat.le_trans Z0 (Keep.refl h0 []).1) B) hZ (hw _ (List.mem_of_getElem? (i := 11) rfl)) (hw _ (List.mem_of_getElem? (i := 5) rfl)) (by decide) (by decide)) q9a q9c (g := (mkF m 101 #[.val (.long q0), .second, .val (.long q1), .second, .val (.int p2), .val (.long q0), .second, .val (.long tt), .second, .val (.int (p2 &&& (3 : Int32))), .val (.int (-1 : Int32)), .val (.int (0 : Int32)), .val (.int (0 : Int32)), .val (.int (0 : Int32)), .unset, .unset] [(.long tt), (.long q0), (.ref d3)])) rfl (by rw [hml]; rfl) (Steps.refl _) (argsL := [(.long q0), (.long tt)]) (rest := []) (lenOf pd_2 rfl) rfl (by show 2 * 0 + _ ≤ _; exact Nat.le_of_eq rfl) (hb hby at_101) (fun _ _ => ⟨rfl, e8, (by decide : 0 + 0 ≤ _), (by decide : 0 + 0 ≤ _)⟩)
      dsimp only [Pt.U, Pt.locs, Pt.cells, Pt.slots] at X9 l9 y9 z9 st9 hQ9
      subst l9 y9 z9
      obtain ⟨rfl, Nq9, e9⟩ := hQ9
      have N9 := Fr.app N7 Nq9
      refine Rest.via (fun t k => st9.trans k) ?_
      show Rest p.tables e below s _ _ _ (T9.setTop (mkF m 104 #[.val (.long q0), .second, .val (.long q1), .second, .val (.int p2), .val (.long q0), .second, .val (.long tt), .second, .val (.int (p2 &&& (3 : Int32))), .val (.int (-1 : Int32)), .val (.int (0 : Int32)), .val (.int (0 : Int32)), .val (.int (0 : Int32)), .unset, .unset] [(.int (own_h3 q0 tt))]))
      rw [hh3]
      show Rest p.tables e below s _ _ _ (T9.setTop (mkF m 104 #[.val (.long q0), .second, .val (.long q1), .second, .val (.int p2), .val (.long q0), .second, .val (.long tt), .second, .val (.int (p2 &&& (3 : Int32))), .val (.int (-1 : Int32)), .val (.int (0 : Int32)), .val (.int (0 : Int32)), .val (.int (0 : Int32)), .unset, .unset] [(.int (1 : Int32))]))
      refine Rest.via (fun t k => XS.istore X9.here hx rfl (hb hby at_104) rfl (l' := #[.val (.long q0), .second, .val (.long q1), .second, .val (.int p2), .val (.long q0), .second, .val (.long tt), .second, .val (.int (p2 &&& (3 : Int32))), .val (.int (-1 : Int32)), .val (.int (0 : Int32)), .val (.int (0 : Int32)), .val (.int (0 : Int32)), .val (.int (1 : Int32)), .unset]) rfl k) ?_
      show Rest p.tables e below s _ _ _ (T9.setTop (mkF m 106 #[.val (.long q0), .second, .val (.long q1), .second, .val (.int p2), .val (.long q0), .second, .val (.long tt), .second, .val (.int (p2 &&& (3 : Int32))), .val (.int (-1 : Int32)), .val (.int (0 : Int32)), .val (.int (0 : Int32)), .val (.int (0 : Int32)), .val (.int (1 : Int32)), .unset] []))
      obtain ⟨T10, X10, e10, st10⟩ := getS2 X9 hx hZ hown (host := "") (Or.inl (hw _ (List.mem_of_getElem? (i := 27) rfl))) Via.refl e9 S4 (g := (mkF m 106 #[.val (.long q0), .second, .val (.long q1), .second, .val (.int p2), .val (.long q0), .second, .val (.long tt), .second, .val (.int (p2 &&& (3 : Int32))), .val (.int (-1 : Int32)), .val (.int (0 : Int32)), .val (.int (0 : Int32)), .val (.int (0 : Int32)), .val (.int (1 : Int32)), .unset] [])) rfl (hb hby at_106)
      refine Rest.via (fun t k => st10 t k) ?_
      show Rest p.tables e below s _ _ _ (T10.setTop (mkF m 109 #[.val (.long q0), .second, .val (.long q1), .second, .val (.int p2), .val (.long q0), .second, .val (.long tt), .second, .val (.int (p2 &&& (3 : Int32))), .val (.int (-1 : Int32)), .val (.int (0 : Int32)), .val (.int (0 : Int32)), .val (.int (0 : Int32)), .val (.int (1 : Int32)), .unset] [(.ref d4)]))
      refine Rest.via (fun t k => XS.lload X10.here hx rfl (hb hby at_109) rfl k) ?_
      show Rest p.tables e below s _ _ _ (T10.setTop (mkF m 111 #[.val (.long q0), .second, .val (.long q1), .second, .val (.int p2), .val (.long q0), .second, .val (.long tt), .second, .val (.int (p2 &&& (3 : Int32))), .val (.int (-1 : Int32)), .val (.int (0 : Int32)), .val (.int (0 : Int32)), .val (.int (0 : Int32)), .val (.int (1 : Int32)), .unset] [(.long q0), (.ref d4)]))
      refine Rest.via (fun t k => XS.lload X10.here hx rfl (hb hby at_111) rfl k) ?_
      show Rest p.tables e below s _ _ _ (T10.setTop (mkF m 113 #[.val (.long q0), .second, .val (.long q1), .second, .val (.int p2), .val (.long q0), .second, .val (.long tt), .second, .val (.int (p2 &&& (3 : Int32))), .val (.int (-1 : Int32)), .val (.int (0 : Int32)), .val (.int (0 : Int32)), .val (.int (0 : Int32)), .val (.int (1 : Int32)), .unset] [(.long tt), (.long q0), (.ref d4)]))
      obtain ⟨cq11, kq11, q11a, q11b, q11c⟩ := isOf hZ e10 E4
      obtain ⟨_, _, ⟨T11, L11, k11, n11⟩, -, X11, ⟨Lc11, hQ11, l11, y11, z11⟩, st11⟩ := X10.virtualBack hx (y := (⟨"com/example/velwin/velwin/rules/Comparison", "holds", "(JJ)Z"⟩ : MethodName)) (z := (⟨"com/example/velwin/velwin/rules/Comparison", "holds", "(JJ)Z"⟩ : MethodName)) hown (mvT hZ (hw _ (List.mem_of_getElem? (i := 7) rfl))) (mvT hZ (hw _ (List.mem_of_getElem? (i := 8) rfl))) (notFace_of_selects (args := #[]) (mvT hZ (hw _ (List.mem_of_getElem? (i := 10) rfl)))) (mvT hZ (hw _ (List.mem_of_getElem? (i := 10) rfl))) (mvT hZ (hw _ (List.mem_of_getElem? (i := 9) rfl))) (by decide) (backOf (W := 0) (rmH4 l Z aw hw [] q0 tt d0 d1 d2 d3 d4 h0 n0 (Nat.le_trans Z0 (Keep.refl h0 []).1) B) hZ (hw _ (List.mem_of_getElem? (i := 11) rfl)) (hw _ (List.mem_of_getElem? (i := 5) rfl)) (by decide) (by decide)) q11a q11c (g := (mkF m 113 #[.val (.long q0), .second, .val (.long q1), .second, .val (.int p2), .val (.long q0), .second, .val (.long tt), .second, .val (.int (p2 &&& (3 : Int32))), .val (.int (-1 : Int32)), .val (.int (0 : Int32)), .val (.int (0 : Int32)), .val (.int (0 : Int32)), .val (.int (1 : Int32)), .unset] [(.long tt), (.long q0), (.ref d4)])) rfl (by rw [hml]; rfl) (Steps.refl _) (argsL := [(.long q0), (.long tt)]) (rest := []) (lenOf pd_2 rfl) rfl (by show 2 * 0 + _ ≤ _; exact Nat.le_of_eq rfl) (hb hby at_113) (fun _ _ => ⟨rfl, e10, (by decide : 0 + 0 ≤ _), (by decide : 0 + 0 ≤ _)⟩)
      dsimp only [Pt.U, Pt.locs, Pt.cells, Pt.slots] at X11 l11 y11 z11 st11 hQ11
      subst l11 y11 z11
      obtain ⟨rfl, Nq11, e11⟩ := hQ11
      have N11 := Fr.app N9 Nq11
      refine Rest.via (fun t k => st11.trans k) ?_
      show Rest p.tables e below s _ _ _ (T11.setTop (mkF m 116 #[.val (.long q0), .second, .val (.long q1), .second, .val (.int p2), .val (.long q0), .second, .val (.long tt), .second, .val (.int (p2 &&& (3 : Int32))), .val (.int (-1 : Int32)), .val (.int (0 : Int32)), .val (.int (0 : Int32)), .val (.int (0 : Int32)), .val (.int (1 : Int32)), .unset] [(.int (own_h4 q0 tt))]))
      rw [hh4]
      show Rest p.tables e below s _ _ _ (T11.setTop (mkF m 116 #[.val (.long q0), .second, .val (.long q1), .second, .val (.int p2), .val (.long q0), .second, .val (.long tt), .second, .val (.int (p2 &&& (3 : Int32))), .val (.int (-1 : Int32)), .val (.int (0 : Int32)), .val (.int (0 : Int32)), .val (.int (0 : Int32)), .val (.int (1 : Int32)), .unset] [(.int (1 : Int32))]))
      refine Rest.via (fun t k => XS.istore X11.here hx rfl (hb hby at_116) rfl (l' := #[.val (.long q0), .second, .val (.long q1), .second, .val (.int p2), .val (.long q0), .second, .val (.long tt), .second, .val (.int (p2 &&& (3 : Int32))), .val (.int (-1 : Int32)), .val (.int (0 : Int32)), .val (.int (0 : Int32)), .val (.int (0 : Int32)), .val (.int (1 : Int32)), .val (.int (1 : Int32))]) rfl k) ?_
      show Rest p.tables e below s _ _ _ (T11.setTop (mkF m 118 #[.val (.long q0), .second, .val (.long q1), .second, .val (.int p2), .val (.long q0), .second, .val (.long tt), .second, .val (.int (p2 &&& (3 : Int32))), .val (.int (-1 : Int32)), .val (.int (0 : Int32)), .val (.int (0 : Int32)), .val (.int (0 : Int32)), .val (.int (1 : Int32)), .val (.int (1 : Int32))] []))
      refine Rest.via (fun t k => XS.iload X11.here hx rfl (hb hby at_118) rfl k) ?_
      show Rest p.tables e below s _ _ _ (T11.setTop (mkF m 120 #[.val (.long q0), .second, .val (.long q1), .second, .val (.int p2), .val (.long q0), .second, .val (.long tt), .second, .val (.int (p2 &&& (3 : Int32))), .val (.int (-1 : Int32)), .val (.int (0 : Int32)), .val (.int (0 : Int32)), .val (.int (0 : Int32)), .val (.int (1 : Int32)), .val (.int (1 : Int32))] [(.int (0 : Int32))]))
      refine Rest.via (fun t k => XS.iload X11.here hx rfl (hb hby at_120) rfl k) ?_
      show Rest p.tables e below s _ _ _ (T11.setTop (mkF m 122 #[.val (.long q0), .second, .val (.long q1), .second, .val (.int p2), .val (.long q0), .second, .val (.long tt), .second, .val (.int (p2 &&& (3 : Int32))), .val (.int (-1 : Int32)), .val (.int (0 : Int32)), .val (.int (0 : Int32)), .val (.int (0 : Int32)), .val (.int (1 : Int32)), .val (.int (1 : Int32))] [(.int (-1 : Int32)), (.int (0 : Int32))]))
      refine Rest.via (fun t k => XS.iconst X11.here hx rfl (hb hby at_122) k) ?_
      show Rest p.tables e below s _ _ _ (T11.setTop (mkF m 123 #[.val (.long q0), .second, .val (.long q1), .second, .val (.int p2), .val (.long q0), .second, .val (.long tt), .second, .val (.int (p2 &&& (3 : Int32))), .val (.int (-1 : Int32)), .val (.int (0 : Int32)), .val (.int (0 : Int32)), .val (.int (0 : Int32)), .val (.int (1 : Int32)), .val (.int (1 : Int32))] [(.int (1 : Int32)), (.int (-1 : Int32)), (.int (0 : Int32))]))
      refine Rest.via (fun t k => XS.icmpYes X11.here hx rfl (pc0 := 123) (pc' := 130) rfl (hb hby at_123) rfl (feq (by decide : ¬ ((-1 : Int32) = (1 : Int32)))).2 (by decide) (by decide) k) ?_
      show Rest p.tables e below s _ _ _ (T11.setTop (mkF m 130 #[.val (.long q0), .second, .val (.long q1), .second, .val (.int p2), .val (.long q0), .second, .val (.long tt), .second, .val (.int (p2 &&& (3 : Int32))), .val (.int (-1 : Int32)), .val (.int (0 : Int32)), .val (.int (0 : Int32)), .val (.int (0 : Int32)), .val (.int (1 : Int32)), .val (.int (1 : Int32))] [(.int (0 : Int32))]))
      refine Rest.via (fun t k => XS.iconst X11.here hx rfl (hb hby at_130) k) ?_
      show Rest p.tables e below s _ _ _ (T11.setTop (mkF m 131 #[.val (.long q0), .second, .val (.long q1), .second, .val (.int p2), .val (.long q0), .second, .val (.long tt), .second, .val (.int (p2 &&& (3 : Int32))), .val (.int (-1 : Int32)), .val (.int (0 : Int32)), .val (.int (0 : Int32)), .val (.int (0 : Int32)), .val (.int (1 : Int32)), .val (.int (1 : Int32))] [(.int (0 : Int32)), (.int (0 : Int32))]))
      refine Rest.via (fun t k => XS.icmpNo X11.here hx rfl (hb hby at_131) rfl (teq (by decide : (0 : Int32) = (0 : Int32))).2 k) ?_
      show Rest p.tables e below s _ _ _ (T11.setTop (mkF m 134 #[.val (.long q0), .second, .val (.long q1), .second, .val (.int p2), .val (.long q0), .second, .val (.long tt), .second, .val (.int (p2 &&& (3 : Int32))), .val (.int (-1 : Int32)), .val (.int (0 : Int32)), .val (.int (0 : Int32)), .val (.int (0 : Int32)), .val (.int (1 : Int32)), .val (.int (1 : Int32))] []))
      refine Rest.via (fun t k => XS.iload X11.here hx rfl (hb hby at_134) rfl k) ?_
      show Rest p.tables e below s _ _ _ (T11.setTop (mkF m 136 #[.val (.long q0), .second, .val (.long q1), .second, .val (.int p2), .val (.long q0), .second, .val (.long tt), .second, .val (.int (p2 &&& (3 : Int32))), .val (.int (-1 : Int32)), .val (.int (0 : Int32)), .val (.int (0 : Int32)), .val (.int (0 : Int32)), .val (.int (1 : Int32)), .val (.int (1 : Int32))] [(.int (0 : Int32))]))
      refine Rest.via (fun t k => XS.iload X11.here hx rfl (hb hby at_136) rfl k) ?_
      show Rest p.tables e below s _ _ _ (T11.setTop (mkF m 138 #[.val (.long q0), .second, .val (.long q1), .second, .val (.int p2), .val (.long q0), .second, .val (.long tt), .second, .val (.int (p2 &&& (3 : Int32))), .val (.int (-1 : Int32)), .val (.int (0 : Int32)), .val (.int (0 : Int32)), .val (.int (0 : Int32)), .val (.int (1 : Int32)), .val (.int (1 : Int32))] [(.int (-1 : Int32)), (.int (0 : Int32))]))
      refine Rest.via (fun t k => XS.iconst X11.here hx rfl (hb hby at_138) k) ?_
      show Rest p.tables e below s _ _ _ (T11.setTop (mkF m 139 #[.val (.long q0), .second, .val (.long q1), .second, .val (.int p2), .val (.long q0), .second, .val (.long tt), .second, .val (.int (p2 &&& (3 : Int32))), .val (.int (-1 : Int32)), .val (.int (0 : Int32)), .val (.int (0 : Int32)), .val (.int (0 : Int32)), .val (.int (1 : Int32)), .val (.int (1 : Int32))] [(.int (-1 : Int32)), (.int (-1 : Int32)), (.int (0 : Int32))]))
      refine Rest.via (fun t k => XS.icmpYes X11.here hx rfl (pc0 := 139) (pc' := 146) rfl (hb hby at_139) rfl (teq (by decide : (-1 : Int32) = (-1 : Int32))).1 (by decide) (by decide) k) ?_
      show Rest p.tables e below s _ _ _ (T11.setTop (mkF m 146 #[.val (.long q0), .second, .val (.long q1), .second, .val (.int p2), .val (.long q0), .second, .val (.long tt), .second, .val (.int (p2 &&& (3 : Int32))), .val (.int (-1 : Int32)), .val (.int (0 : Int32)), .val (.int (0 : Int32)), .val (.int (0 : Int32)), .val (.int (1 : Int32)), .val (.int (1 : Int32))] [(.int (0 : Int32))]))
      refine Rest.via (fun t k => XS.iconst X11.here hx rfl (hb hby at_146) k) ?_
      show Rest p.tables e below s _ _ _ (T11.setTop (mkF m 147 #[.val (.long q0), .second, .val (.long q1), .second, .val (.int p2), .val (.long q0), .second, .val (.long tt), .second, .val (.int (p2 &&& (3 : Int32))), .val (.int (-1 : Int32)), .val (.int (0 : Int32)), .val (.int (0 : Int32)), .val (.int (0 : Int32)), .val (.int (1 : Int32)), .val (.int (1 : Int32))] [(.int (0 : Int32)), (.int (0 : Int32))]))
      refine Rest.via (fun t k => XS.icmpNo X11.here hx rfl (hb hby at_147) rfl (teq (by decide : (0 : Int32) = (0 : Int32))).2 k) ?_
      show Rest p.tables e below s _ _ _ (T11.setTop (mkF m 150 #[.val (.long q0), .second, .val (.long q1), .second, .val (.int p2), .val (.long q0), .second, .val (.long tt), .second, .val (.int (p2 &&& (3 : Int32))), .val (.int (-1 : Int32)), .val (.int (0 : Int32)), .val (.int (0 : Int32)), .val (.int (0 : Int32)), .val (.int (1 : Int32)), .val (.int (1 : Int32))] []))
      refine Rest.via (fun t k => XS.iload X11.here hx rfl (hb hby at_150) rfl k) ?_
      show Rest p.tables e below s _ _ _ (T11.setTop (mkF m 152 #[.val (.long q0), .second, .val (.long q1), .second, .val (.int p2), .val (.long q0), .second, .val (.long tt), .second, .val (.int (p2 &&& (3 : Int32))), .val (.int (-1 : Int32)), .val (.int (0 : Int32)), .val (.int (0 : Int32)), .val (.int (0 : Int32)), .val (.int (1 : Int32)), .val (.int (1 : Int32))] [(.int (0 : Int32))]))
      refine Rest.via (fun t k => XS.iload X11.here hx rfl (hb hby at_152) rfl k) ?_
      show Rest p.tables e below s _ _ _ (T11.setTop (mkF m 154 #[.val (.long q0), .second, .val (.long q1), .second, .val (.int p2), .val (.long q0), .second, .val (.long tt), .second, .val (.int (p2 &&& (3 : Int32))), .val (.int (-1 : Int32)), .val (.int (0 : Int32)), .val (.int (0 : Int32)), .val (.int (0 : Int32)), .val (.int (1 : Int32)), .val (.int (1 : Int32))] [(.int (-1 : Int32)), (.int (0 : Int32))]))
      refine Rest.via (fun t k => XS.ifYes X11.here hx rfl (pc0 := 154) (pc' := 161) rfl (hb hby at_154) rfl ((if0 _ _).trans (feq (by decide : ¬ ((-1 : Int32) = (0 : Int32)))).2) (by decide) (by decide) k) ?_
      show Rest p.tables e below s _ _ _ (T11.setTop (mkF m 161 #[.val (.long q0), .second, .val (.long q1), .second, .val (.int p2), .val (.long q0), .second, .val (.long tt), .second, .val (.int (p2 &&& (3 : Int32))), .val (.int (-1 : Int32)), .val (.int (0 : Int32)), .val (.int (0 : Int32)), .val (.int (0 : Int32)), .val (.int (1 : Int32)), .val (.int (1 : Int32))] [(.int (0 : Int32))]))
      refine Rest.via (fun t k => XS.iconst X11.here hx rfl (hb hby at_161) k) ?_
      show Rest p.tables e below s _ _ _ (T11.setTop (mkF m 162 #[.val (.long q0), .second, .val (.long q1), .second, .val (.int p2), .val (.long q0), .second, .val (.long tt), .second, .val (.int (p2 &&& (3 : Int32))), .val (.int (-1 : Int32)), .val (.int (0 : Int32)), .val (.int (0 : Int32)), .val (.int (0 : Int32)), .val (.int (1 : Int32)), .val (.int (1 : Int32))] [(.int (0 : Int32)), (.int (0 : Int32))]))
      refine Rest.via (fun t k => XS.icmpNo X11.here hx rfl (hb hby at_162) rfl (teq (by decide : (0 : Int32) = (0 : Int32))).2 k) ?_
      show Rest p.tables e below s _ _ _ (T11.setTop (mkF m 165 #[.val (.long q0), .second, .val (.long q1), .second, .val (.int p2), .val (.long q0), .second, .val (.long tt), .second, .val (.int (p2 &&& (3 : Int32))), .val (.int (-1 : Int32)), .val (.int (0 : Int32)), .val (.int (0 : Int32)), .val (.int (0 : Int32)), .val (.int (1 : Int32)), .val (.int (1 : Int32))] []))
      refine Rest.via (fun t k => XS.iload X11.here hx rfl (hb hby at_165) rfl k) ?_
      show Rest p.tables e below s _ _ _ (T11.setTop (mkF m 167 #[.val (.long q0), .second, .val (.long q1), .second, .val (.int p2), .val (.long q0), .second, .val (.long tt), .second, .val (.int (p2 &&& (3 : Int32))), .val (.int (-1 : Int32)), .val (.int (0 : Int32)), .val (.int (0 : Int32)), .val (.int (0 : Int32)), .val (.int (1 : Int32)), .val (.int (1 : Int32))] [(.int (1 : Int32))]))
      refine Rest.via (fun t k => XS.iload X11.here hx rfl (hb hby at_167) rfl k) ?_
      show Rest p.tables e below s _ _ _ (T11.setTop (mkF m 169 #[.val (.long q0), .second, .val (.long q1), .second, .val (.int p2), .val (.long q0), .second, .val (.long tt), .second, .val (.int (p2 &&& (3 : Int32))), .val (.int (-1 : Int32)), .val (.int (0 : Int32)), .val (.int (0 : Int32)), .val (.int (0 : Int32)), .val (.int (1 : Int32)), .val (.int (1 : Int32))] [(.int (-1 : Int32)), (.int (1 : Int32))]))
      refine Rest.via (fun t k => XS.iconst X11.here hx rfl (hb hby at_169) k) ?_
      show Rest p.tables e below s _ _ _ (T11.setTop (mkF m 170 #[.val (.long q0), .second, .val (.long q1), .second, .val (.int p2), .val (.long q0), .second, .val (.long tt), .second, .val (.int (p2 &&& (3 : Int32))), .val (.int (-1 : Int32)), .val (.int (0 : Int32)), .val (.int (0 : Int32)), .val (.int (0 : Int32)), .val (.int (1 : Int32)), .val (.int (1 : Int32))] [(.int (-1 : Int32)), (.int (-1 : Int32)), (.int (1 : Int32))]))
      refine Rest.via (fun t k => XS.icmpNo X11.here hx rfl (hb hby at_170) rfl (teq (by decide : (-1 : Int32) = (-1 : Int32))).2 k) ?_
      show Rest p.tables e below s _ _ _ (T11.setTop (mkF m 173 #[.val (.long q0), .second, .val (.long q1), .second, .val (.int p2), .val (.long q0), .second, .val (.long tt), .second, .val (.int (p2 &&& (3 : Int32))), .val (.int (-1 : Int32)), .val (.int (0 : Int32)), .val (.int (0 : Int32)), .val (.int (0 : Int32)), .val (.int (1 : Int32)), .val (.int (1 : Int32))] [(.int (1 : Int32))]))
      refine Rest.via (fun t k => XS.iconst X11.here hx rfl (hb hby at_173) k) ?_
      show Rest p.tables e below s _ _ _ (T11.setTop (mkF m 174 #[.val (.long q0), .second, .val (.long q1), .second, .val (.int p2), .val (.long q0), .second, .val (.long tt), .second, .val (.int (p2 &&& (3 : Int32))), .val (.int (-1 : Int32)), .val (.int (0 : Int32)), .val (.int (0 : Int32)), .val (.int (0 : Int32)), .val (.int (1 : Int32)), .val (.int (1 : Int32))] [(.int (1 : Int32)), (.int (1 : Int32))]))
      refine Rest.via (fun t k => XS.goto X11.here hx rfl (pc0 := 174) (pc' := 178) rfl (hb hby at_174) (by decide) (by decide) k) ?_
      show Rest p.tables e below s _ _ _ (T11.setTop (mkF m 178 #[.val (.long q0), .second, .val (.long q1), .second, .val (.int p2), .val (.long q0), .second, .val (.long tt), .second, .val (.int (p2 &&& (3 : Int32))), .val (.int (-1 : Int32)), .val (.int (0 : Int32)), .val (.int (0 : Int32)), .val (.int (0 : Int32)), .val (.int (1 : Int32)), .val (.int (1 : Int32))] [(.int (1 : Int32)), (.int (1 : Int32))]))
      refine Rest.via (fun t k => XS.icmpNo X11.here hx rfl (hb hby at_178) rfl (teq (by decide : (1 : Int32) = (1 : Int32))).2 k) ?_
      show Rest p.tables e below s _ _ _ (T11.setTop (mkF m 181 #[.val (.long q0), .second, .val (.long q1), .second, .val (.int p2), .val (.long q0), .second, .val (.long tt), .second, .val (.int (p2 &&& (3 : Int32))), .val (.int (-1 : Int32)), .val (.int (0 : Int32)), .val (.int (0 : Int32)), .val (.int (0 : Int32)), .val (.int (1 : Int32)), .val (.int (1 : Int32))] []))
      refine Rest.via (fun t k => XS.iload X11.here hx rfl (hb hby at_181) rfl k) ?_
      show Rest p.tables e below s _ _ _ (T11.setTop (mkF m 183 #[.val (.long q0), .second, .val (.long q1), .second, .val (.int p2), .val (.long q0), .second, .val (.long tt), .second, .val (.int (p2 &&& (3 : Int32))), .val (.int (-1 : Int32)), .val (.int (0 : Int32)), .val (.int (0 : Int32)), .val (.int (0 : Int32)), .val (.int (1 : Int32)), .val (.int (1 : Int32))] [(.int (1 : Int32))]))
      refine Rest.via (fun t k => XS.iload X11.here hx rfl (hb hby at_183) rfl k) ?_
      show Rest p.tables e below s _ _ _ (T11.setTop (mkF m 185 #[.val (.long q0), .second, .val (.long q1), .second, .val (.int p2), .val (.long q0), .second, .val (.long tt), .second, .val (.int (p2 &&& (3 : Int32))), .val (.int (-1 : Int32)), .val (.int (0 : Int32)), .val (.int (0 : Int32)), .val (.int (0 : Int32)), .val (.int (1 : Int32)), .val (.int (1 : Int32))] [(.int (-1 : Int32)), (.int (1 : Int32))]))
      refine Rest.via (fun t k => XS.iconst X11.here hx rfl (hb hby at_185) k) ?_
      show Rest p.tables e below s _ _ _ (T11.setTop (mkF m 186 #[.val (.long q0), .second, .val (.long q1), .second, .val (.int p2), .val (.long q0), .second, .val (.long tt), .second, .val (.int (p2 &&& (3 : Int32))), .val (.int (-1 : Int32)), .val (.int (0 : Int32)), .val (.int (0 : Int32)), .val (.int (0 : Int32)), .val (.int (1 : Int32)), .val (.int (1 : Int32))] [(.int (1 : Int32)), (.int (-1 : Int32)), (.int (1 : Int32))]))
      refine Rest.via (fun t k => XS.icmpNo X11.here hx rfl (hb hby at_186) rfl (feq (by decide : ¬ ((-1 : Int32) = (1 : Int32)))).1 k) ?_
      show Rest p.tables e below s _ _ _ (T11.setTop (mkF m 189 #[.val (.long q0), .second, .val (.long q1), .second, .val (.int p2), .val (.long q0), .second, .val (.long tt), .second, .val (.int (p2 &&& (3 : Int32))), .val (.int (-1 : Int32)), .val (.int (0 : Int32)), .val (.int (0 : Int32)), .val (.int (0 : Int32)), .val (.int (1 : Int32)), .val (.int (1 : Int32))] [(.int (1 : Int32))]))
      refine Rest.via (fun t k => XS.iconst X11.here hx rfl (hb hby at_189) k) ?_
      show Rest p.tables e below s _ _ _ (T11.setTop (mkF m 190 #[.val (.long q0), .second, .val (.long q1), .second, .val (.int p2), .val (.long q0), .second, .val (.long tt), .second, .val (.int (p2 &&& (3 : Int32))), .val (.int (-1 : Int32)), .val (.int (0 : Int32)), .val (.int (0 : Int32)), .val (.int (0 : Int32)), .val (.int (1 : Int32)), .val (.int (1 : Int32))] [(.int (1 : Int32)), (.int (1 : Int32))]))
      refine Rest.via (fun t k => XS.goto X11.here hx rfl (pc0 := 190) (pc' := 194) rfl (hb hby at_190) (by decide) (by decide) k) ?_
      show Rest p.tables e below s _ _ _ (T11.setTop (mkF m 194 #[.val (.long q0), .second, .val (.long q1), .second, .val (.int p2), .val (.long q0), .second, .val (.long tt), .second, .val (.int (p2 &&& (3 : Int32))), .val (.int (-1 : Int32)), .val (.int (0 : Int32)), .val (.int (0 : Int32)), .val (.int (0 : Int32)), .val (.int (1 : Int32)), .val (.int (1 : Int32))] [(.int (1 : Int32)), (.int (1 : Int32))]))
      refine Rest.via (fun t k => XS.icmpNo X11.here hx rfl (hb hby at_194) rfl (teq (by decide : (1 : Int32) = (1 : Int32))).2 k) ?_
      show Rest p.tables e below s _ _ _ (T11.setTop (mkF m 197 #[.val (.long q0), .second, .val (.long q1), .second, .val (.int p2), .val (.long q0), .second, .val (.long tt), .second, .val (.int (p2 &&& (3 : Int32))), .val (.int (-1 : Int32)), .val (.int (0 : Int32)), .val (.int (0 : Int32)), .val (.int (0 : Int32)), .val (.int (1 : Int32)), .val (.int (1 : Int32))] []))
      refine Rest.via (fun t k => XS.iconst X11.here hx rfl (hb hby at_197) k) ?_
      show Rest p.tables e below s _ _ _ (T11.setTop (mkF m 198 #[.val (.long q0), .second, .val (.long q1), .second, .val (.int p2), .val (.long q0), .second, .val (.long tt), .second, .val (.int (p2 &&& (3 : Int32))), .val (.int (-1 : Int32)), .val (.int (0 : Int32)), .val (.int (0 : Int32)), .val (.int (0 : Int32)), .val (.int (1 : Int32)), .val (.int (1 : Int32))] [(.int (1 : Int32))]))
      refine Rest.via (fun t k => XS.goto X11.here hx rfl (pc0 := 198) (pc' := 202) rfl (hb hby at_198) (by decide) (by decide) k) ?_
      show Rest p.tables e below s _ _ _ (T11.setTop (mkF m 202 #[.val (.long q0), .second, .val (.long q1), .second, .val (.int p2), .val (.long q0), .second, .val (.long tt), .second, .val (.int (p2 &&& (3 : Int32))), .val (.int (-1 : Int32)), .val (.int (0 : Int32)), .val (.int (0 : Int32)), .val (.int (0 : Int32)), .val (.int (1 : Int32)), .val (.int (1 : Int32))] [(.int (1 : Int32))]))
      refine Rest.ret X11 (v := some (.int (nar .boolean (1 : Int32)))) (fun h => by rw [Bd.returns] at h; cases h) hlk (fun fs hr => retN X11 hx (t := .boolean) Bd.returns (by simp) (hb hby at_202) hr) ?_ (by decide) (by decide)
      rw [e11]
      exact ⟨rfl, N11⟩
    · show Rest p.tables e below s _ _ _ (s₁.setTop (mkF m 49 #[.val (.long q0), .second, .val (.long q1), .second, .val (.int p2), .val (.long q0), .second, .val (.long tt), .second, .val (.int (p2 &&& (3 : Int32))), .unset, .unset, .unset, .unset, .unset, .unset] []))
      refine Rest.via (fun t k => XS.lload X0.here hx rfl (hb hby at_49) rfl k) ?_
      show Rest p.tables e below s _ _ _ (s₁.setTop (mkF m 51 #[.val (.long q0), .second, .val (.long q1), .second, .val (.int p2), .val (.long q0), .second, .val (.long tt), .second, .val (.int (p2 &&& (3 : Int32))), .unset, .unset, .unset, .unset, .unset, .unset] [(.long q0)]))
      refine Rest.via (fun t k => XS.lload X0.here hx rfl (hb hby at_51) rfl k) ?_
      show Rest p.tables e below s _ _ _ (s₁.setTop (mkF m 53 #[.val (.long q0), .second, .val (.long q1), .second, .val (.int p2), .val (.long q0), .second, .val (.long tt), .second, .val (.int (p2 &&& (3 : Int32))), .unset, .unset, .unset, .unset, .unset, .unset] [(.long tt), (.long q0)]))
      obtain ⟨_, _, ⟨T12, L12, k12, n12⟩, -, X12, ⟨Lc12, hQ12, l12, y12, z12⟩, st12⟩ := Jvm.LawKit.callS X0 hx (y := (⟨"com/example/velwin/velwin/rules/ComparisonHoldsPinLaw", "sign", "(JJ)I"⟩ : MethodName)) hown (mvT hZ (hw _ (List.mem_of_getElem? (i := 0) rfl))) (mvT hZ (hw _ (List.mem_of_getElem? (i := 1) rfl))) (mvT hZ (hw _ (List.mem_of_getElem? (i := 2) rfl))) (mvT hZ (hw _ (List.mem_of_getElem? (i := 3) rfl))) (by decide) (backOf (W := 0) (rmS l Z aw hw [] q0 tt  h0 n0 (Nat.le_trans Z0 (Keep.refl h0 []).1) ) hZ (hw _ (List.mem_of_getElem? (i := 3) rfl)) (hw _ (List.mem_of_getElem? (i := 2) rfl)) (by decide) (by decide)) (g := (mkF m 53 #[.val (.long q0), .second, .val (.long q1), .second, .val (.int p2), .val (.long q0), .second, .val (.long tt), .second, .val (.int (p2 &&& (3 : Int32))), .unset, .unset, .unset, .unset, .unset, .unset] [(.long tt), (.long q0)])) rfl (by rw [hml]; rfl) (argsL := [(.long q0), (.long tt)]) (rest := []) (lenOf pd_1 rfl) rfl (by show 2 * 0 + _ ≤ _; exact Nat.le_of_eq rfl) (hb hby at_53) (fun _ _ => ⟨rfl, eh0, (by decide : 0 + 0 ≤ _), (by decide : 0 + 0 ≤ _)⟩)
      dsimp only [Pt.U, Pt.locs, Pt.cells, Pt.slots] at X12 l12 y12 z12 st12 hQ12
      subst l12 y12 z12
      obtain ⟨rfl, Nq12, e12⟩ := hQ12
      have N12 := Fr.app N0 Nq12
      refine Rest.via (fun t k => st12 t k) ?_
      show Rest p.tables e below s _ _ _ (T12.setTop (mkF m 56 #[.val (.long q0), .second, .val (.long q1), .second, .val (.int p2), .val (.long q0), .second, .val (.long tt), .second, .val (.int (p2 &&& (3 : Int32))), .unset, .unset, .unset, .unset, .unset, .unset] [(.int (own_sg q0 tt))]))
      rw [hsg]
      show Rest p.tables e below s _ _ _ (T12.setTop (mkF m 56 #[.val (.long q0), .second, .val (.long q1), .second, .val (.int p2), .val (.long q0), .second, .val (.long tt), .second, .val (.int (p2 &&& (3 : Int32))), .unset, .unset, .unset, .unset, .unset, .unset] [(.int (0 : Int32))]))
      refine Rest.via (fun t k => XS.istore X12.here hx rfl (hb hby at_56) rfl (l' := #[.val (.long q0), .second, .val (.long q1), .second, .val (.int p2), .val (.long q0), .second, .val (.long tt), .second, .val (.int (p2 &&& (3 : Int32))), .val (.int (0 : Int32)), .unset, .unset, .unset, .unset, .unset]) rfl k) ?_
      show Rest p.tables e below s _ _ _ (T12.setTop (mkF m 58 #[.val (.long q0), .second, .val (.long q1), .second, .val (.int p2), .val (.long q0), .second, .val (.long tt), .second, .val (.int (p2 &&& (3 : Int32))), .val (.int (0 : Int32)), .unset, .unset, .unset, .unset, .unset] []))
      obtain ⟨T13, X13, e13, st13⟩ := getS2 X12 hx hZ hown (host := "") (Or.inl (hw _ (List.mem_of_getElem? (i := 4) rfl))) Via.refl e12 S0 (g := (mkF m 58 #[.val (.long q0), .second, .val (.long q1), .second, .val (.int p2), .val (.long q0), .second, .val (.long tt), .second, .val (.int (p2 &&& (3 : Int32))), .val (.int (0 : Int32)), .unset, .unset, .unset, .unset, .unset] [])) rfl (hb hby at_58)
      refine Rest.via (fun t k => st13 t k) ?_
      show Rest p.tables e below s _ _ _ (T13.setTop (mkF m 61 #[.val (.long q0), .second, .val (.long q1), .second, .val (.int p2), .val (.long q0), .second, .val (.long tt), .second, .val (.int (p2 &&& (3 : Int32))), .val (.int (0 : Int32)), .unset, .unset, .unset, .unset, .unset] [(.ref d0)]))
      refine Rest.via (fun t k => XS.lload X13.here hx rfl (hb hby at_61) rfl k) ?_
      show Rest p.tables e below s _ _ _ (T13.setTop (mkF m 63 #[.val (.long q0), .second, .val (.long q1), .second, .val (.int p2), .val (.long q0), .second, .val (.long tt), .second, .val (.int (p2 &&& (3 : Int32))), .val (.int (0 : Int32)), .unset, .unset, .unset, .unset, .unset] [(.long q0), (.ref d0)]))
      refine Rest.via (fun t k => XS.lload X13.here hx rfl (hb hby at_63) rfl k) ?_
      show Rest p.tables e below s _ _ _ (T13.setTop (mkF m 65 #[.val (.long q0), .second, .val (.long q1), .second, .val (.int p2), .val (.long q0), .second, .val (.long tt), .second, .val (.int (p2 &&& (3 : Int32))), .val (.int (0 : Int32)), .unset, .unset, .unset, .unset, .unset] [(.long tt), (.long q0), (.ref d0)]))
      obtain ⟨cq14, kq14, q14a, q14b, q14c⟩ := isOf hZ e13 E0
      obtain ⟨_, _, ⟨T14, L14, k14, n14⟩, -, X14, ⟨Lc14, hQ14, l14, y14, z14⟩, st14⟩ := X13.virtualBack hx (y := (⟨"com/example/velwin/velwin/rules/Comparison", "holds", "(JJ)Z"⟩ : MethodName)) (z := (⟨"com/example/velwin/velwin/rules/Comparison", "holds", "(JJ)Z"⟩ : MethodName)) hown (mvT hZ (hw _ (List.mem_of_getElem? (i := 7) rfl))) (mvT hZ (hw _ (List.mem_of_getElem? (i := 8) rfl))) (notFace_of_selects (args := #[]) (mvT hZ (hw _ (List.mem_of_getElem? (i := 10) rfl)))) (mvT hZ (hw _ (List.mem_of_getElem? (i := 10) rfl))) (mvT hZ (hw _ (List.mem_of_getElem? (i := 9) rfl))) (by decide) (backOf (W := 0) (rmH0 l Z aw hw [] q0 tt d0 d1 d2 d3 d4 h0 n0 (Nat.le_trans Z0 (Keep.refl h0 []).1) B) hZ (hw _ (List.mem_of_getElem? (i := 11) rfl)) (hw _ (List.mem_of_getElem? (i := 5) rfl)) (by decide) (by decide)) q14a q14c (g := (mkF m 65 #[.val (.long q0), .second, .val (.long q1), .second, .val (.int p2), .val (.long q0), .second, .val (.long tt), .second, .val (.int (p2 &&& (3 : Int32))), .val (.int (0 : Int32)), .unset, .unset, .unset, .unset, .unset] [(.long tt), (.long q0), (.ref d0)])) rfl (by rw [hml]; rfl) (Steps.refl _) (argsL := [(.long q0), (.long tt)]) (rest := []) (lenOf pd_2 rfl) rfl (by show 2 * 0 + _ ≤ _; exact Nat.le_of_eq rfl) (hb hby at_65) (fun _ _ => ⟨rfl, e13, (by decide : 0 + 0 ≤ _), (by decide : 0 + 0 ≤ _)⟩)
      dsimp only [Pt.U, Pt.locs, Pt.cells, Pt.slots] at X14 l14 y14 z14 st14 hQ14
      subst l14 y14 z14
      obtain ⟨rfl, Nq14, e14⟩ := hQ14
      have N14 := Fr.app N12 Nq14
      refine Rest.via (fun t k => st14.trans k) ?_
      show Rest p.tables e below s _ _ _ (T14.setTop (mkF m 68 #[.val (.long q0), .second, .val (.long q1), .second, .val (.int p2), .val (.long q0), .second, .val (.long tt), .second, .val (.int (p2 &&& (3 : Int32))), .val (.int (0 : Int32)), .unset, .unset, .unset, .unset, .unset] [(.int (own_h0 q0 tt))]))
      rw [hh0]
      show Rest p.tables e below s _ _ _ (T14.setTop (mkF m 68 #[.val (.long q0), .second, .val (.long q1), .second, .val (.int p2), .val (.long q0), .second, .val (.long tt), .second, .val (.int (p2 &&& (3 : Int32))), .val (.int (0 : Int32)), .unset, .unset, .unset, .unset, .unset] [(.int (0 : Int32))]))
      refine Rest.via (fun t k => XS.istore X14.here hx rfl (hb hby at_68) rfl (l' := #[.val (.long q0), .second, .val (.long q1), .second, .val (.int p2), .val (.long q0), .second, .val (.long tt), .second, .val (.int (p2 &&& (3 : Int32))), .val (.int (0 : Int32)), .val (.int (0 : Int32)), .unset, .unset, .unset, .unset]) rfl k) ?_
      show Rest p.tables e below s _ _ _ (T14.setTop (mkF m 70 #[.val (.long q0), .second, .val (.long q1), .second, .val (.int p2), .val (.long q0), .second, .val (.long tt), .second, .val (.int (p2 &&& (3 : Int32))), .val (.int (0 : Int32)), .val (.int (0 : Int32)), .unset, .unset, .unset, .unset] []))
      obtain ⟨T15, X15, e15, st15⟩ := getS2 X14 hx hZ hown (host := "") (Or.inl (hw _ (List.mem_of_getElem? (i := 21) rfl))) Via.refl e14 S1 (g := (mkF m 70 #[.val (.long q0), .second, .val (.long q1), .second, .val (.int p2), .val (.long q0), .second, .val (.long tt), .second, .val (.int (p2 &&& (3 : Int32))), .val (.int (0 : Int32)), .val (.int (0 : Int32)), .unset, .unset, .unset, .unset] [])) rfl (hb hby at_70)
      refine Rest.via (fun t k => st15 t k) ?_
      show Rest p.tables e below s _ _ _ (T15.setTop (mkF m 73 #[.val (.long q0), .second, .val (.long q1), .second, .val (.int p2), .val (.long q0), .second, .val (.long tt), .second, .val (.int (p2 &&& (3 : Int32))), .val (.int (0 : Int32)), .val (.int (0 : Int32)), .unset, .unset, .unset, .unset] [(.ref d1)]))
      refine Rest.via (fun t k => XS.lload X15.here hx rfl (hb hby at_73) rfl k) ?_
      show Rest p.tables e below s _ _ _ (T15.setTop (mkF m 75 #[.val (.long q0), .second, .val (.long q1), .second, .val (.int p2), .val (.long q0), .second, .val (.long tt), .second, .val (.int (p2 &&& (3 : Int32))), .val (.int (0 : Int32)), .val (.int (0 : Int32)), .unset, .unset, .unset, .unset] [(.long q0), (.ref d1)]))
      refine Rest.via (fun t k => XS.lload X15.here hx rfl (hb hby at_75) rfl k) ?_
      show Rest p.tables e below s _ _ _ (T15.setTop (mkF m 77 #[.val (.long q0), .second, .val (.long q1), .second, .val (.int p2), .val (.long q0), .second, .val (.long tt), .second, .val (.int (p2 &&& (3 : Int32))), .val (.int (0 : Int32)), .val (.int (0 : Int32)), .unset, .unset, .unset, .unset] [(.long tt), (.long q0), (.ref d1)]))
      obtain ⟨cq16, kq16, q16a, q16b, q16c⟩ := isOf hZ e15 E1
      obtain ⟨_, _, ⟨T16, L16, k16, n16⟩, -, X16, ⟨Lc16, hQ16, l16, y16, z16⟩, st16⟩ := X15.virtualBack hx (y := (⟨"com/example/velwin/velwin/rules/Comparison", "holds", "(JJ)Z"⟩ : MethodName)) (z := (⟨"com/example/velwin/velwin/rules/Comparison", "holds", "(JJ)Z"⟩ : MethodName)) hown (mvT hZ (hw _ (List.mem_of_getElem? (i := 7) rfl))) (mvT hZ (hw _ (List.mem_of_getElem? (i := 8) rfl))) (notFace_of_selects (args := #[]) (mvT hZ (hw _ (List.mem_of_getElem? (i := 10) rfl)))) (mvT hZ (hw _ (List.mem_of_getElem? (i := 10) rfl))) (mvT hZ (hw _ (List.mem_of_getElem? (i := 9) rfl))) (by decide) (backOf (W := 0) (rmH1 l Z aw hw [] q0 tt d0 d1 d2 d3 d4 h0 n0 (Nat.le_trans Z0 (Keep.refl h0 []).1) B) hZ (hw _ (List.mem_of_getElem? (i := 11) rfl)) (hw _ (List.mem_of_getElem? (i := 5) rfl)) (by decide) (by decide)) q16a q16c (g := (mkF m 77 #[.val (.long q0), .second, .val (.long q1), .second, .val (.int p2), .val (.long q0), .second, .val (.long tt), .second, .val (.int (p2 &&& (3 : Int32))), .val (.int (0 : Int32)), .val (.int (0 : Int32)), .unset, .unset, .unset, .unset] [(.long tt), (.long q0), (.ref d1)])) rfl (by rw [hml]; rfl) (Steps.refl _) (argsL := [(.long q0), (.long tt)]) (rest := []) (lenOf pd_2 rfl) rfl (by show 2 * 0 + _ ≤ _; exact Nat.le_of_eq rfl) (hb hby at_77) (fun _ _ => ⟨rfl, e15, (by decide : 0 + 0 ≤ _), (by decide : 0 + 0 ≤ _)⟩)
      dsimp only [Pt.U, Pt.locs, Pt.cells, Pt.slots] at X16 l16 y16 z16 st16 hQ16
      subst l16 y16 z16
      obtain ⟨rfl, Nq16, e16⟩ := hQ16
      have N16 := Fr.app N14 Nq16
      refine Rest.via (fun t k => st16.trans k) ?_
      show Rest p.tables e below s _ _ _ (T16.setTop (mkF m 80 #[.val (.long q0), .second, .val (.long q1), .second, .val (.int p2), .val (.long q0), .second, .val (.long tt), .second, .val (.int (p2 &&& (3 : Int32))), .val (.int (0 : Int32)), .val (.int (0 : Int32)), .unset, .unset, .unset, .unset] [(.int (own_h1 q0 tt))]))
      rw [hh1]
      show Rest p.tables e below s _ _ _ (T16.setTop (mkF m 80 #[.val (.long q0), .second, .val (.long q1), .second, .val (.int p2), .val (.long q0), .second, .val (.long tt), .second, .val (.int (p2 &&& (3 : Int32))), .val (.int (0 : Int32)), .val (.int (0 : Int32)), .unset, .unset, .unset, .unset] [(.int (1 : Int32))]))
      refine Rest.via (fun t k => XS.istore X16.here hx rfl (hb hby at_80) rfl (l' := #[.val (.long q0), .second, .val (.long q1), .second, .val (.int p2), .val (.long q0), .second, .val (.long tt), .second, .val (.int (p2 &&& (3 : Int32))), .val (.int (0 : Int32)), .val (.int (0 : Int32)), .val (.int (1 : Int32)), .unset, .unset, .unset]) rfl k) ?_
      show Rest p.tables e below s _ _ _ (T16.setTop (mkF m 82 #[.val (.long q0), .second, .val (.long q1), .second, .val (.int p2), .val (.long q0), .second, .val (.long tt), .second, .val (.int (p2 &&& (3 : Int32))), .val (.int (0 : Int32)), .val (.int (0 : Int32)), .val (.int (1 : Int32)), .unset, .unset, .unset] []))
      obtain ⟨T17, X17, e17, st17⟩ := getS2 X16 hx hZ hown (host := "") (Or.inl (hw _ (List.mem_of_getElem? (i := 23) rfl))) Via.refl e16 S2 (g := (mkF m 82 #[.val (.long q0), .second, .val (.long q1), .second, .val (.int p2), .val (.long q0), .second, .val (.long tt), .second, .val (.int (p2 &&& (3 : Int32))), .val (.int (0 : Int32)), .val (.int (0 : Int32)), .val (.int (1 : Int32)), .unset, .unset, .unset] [])) rfl (hb hby at_82)
      refine Rest.via (fun t k => st17 t k) ?_
      show Rest p.tables e below s _ _ _ (T17.setTop (mkF m 85 #[.val (.long q0), .second, .val (.long q1), .second, .val (.int p2), .val (.long q0), .second, .val (.long tt), .second, .val (.int (p2 &&& (3 : Int32))), .val (.int (0 : Int32)), .val (.int (0 : Int32)), .val (.int (1 : Int32)), .unset, .unset, .unset] [(.ref d2)]))
      refine Rest.via (fun t k => XS.lload X17.here hx rfl (hb hby at_85) rfl k) ?_
      show Rest p.tables e below s _ _ _ (T17.setTop (mkF m 87 #[.val (.long q0), .second, .val (.long q1), .second, .val (.int p2), .val (.long q0), .second, .val (.long tt), .second, .val (.int (p2 &&& (3 : Int32))), .val (.int (0 : Int32)), .val (.int (0 : Int32)), .val (.int (1 : Int32)), .unset, .unset, .unset] [(.long q0), (.ref d2)]))
      refine Rest.via (fun t k => XS.lload X17.here hx rfl (hb hby at_87) rfl k) ?_
      show Rest p.tables e below s _ _ _ (T17.setTop (mkF m 89 #[.val (.long q0), .second, .val (.long q1), .second, .val (.int p2), .val (.long q0), .second, .val (.long tt), .second, .val (.int (p2 &&& (3 : Int32))), .val (.int (0 : Int32)), .val (.int (0 : Int32)), .val (.int (1 : Int32)), .unset, .unset, .unset] [(.long tt), (.long q0), (.ref d2)]))
      obtain ⟨cq18, kq18, q18a, q18b, q18c⟩ := isOf hZ e17 E2
      obtain ⟨_, _, ⟨T18, L18, k18, n18⟩, -, X18, ⟨Lc18, hQ18, l18, y18, z18⟩, st18⟩ := X17.virtualBack hx (y := (⟨"com/example/velwin/velwin/rules/Comparison", "holds", "(JJ)Z"⟩ : MethodName)) (z := (⟨"com/example/velwin/velwin/rules/Comparison", "holds", "(JJ)Z"⟩ : MethodName)) hown (mvT hZ (hw _ (List.mem_of_getElem? (i := 7) rfl))) (mvT hZ (hw _ (List.mem_of_getElem? (i := 8) rfl))) (notFace_of_selects (args := #[]) (mvT hZ (hw _ (List.mem_of_getElem? (i := 10) rfl)))) (mvT hZ (hw _ (List.mem_of_getElem? (i := 10) rfl))) (mvT hZ (hw _ (List.mem_of_getElem? (i := 9) rfl))) (by decide) (backOf (W := 0) (rmH2 l Z aw hw [] q0 tt d0 d1 d2 d3 d4 h0 n0 (Nat.le_trans Z0 (Keep.refl h0 []).1) B) hZ (hw _ (List.mem_of_getElem? (i := 11) rfl)) (hw _ (List.mem_of_getElem? (i := 5) rfl)) (by decide) (by decide)) q18a q18c (g := (mkF m 89 #[.val (.long q0), .second, .val (.long q1), .second, .val (.int p2), .val (.long q0), .second, .val (.long tt), .second, .val (.int (p2 &&& (3 : Int32))), .val (.int (0 : Int32)), .val (.int (0 : Int32)), .val (.int (1 : Int32)), .unset, .unset, .unset] [(.long tt), (.long q0), (.ref d2)])) rfl (by rw [hml]; rfl) (Steps.refl _) (argsL := [(.long q0), (.long tt)]) (rest := []) (lenOf pd_2 rfl) rfl (by show 2 * 0 + _ ≤ _; exact Nat.le_of_eq rfl) (hb hby at_89) (fun _ _ => ⟨rfl, e17, (by decide : 0 + 0 ≤ _), (by decide : 0 + 0 ≤ _)⟩)
      dsimp only [Pt.U, Pt.locs, Pt.cells, Pt.slots] at X18 l18 y18 z18 st18 hQ18
      subst l18 y18 z18
      obtain ⟨rfl, Nq18, e18⟩ := hQ18
      have N18 := Fr.app N16 Nq18
      refine Rest.via (fun t k => st18.trans k) ?_
      show Rest p.tables e below s _ _ _ (T18.setTop (mkF m 92 #[.val (.long q0), .second, .val (.long q1), .second, .val (.int p2), .val (.long q0), .second, .val (.long tt), .second, .val (.int (p2 &&& (3 : Int32))), .val (.int (0 : Int32)), .val (.int (0 : Int32)), .val (.int (1 : Int32)), .unset, .unset, .unset] [(.int (own_h2 q0 tt))]))
      rw [hh2]
      show Rest p.tables e below s _ _ _ (T18.setTop (mkF m 92 #[.val (.long q0), .second, .val (.long q1), .second, .val (.int p2), .val (.long q0), .second, .val (.long tt), .second, .val (.int (p2 &&& (3 : Int32))), .val (.int (0 : Int32)), .val (.int (0 : Int32)), .val (.int (1 : Int32)), .unset, .unset, .unset] [(.int (1 : Int32))]))
      refine Rest.via (fun t k => XS.istore X18.here hx rfl (hb hby at_92) rfl (l' := #[.val (.long q0), .second, .val (.long q1), .second, .val (.int p2), .val (.long q0), .second, .val (.long tt), .second, .val (.int (p2 &&& (3 : Int32))), .val (.int (0 : Int32)), .val (.int (0 : Int32)), .val (.int (1 : Int32)), .val (.int (1 : Int32)), .unset, .unset]) rfl k) ?_
      show Rest p.tables e below s _ _ _ (T18.setTop (mkF m 94 #[.val (.long q0), .second, .val (.long q1), .second, .val (.int p2), .val (.long q0), .second, .val (.long tt), .second, .val (.int (p2 &&& (3 : Int32))), .val (.int (0 : Int32)), .val (.int (0 : Int32)), .val (.int (1 : Int32)), .val (.int (1 : Int32)), .unset, .unset] []))
      obtain ⟨T19, X19, e19, st19⟩ := getS2 X18 hx hZ hown (host := "") (Or.inl (hw _ (List.mem_of_getElem? (i := 25) rfl))) Via.refl e18 S3 (g := (mkF m 94 #[.val (.long q0), .second, .val (.long q1), .second, .val (.int p2), .val (.long q0), .second, .val (.long tt), .second, .val (.int (p2 &&& (3 : Int32))), .val (.int (0 : Int32)), .val (.int (0 : Int32)), .val (.int (1 : Int32)), .val (.int (1 : Int32)), .unset, .unset] [])) rfl (hb hby at_94)
      refine Rest.via (fun t k => st19 t k) ?_
      show Rest p.tables e below s _ _ _ (T19.setTop (mkF m 97 #[.val (.long q0), .second, .val (.long q1), .second, .val (.int p2), .val (.long q0), .second, .val (.long tt), .second, .val (.int (p2 &&& (3 : Int32))), .val (.int (0 : Int32)), .val (.int (0 : Int32)), .val (.int (1 : Int32)), .val (.int (1 : Int32)), .unset, .unset] [(.ref d3)]))
      refine Rest.via (fun t k => XS.lload X19.here hx rfl (hb hby at_97) rfl k) ?_
      show Rest p.tables e below s _ _ _ (T19.setTop (mkF m 99 #[.val (.long q0), .second, .val (.long q1), .second, .val (.int p2), .val (.long q0), .second, .val (.long tt), .second, .val (.int (p2 &&& (3 : Int32))), .val (.int (0 : Int32)), .val (.int (0 : Int32)), .val (.int (1 : Int32)), .val (.int (1 : Int32)), .unset, .unset] [(.long q0), (.ref d3)]))
      refine Rest.via (fun t k => XS.lload X19.here hx rfl (hb hby at_99) rfl k) ?_
      show Rest p.tables e below s _ _ _ (T19.setTop (mkF m 101 #[.val (.long q0), .second, .val (.long q1), .second, .val (.int p2), .val (.long q0), .second, .val (.long tt), .second, .val (.int (p2 &&& (3 : Int32))), .val (.int (0 : Int32)), .val (.int (0 : Int32)), .val (.int (1 : Int32)), .val (.int (1 : Int32)), .unset, .unset] [(.long tt), (.long q0), (.ref d3)]))
      obtain ⟨cq20, kq20, q20a, q20b, q20c⟩ := isOf hZ e19 E3
      obtain ⟨_, _, ⟨T20, L20, k20, n20⟩, -, X20, ⟨Lc20, hQ20, l20, y20, z20⟩, st20⟩ := X19.virtualBack hx (y := (⟨"com/example/velwin/velwin/rules/Comparison", "holds", "(JJ)Z"⟩ : MethodName)) (z := (⟨"com/example/velwin/velwin/rules/Comparison", "holds", "(JJ)Z"⟩ : MethodName)) hown (mvT hZ (hw _ (List.mem_of_getElem? (i := 7) rfl))) (mvT hZ (hw _ (List.mem_of_getElem? (i := 8) rfl))) (notFace_of_selects (args := #[]) (mvT hZ (hw _ (List.mem_of_getElem? (i := 10) rfl)))) (mvT hZ (hw _ (List.mem_of_getElem? (i := 10) rfl))) (mvT hZ (hw _ (List.mem_of_getElem? (i := 9) rfl))) (by decide) (backOf (W := 0) (rmH3 l Z aw hw [] q0 tt d0 d1 d2 d3 d4 h0 n0 (Nat.le_trans Z0 (Keep.refl h0 []).1) B) hZ (hw _ (List.mem_of_getElem? (i := 11) rfl)) (hw _ (List.mem_of_getElem? (i := 5) rfl)) (by decide) (by decide)) q20a q20c (g := (mkF m 101 #[.val (.long q0), .second, .val (.long q1), .second, .val (.int p2), .val (.long q0), .second, .val (.long tt), .second, .val (.int (p2 &&& (3 : Int32))), .val (.int (0 : Int32)), .val (.int (0 : Int32)), .val (.int (1 : Int32)), .val (.int (1 : Int32)), .unset, .unset] [(.long tt), (.long q0), (.ref d3)])) rfl (by rw [hml]; rfl) (Steps.refl _) (argsL := [(.long q0), (.long tt)]) (rest := []) (lenOf pd_2 rfl) rfl (by show 2 * 0 + _ ≤ _; exact Nat.le_of_eq rfl) (hb hby at_101) (fun _ _ => ⟨rfl, e19, (by decide : 0 + 0 ≤ _), (by decide : 0 + 0 ≤ _)⟩)
      dsimp only [Pt.U, Pt.locs, Pt.cells, Pt.slots] at X20 l20 y20 z20 st20 hQ20
      subst l20 y20 z20
      obtain ⟨rfl, Nq20, e20⟩ := hQ20
      have N20 := Fr.app N18 Nq20
      refine Rest.via (fun t k => st20.trans k) ?_
      show Rest p.tables e below s _ _ _ (T20.setTop (mkF m 104 #[.val (.long q0), .second, .val (.long q1), .second, .val (.int p2), .val (.long q0), .second, .val (.long tt), .second, .val (.int (p2 &&& (3 : Int32))), .val (.int (0 : Int32)), .val (.int (0 : Int32)), .val (.int (1 : Int32)), .val (.int (1 : Int32)), .unset, .unset] [(.int (own_h3 q0 tt))]))
      rw [hh3]
      show Rest p.tables e below s _ _ _ (T20.setTop (mkF m 104 #[.val (.long q0), .second, .val (.long q1), .second, .val (.int p2), .val (.long q0), .second, .val (.long tt), .second, .val (.int (p2 &&& (3 : Int32))), .val (.int (0 : Int32)), .val (.int (0 : Int32)), .val (.int (1 : Int32)), .val (.int (1 : Int32)), .unset, .unset] [(.int (0 : Int32))]))
      refine Rest.via (fun t k => XS.istore X20.here hx rfl (hb hby at_104) rfl (l' := #[.val (.long q0), .second, .val (.long q1), .second, .val (.int p2), .val (.long q0), .second, .val (.long tt), .second, .val (.int (p2 &&& (3 : Int32))), .val (.int (0 : Int32)), .val (.int (0 : Int32)), .val (.int (1 : Int32)), .val (.int (1 : Int32)), .val (.int (0 : Int32)), .unset]) rfl k) ?_
      show Rest p.tables e below s _ _ _ (T20.setTop (mkF m 106 #[.val (.long q0), .second, .val (.long q1), .second, .val (.int p2), .val (.long q0), .second, .val (.long tt), .second, .val (.int (p2 &&& (3 : Int32))), .val (.int (0 : Int32)), .val (.int (0 : Int32)), .val (.int (1 : Int32)), .val (.int (1 : Int32)), .val (.int (0 : Int32)), .unset] []))
      obtain ⟨T21, X21, e21, st21⟩ := getS2 X20 hx hZ hown (host := "") (Or.inl (hw _ (List.mem_of_getElem? (i := 27) rfl))) Via.refl e20 S4 (g := (mkF m 106 #[.val (.long q0), .second, .val (.long q1), .second, .val (.int p2), .val (.long q0), .second, .val (.long tt), .second, .val (.int (p2 &&& (3 : Int32))), .val (.int (0 : Int32)), .val (.int (0 : Int32)), .val (.int (1 : Int32)), .val (.int (1 : Int32)), .val (.int (0 : Int32)), .unset] [])) rfl (hb hby at_106)
      refine Rest.via (fun t k => st21 t k) ?_
      show Rest p.tables e below s _ _ _ (T21.setTop (mkF m 109 #[.val (.long q0), .second, .val (.long q1), .second, .val (.int p2), .val (.long q0), .second, .val (.long tt), .second, .val (.int (p2 &&& (3 : Int32))), .val (.int (0 : Int32)), .val (.int (0 : Int32)), .val (.int (1 : Int32)), .val (.int (1 : Int32)), .val (.int (0 : Int32)), .unset] [(.ref d4)]))
      refine Rest.via (fun t k => XS.lload X21.here hx rfl (hb hby at_109) rfl k) ?_
      show Rest p.tables e below s _ _ _ (T21.setTop (mkF m 111 #[.val (.long q0), .second, .val (.long q1), .second, .val (.int p2), .val (.long q0), .second, .val (.long tt), .second, .val (.int (p2 &&& (3 : Int32))), .val (.int (0 : Int32)), .val (.int (0 : Int32)), .val (.int (1 : Int32)), .val (.int (1 : Int32)), .val (.int (0 : Int32)), .unset] [(.long q0), (.ref d4)]))
      refine Rest.via (fun t k => XS.lload X21.here hx rfl (hb hby at_111) rfl k) ?_
      show Rest p.tables e below s _ _ _ (T21.setTop (mkF m 113 #[.val (.long q0), .second, .val (.long q1), .second, .val (.int p2), .val (.long q0), .second, .val (.long tt), .second, .val (.int (p2 &&& (3 : Int32))), .val (.int (0 : Int32)), .val (.int (0 : Int32)), .val (.int (1 : Int32)), .val (.int (1 : Int32)), .val (.int (0 : Int32)), .unset] [(.long tt), (.long q0), (.ref d4)]))
      obtain ⟨cq22, kq22, q22a, q22b, q22c⟩ := isOf hZ e21 E4
      obtain ⟨_, _, ⟨T22, L22, k22, n22⟩, -, X22, ⟨Lc22, hQ22, l22, y22, z22⟩, st22⟩ := X21.virtualBack hx (y := (⟨"com/example/velwin/velwin/rules/Comparison", "holds", "(JJ)Z"⟩ : MethodName)) (z := (⟨"com/example/velwin/velwin/rules/Comparison", "holds", "(JJ)Z"⟩ : MethodName)) hown (mvT hZ (hw _ (List.mem_of_getElem? (i := 7) rfl))) (mvT hZ (hw _ (List.mem_of_getElem? (i := 8) rfl))) (notFace_of_selects (args := #[]) (mvT hZ (hw _ (List.mem_of_getElem? (i := 10) rfl)))) (mvT hZ (hw _ (List.mem_of_getElem? (i := 10) rfl))) (mvT hZ (hw _ (List.mem_of_getElem? (i := 9) rfl))) (by decide) (backOf (W := 0) (rmH4 l Z aw hw [] q0 tt d0 d1 d2 d3 d4 h0 n0 (Nat.le_trans Z0 (Keep.refl h0 []).1) B) hZ (hw _ (List.mem_of_getElem? (i := 11) rfl)) (hw _ (List.mem_of_getElem? (i := 5) rfl)) (by decide) (by decide)) q22a q22c (g := (mkF m 113 #[.val (.long q0), .second, .val (.long q1), .second, .val (.int p2), .val (.long q0), .second, .val (.long tt), .second, .val (.int (p2 &&& (3 : Int32))), .val (.int (0 : Int32)), .val (.int (0 : Int32)), .val (.int (1 : Int32)), .val (.int (1 : Int32)), .val (.int (0 : Int32)), .unset] [(.long tt), (.long q0), (.ref d4)])) rfl (by rw [hml]; rfl) (Steps.refl _) (argsL := [(.long q0), (.long tt)]) (rest := []) (lenOf pd_2 rfl) rfl (by show 2 * 0 + _ ≤ _; exact Nat.le_of_eq rfl) (hb hby at_113) (fun _ _ => ⟨rfl, e21, (by decide : 0 + 0 ≤ _), (by decide : 0 + 0 ≤ _)⟩)
      dsimp only [Pt.U, Pt.locs, Pt.cells, Pt.slots] at X22 l22 y22 z22 st22 hQ22
      subst l22 y22 z22
      obtain ⟨rfl, Nq22, e22⟩ := hQ22
      have N22 := Fr.app N20 Nq22
      refine Rest.via (fun t k => st22.trans k) ?_
      show Rest p.tables e below s _ _ _ (T22.setTop (mkF m 116 #[.val (.long q0), .second, .val (.long q1), .second, .val (.int p2), .val (.long q0), .second, .val (.long tt), .second, .val (.int (p2 &&& (3 : Int32))), .val (.int (0 : Int32)), .val (.int (0 : Int32)), .val (.int (1 : Int32)), .val (.int (1 : Int32)), .val (.int (0 : Int32)), .unset] [(.int (own_h4 q0 tt))]))
      rw [hh4]
      show Rest p.tables e below s _ _ _ (T22.setTop (mkF m 116 #[.val (.long q0), .second, .val (.long q1), .second, .val (.int p2), .val (.long q0), .second, .val (.long tt), .second, .val (.int (p2 &&& (3 : Int32))), .val (.int (0 : Int32)), .val (.int (0 : Int32)), .val (.int (1 : Int32)), .val (.int (1 : Int32)), .val (.int (0 : Int32)), .unset] [(.int (1 : Int32))]))
      refine Rest.via (fun t k => XS.istore X22.here hx rfl (hb hby at_116) rfl (l' := #[.val (.long q0), .second, .val (.long q1), .second, .val (.int p2), .val (.long q0), .second, .val (.long tt), .second, .val (.int (p2 &&& (3 : Int32))), .val (.int (0 : Int32)), .val (.int (0 : Int32)), .val (.int (1 : Int32)), .val (.int (1 : Int32)), .val (.int (0 : Int32)), .val (.int (1 : Int32))]) rfl k) ?_
      show Rest p.tables e below s _ _ _ (T22.setTop (mkF m 118 #[.val (.long q0), .second, .val (.long q1), .second, .val (.int p2), .val (.long q0), .second, .val (.long tt), .second, .val (.int (p2 &&& (3 : Int32))), .val (.int (0 : Int32)), .val (.int (0 : Int32)), .val (.int (1 : Int32)), .val (.int (1 : Int32)), .val (.int (0 : Int32)), .val (.int (1 : Int32))] []))
      refine Rest.via (fun t k => XS.iload X22.here hx rfl (hb hby at_118) rfl k) ?_
      show Rest p.tables e below s _ _ _ (T22.setTop (mkF m 120 #[.val (.long q0), .second, .val (.long q1), .second, .val (.int p2), .val (.long q0), .second, .val (.long tt), .second, .val (.int (p2 &&& (3 : Int32))), .val (.int (0 : Int32)), .val (.int (0 : Int32)), .val (.int (1 : Int32)), .val (.int (1 : Int32)), .val (.int (0 : Int32)), .val (.int (1 : Int32))] [(.int (0 : Int32))]))
      refine Rest.via (fun t k => XS.iload X22.here hx rfl (hb hby at_120) rfl k) ?_
      show Rest p.tables e below s _ _ _ (T22.setTop (mkF m 122 #[.val (.long q0), .second, .val (.long q1), .second, .val (.int p2), .val (.long q0), .second, .val (.long tt), .second, .val (.int (p2 &&& (3 : Int32))), .val (.int (0 : Int32)), .val (.int (0 : Int32)), .val (.int (1 : Int32)), .val (.int (1 : Int32)), .val (.int (0 : Int32)), .val (.int (1 : Int32))] [(.int (0 : Int32)), (.int (0 : Int32))]))
      refine Rest.via (fun t k => XS.iconst X22.here hx rfl (hb hby at_122) k) ?_
      show Rest p.tables e below s _ _ _ (T22.setTop (mkF m 123 #[.val (.long q0), .second, .val (.long q1), .second, .val (.int p2), .val (.long q0), .second, .val (.long tt), .second, .val (.int (p2 &&& (3 : Int32))), .val (.int (0 : Int32)), .val (.int (0 : Int32)), .val (.int (1 : Int32)), .val (.int (1 : Int32)), .val (.int (0 : Int32)), .val (.int (1 : Int32))] [(.int (1 : Int32)), (.int (0 : Int32)), (.int (0 : Int32))]))
      refine Rest.via (fun t k => XS.icmpYes X22.here hx rfl (pc0 := 123) (pc' := 130) rfl (hb hby at_123) rfl (feq (by decide : ¬ ((0 : Int32) = (1 : Int32)))).2 (by decide) (by decide) k) ?_
      show Rest p.tables e below s _ _ _ (T22.setTop (mkF m 130 #[.val (.long q0), .second, .val (.long q1), .second, .val (.int p2), .val (.long q0), .second, .val (.long tt), .second, .val (.int (p2 &&& (3 : Int32))), .val (.int (0 : Int32)), .val (.int (0 : Int32)), .val (.int (1 : Int32)), .val (.int (1 : Int32)), .val (.int (0 : Int32)), .val (.int (1 : Int32))] [(.int (0 : Int32))]))
      refine Rest.via (fun t k => XS.iconst X22.here hx rfl (hb hby at_130) k) ?_
      show Rest p.tables e below s _ _ _ (T22.setTop (mkF m 131 #[.val (.long q0), .second, .val (.long q1), .second, .val (.int p2), .val (.long q0), .second, .val (.long tt), .second, .val (.int (p2 &&& (3 : Int32))), .val (.int (0 : Int32)), .val (.int (0 : Int32)), .val (.int (1 : Int32)), .val (.int (1 : Int32)), .val (.int (0 : Int32)), .val (.int (1 : Int32))] [(.int (0 : Int32)), (.int (0 : Int32))]))
      refine Rest.via (fun t k => XS.icmpNo X22.here hx rfl (hb hby at_131) rfl (teq (by decide : (0 : Int32) = (0 : Int32))).2 k) ?_
      show Rest p.tables e below s _ _ _ (T22.setTop (mkF m 134 #[.val (.long q0), .second, .val (.long q1), .second, .val (.int p2), .val (.long q0), .second, .val (.long tt), .second, .val (.int (p2 &&& (3 : Int32))), .val (.int (0 : Int32)), .val (.int (0 : Int32)), .val (.int (1 : Int32)), .val (.int (1 : Int32)), .val (.int (0 : Int32)), .val (.int (1 : Int32))] []))
      refine Rest.via (fun t k => XS.iload X22.here hx rfl (hb hby at_134) rfl k) ?_
      show Rest p.tables e below s _ _ _ (T22.setTop (mkF m 136 #[.val (.long q0), .second, .val (.long q1), .second, .val (.int p2), .val (.long q0), .second, .val (.long tt), .second, .val (.int (p2 &&& (3 : Int32))), .val (.int (0 : Int32)), .val (.int (0 : Int32)), .val (.int (1 : Int32)), .val (.int (1 : Int32)), .val (.int (0 : Int32)), .val (.int (1 : Int32))] [(.int (1 : Int32))]))
      refine Rest.via (fun t k => XS.iload X22.here hx rfl (hb hby at_136) rfl k) ?_
      show Rest p.tables e below s _ _ _ (T22.setTop (mkF m 138 #[.val (.long q0), .second, .val (.long q1), .second, .val (.int p2), .val (.long q0), .second, .val (.long tt), .second, .val (.int (p2 &&& (3 : Int32))), .val (.int (0 : Int32)), .val (.int (0 : Int32)), .val (.int (1 : Int32)), .val (.int (1 : Int32)), .val (.int (0 : Int32)), .val (.int (1 : Int32))] [(.int (0 : Int32)), (.int (1 : Int32))]))
      refine Rest.via (fun t k => XS.iconst X22.here hx rfl (hb hby at_138) k) ?_
      show Rest p.tables e below s _ _ _ (T22.setTop (mkF m 139 #[.val (.long q0), .second, .val (.long q1), .second, .val (.int p2), .val (.long q0), .second, .val (.long tt), .second, .val (.int (p2 &&& (3 : Int32))), .val (.int (0 : Int32)), .val (.int (0 : Int32)), .val (.int (1 : Int32)), .val (.int (1 : Int32)), .val (.int (0 : Int32)), .val (.int (1 : Int32))] [(.int (-1 : Int32)), (.int (0 : Int32)), (.int (1 : Int32))]))
      refine Rest.via (fun t k => XS.icmpNo X22.here hx rfl (hb hby at_139) rfl (feq (by decide : ¬ ((0 : Int32) = (-1 : Int32)))).1 k) ?_
      show Rest p.tables e below s _ _ _ (T22.setTop (mkF m 142 #[.val (.long q0), .second, .val (.long q1), .second, .val (.int p2), .val (.long q0), .second, .val (.long tt), .second, .val (.int (p2 &&& (3 : Int32))), .val (.int (0 : Int32)), .val (.int (0 : Int32)), .val (.int (1 : Int32)), .val (.int (1 : Int32)), .val (.int (0 : Int32)), .val (.int (1 : Int32))] [(.int (1 : Int32))]))
      refine Rest.via (fun t k => XS.iconst X22.here hx rfl (hb hby at_142) k) ?_
      show Rest p.tables e below s _ _ _ (T22.setTop (mkF m 143 #[.val (.long q0), .second, .val (.long q1), .second, .val (.int p2), .val (.long q0), .second, .val (.long tt), .second, .val (.int (p2 &&& (3 : Int32))), .val (.int (0 : Int32)), .val (.int (0 : Int32)), .val (.int (1 : Int32)), .val (.int (1 : Int32)), .val (.int (0 : Int32)), .val (.int (1 : Int32))] [(.int (1 : Int32)), (.int (1 : Int32))]))
      refine Rest.via (fun t k => XS.goto X22.here hx rfl (pc0 := 143) (pc' := 147) rfl (hb hby at_143) (by decide) (by decide) k) ?_
      show Rest p.tables e below s _ _ _ (T22.setTop (mkF m 147 #[.val (.long q0), .second, .val (.long q1), .second, .val (.int p2), .val (.long q0), .second, .val (.long tt), .second, .val (.int (p2 &&& (3 : Int32))), .val (.int (0 : Int32)), .val (.int (0 : Int32)), .val (.int (1 : Int32)), .val (.int (1 : Int32)), .val (.int (0 : Int32)), .val (.int (1 : Int32))] [(.int (1 : Int32)), (.int (1 : Int32))]))
      refine Rest.via (fun t k => XS.icmpNo X22.here hx rfl (hb hby at_147) rfl (teq (by decide : (1 : Int32) = (1 : Int32))).2 k) ?_
      show Rest p.tables e below s _ _ _ (T22.setTop (mkF m 150 #[.val (.long q0), .second, .val (.long q1), .second, .val (.int p2), .val (.long q0), .second, .val (.long tt), .second, .val (.int (p2 &&& (3 : Int32))), .val (.int (0 : Int32)), .val (.int (0 : Int32)), .val (.int (1 : Int32)), .val (.int (1 : Int32)), .val (.int (0 : Int32)), .val (.int (1 : Int32))] []))
      refine Rest.via (fun t k => XS.iload X22.here hx rfl (hb hby at_150) rfl k) ?_
      show Rest p.tables e below s _ _ _ (T22.setTop (mkF m 152 #[.val (.long q0), .second, .val (.long q1), .second, .val (.int p2), .val (.long q0), .second, .val (.long tt), .second, .val (.int (p2 &&& (3 : Int32))), .val (.int (0 : Int32)), .val (.int (0 : Int32)), .val (.int (1 : Int32)), .val (.int (1 : Int32)), .val (.int (0 : Int32)), .val (.int (1 : Int32))] [(.int (1 : Int32))]))
      refine Rest.via (fun t k => XS.iload X22.here hx rfl (hb hby at_152) rfl k) ?_
      show Rest p.tables e below s _ _ _ (T22.setTop (mkF m 154 #[.val (.long q0), .second, .val (.long q1), .second, .val (.int p2), .val (.long q0), .second, .val (.long tt), .second, .val (.int (p2 &&& (3 : Int32))), .val (.int (0 : Int32)), .val (.int (0 : Int32)), .val (.int (1 : Int32)), .val (.int (1 : Int32)), .val (.int (0 : Int32)), .val (.int (1 : Int32))] [(.int (0 : Int32)), (.int (1 : Int32))]))
      refine Rest.via (fun t k => XS.ifNo X22.here hx rfl (hb hby at_154) rfl ((if0 _ _).trans (teq (by decide : (0 : Int32) = (0 : Int32))).2) k) ?_
      show Rest p.tables e below s _ _ _ (T22.setTop (mkF m 157 #[.val (.long q0), .second, .val (.long q1), .second, .val (.int p2), .val (.long q0), .second, .val (.long tt), .second, .val (.int (p2 &&& (3 : Int32))), .val (.int (0 : Int32)), .val (.int (0 : Int32)), .val (.int (1 : Int32)), .val (.int (1 : Int32)), .val (.int (0 : Int32)), .val (.int (1 : Int32))] [(.int (1 : Int32))]))
      refine Rest.via (fun t k => XS.iconst X22.here hx rfl (hb hby at_157) k) ?_
      show Rest p.tables e below s _ _ _ (T22.setTop (mkF m 158 #[.val (.long q0), .second, .val (.long q1), .second, .val (.int p2), .val (.long q0), .second, .val (.long tt), .second, .val (.int (p2 &&& (3 : Int32))), .val (.int (0 : Int32)), .val (.int (0 : Int32)), .val (.int (1 : Int32)), .val (.int (1 : Int32)), .val (.int (0 : Int32)), .val (.int (1 : Int32))] [(.int (1 : Int32)), (.int (1 : Int32))]))
      refine Rest.via (fun t k => XS.goto X22.here hx rfl (pc0 := 158) (pc' := 162) rfl (hb hby at_158) (by decide) (by decide) k) ?_
      show Rest p.tables e below s _ _ _ (T22.setTop (mkF m 162 #[.val (.long q0), .second, .val (.long q1), .second, .val (.int p2), .val (.long q0), .second, .val (.long tt), .second, .val (.int (p2 &&& (3 : Int32))), .val (.int (0 : Int32)), .val (.int (0 : Int32)), .val (.int (1 : Int32)), .val (.int (1 : Int32)), .val (.int (0 : Int32)), .val (.int (1 : Int32))] [(.int (1 : Int32)), (.int (1 : Int32))]))
      refine Rest.via (fun t k => XS.icmpNo X22.here hx rfl (hb hby at_162) rfl (teq (by decide : (1 : Int32) = (1 : Int32))).2 k) ?_
      show Rest p.tables e below s _ _ _ (T22.setTop (mkF m 165 #[.val (.long q0), .second, .val (.long q1), .second, .val (.int p2), .val (.long q0), .second, .val (.long tt), .second, .val (.int (p2 &&& (3 : Int32))), .val (.int (0 : Int32)), .val (.int (0 : Int32)), .val (.int (1 : Int32)), .val (.int (1 : Int32)), .val (.int (0 : Int32)), .val (.int (1 : Int32))] []))
      refine Rest.via (fun t k => XS.iload X22.here hx rfl (hb hby at_165) rfl k) ?_
      show Rest p.tables e below s _ _ _ (T22.setTop (mkF m 167 #[.val (.long q0), .second, .val (.long q1), .second, .val (.int p2), .val (.long q0), .second, .val (.long tt), .second, .val (.int (p2 &&& (3 : Int32))), .val (.int (0 : Int32)), .val (.int (0 : Int32)), .val (.int (1 : Int32)), .val (.int (1 : Int32)), .val (.int (0 : Int32)), .val (.int (1 : Int32))] [(.int (0 : Int32))]))
      refine Rest.via (fun t k => XS.iload X22.here hx rfl (hb hby at_167) rfl k) ?_
      show Rest p.tables e below s _ _ _ (T22.setTop (mkF m 169 #[.val (.long q0), .second, .val (.long q1), .second, .val (.int p2), .val (.long q0), .second, .val (.long tt), .second, .val (.int (p2 &&& (3 : Int32))), .val (.int (0 : Int32)), .val (.int (0 : Int32)), .val (.int (1 : Int32)), .val (.int (1 : Int32)), .val (.int (0 : Int32)), .val (.int (1 : Int32))] [(.int (0 : Int32)), (.int (0 : Int32))]))
      refine Rest.via (fun t k => XS.iconst X22.here hx rfl (hb hby at_169) k) ?_
      show Rest p.tables e below s _ _ _ (T22.setTop (mkF m 170 #[.val (.long q0), .second, .val (.long q1), .second, .val (.int p2), .val (.long q0), .second, .val (.long tt), .second, .val (.int (p2 &&& (3 : Int32))), .val (.int (0 : Int32)), .val (.int (0 : Int32)), .val (.int (1 : Int32)), .val (.int (1 : Int32)), .val (.int (0 : Int32)), .val (.int (1 : Int32))] [(.int (-1 : Int32)), (.int (0 : Int32)), (.int (0 : Int32))]))
      refine Rest.via (fun t k => XS.icmpYes X22.here hx rfl (pc0 := 170) (pc' := 177) rfl (hb hby at_170) rfl (feq (by decide : ¬ ((0 : Int32) = (-1 : Int32)))).2 (by decide) (by decide) k) ?_
      show Rest p.tables e below s _ _ _ (T22.setTop (mkF m 177 #[.val (.long q0), .second, .val (.long q1), .second, .val (.int p2), .val (.long q0), .second, .val (.long tt), .second, .val (.int (p2 &&& (3 : Int32))), .val (.int (0 : Int32)), .val (.int (0 : Int32)), .val (.int (1 : Int32)), .val (.int (1 : Int32)), .val (.int (0 : Int32)), .val (.int (1 : Int32))] [(.int (0 : Int32))]))
      refine Rest.via (fun t k => XS.iconst X22.here hx rfl (hb hby at_177) k) ?_
      show Rest p.tables e below s _ _ _ (T22.setTop (mkF m 178 #[.val (.long q0), .second, .val (.long q1), .second, .val (.int p2), .val (.long q0), .second, .val (.long tt), .second, .val (.int (p2 &&& (3 : Int32))), .val (.int (0 : Int32)), .val (.int (0 : Int32)), .val (.int (1 : Int32)), .val (.int (1 : Int32)), .val (.int (0 : Int32)), .val (.int (1 : Int32))] [(.int (0 : Int32)), (.int (0 : Int32))]))
      refine Rest.via (fun t k => XS.icmpNo X22.here hx rfl (hb hby at_178) rfl (teq (by decide : (0 : Int32) = (0 : Int32))).2 k) ?_
      show Rest p.tables e below s _ _ _ (T22.setTop (mkF m 181 #[.val (.long q0), .second, .val (.long q1), .second, .val (.int p2), .val (.long q0), .second, .val (.long tt), .second, .val (.int (p2 &&& (3 : Int32))), .val (.int (0 : Int32)), .val (.int (0 : Int32)), .val (.int (1 : Int32)), .val (.int (1 : Int32)), .val (.int (0 : Int32)), .val (.int (1 : Int32))] []))
      refine Rest.via (fun t k => XS.iload X22.here hx rfl (hb hby at_181) rfl k) ?_
      show Rest p.tables e below s _ _ _ (T22.setTop (mkF m 183 #[.val (.long q0), .second, .val (.long q1), .second, .val (.int p2), .val (.long q0), .second, .val (.long tt), .second, .val (.int (p2 &&& (3 : Int32))), .val (.int (0 : Int32)), .val (.int (0 : Int32)), .val (.int (1 : Int32)), .val (.int (1 : Int32)), .val (.int (0 : Int32)), .val (.int (1 : Int32))] [(.int (1 : Int32))]))
      refine Rest.via (fun t k => XS.iload X22.here hx rfl (hb hby at_183) rfl k) ?_
      show Rest p.tables e below s _ _ _ (T22.setTop (mkF m 185 #[.val (.long q0), .second, .val (.long q1), .second, .val (.int p2), .val (.long q0), .second, .val (.long tt), .second, .val (.int (p2 &&& (3 : Int32))), .val (.int (0 : Int32)), .val (.int (0 : Int32)), .val (.int (1 : Int32)), .val (.int (1 : Int32)), .val (.int (0 : Int32)), .val (.int (1 : Int32))] [(.int (0 : Int32)), (.int (1 : Int32))]))
      refine Rest.via (fun t k => XS.iconst X22.here hx rfl (hb hby at_185) k) ?_
      show Rest p.tables e below s _ _ _ (T22.setTop (mkF m 186 #[.val (.long q0), .second, .val (.long q1), .second, .val (.int p2), .val (.long q0), .second, .val (.long tt), .second, .val (.int (p2 &&& (3 : Int32))), .val (.int (0 : Int32)), .val (.int (0 : Int32)), .val (.int (1 : Int32)), .val (.int (1 : Int32)), .val (.int (0 : Int32)), .val (.int (1 : Int32))] [(.int (1 : Int32)), (.int (0 : Int32)), (.int (1 : Int32))]))
      refine Rest.via (fun t k => XS.icmpNo X22.here hx rfl (hb hby at_186) rfl (feq (by decide : ¬ ((0 : Int32) = (1 : Int32)))).1 k) ?_
      show Rest p.tables e below s _ _ _ (T22.setTop (mkF m 189 #[.val (.long q0), .second, .val (.long q1), .second, .val (.int p2), .val (.long q0), .second, .val (.long tt), .second, .val (.int (p2 &&& (3 : Int32))), .val (.int (0 : Int32)), .val (.int (0 : Int32)), .val (.int (1 : Int32)), .val (.int (1 : Int32)), .val (.int (0 : Int32)), .val (.int (1 : Int32))] [(.int (1 : Int32))]))
      refine Rest.via (fun t k => XS.iconst X22.here hx rfl (hb hby at_189) k) ?_
      show Rest p.tables e below s _ _ _ (T22.setTop (mkF m 190 #[.val (.long q0), .second, .val (.long q1), .second, .val (.int p2), .val (.long q0), .second, .val (.long tt), .second, .val (.int (p2 &&& (3 : Int32))), .val (.int (0 : Int32)), .val (.int (0 : Int32)), .val (.int (1 : Int32)), .val (.int (1 : Int32)), .val (.int (0 : Int32)), .val (.int (1 : Int32))] [(.int (1 : Int32)), (.int (1 : Int32))]))
      refine Rest.via (fun t k => XS.goto X22.here hx rfl (pc0 := 190) (pc' := 194) rfl (hb hby at_190) (by decide) (by decide) k) ?_
      show Rest p.tables e below s _ _ _ (T22.setTop (mkF m 194 #[.val (.long q0), .second, .val (.long q1), .second, .val (.int p2), .val (.long q0), .second, .val (.long tt), .second, .val (.int (p2 &&& (3 : Int32))), .val (.int (0 : Int32)), .val (.int (0 : Int32)), .val (.int (1 : Int32)), .val (.int (1 : Int32)), .val (.int (0 : Int32)), .val (.int (1 : Int32))] [(.int (1 : Int32)), (.int (1 : Int32))]))
      refine Rest.via (fun t k => XS.icmpNo X22.here hx rfl (hb hby at_194) rfl (teq (by decide : (1 : Int32) = (1 : Int32))).2 k) ?_
      show Rest p.tables e below s _ _ _ (T22.setTop (mkF m 197 #[.val (.long q0), .second, .val (.long q1), .second, .val (.int p2), .val (.long q0), .second, .val (.long tt), .second, .val (.int (p2 &&& (3 : Int32))), .val (.int (0 : Int32)), .val (.int (0 : Int32)), .val (.int (1 : Int32)), .val (.int (1 : Int32)), .val (.int (0 : Int32)), .val (.int (1 : Int32))] []))
      refine Rest.via (fun t k => XS.iconst X22.here hx rfl (hb hby at_197) k) ?_
      show Rest p.tables e below s _ _ _ (T22.setTop (mkF m 198 #[.val (.long q0), .second, .val (.long q1), .second, .val (.int p2), .val (.long q0), .second, .val (.long tt), .second, .val (.int (p2 &&& (3 : Int32))), .val (.int (0 : Int32)), .val (.int (0 : Int32)), .val (.int (1 : Int32)), .val (.int (1 : Int32)), .val (.int (0 : Int32)), .val (.int (1 : Int32))] [(.int (1 : Int32))]))
      refine Rest.via (fun t k => XS.goto X22.here hx rfl (pc0 := 198) (pc' := 202) rfl (hb hby at_198) (by decide) (by decide) k) ?_
      show Rest p.tables e below s _ _ _ (T22.setTop (mkF m 202 #[.val (.long q0), .second, .val (.long q1), .second, .val (.int p2), .val (.long q0), .second, .val (.long tt), .second, .val (.int (p2 &&& (3 : Int32))), .val (.int (0 : Int32)), .val (.int (0 : Int32)), .val (.int (1 : Int32)), .val (.int (1 : Int32)), .val (.int (0 : Int32)), .val (.int (1 : Int32))] [(.int (1 : Int32))]))
      refine Rest.ret X22 (v := some (.int (nar .boolean (1 : Int32)))) (fun h => by rw [Bd.returns] at h; cases h) hlk (fun fs hr => retN X22 hx (t := .boolean) Bd.returns (by simp) (hb hby at_202) hr) ?_ (by decide) (by decide)
      rw [e22]
      exact ⟨rfl, N22⟩
    · show Rest p.tables e below s _ _ _ (s₁.setTop (mkF m 49 #[.val (.long q0), .second, .val (.long q1), .second, .val (.int p2), .val (.long q0), .second, .val (.long tt), .second, .val (.int (p2 &&& (3 : Int32))), .unset, .unset, .unset, .unset, .unset, .unset] []))
      refine Rest.via (fun t k => XS.lload X0.here hx rfl (hb hby at_49) rfl k) ?_
      show Rest p.tables e below s _ _ _ (s₁.setTop (mkF m 51 #[.val (.long q0), .second, .val (.long q1), .second, .val (.int p2), .val (.long q0), .second, .val (.long tt), .second, .val (.int (p2 &&& (3 : Int32))), .unset, .unset, .unset, .unset, .unset, .unset] [(.long q0)]))
      refine Rest.via (fun t k => XS.lload X0.here hx rfl (hb hby at_51) rfl k) ?_
      show Rest p.tables e below s _ _ _ (s₁.setTop (mkF m 53 #[.val (.long q0), .second, .val (.long q1), .second, .val (.int p2), .val (.long q0), .second, .val (.long tt), .second, .val (.int (p2 &&& (3 : Int32))), .unset, .unset, .unset, .unset, .unset, .unset] [(.long tt), (.long q0)]))
      obtain ⟨_, _, ⟨T23, L23, k23, n23⟩, -, X23, ⟨Lc23, hQ23, l23, y23, z23⟩, st23⟩ := Jvm.LawKit.callS X0 hx (y := (⟨"com/example/velwin/velwin/rules/ComparisonHoldsPinLaw", "sign", "(JJ)I"⟩ : MethodName)) hown (mvT hZ (hw _ (List.mem_of_getElem? (i := 0) rfl))) (mvT hZ (hw _ (List.mem_of_getElem? (i := 1) rfl))) (mvT hZ (hw _ (List.mem_of_getElem? (i := 2) rfl))) (mvT hZ (hw _ (List.mem_of_getElem? (i := 3) rfl))) (by decide) (backOf (W := 0) (rmS l Z aw hw [] q0 tt  h0 n0 (Nat.le_trans Z0 (Keep.refl h0 []).1) ) hZ (hw _ (List.mem_of_getElem? (i := 3) rfl)) (hw _ (List.mem_of_getElem? (i := 2) rfl)) (by decide) (by decide)) (g := (mkF m 53 #[.val (.long q0), .second, .val (.long q1), .second, .val (.int p2), .val (.long q0), .second, .val (.long tt), .second, .val (.int (p2 &&& (3 : Int32))), .unset, .unset, .unset, .unset, .unset, .unset] [(.long tt), (.long q0)])) rfl (by rw [hml]; rfl) (argsL := [(.long q0), (.long tt)]) (rest := []) (lenOf pd_1 rfl) rfl (by show 2 * 0 + _ ≤ _; exact Nat.le_of_eq rfl) (hb hby at_53) (fun _ _ => ⟨rfl, eh0, (by decide : 0 + 0 ≤ _), (by decide : 0 + 0 ≤ _)⟩)
      dsimp only [Pt.U, Pt.locs, Pt.cells, Pt.slots] at X23 l23 y23 z23 st23 hQ23
      subst l23 y23 z23
      obtain ⟨rfl, Nq23, e23⟩ := hQ23
      have N23 := Fr.app N0 Nq23
      refine Rest.via (fun t k => st23 t k) ?_
      show Rest p.tables e below s _ _ _ (T23.setTop (mkF m 56 #[.val (.long q0), .second, .val (.long q1), .second, .val (.int p2), .val (.long q0), .second, .val (.long tt), .second, .val (.int (p2 &&& (3 : Int32))), .unset, .unset, .unset, .unset, .unset, .unset] [(.int (own_sg q0 tt))]))
      rw [hsg]
      show Rest p.tables e below s _ _ _ (T23.setTop (mkF m 56 #[.val (.long q0), .second, .val (.long q1), .second, .val (.int p2), .val (.long q0), .second, .val (.long tt), .second, .val (.int (p2 &&& (3 : Int32))), .unset, .unset, .unset, .unset, .unset, .unset] [(.int (1 : Int32))]))
      refine Rest.via (fun t k => XS.istore X23.here hx rfl (hb hby at_56) rfl (l' := #[.val (.long q0), .second, .val (.long q1), .second, .val (.int p2), .val (.long q0), .second, .val (.long tt), .second, .val (.int (p2 &&& (3 : Int32))), .val (.int (1 : Int32)), .unset, .unset, .unset, .unset, .unset]) rfl k) ?_
      show Rest p.tables e below s _ _ _ (T23.setTop (mkF m 58 #[.val (.long q0), .second, .val (.long q1), .second, .val (.int p2), .val (.long q0), .second, .val (.long tt), .second, .val (.int (p2 &&& (3 : Int32))), .val (.int (1 : Int32)), .unset, .unset, .unset, .unset, .unset] []))
      obtain ⟨T24, X24, e24, st24⟩ := getS2 X23 hx hZ hown (host := "") (Or.inl (hw _ (List.mem_of_getElem? (i := 4) rfl))) Via.refl e23 S0 (g := (mkF m 58 #[.val (.long q0), .second, .val (.long q1), .second, .val (.int p2), .val (.long q0), .second, .val (.long tt), .second, .val (.int (p2 &&& (3 : Int32))), .val (.int (1 : Int32)), .unset, .unset, .unset, .unset, .unset] [])) rfl (hb hby at_58)
      refine Rest.via (fun t k => st24 t k) ?_
      show Rest p.tables e below s _ _ _ (T24.setTop (mkF m 61 #[.val (.long q0), .second, .val (.long q1), .second, .val (.int p2), .val (.long q0), .second, .val (.long tt), .second, .val (.int (p2 &&& (3 : Int32))), .val (.int (1 : Int32)), .unset, .unset, .unset, .unset, .unset] [(.ref d0)]))
      refine Rest.via (fun t k => XS.lload X24.here hx rfl (hb hby at_61) rfl k) ?_
      show Rest p.tables e below s _ _ _ (T24.setTop (mkF m 63 #[.val (.long q0), .second, .val (.long q1), .second, .val (.int p2), .val (.long q0), .second, .val (.long tt), .second, .val (.int (p2 &&& (3 : Int32))), .val (.int (1 : Int32)), .unset, .unset, .unset, .unset, .unset] [(.long q0), (.ref d0)]))
      refine Rest.via (fun t k => XS.lload X24.here hx rfl (hb hby at_63) rfl k) ?_
      show Rest p.tables e below s _ _ _ (T24.setTop (mkF m 65 #[.val (.long q0), .second, .val (.long q1), .second, .val (.int p2), .val (.long q0), .second, .val (.long tt), .second, .val (.int (p2 &&& (3 : Int32))), .val (.int (1 : Int32)), .unset, .unset, .unset, .unset, .unset] [(.long tt), (.long q0), (.ref d0)]))
      obtain ⟨cq25, kq25, q25a, q25b, q25c⟩ := isOf hZ e24 E0
      obtain ⟨_, _, ⟨T25, L25, k25, n25⟩, -, X25, ⟨Lc25, hQ25, l25, y25, z25⟩, st25⟩ := X24.virtualBack hx (y := (⟨"com/example/velwin/velwin/rules/Comparison", "holds", "(JJ)Z"⟩ : MethodName)) (z := (⟨"com/example/velwin/velwin/rules/Comparison", "holds", "(JJ)Z"⟩ : MethodName)) hown (mvT hZ (hw _ (List.mem_of_getElem? (i := 7) rfl))) (mvT hZ (hw _ (List.mem_of_getElem? (i := 8) rfl))) (notFace_of_selects (args := #[]) (mvT hZ (hw _ (List.mem_of_getElem? (i := 10) rfl)))) (mvT hZ (hw _ (List.mem_of_getElem? (i := 10) rfl))) (mvT hZ (hw _ (List.mem_of_getElem? (i := 9) rfl))) (by decide) (backOf (W := 0) (rmH0 l Z aw hw [] q0 tt d0 d1 d2 d3 d4 h0 n0 (Nat.le_trans Z0 (Keep.refl h0 []).1) B) hZ (hw _ (List.mem_of_getElem? (i := 11) rfl)) (hw _ (List.mem_of_getElem? (i := 5) rfl)) (by decide) (by decide)) q25a q25c (g := (mkF m 65 #[.val (.long q0), .second, .val (.long q1), .second, .val (.int p2), .val (.long q0), .second, .val (.long tt), .second, .val (.int (p2 &&& (3 : Int32))), .val (.int (1 : Int32)), .unset, .unset, .unset, .unset, .unset] [(.long tt), (.long q0), (.ref d0)])) rfl (by rw [hml]; rfl) (Steps.refl _) (argsL := [(.long q0), (.long tt)]) (rest := []) (lenOf pd_2 rfl) rfl (by show 2 * 0 + _ ≤ _; exact Nat.le_of_eq rfl) (hb hby at_65) (fun _ _ => ⟨rfl, e24, (by decide : 0 + 0 ≤ _), (by decide : 0 + 0 ≤ _)⟩)
      dsimp only [Pt.U, Pt.locs, Pt.cells, Pt.slots] at X25 l25 y25 z25 st25 hQ25
      subst l25 y25 z25
      obtain ⟨rfl, Nq25, e25⟩ := hQ25
      have N25 := Fr.app N23 Nq25
      refine Rest.via (fun t k => st25.trans k) ?_
      show Rest p.tables e below s _ _ _ (T25.setTop (mkF m 68 #[.val (.long q0), .second, .val (.long q1), .second, .val (.int p2), .val (.long q0), .second, .val (.long tt), .second, .val (.int (p2 &&& (3 : Int32))), .val (.int (1 : Int32)), .unset, .unset, .unset, .unset, .unset] [(.int (own_h0 q0 tt))]))
      rw [hh0]
      show Rest p.tables e below s _ _ _ (T25.setTop (mkF m 68 #[.val (.long q0), .second, .val (.long q1), .second, .val (.int p2), .val (.long q0), .second, .val (.long tt), .second, .val (.int (p2 &&& (3 : Int32))), .val (.int (1 : Int32)), .unset, .unset, .unset, .unset, .unset] [(.int (1 : Int32))]))
      refine Rest.via (fun t k => XS.istore X25.here hx rfl (hb hby at_68) rfl (l' := #[.val (.long q0), .second, .val (.long q1), .second, .val (.int p2), .val (.long q0), .second, .val (.long tt), .second, .val (.int (p2 &&& (3 : Int32))), .val (.int (1 : Int32)), .val (.int (1 : Int32)), .unset, .unset, .unset, .unset]) rfl k) ?_
      show Rest p.tables e below s _ _ _ (T25.setTop (mkF m 70 #[.val (.long q0), .second, .val (.long q1), .second, .val (.int p2), .val (.long q0), .second, .val (.long tt), .second, .val (.int (p2 &&& (3 : Int32))), .val (.int (1 : Int32)), .val (.int (1 : Int32)), .unset, .unset, .unset, .unset] []))
      obtain ⟨T26, X26, e26, st26⟩ := getS2 X25 hx hZ hown (host := "") (Or.inl (hw _ (List.mem_of_getElem? (i := 21) rfl))) Via.refl e25 S1 (g := (mkF m 70 #[.val (.long q0), .second, .val (.long q1), .second, .val (.int p2), .val (.long q0), .second, .val (.long tt), .second, .val (.int (p2 &&& (3 : Int32))), .val (.int (1 : Int32)), .val (.int (1 : Int32)), .unset, .unset, .unset, .unset] [])) rfl (hb hby at_70)
      refine Rest.via (fun t k => st26 t k) ?_
      show Rest p.tables e below s _ _ _ (T26.setTop (mkF m 73 #[.val (.long q0), .second, .val (.long q1), .second, .val (.int p2), .val (.long q0), .second, .val (.long tt), .second, .val (.int (p2 &&& (3 : Int32))), .val (.int (1 : Int32)), .val (.int (1 : Int32)), .unset, .unset, .unset, .unset] [(.ref d1)]))
      refine Rest.via (fun t k => XS.lload X26.here hx rfl (hb hby at_73) rfl k) ?_
      show Rest p.tables e below s _ _ _ (T26.setTop (mkF m 75 #[.val (.long q0), .second, .val (.long q1), .second, .val (.int p2), .val (.long q0), .second, .val (.long tt), .second, .val (.int (p2 &&& (3 : Int32))), .val (.int (1 : Int32)), .val (.int (1 : Int32)), .unset, .unset, .unset, .unset] [(.long q0), (.ref d1)]))
      refine Rest.via (fun t k => XS.lload X26.here hx rfl (hb hby at_75) rfl k) ?_
      show Rest p.tables e below s _ _ _ (T26.setTop (mkF m 77 #[.val (.long q0), .second, .val (.long q1), .second, .val (.int p2), .val (.long q0), .second, .val (.long tt), .second, .val (.int (p2 &&& (3 : Int32))), .val (.int (1 : Int32)), .val (.int (1 : Int32)), .unset, .unset, .unset, .unset] [(.long tt), (.long q0), (.ref d1)]))
      obtain ⟨cq27, kq27, q27a, q27b, q27c⟩ := isOf hZ e26 E1
      obtain ⟨_, _, ⟨T27, L27, k27, n27⟩, -, X27, ⟨Lc27, hQ27, l27, y27, z27⟩, st27⟩ := X26.virtualBack hx (y := (⟨"com/example/velwin/velwin/rules/Comparison", "holds", "(JJ)Z"⟩ : MethodName)) (z := (⟨"com/example/velwin/velwin/rules/Comparison", "holds", "(JJ)Z"⟩ : MethodName)) hown (mvT hZ (hw _ (List.mem_of_getElem? (i := 7) rfl))) (mvT hZ (hw _ (List.mem_of_getElem? (i := 8) rfl))) (notFace_of_selects (args := #[]) (mvT hZ (hw _ (List.mem_of_getElem? (i := 10) rfl)))) (mvT hZ (hw _ (List.mem_of_getElem? (i := 10) rfl))) (mvT hZ (hw _ (List.mem_of_getElem? (i := 9) rfl))) (by decide) (backOf (W := 0) (rmH1 l Z aw hw [] q0 tt d0 d1 d2 d3 d4 h0 n0 (Nat.le_trans Z0 (Keep.refl h0 []).1) B) hZ (hw _ (List.mem_of_getElem? (i := 11) rfl)) (hw _ (List.mem_of_getElem? (i := 5) rfl)) (by decide) (by decide)) q27a q27c (g := (mkF m 77 #[.val (.long q0), .second, .val (.long q1), .second, .val (.int p2), .val (.long q0), .second, .val (.long tt), .second, .val (.int (p2 &&& (3 : Int32))), .val (.int (1 : Int32)), .val (.int (1 : Int32)), .unset, .unset, .unset, .unset] [(.long tt), (.long q0), (.ref d1)])) rfl (by rw [hml]; rfl) (Steps.refl _) (argsL := [(.long q0), (.long tt)]) (rest := []) (lenOf pd_2 rfl) rfl (by show 2 * 0 + _ ≤ _; exact Nat.le_of_eq rfl) (hb hby at_77) (fun _ _ => ⟨rfl, e26, (by decide : 0 + 0 ≤ _), (by decide : 0 + 0 ≤ _)⟩)
      dsimp only [Pt.U, Pt.locs, Pt.cells, Pt.slots] at X27 l27 y27 z27 st27 hQ27
      subst l27 y27 z27
      obtain ⟨rfl, Nq27, e27⟩ := hQ27
      have N27 := Fr.app N25 Nq27
      refine Rest.via (fun t k => st27.trans k) ?_
      show Rest p.tables e below s _ _ _ (T27.setTop (mkF m 80 #[.val (.long q0), .second, .val (.long q1), .second, .val (.int p2), .val (.long q0), .second, .val (.long tt), .second, .val (.int (p2 &&& (3 : Int32))), .val (.int (1 : Int32)), .val (.int (1 : Int32)), .unset, .unset, .unset, .unset] [(.int (own_h1 q0 tt))]))
      rw [hh1]
      show Rest p.tables e below s _ _ _ (T27.setTop (mkF m 80 #[.val (.long q0), .second, .val (.long q1), .second, .val (.int p2), .val (.long q0), .second, .val (.long tt), .second, .val (.int (p2 &&& (3 : Int32))), .val (.int (1 : Int32)), .val (.int (1 : Int32)), .unset, .unset, .unset, .unset] [(.int (1 : Int32))]))
      refine Rest.via (fun t k => XS.istore X27.here hx rfl (hb hby at_80) rfl (l' := #[.val (.long q0), .second, .val (.long q1), .second, .val (.int p2), .val (.long q0), .second, .val (.long tt), .second, .val (.int (p2 &&& (3 : Int32))), .val (.int (1 : Int32)), .val (.int (1 : Int32)), .val (.int (1 : Int32)), .unset, .unset, .unset]) rfl k) ?_
      show Rest p.tables e below s _ _ _ (T27.setTop (mkF m 82 #[.val (.long q0), .second, .val (.long q1), .second, .val (.int p2), .val (.long q0), .second, .val (.long tt), .second, .val (.int (p2 &&& (3 : Int32))), .val (.int (1 : Int32)), .val (.int (1 : Int32)), .val (.int (1 : Int32)), .unset, .unset, .unset] []))
      obtain ⟨T28, X28, e28, st28⟩ := getS2 X27 hx hZ hown (host := "") (Or.inl (hw _ (List.mem_of_getElem? (i := 23) rfl))) Via.refl e27 S2 (g := (mkF m 82 #[.val (.long q0), .second, .val (.long q1), .second, .val (.int p2), .val (.long q0), .second, .val (.long tt), .second, .val (.int (p2 &&& (3 : Int32))), .val (.int (1 : Int32)), .val (.int (1 : Int32)), .val (.int (1 : Int32)), .unset, .unset, .unset] [])) rfl (hb hby at_82)
      refine Rest.via (fun t k => st28 t k) ?_
      show Rest p.tables e below s _ _ _ (T28.setTop (mkF m 85 #[.val (.long q0), .second, .val (.long q1), .second, .val (.int p2), .val (.long q0), .second, .val (.long tt), .second, .val (.int (p2 &&& (3 : Int32))), .val (.int (1 : Int32)), .val (.int (1 : Int32)), .val (.int (1 : Int32)), .unset, .unset, .unset] [(.ref d2)]))
      refine Rest.via (fun t k => XS.lload X28.here hx rfl (hb hby at_85) rfl k) ?_
      show Rest p.tables e below s _ _ _ (T28.setTop (mkF m 87 #[.val (.long q0), .second, .val (.long q1), .second, .val (.int p2), .val (.long q0), .second, .val (.long tt), .second, .val (.int (p2 &&& (3 : Int32))), .val (.int (1 : Int32)), .val (.int (1 : Int32)), .val (.int (1 : Int32)), .unset, .unset, .unset] [(.long q0), (.ref d2)]))
      refine Rest.via (fun t k => XS.lload X28.here hx rfl (hb hby at_87) rfl k) ?_
      show Rest p.tables e below s _ _ _ (T28.setTop (mkF m 89 #[.val (.long q0), .second, .val (.long q1), .second, .val (.int p2), .val (.long q0), .second, .val (.long tt), .second, .val (.int (p2 &&& (3 : Int32))), .val (.int (1 : Int32)), .val (.int (1 : Int32)), .val (.int (1 : Int32)), .unset, .unset, .unset] [(.long tt), (.long q0), (.ref d2)]))
      obtain ⟨cq29, kq29, q29a, q29b, q29c⟩ := isOf hZ e28 E2
      obtain ⟨_, _, ⟨T29, L29, k29, n29⟩, -, X29, ⟨Lc29, hQ29, l29, y29, z29⟩, st29⟩ := X28.virtualBack hx (y := (⟨"com/example/velwin/velwin/rules/Comparison", "holds", "(JJ)Z"⟩ : MethodName)) (z := (⟨"com/example/velwin/velwin/rules/Comparison", "holds", "(JJ)Z"⟩ : MethodName)) hown (mvT hZ (hw _ (List.mem_of_getElem? (i := 7) rfl))) (mvT hZ (hw _ (List.mem_of_getElem? (i := 8) rfl))) (notFace_of_selects (args := #[]) (mvT hZ (hw _ (List.mem_of_getElem? (i := 10) rfl)))) (mvT hZ (hw _ (List.mem_of_getElem? (i := 10) rfl))) (mvT hZ (hw _ (List.mem_of_getElem? (i := 9) rfl))) (by decide) (backOf (W := 0) (rmH2 l Z aw hw [] q0 tt d0 d1 d2 d3 d4 h0 n0 (Nat.le_trans Z0 (Keep.refl h0 []).1) B) hZ (hw _ (List.mem_of_getElem? (i := 11) rfl)) (hw _ (List.mem_of_getElem? (i := 5) rfl)) (by decide) (by decide)) q29a q29c (g := (mkF m 89 #[.val (.long q0), .second, .val (.long q1), .second, .val (.int p2), .val (.long q0), .second, .val (.long tt), .second, .val (.int (p2 &&& (3 : Int32))), .val (.int (1 : Int32)), .val (.int (1 : Int32)), .val (.int (1 : Int32)), .unset, .unset, .unset] [(.long tt), (.long q0), (.ref d2)])) rfl (by rw [hml]; rfl) (Steps.refl _) (argsL := [(.long q0), (.long tt)]) (rest := []) (lenOf pd_2 rfl) rfl (by show 2 * 0 + _ ≤ _; exact Nat.le_of_eq rfl) (hb hby at_89) (fun _ _ => ⟨rfl, e28, (by decide : 0 + 0 ≤ _), (by decide : 0 + 0 ≤ _)⟩)
      dsimp only [Pt.U, Pt.locs, Pt.cells, Pt.slots] at X29 l29 y29 z29 st29 hQ29
      subst l29 y29 z29
      obtain ⟨rfl, Nq29, e29⟩ := hQ29
      have N29 := Fr.app N27 Nq29
      refine Rest.via (fun t k => st29.trans k) ?_
      show Rest p.tables e below s _ _ _ (T29.setTop (mkF m 92 #[.val (.long q0), .second, .val (.long q1), .second, .val (.int p2), .val (.long q0), .second, .val (.long tt), .second, .val (.int (p2 &&& (3 : Int32))), .val (.int (1 : Int32)), .val (.int (1 : Int32)), .val (.int (1 : Int32)), .unset, .unset, .unset] [(.int (own_h2 q0 tt))]))
      rw [hh2]
      show Rest p.tables e below s _ _ _ (T29.setTop (mkF m 92 #[.val (.long q0), .second, .val (.long q1), .second, .val (.int p2), .val (.long q0), .second, .val (.long tt), .second, .val (.int (p2 &&& (3 : Int32))), .val (.int (1 : Int32)), .val (.int (1 : Int32)), .val (.int (1 : Int32)), .unset, .unset, .unset] [(.int (0 : Int32))]))
      refine Rest.via (fun t k => XS.istore X29.here hx rfl (hb hby at_92) rfl (l' := #[.val (.long q0), .second, .val (.long q1), .second, .val (.int p2), .val (.long q0), .second, .val (.long tt), .second, .val (.int (p2 &&& (3 : Int32))), .val (.int (1 : Int32)), .val (.int (1 : Int32)), .val (.int (1 : Int32)), .val (.int (0 : Int32)), .unset, .unset]) rfl k) ?_
      show Rest p.tables e below s _ _ _ (T29.setTop (mkF m 94 #[.val (.long q0), .second, .val (.long q1), .second, .val (.int p2), .val (.long q0), .second, .val (.long tt), .second, .val (.int (p2 &&& (3 : Int32))), .val (.int (1 : Int32)), .val (.int (1 : Int32)), .val (.int (1 : Int32)), .val (.int (0 : Int32)), .unset, .unset] []))
      obtain ⟨T30, X30, e30, st30⟩ := getS2 X29 hx hZ hown (host := "") (Or.inl (hw _ (List.mem_of_getElem? (i := 25) rfl))) Via.refl e29 S3 (g := (mkF m 94 #[.val (.long q0), .second, .val (.long q1), .second, .val (.int p2), .val (.long q0), .second, .val (.long tt), .second, .val (.int (p2 &&& (3 : Int32))), .val (.int (1 : Int32)), .val (.int (1 : Int32)), .val (.int (1 : Int32)), .val (.int (0 : Int32)), .unset, .unset] [])) rfl (hb hby at_94)
      refine Rest.via (fun t k => st30 t k) ?_
      show Rest p.tables e below s _ _ _ (T30.setTop (mkF m 97 #[.val (.long q0), .second, .val (.long q1), .second, .val (.int p2), .val (.long q0), .second, .val (.long tt), .second, .val (.int (p2 &&& (3 : Int32))), .val (.int (1 : Int32)), .val (.int (1 : Int32)), .val (.int (1 : Int32)), .val (.int (0 : Int32)), .unset, .unset] [(.ref d3)]))
      refine Rest.via (fun t k => XS.lload X30.here hx rfl (hb hby at_97) rfl k) ?_
      show Rest p.tables e below s _ _ _ (T30.setTop (mkF m 99 #[.val (.long q0), .second, .val (.long q1), .second, .val (.int p2), .val (.long q0), .second, .val (.long tt), .second, .val (.int (p2 &&& (3 : Int32))), .val (.int (1 : Int32)), .val (.int (1 : Int32)), .val (.int (1 : Int32)), .val (.int (0 : Int32)), .unset, .unset] [(.long q0), (.ref d3)]))
      refine Rest.via (fun t k => XS.lload X30.here hx rfl (hb hby at_99) rfl k) ?_
      show Rest p.tables e below s _ _ _ (T30.setTop (mkF m 101 #[.val (.long q0), .second, .val (.long q1), .second, .val (.int p2), .val (.long q0), .second, .val (.long tt), .second, .val (.int (p2 &&& (3 : Int32))), .val (.int (1 : Int32)), .val (.int (1 : Int32)), .val (.int (1 : Int32)), .val (.int (0 : Int32)), .unset, .unset] [(.long tt), (.long q0), (.ref d3)]))
      obtain ⟨cq31, kq31, q31a, q31b, q31c⟩ := isOf hZ e30 E3
      obtain ⟨_, _, ⟨T31, L31, k31, n31⟩, -, X31, ⟨Lc31, hQ31, l31, y31, z31⟩, st31⟩ := X30.virtualBack hx (y := (⟨"com/example/velwin/velwin/rules/Comparison", "holds", "(JJ)Z"⟩ : MethodName)) (z := (⟨"com/example/velwin/velwin/rules/Comparison", "holds", "(JJ)Z"⟩ : MethodName)) hown (mvT hZ (hw _ (List.mem_of_getElem? (i := 7) rfl))) (mvT hZ (hw _ (List.mem_of_getElem? (i := 8) rfl))) (notFace_of_selects (args := #[]) (mvT hZ (hw _ (List.mem_of_getElem? (i := 10) rfl)))) (mvT hZ (hw _ (List.mem_of_getElem? (i := 10) rfl))) (mvT hZ (hw _ (List.mem_of_getElem? (i := 9) rfl))) (by decide) (backOf (W := 0) (rmH3 l Z aw hw [] q0 tt d0 d1 d2 d3 d4 h0 n0 (Nat.le_trans Z0 (Keep.refl h0 []).1) B) hZ (hw _ (List.mem_of_getElem? (i := 11) rfl)) (hw _ (List.mem_of_getElem? (i := 5) rfl)) (by decide) (by decide)) q31a q31c (g := (mkF m 101 #[.val (.long q0), .second, .val (.long q1), .second, .val (.int p2), .val (.long q0), .second, .val (.long tt), .second, .val (.int (p2 &&& (3 : Int32))), .val (.int (1 : Int32)), .val (.int (1 : Int32)), .val (.int (1 : Int32)), .val (.int (0 : Int32)), .unset, .unset] [(.long tt), (.long q0), (.ref d3)])) rfl (by rw [hml]; rfl) (Steps.refl _) (argsL := [(.long q0), (.long tt)]) (rest := []) (lenOf pd_2 rfl) rfl (by show 2 * 0 + _ ≤ _; exact Nat.le_of_eq rfl) (hb hby at_101) (fun _ _ => ⟨rfl, e30, (by decide : 0 + 0 ≤ _), (by decide : 0 + 0 ≤ _)⟩)
      dsimp only [Pt.U, Pt.locs, Pt.cells, Pt.slots] at X31 l31 y31 z31 st31 hQ31
      subst l31 y31 z31
      obtain ⟨rfl, Nq31, e31⟩ := hQ31
      have N31 := Fr.app N29 Nq31
      refine Rest.via (fun t k => st31.trans k) ?_
      show Rest p.tables e below s _ _ _ (T31.setTop (mkF m 104 #[.val (.long q0), .second, .val (.long q1), .second, .val (.int p2), .val (.long q0), .second, .val (.long tt), .second, .val (.int (p2 &&& (3 : Int32))), .val (.int (1 : Int32)), .val (.int (1 : Int32)), .val (.int (1 : Int32)), .val (.int (0 : Int32)), .unset, .unset] [(.int (own_h3 q0 tt))]))
      rw [hh3]
      show Rest p.tables e below s _ _ _ (T31.setTop (mkF m 104 #[.val (.long q0), .second, .val (.long q1), .second, .val (.int p2), .val (.long q0), .second, .val (.long tt), .second, .val (.int (p2 &&& (3 : Int32))), .val (.int (1 : Int32)), .val (.int (1 : Int32)), .val (.int (1 : Int32)), .val (.int (0 : Int32)), .unset, .unset] [(.int (0 : Int32))]))
      refine Rest.via (fun t k => XS.istore X31.here hx rfl (hb hby at_104) rfl (l' := #[.val (.long q0), .second, .val (.long q1), .second, .val (.int p2), .val (.long q0), .second, .val (.long tt), .second, .val (.int (p2 &&& (3 : Int32))), .val (.int (1 : Int32)), .val (.int (1 : Int32)), .val (.int (1 : Int32)), .val (.int (0 : Int32)), .val (.int (0 : Int32)), .unset]) rfl k) ?_
      show Rest p.tables e below s _ _ _ (T31.setTop (mkF m 106 #[.val (.long q0), .second, .val (.long q1), .second, .val (.int p2), .val (.long q0), .second, .val (.long tt), .second, .val (.int (p2 &&& (3 : Int32))), .val (.int (1 : Int32)), .val (.int (1 : Int32)), .val (.int (1 : Int32)), .val (.int (0 : Int32)), .val (.int (0 : Int32)), .unset] []))
      obtain ⟨T32, X32, e32, st32⟩ := getS2 X31 hx hZ hown (host := "") (Or.inl (hw _ (List.mem_of_getElem? (i := 27) rfl))) Via.refl e31 S4 (g := (mkF m 106 #[.val (.long q0), .second, .val (.long q1), .second, .val (.int p2), .val (.long q0), .second, .val (.long tt), .second, .val (.int (p2 &&& (3 : Int32))), .val (.int (1 : Int32)), .val (.int (1 : Int32)), .val (.int (1 : Int32)), .val (.int (0 : Int32)), .val (.int (0 : Int32)), .unset] [])) rfl (hb hby at_106)
      refine Rest.via (fun t k => st32 t k) ?_
      show Rest p.tables e below s _ _ _ (T32.setTop (mkF m 109 #[.val (.long q0), .second, .val (.long q1), .second, .val (.int p2), .val (.long q0), .second, .val (.long tt), .second, .val (.int (p2 &&& (3 : Int32))), .val (.int (1 : Int32)), .val (.int (1 : Int32)), .val (.int (1 : Int32)), .val (.int (0 : Int32)), .val (.int (0 : Int32)), .unset] [(.ref d4)]))
      refine Rest.via (fun t k => XS.lload X32.here hx rfl (hb hby at_109) rfl k) ?_
      show Rest p.tables e below s _ _ _ (T32.setTop (mkF m 111 #[.val (.long q0), .second, .val (.long q1), .second, .val (.int p2), .val (.long q0), .second, .val (.long tt), .second, .val (.int (p2 &&& (3 : Int32))), .val (.int (1 : Int32)), .val (.int (1 : Int32)), .val (.int (1 : Int32)), .val (.int (0 : Int32)), .val (.int (0 : Int32)), .unset] [(.long q0), (.ref d4)]))
      refine Rest.via (fun t k => XS.lload X32.here hx rfl (hb hby at_111) rfl k) ?_
      show Rest p.tables e below s _ _ _ (T32.setTop (mkF m 113 #[.val (.long q0), .second, .val (.long q1), .second, .val (.int p2), .val (.long q0), .second, .val (.long tt), .second, .val (.int (p2 &&& (3 : Int32))), .val (.int (1 : Int32)), .val (.int (1 : Int32)), .val (.int (1 : Int32)), .val (.int (0 : Int32)), .val (.int (0 : Int32)), .unset] [(.long tt), (.long q0), (.ref d4)]))
      obtain ⟨cq33, kq33, q33a, q33b, q33c⟩ := isOf hZ e32 E4
      obtain ⟨_, _, ⟨T33, L33, k33, n33⟩, -, X33, ⟨Lc33, hQ33, l33, y33, z33⟩, st33⟩ := X32.virtualBack hx (y := (⟨"com/example/velwin/velwin/rules/Comparison", "holds", "(JJ)Z"⟩ : MethodName)) (z := (⟨"com/example/velwin/velwin/rules/Comparison", "holds", "(JJ)Z"⟩ : MethodName)) hown (mvT hZ (hw _ (List.mem_of_getElem? (i := 7) rfl))) (mvT hZ (hw _ (List.mem_of_getElem? (i := 8) rfl))) (notFace_of_selects (args := #[]) (mvT hZ (hw _ (List.mem_of_getElem? (i := 10) rfl)))) (mvT hZ (hw _ (List.mem_of_getElem? (i := 10) rfl))) (mvT hZ (hw _ (List.mem_of_getElem? (i := 9) rfl))) (by decide) (backOf (W := 0) (rmH4 l Z aw hw [] q0 tt d0 d1 d2 d3 d4 h0 n0 (Nat.le_trans Z0 (Keep.refl h0 []).1) B) hZ (hw _ (List.mem_of_getElem? (i := 11) rfl)) (hw _ (List.mem_of_getElem? (i := 5) rfl)) (by decide) (by decide)) q33a q33c (g := (mkF m 113 #[.val (.long q0), .second, .val (.long q1), .second, .val (.int p2), .val (.long q0), .second, .val (.long tt), .second, .val (.int (p2 &&& (3 : Int32))), .val (.int (1 : Int32)), .val (.int (1 : Int32)), .val (.int (1 : Int32)), .val (.int (0 : Int32)), .val (.int (0 : Int32)), .unset] [(.long tt), (.long q0), (.ref d4)])) rfl (by rw [hml]; rfl) (Steps.refl _) (argsL := [(.long q0), (.long tt)]) (rest := []) (lenOf pd_2 rfl) rfl (by show 2 * 0 + _ ≤ _; exact Nat.le_of_eq rfl) (hb hby at_113) (fun _ _ => ⟨rfl, e32, (by decide : 0 + 0 ≤ _), (by decide : 0 + 0 ≤ _)⟩)
      dsimp only [Pt.U, Pt.locs, Pt.cells, Pt.slots] at X33 l33 y33 z33 st33 hQ33
      subst l33 y33 z33
      obtain ⟨rfl, Nq33, e33⟩ := hQ33
      have N33 := Fr.app N31 Nq33
      refine Rest.via (fun t k => st33.trans k) ?_
      show Rest p.tables e below s _ _ _ (T33.setTop (mkF m 116 #[.val (.long q0), .second, .val (.long q1), .second, .val (.int p2), .val (.long q0), .second, .val (.long tt), .second, .val (.int (p2 &&& (3 : Int32))), .val (.int (1 : Int32)), .val (.int (1 : Int32)), .val (.int (1 : Int32)), .val (.int (0 : Int32)), .val (.int (0 : Int32)), .unset] [(.int (own_h4 q0 tt))]))
      rw [hh4]
      show Rest p.tables e below s _ _ _ (T33.setTop (mkF m 116 #[.val (.long q0), .second, .val (.long q1), .second, .val (.int p2), .val (.long q0), .second, .val (.long tt), .second, .val (.int (p2 &&& (3 : Int32))), .val (.int (1 : Int32)), .val (.int (1 : Int32)), .val (.int (1 : Int32)), .val (.int (0 : Int32)), .val (.int (0 : Int32)), .unset] [(.int (0 : Int32))]))
      refine Rest.via (fun t k => XS.istore X33.here hx rfl (hb hby at_116) rfl (l' := #[.val (.long q0), .second, .val (.long q1), .second, .val (.int p2), .val (.long q0), .second, .val (.long tt), .second, .val (.int (p2 &&& (3 : Int32))), .val (.int (1 : Int32)), .val (.int (1 : Int32)), .val (.int (1 : Int32)), .val (.int (0 : Int32)), .val (.int (0 : Int32)), .val (.int (0 : Int32))]) rfl k) ?_
      show Rest p.tables e below s _ _ _ (T33.setTop (mkF m 118 #[.val (.long q0), .second, .val (.long q1), .second, .val (.int p2), .val (.long q0), .second, .val (.long tt), .second, .val (.int (p2 &&& (3 : Int32))), .val (.int (1 : Int32)), .val (.int (1 : Int32)), .val (.int (1 : Int32)), .val (.int (0 : Int32)), .val (.int (0 : Int32)), .val (.int (0 : Int32))] []))
      refine Rest.via (fun t k => XS.iload X33.here hx rfl (hb hby at_118) rfl k) ?_
      show Rest p.tables e below s _ _ _ (T33.setTop (mkF m 120 #[.val (.long q0), .second, .val (.long q1), .second, .val (.int p2), .val (.long q0), .second, .val (.long tt), .second, .val (.int (p2 &&& (3 : Int32))), .val (.int (1 : Int32)), .val (.int (1 : Int32)), .val (.int (1 : Int32)), .val (.int (0 : Int32)), .val (.int (0 : Int32)), .val (.int (0 : Int32))] [(.int (1 : Int32))]))
      refine Rest.via (fun t k => XS.iload X33.here hx rfl (hb hby at_120) rfl k) ?_
      show Rest p.tables e below s _ _ _ (T33.setTop (mkF m 122 #[.val (.long q0), .second, .val (.long q1), .second, .val (.int p2), .val (.long q0), .second, .val (.long tt), .second, .val (.int (p2 &&& (3 : Int32))), .val (.int (1 : Int32)), .val (.int (1 : Int32)), .val (.int (1 : Int32)), .val (.int (0 : Int32)), .val (.int (0 : Int32)), .val (.int (0 : Int32))] [(.int (1 : Int32)), (.int (1 : Int32))]))
      refine Rest.via (fun t k => XS.iconst X33.here hx rfl (hb hby at_122) k) ?_
      show Rest p.tables e below s _ _ _ (T33.setTop (mkF m 123 #[.val (.long q0), .second, .val (.long q1), .second, .val (.int p2), .val (.long q0), .second, .val (.long tt), .second, .val (.int (p2 &&& (3 : Int32))), .val (.int (1 : Int32)), .val (.int (1 : Int32)), .val (.int (1 : Int32)), .val (.int (0 : Int32)), .val (.int (0 : Int32)), .val (.int (0 : Int32))] [(.int (1 : Int32)), (.int (1 : Int32)), (.int (1 : Int32))]))
      refine Rest.via (fun t k => XS.icmpNo X33.here hx rfl (hb hby at_123) rfl (teq (by decide : (1 : Int32) = (1 : Int32))).2 k) ?_
      show Rest p.tables e below s _ _ _ (T33.setTop (mkF m 126 #[.val (.long q0), .second, .val (.long q1), .second, .val (.int p2), .val (.long q0), .second, .val (.long tt), .second, .val (.int (p2 &&& (3 : Int32))), .val (.int (1 : Int32)), .val (.int (1 : Int32)), .val (.int (1 : Int32)), .val (.int (0 : Int32)), .val (.int (0 : Int32)), .val (.int (0 : Int32))] [(.int (1 : Int32))]))
      refine Rest.via (fun t k => XS.iconst X33.here hx rfl (hb hby at_126) k) ?_
      show Rest p.tables e below s _ _ _ (T33.setTop (mkF m 127 #[.val (.long q0), .second, .val (.long q1), .second, .val (.int p2), .val (.long q0), .second, .val (.long tt), .second, .val (.int (p2 &&& (3 : Int32))), .val (.int (1 : Int32)), .val (.int (1 : Int32)), .val (.int (1 : Int32)), .val (.int (0 : Int32)), .val (.int (0 : Int32)), .val (.int (0 : Int32))] [(.int (1 : Int32)), (.int (1 : Int32))]))
      refine Rest.via (fun t k => XS.goto X33.here hx rfl (pc0 := 127) (pc' := 131) rfl (hb hby at_127) (by decide) (by decide) k) ?_
      show Rest p.tables e below s _ _ _ (T33.setTop (mkF m 131 #[.val (.long q0), .second, .val (.long q1), .second, .val (.int p2), .val (.long q0), .second, .val (.long tt), .second, .val (.int (p2 &&& (3 : Int32))), .val (.int (1 : Int32)), .val (.int (1 : Int32)), .val (.int (1 : Int32)), .val (.int (0 : Int32)), .val (.int (0 : Int32)), .val (.int (0 : Int32))] [(.int (1 : Int32)), (.int (1 : Int32))]))
      refine Rest.via (fun t k => XS.icmpNo X33.here hx rfl (hb hby at_131) rfl (teq (by decide : (1 : Int32) = (1 : Int32))).2 k) ?_
      show Rest p.tables e below s _ _ _ (T33.setTop (mkF m 134 #[.val (.long q0), .second, .val (.long q1), .second, .val (.int p2), .val (.long q0), .second, .val (.long tt), .second, .val (.int (p2 &&& (3 : Int32))), .val (.int (1 : Int32)), .val (.int (1 : Int32)), .val (.int (1 : Int32)), .val (.int (0 : Int32)), .val (.int (0 : Int32)), .val (.int (0 : Int32))] []))
      refine Rest.via (fun t k => XS.iload X33.here hx rfl (hb hby at_134) rfl k) ?_
      show Rest p.tables e below s _ _ _ (T33.setTop (mkF m 136 #[.val (.long q0), .second, .val (.long q1), .second, .val (.int p2), .val (.long q0), .second, .val (.long tt), .second, .val (.int (p2 &&& (3 : Int32))), .val (.int (1 : Int32)), .val (.int (1 : Int32)), .val (.int (1 : Int32)), .val (.int (0 : Int32)), .val (.int (0 : Int32)), .val (.int (0 : Int32))] [(.int (1 : Int32))]))
      refine Rest.via (fun t k => XS.iload X33.here hx rfl (hb hby at_136) rfl k) ?_
      show Rest p.tables e below s _ _ _ (T33.setTop (mkF m 138 #[.val (.long q0), .second, .val (.long q1), .second, .val (.int p2), .val (.long q0), .second, .val (.long tt), .second, .val (.int (p2 &&& (3 : Int32))), .val (.int (1 : Int32)), .val (.int (1 : Int32)), .val (.int (1 : Int32)), .val (.int (0 : Int32)), .val (.int (0 : Int32)), .val (.int (0 : Int32))] [(.int (1 : Int32)), (.int (1 : Int32))]))
      refine Rest.via (fun t k => XS.iconst X33.here hx rfl (hb hby at_138) k) ?_
      show Rest p.tables e below s _ _ _ (T33.setTop (mkF m 139 #[.val (.long q0), .second, .val (.long q1), .second, .val (.int p2), .val (.long q0), .second, .val (.long tt), .second, .val (.int (p2 &&& (3 : Int32))), .val (.int (1 : Int32)), .val (.int (1 : Int32)), .val (.int (1 : Int32)), .val (.int (0 : Int32)), .val (.int (0 : Int32)), .val (.int (0 : Int32))] [(.int (-1 : Int32)), (.int (1 : Int32)), (.int (1 : Int32))]))
      refine Rest.via (fun t k => XS.icmpNo X33.here hx rfl (hb hby at_139) rfl (feq (by decide : ¬ ((1 : Int32) = (-1 : Int32)))).1 k) ?_
      show Rest p.tables e below s _ _ _ (T33.setTop (mkF m 142 #[.val (.long q0), .second, .val (.long q1), .second, .val (.int p2), .val (.long q0), .second, .val (.long tt), .second, .val (.int (p2 &&& (3 : Int32))), .val (.int (1 : Int32)), .val (.int (1 : Int32)), .val (.int (1 : Int32)), .val (.int (0 : Int32)), .val (.int (0 : Int32)), .val (.int (0 : Int32))] [(.int (1 : Int32))]))
      refine Rest.via (fun t k => XS.iconst X33.here hx rfl (hb hby at_142) k) ?_
      show Rest p.tables e below s _ _ _ (T33.setTop (mkF m 143 #[.val (.long q0), .second, .val (.long q1), .second, .val (.int p2), .val (.long q0), .second, .val (.long tt), .second, .val (.int (p2 &&& (3 : Int32))), .val (.int (1 : Int32)), .val (.int (1 : Int32)), .val (.int (1 : Int32)), .val (.int (0 : Int32)), .val (.int (0 : Int32)), .val (.int (0 : Int32))] [(.int (1 : Int32)), (.int (1 : Int32))]))
      refine Rest.via (fun t k => XS.goto X33.here hx rfl (pc0 := 143) (pc' := 147) rfl (hb hby at_143) (by decide) (by decide) k) ?_
      show Rest p.tables e below s _ _ _ (T33.setTop (mkF m 147 #[.val (.long q0), .second, .val (.long q1), .second, .val (.int p2), .val (.long q0), .second, .val (.long tt), .second, .val (.int (p2 &&& (3 : Int32))), .val (.int (1 : Int32)), .val (.int (1 : Int32)), .val (.int (1 : Int32)), .val (.int (0 : Int32)), .val (.int (0 : Int32)), .val (.int (0 : Int32))] [(.int (1 : Int32)), (.int (1 : Int32))]))
      refine Rest.via (fun t k => XS.icmpNo X33.here hx rfl (hb hby at_147) rfl (teq (by decide : (1 : Int32) = (1 : Int32))).2 k) ?_
      show Rest p.tables e below s _ _ _ (T33.setTop (mkF m 150 #[.val (.long q0), .second, .val (.long q1), .second, .val (.int p2), .val (.long q0), .second, .val (.long tt), .second, .val (.int (p2 &&& (3 : Int32))), .val (.int (1 : Int32)), .val (.int (1 : Int32)), .val (.int (1 : Int32)), .val (.int (0 : Int32)), .val (.int (0 : Int32)), .val (.int (0 : Int32))] []))
      refine Rest.via (fun t k => XS.iload X33.here hx rfl (hb hby at_150) rfl k) ?_
      show Rest p.tables e below s _ _ _ (T33.setTop (mkF m 152 #[.val (.long q0), .second, .val (.long q1), .second, .val (.int p2), .val (.long q0), .second, .val (.long tt), .second, .val (.int (p2 &&& (3 : Int32))), .val (.int (1 : Int32)), .val (.int (1 : Int32)), .val (.int (1 : Int32)), .val (.int (0 : Int32)), .val (.int (0 : Int32)), .val (.int (0 : Int32))] [(.int (0 : Int32))]))
      refine Rest.via (fun t k => XS.iload X33.here hx rfl (hb hby at_152) rfl k) ?_
      show Rest p.tables e below s _ _ _ (T33.setTop (mkF m 154 #[.val (.long q0), .second, .val (.long q1), .second, .val (.int p2), .val (.long q0), .second, .val (.long tt), .second, .val (.int (p2 &&& (3 : Int32))), .val (.int (1 : Int32)), .val (.int (1 : Int32)), .val (.int (1 : Int32)), .val (.int (0 : Int32)), .val (.int (0 : Int32)), .val (.int (0 : Int32))] [(.int (1 : Int32)), (.int (0 : Int32))]))
      refine Rest.via (fun t k => XS.ifYes X33.here hx rfl (pc0 := 154) (pc' := 161) rfl (hb hby at_154) rfl ((if0 _ _).trans (feq (by decide : ¬ ((1 : Int32) = (0 : Int32)))).2) (by decide) (by decide) k) ?_
      show Rest p.tables e below s _ _ _ (T33.setTop (mkF m 161 #[.val (.long q0), .second, .val (.long q1), .second, .val (.int p2), .val (.long q0), .second, .val (.long tt), .second, .val (.int (p2 &&& (3 : Int32))), .val (.int (1 : Int32)), .val (.int (1 : Int32)), .val (.int (1 : Int32)), .val (.int (0 : Int32)), .val (.int (0 : Int32)), .val (.int (0 : Int32))] [(.int (0 : Int32))]))
      refine Rest.via (fun t k => XS.iconst X33.here hx rfl (hb hby at_161) k) ?_
      show Rest p.tables e below s _ _ _ (T33.setTop (mkF m 162 #[.val (.long q0), .second, .val (.long q1), .second, .val (.int p2), .val (.long q0), .second, .val (.long tt), .second, .val (.int (p2 &&& (3 : Int32))), .val (.int (1 : Int32)), .val (.int (1 : Int32)), .val (.int (1 : Int32)), .val (.int (0 : Int32)), .val (.int (0 : Int32)), .val (.int (0 : Int32))] [(.int (0 : Int32)), (.int (0 : Int32))]))
      refine Rest.via (fun t k => XS.icmpNo X33.here hx rfl (hb hby at_162) rfl (teq (by decide : (0 : Int32) = (0 : Int32))).2 k) ?_
      show Rest p.tables e below s _ _ _ (T33.setTop (mkF m 165 #[.val (.long q0), .second, .val (.long q1), .second, .val (.int p2), .val (.long q0), .second, .val (.long tt), .second, .val (.int (p2 &&& (3 : Int32))), .val (.int (1 : Int32)), .val (.int (1 : Int32)), .val (.int (1 : Int32)), .val (.int (0 : Int32)), .val (.int (0 : Int32)), .val (.int (0 : Int32))] []))
      refine Rest.via (fun t k => XS.iload X33.here hx rfl (hb hby at_165) rfl k) ?_
      show Rest p.tables e below s _ _ _ (T33.setTop (mkF m 167 #[.val (.long q0), .second, .val (.long q1), .second, .val (.int p2), .val (.long q0), .second, .val (.long tt), .second, .val (.int (p2 &&& (3 : Int32))), .val (.int (1 : Int32)), .val (.int (1 : Int32)), .val (.int (1 : Int32)), .val (.int (0 : Int32)), .val (.int (0 : Int32)), .val (.int (0 : Int32))] [(.int (0 : Int32))]))
      refine Rest.via (fun t k => XS.iload X33.here hx rfl (hb hby at_167) rfl k) ?_
      show Rest p.tables e below s _ _ _ (T33.setTop (mkF m 169 #[.val (.long q0), .second, .val (.long q1), .second, .val (.int p2), .val (.long q0), .second, .val (.long tt), .second, .val (.int (p2 &&& (3 : Int32))), .val (.int (1 : Int32)), .val (.int (1 : Int32)), .val (.int (1 : Int32)), .val (.int (0 : Int32)), .val (.int (0 : Int32)), .val (.int (0 : Int32))] [(.int (1 : Int32)), (.int (0 : Int32))]))
      refine Rest.via (fun t k => XS.iconst X33.here hx rfl (hb hby at_169) k) ?_
      show Rest p.tables e below s _ _ _ (T33.setTop (mkF m 170 #[.val (.long q0), .second, .val (.long q1), .second, .val (.int p2), .val (.long q0), .second, .val (.long tt), .second, .val (.int (p2 &&& (3 : Int32))), .val (.int (1 : Int32)), .val (.int (1 : Int32)), .val (.int (1 : Int32)), .val (.int (0 : Int32)), .val (.int (0 : Int32)), .val (.int (0 : Int32))] [(.int (-1 : Int32)), (.int (1 : Int32)), (.int (0 : Int32))]))
      refine Rest.via (fun t k => XS.icmpYes X33.here hx rfl (pc0 := 170) (pc' := 177) rfl (hb hby at_170) rfl (feq (by decide : ¬ ((1 : Int32) = (-1 : Int32)))).2 (by decide) (by decide) k) ?_
      show Rest p.tables e below s _ _ _ (T33.setTop (mkF m 177 #[.val (.long q0), .second, .val (.long q1), .second, .val (.int p2), .val (.long q0), .second, .val (.long tt), .second, .val (.int (p2 &&& (3 : Int32))), .val (.int (1 : Int32)), .val (.int (1 : Int32)), .val (.int (1 : Int32)), .val (.int (0 : Int32)), .val (.int (0 : Int32)), .val (.int (0 : Int32))] [(.int (0 : Int32))]))
      refine Rest.via (fun t k => XS.iconst X33.here hx rfl (hb hby at_177) k) ?_
      show Rest p.tables e below s _ _ _ (T33.setTop (mkF m 178 #[.val (.long q0), .second, .val (.long q1), .second, .val (.int p2), .val (.long q0), .second, .val (.long tt), .second, .val (.int (p2 &&& (3 : Int32))), .val (.int (1 : Int32)), .val (.int (1 : Int32)), .val (.int (1 : Int32)), .val (.int (0 : Int32)), .val (.int (0 : Int32)), .val (.int (0 : Int32))] [(.int (0 : Int32)), (.int (0 : Int32))]))
      refine Rest.via (fun t k => XS.icmpNo X33.here hx rfl (hb hby at_178) rfl (teq (by decide : (0 : Int32) = (0 : Int32))).2 k) ?_
      show Rest p.tables e below s _ _ _ (T33.setTop (mkF m 181 #[.val (.long q0), .second, .val (.long q1), .second, .val (.int p2), .val (.long q0), .second, .val (.long tt), .second, .val (.int (p2 &&& (3 : Int32))), .val (.int (1 : Int32)), .val (.int (1 : Int32)), .val (.int (1 : Int32)), .val (.int (0 : Int32)), .val (.int (0 : Int32)), .val (.int (0 : Int32))] []))
      refine Rest.via (fun t k => XS.iload X33.here hx rfl (hb hby at_181) rfl k) ?_
      show Rest p.tables e below s _ _ _ (T33.setTop (mkF m 183 #[.val (.long q0), .second, .val (.long q1), .second, .val (.int p2), .val (.long q0), .second, .val (.long tt), .second, .val (.int (p2 &&& (3 : Int32))), .val (.int (1 : Int32)), .val (.int (1 : Int32)), .val (.int (1 : Int32)), .val (.int (0 : Int32)), .val (.int (0 : Int32)), .val (.int (0 : Int32))] [(.int (0 : Int32))]))
      refine Rest.via (fun t k => XS.iload X33.here hx rfl (hb hby at_183) rfl k) ?_
      show Rest p.tables e below s _ _ _ (T33.setTop (mkF m 185 #[.val (.long q0), .second, .val (.long q1), .second, .val (.int p2), .val (.long q0), .second, .val (.long tt), .second, .val (.int (p2 &&& (3 : Int32))), .val (.int (1 : Int32)), .val (.int (1 : Int32)), .val (.int (1 : Int32)), .val (.int (0 : Int32)), .val (.int (0 : Int32)), .val (.int (0 : Int32))] [(.int (1 : Int32)), (.int (0 : Int32))]))
      refine Rest.via (fun t k => XS.iconst X33.here hx rfl (hb hby at_185) k) ?_
      show Rest p.tables e below s _ _ _ (T33.setTop (mkF m 186 #[.val (.long q0), .second, .val (.long q1), .second, .val (.int p2), .val (.long q0), .second, .val (.long tt), .second, .val (.int (p2 &&& (3 : Int32))), .val (.int (1 : Int32)), .val (.int (1 : Int32)), .val (.int (1 : Int32)), .val (.int (0 : Int32)), .val (.int (0 : Int32)), .val (.int (0 : Int32))] [(.int (1 : Int32)), (.int (1 : Int32)), (.int (0 : Int32))]))
      refine Rest.via (fun t k => XS.icmpYes X33.here hx rfl (pc0 := 186) (pc' := 193) rfl (hb hby at_186) rfl (teq (by decide : (1 : Int32) = (1 : Int32))).1 (by decide) (by decide) k) ?_
      show Rest p.tables e below s _ _ _ (T33.setTop (mkF m 193 #[.val (.long q0), .second, .val (.long q1), .second, .val (.int p2), .val (.long q0), .second, .val (.long tt), .second, .val (.int (p2 &&& (3 : Int32))), .val (.int (1 : Int32)), .val (.int (1 : Int32)), .val (.int (1 : Int32)), .val (.int (0 : Int32)), .val (.int (0 : Int32)), .val (.int (0 : Int32))] [(.int (0 : Int32))]))
      refine Rest.via (fun t k => XS.iconst X33.here hx rfl (hb hby at_193) k) ?_
      show Rest p.tables e below s _ _ _ (T33.setTop (mkF m 194 #[.val (.long q0), .second, .val (.long q1), .second, .val (.int p2), .val (.long q0), .second, .val (.long tt), .second, .val (.int (p2 &&& (3 : Int32))), .val (.int (1 : Int32)), .val (.int (1 : Int32)), .val (.int (1 : Int32)), .val (.int (0 : Int32)), .val (.int (0 : Int32)), .val (.int (0 : Int32))] [(.int (0 : Int32)), (.int (0 : Int32))]))
      refine Rest.via (fun t k => XS.icmpNo X33.here hx rfl (hb hby at_194) rfl (teq (by decide : (0 : Int32) = (0 : Int32))).2 k) ?_
      show Rest p.tables e below s _ _ _ (T33.setTop (mkF m 197 #[.val (.long q0), .second, .val (.long q1), .second, .val (.int p2), .val (.long q0), .second, .val (.long tt), .second, .val (.int (p2 &&& (3 : Int32))), .val (.int (1 : Int32)), .val (.int (1 : Int32)), .val (.int (1 : Int32)), .val (.int (0 : Int32)), .val (.int (0 : Int32)), .val (.int (0 : Int32))] []))
      refine Rest.via (fun t k => XS.iconst X33.here hx rfl (hb hby at_197) k) ?_
      show Rest p.tables e below s _ _ _ (T33.setTop (mkF m 198 #[.val (.long q0), .second, .val (.long q1), .second, .val (.int p2), .val (.long q0), .second, .val (.long tt), .second, .val (.int (p2 &&& (3 : Int32))), .val (.int (1 : Int32)), .val (.int (1 : Int32)), .val (.int (1 : Int32)), .val (.int (0 : Int32)), .val (.int (0 : Int32)), .val (.int (0 : Int32))] [(.int (1 : Int32))]))
      refine Rest.via (fun t k => XS.goto X33.here hx rfl (pc0 := 198) (pc' := 202) rfl (hb hby at_198) (by decide) (by decide) k) ?_
      show Rest p.tables e below s _ _ _ (T33.setTop (mkF m 202 #[.val (.long q0), .second, .val (.long q1), .second, .val (.int p2), .val (.long q0), .second, .val (.long tt), .second, .val (.int (p2 &&& (3 : Int32))), .val (.int (1 : Int32)), .val (.int (1 : Int32)), .val (.int (1 : Int32)), .val (.int (0 : Int32)), .val (.int (0 : Int32)), .val (.int (0 : Int32))] [(.int (1 : Int32))]))
      refine Rest.ret X33 (v := some (.int (nar .boolean (1 : Int32)))) (fun h => by rw [Bd.returns] at h; cases h) hlk (fun fs hr => retN X33 hx (t := .boolean) Bd.returns (by simp) (hb hby at_202) hr) ?_ (by decide) (by decide)
      rw [e33]
      exact ⟨rfl, N33⟩
  show Rest p.tables e below s _ _ _ (s₁.setTop (mkF m 12 #[.val (.long q0), .second, .val (.long q1), .second, .val (.int p2), .val (.long q0), .second, .val (.long q1), .second, .val (.int (p2 &&& (3 : Int32))), .unset, .unset, .unset, .unset, .unset, .unset] []))
  refine Rest.via (fun t k => XS.iload X0.here hx rfl (hb hby at_12) rfl k) ?_
  show Rest p.tables e below s _ _ _ (s₁.setTop (mkF m 14 #[.val (.long q0), .second, .val (.long q1), .second, .val (.int p2), .val (.long q0), .second, .val (.long q1), .second, .val (.int (p2 &&& (3 : Int32))), .unset, .unset, .unset, .unset, .unset, .unset] [(.int (p2 &&& (3 : Int32)))]))
  refine Rest.via (fun t k => XS.iconst X0.here hx rfl (hb hby at_14) k) ?_
  show Rest p.tables e below s _ _ _ (s₁.setTop (mkF m 15 #[.val (.long q0), .second, .val (.long q1), .second, .val (.int p2), .val (.long q0), .second, .val (.long q1), .second, .val (.int (p2 &&& (3 : Int32))), .unset, .unset, .unset, .unset, .unset, .unset] [(.int (1 : Int32)), (.int (p2 &&& (3 : Int32)))]))
  by_cases hc15 : (p2 &&& (3 : Int32)) = (1 : Int32)
  · refine Rest.via (fun t k => XS.icmpNo X0.here hx rfl (hb hby at_15) rfl (teq hc15).2 k) ?_
    show Rest p.tables e below s _ _ _ (s₁.setTop (mkF m 18 #[.val (.long q0), .second, .val (.long q1), .second, .val (.int p2), .val (.long q0), .second, .val (.long q1), .second, .val (.int (p2 &&& (3 : Int32))), .unset, .unset, .unset, .unset, .unset, .unset] []))
    refine Rest.via (fun t k => XS.lloadN X0.here hx rfl (hb hby at_18) rfl k) ?_
    show Rest p.tables e below s _ _ _ (s₁.setTop (mkF m 19 #[.val (.long q0), .second, .val (.long q1), .second, .val (.int p2), .val (.long q0), .second, .val (.long q1), .second, .val (.int (p2 &&& (3 : Int32))), .unset, .unset, .unset, .unset, .unset, .unset] [(.long q0)]))
    refine Rest.via (fun t k => XS.lstore X0.here hx rfl (hb hby at_19) rfl (l' := #[.val (.long q0), .second, .val (.long q1), .second, .val (.int p2), .val (.long q0), .second, .val (.long q0), .second, .val (.int (p2 &&& (3 : Int32))), .unset, .unset, .unset, .unset, .unset, .unset]) rfl k) ?_
    show Rest p.tables e below s _ _ _ (s₁.setTop (mkF m 21 #[.val (.long q0), .second, .val (.long q1), .second, .val (.int p2), .val (.long q0), .second, .val (.long q0), .second, .val (.int (p2 &&& (3 : Int32))), .unset, .unset, .unset, .unset, .unset, .unset] []))
    refine Rest.via (fun t k => XS.goto X0.here hx rfl (pc0 := 21) (pc' := 49) rfl (hb hby at_21) (by decide) (by decide) k) ?_
    show Rest p.tables e below s _ _ _ (s₁.setTop (mkF m 49 #[.val (.long q0), .second, .val (.long q1), .second, .val (.int p2), .val (.long q0), .second, .val (.long q0), .second, .val (.int (p2 &&& (3 : Int32))), .unset, .unset, .unset, .unset, .unset, .unset] []))
    exact J49 _
  · refine Rest.via (fun t k => XS.icmpYes X0.here hx rfl (pc0 := 15) (pc' := 24) rfl (hb hby at_15) rfl (feq hc15).2 (by decide) (by decide) k) ?_
    show Rest p.tables e below s _ _ _ (s₁.setTop (mkF m 24 #[.val (.long q0), .second, .val (.long q1), .second, .val (.int p2), .val (.long q0), .second, .val (.long q1), .second, .val (.int (p2 &&& (3 : Int32))), .unset, .unset, .unset, .unset, .unset, .unset] []))
    refine Rest.via (fun t k => XS.iload X0.here hx rfl (hb hby at_24) rfl k) ?_
    show Rest p.tables e below s _ _ _ (s₁.setTop (mkF m 26 #[.val (.long q0), .second, .val (.long q1), .second, .val (.int p2), .val (.long q0), .second, .val (.long q1), .second, .val (.int (p2 &&& (3 : Int32))), .unset, .unset, .unset, .unset, .unset, .unset] [(.int (p2 &&& (3 : Int32)))]))
    refine Rest.via (fun t k => XS.iconst X0.here hx rfl (hb hby at_26) k) ?_
    show Rest p.tables e below s _ _ _ (s₁.setTop (mkF m 27 #[.val (.long q0), .second, .val (.long q1), .second, .val (.int p2), .val (.long q0), .second, .val (.long q1), .second, .val (.int (p2 &&& (3 : Int32))), .unset, .unset, .unset, .unset, .unset, .unset] [(.int (2 : Int32)), (.int (p2 &&& (3 : Int32)))]))
    by_cases hc27 : (p2 &&& (3 : Int32)) = (2 : Int32)
    · refine Rest.via (fun t k => XS.icmpNo X0.here hx rfl (hb hby at_27) rfl (teq hc27).2 k) ?_
      show Rest p.tables e below s _ _ _ (s₁.setTop (mkF m 30 #[.val (.long q0), .second, .val (.long q1), .second, .val (.int p2), .val (.long q0), .second, .val (.long q1), .second, .val (.int (p2 &&& (3 : Int32))), .unset, .unset, .unset, .unset, .unset, .unset] []))
      refine Rest.via (fun t k => XS.lloadN X0.here hx rfl (hb hby at_30) rfl k) ?_
      show Rest p.tables e below s _ _ _ (s₁.setTop (mkF m 31 #[.val (.long q0), .second, .val (.long q1), .second, .val (.int p2), .val (.long q0), .second, .val (.long q1), .second, .val (.int (p2 &&& (3 : Int32))), .unset, .unset, .unset, .unset, .unset, .unset] [(.long q0)]))
      refine Rest.via (fun t k => XS.lconst X0.here hx rfl (hb hby at_31) k) ?_
      show Rest p.tables e below s _ _ _ (s₁.setTop (mkF m 32 #[.val (.long q0), .second, .val (.long q1), .second, .val (.int p2), .val (.long q0), .second, .val (.long q1), .second, .val (.int (p2 &&& (3 : Int32))), .unset, .unset, .unset, .unset, .unset, .unset] [(.long (1 : Int64)), (.long q0)]))
      refine Rest.via (fun t k => XS.ladd X0.here hx rfl (hb hby at_32) rfl k) ?_
      show Rest p.tables e below s _ _ _ (s₁.setTop (mkF m 33 #[.val (.long q0), .second, .val (.long q1), .second, .val (.int p2), .val (.long q0), .second, .val (.long q1), .second, .val (.int (p2 &&& (3 : Int32))), .unset, .unset, .unset, .unset, .unset, .unset] [(.long (q0 + (1 : Int64)))]))
      refine Rest.via (fun t k => XS.lstore X0.here hx rfl (hb hby at_33) rfl (l' := #[.val (.long q0), .second, .val (.long q1), .second, .val (.int p2), .val (.long q0), .second, .val (.long (q0 + (1 : Int64))), .second, .val (.int (p2 &&& (3 : Int32))), .unset, .unset, .unset, .unset, .unset, .unset]) rfl k) ?_
      show Rest p.tables e below s _ _ _ (s₁.setTop (mkF m 35 #[.val (.long q0), .second, .val (.long q1), .second, .val (.int p2), .val (.long q0), .second, .val (.long (q0 + (1 : Int64))), .second, .val (.int (p2 &&& (3 : Int32))), .unset, .unset, .unset, .unset, .unset, .unset] []))
      refine Rest.via (fun t k => XS.goto X0.here hx rfl (pc0 := 35) (pc' := 49) rfl (hb hby at_35) (by decide) (by decide) k) ?_
      show Rest p.tables e below s _ _ _ (s₁.setTop (mkF m 49 #[.val (.long q0), .second, .val (.long q1), .second, .val (.int p2), .val (.long q0), .second, .val (.long (q0 + (1 : Int64))), .second, .val (.int (p2 &&& (3 : Int32))), .unset, .unset, .unset, .unset, .unset, .unset] []))
      exact J49 _
    · refine Rest.via (fun t k => XS.icmpYes X0.here hx rfl (pc0 := 27) (pc' := 38) rfl (hb hby at_27) rfl (feq hc27).2 (by decide) (by decide) k) ?_
      show Rest p.tables e below s _ _ _ (s₁.setTop (mkF m 38 #[.val (.long q0), .second, .val (.long q1), .second, .val (.int p2), .val (.long q0), .second, .val (.long q1), .second, .val (.int (p2 &&& (3 : Int32))), .unset, .unset, .unset, .unset, .unset, .unset] []))
      refine Rest.via (fun t k => XS.iload X0.here hx rfl (hb hby at_38) rfl k) ?_
      show Rest p.tables e below s _ _ _ (s₁.setTop (mkF m 40 #[.val (.long q0), .second, .val (.long q1), .second, .val (.int p2), .val (.long q0), .second, .val (.long q1), .second, .val (.int (p2 &&& (3 : Int32))), .unset, .unset, .unset, .unset, .unset, .unset] [(.int (p2 &&& (3 : Int32)))]))
      refine Rest.via (fun t k => XS.iconst X0.here hx rfl (hb hby at_40) k) ?_
      show Rest p.tables e below s _ _ _ (s₁.setTop (mkF m 41 #[.val (.long q0), .second, .val (.long q1), .second, .val (.int p2), .val (.long q0), .second, .val (.long q1), .second, .val (.int (p2 &&& (3 : Int32))), .unset, .unset, .unset, .unset, .unset, .unset] [(.int (3 : Int32)), (.int (p2 &&& (3 : Int32)))]))
      by_cases hc41 : (p2 &&& (3 : Int32)) = (3 : Int32)
      · refine Rest.via (fun t k => XS.icmpNo X0.here hx rfl (hb hby at_41) rfl (teq hc41).2 k) ?_
        show Rest p.tables e below s _ _ _ (s₁.setTop (mkF m 44 #[.val (.long q0), .second, .val (.long q1), .second, .val (.int p2), .val (.long q0), .second, .val (.long q1), .second, .val (.int (p2 &&& (3 : Int32))), .unset, .unset, .unset, .unset, .unset, .unset] []))
        refine Rest.via (fun t k => XS.lloadN X0.here hx rfl (hb hby at_44) rfl k) ?_
        show Rest p.tables e below s _ _ _ (s₁.setTop (mkF m 45 #[.val (.long q0), .second, .val (.long q1), .second, .val (.int p2), .val (.long q0), .second, .val (.long q1), .second, .val (.int (p2 &&& (3 : Int32))), .unset, .unset, .unset, .unset, .unset, .unset] [(.long q0)]))
        refine Rest.via (fun t k => XS.lconst X0.here hx rfl (hb hby at_45) k) ?_
        show Rest p.tables e below s _ _ _ (s₁.setTop (mkF m 46 #[.val (.long q0), .second, .val (.long q1), .second, .val (.int p2), .val (.long q0), .second, .val (.long q1), .second, .val (.int (p2 &&& (3 : Int32))), .unset, .unset, .unset, .unset, .unset, .unset] [(.long (1 : Int64)), (.long q0)]))
        refine Rest.via (fun t k => XS.lsub X0.here hx rfl (hb hby at_46) rfl k) ?_
        show Rest p.tables e below s _ _ _ (s₁.setTop (mkF m 47 #[.val (.long q0), .second, .val (.long q1), .second, .val (.int p2), .val (.long q0), .second, .val (.long q1), .second, .val (.int (p2 &&& (3 : Int32))), .unset, .unset, .unset, .unset, .unset, .unset] [(.long (q0 - (1 : Int64)))]))
        refine Rest.via (fun t k => XS.lstore X0.here hx rfl (hb hby at_47) rfl (l' := #[.val (.long q0), .second, .val (.long q1), .second, .val (.int p2), .val (.long q0), .second, .val (.long (q0 - (1 : Int64))), .second, .val (.int (p2 &&& (3 : Int32))), .unset, .unset, .unset, .unset, .unset, .unset]) rfl k) ?_
        show Rest p.tables e below s _ _ _ (s₁.setTop (mkF m 49 #[.val (.long q0), .second, .val (.long q1), .second, .val (.int p2), .val (.long q0), .second, .val (.long (q0 - (1 : Int64))), .second, .val (.int (p2 &&& (3 : Int32))), .unset, .unset, .unset, .unset, .unset, .unset] []))
        exact J49 _
      · refine Rest.via (fun t k => XS.icmpYes X0.here hx rfl (pc0 := 41) (pc' := 49) rfl (hb hby at_41) rfl (feq hc41).2 (by decide) (by decide) k) ?_
        show Rest p.tables e below s _ _ _ (s₁.setTop (mkF m 49 #[.val (.long q0), .second, .val (.long q1), .second, .val (.int p2), .val (.long q0), .second, .val (.long q1), .second, .val (.int (p2 &&& (3 : Int32))), .unset, .unset, .unset, .unset, .unset, .unset] []))
        exact J49 _
set_option maxRecDepth 65536 in
set_option maxHeartbeats 40000000 in
theorem comes_1 {Post : Tables → Env → Array Value → State → Outcome → State → Prop} (hpost : ∀ tb e args s v u, (limb_1_1.after args s (.returned v) u = true ∧ limb_1_2.after args s (.returned v) u = true ∧ True) → FrameEnd s (.returned v) u (Jvm.fieldLocs frame_1_writes args s ++ Jvm.arrayLocs frame_1_arrays args s ++ Jvm.staticLocs frame_1_statics s) 0 0 → Post tb e args s (.returned v) u) :
    ArmFor flags0 classFile x code maxLocals ret World_1 tables_1 room_1 Calls_1 rest_1 Pre_1 Post := by
  intro l hfl _ _ p e ha hc hk s m args below hf hA hF happ hP
  obtain ⟨hcalls, hrest, hpre⟩ := hP
  obtain ⟨-, -, -, hnamed, -, -, -, hat⟩ := (Spec.applies_iff hf).mp happ
  obtain ⟨hg, hn⟩ := and_e (Cond.before_iff.mp (show (Jvm.Cond.and given_1 narrow_1).before args s = true from hpre))
  obtain ⟨hcnt, hg0⟩ := and_e hg
  obtain ⟨ha0, hg1⟩ := and_e hg0
  obtain ⟨ha1, hg2⟩ := and_e hg1
  have ha2 := hg2
  obtain ⟨w0, w1, w2, rfl⟩ : ∃ w0 w1 w2 : Value, args = #[w0, w1, w2] := by
    have hs : args.size = 3 := by simpa [Cond.value, given_1] using hcnt
    obtain ⟨L⟩ := args
    match L, hs with
    | [w0, w1, w2], _ => exact ⟨w0, w1, w2, rfl⟩
  have hw := fun d (hd : d ∈ tables_1) => atoms_spec (ws := Jvm.Cond.code x code maxLocals ret :: tables_1) hat d (List.mem_cons_of_mem _ hd)
  have hfit : Fit s := fun {y c} hc i hi => by
    obtain ⟨ha, rfl⟩ := Array.getElem?_eq_some_iff.mp hc
    have q := List.all_eq_true.mp ((Array.all_eq_true_iff_forall_mem.mp hF) _ (Array.getElem_mem ha)) i (List.mem_range.mpr hi)
    simpa [Array.getElem?_eq_getElem hi] using q
  obtain ⟨i0, ei0⟩ := isL_v ha0
  obtain rfl : w0 = (.long i0) := Option.some.inj ei0
  obtain ⟨i1, ei1⟩ := isL_v ha1
  obtain rfl : w1 = (.long i1) := Option.some.inj ei1
  obtain ⟨i2, ei2⟩ := is_v ha2
  obtain rfl : w2 = (.int i2) := Option.some.inj ei2
  obtain ⟨hn0, hr0⟩ := and_e hn
  obtain ⟨hn1, hr1⟩ := and_e hr0
  obtain ⟨hn2, hr2⟩ := and_e hr1
  obtain ⟨hn3, hr3⟩ := and_e hr2
  obtain ⟨hn4, hr4⟩ := and_e hr3
  obtain ⟨hn5, hr5⟩ := and_e hr4
  obtain ⟨hn6, hr6⟩ := and_e hr5
  obtain ⟨hn7, hr7⟩ := and_e hr6
  obtain ⟨hn8, hr8⟩ := and_e hr7
  have hn9 := hr8
  obtain ⟨d0, ed0⟩ := exa_v hn0
  have E0 := Exa.start ed0 hn0
  have S0 : Sta s s.heap "com/example/velwin/velwin/rules/Comparison" "GT" "Lcom/example/velwin/velwin/rules/Comparison;" (.ref d0) := Sta.start ed0 (Or.inr ⟨(hw _ (List.mem_of_getElem? (i := 5) rfl)), (hw _ (List.mem_of_getElem? (i := 6) rfl))⟩)
  have F0 := own_eqfld ed0 hn1
  obtain ⟨d1, ed1⟩ := exa_v hn2
  have E1 := Exa.start ed1 hn2
  have S1 : Sta s s.heap "com/example/velwin/velwin/rules/Comparison" "GTE" "Lcom/example/velwin/velwin/rules/Comparison;" (.ref d1) := Sta.start ed1 (Or.inr ⟨(hw _ (List.mem_of_getElem? (i := 5) rfl)), (hw _ (List.mem_of_getElem? (i := 22) rfl))⟩)
  have F1 := own_eqfld ed1 hn3
  obtain ⟨d2, ed2⟩ := exa_v hn4
  have E2 := Exa.start ed2 hn4
  have S2 : Sta s s.heap "com/example/velwin/velwin/rules/Comparison" "EQ" "Lcom/example/velwin/velwin/rules/Comparison;" (.ref d2) := Sta.start ed2 (Or.inr ⟨(hw _ (List.mem_of_getElem? (i := 5) rfl)), (hw _ (List.mem_of_getElem? (i := 24) rfl))⟩)
  have F2 := own_eqfld ed2 hn5
  obtain ⟨d3, ed3⟩ := exa_v hn6
  have E3 := Exa.start ed3 hn6
  have S3 : Sta s s.heap "com/example/velwin/velwin/rules/Comparison" "LT" "Lcom/example/velwin/velwin/rules/Comparison;" (.ref d3) := Sta.start ed3 (Or.inr ⟨(hw _ (List.mem_of_getElem? (i := 5) rfl)), (hw _ (List.mem_of_getElem? (i := 26) rfl))⟩)
  have F3 := own_eqfld ed3 hn7
  obtain ⟨d4, ed4⟩ := exa_v hn8
  have E4 := Exa.start ed4 hn8
  have S4 : Sta s s.heap "com/example/velwin/velwin/rules/Comparison" "LTE" "Lcom/example/velwin/velwin/rules/Comparison;" (.ref d4) := Sta.start ed4 (Or.inr ⟨(hw _ (List.mem_of_getElem? (i := 5) rfl)), (hw _ (List.mem_of_getElem? (i := 28) rfl))⟩)
  have F4 := own_eqfld ed4 hn9
  have ne0_1 : d0 ≠ d1 := Fld.ne F0 F1 (by decide)
  have ne0_2 : d0 ≠ d2 := Fld.ne F0 F2 (by decide)
  have ne1_2 : d1 ≠ d2 := Fld.ne F1 F2 (by decide)
  have ne0_3 : d0 ≠ d3 := Fld.ne F0 F3 (by decide)
  have ne1_3 : d1 ≠ d3 := Fld.ne F1 F3 (by decide)
  have ne2_3 : d2 ≠ d3 := Fld.ne F2 F3 (by decide)
  have ne0_4 : d0 ≠ d4 := Fld.ne F0 F4 (by decide)
  have ne1_4 : d1 ≠ d4 := Fld.ne F1 F4 (by decide)
  have ne2_4 : d2 ≠ d4 := Fld.ne F2 F4 (by decide)
  have ne3_4 : d3 ≠ d4 := Fld.ne F3 F4 (by decide)
  have B : own_B s s.heap d0 d1 d2 d3 d4 := ⟨S0, E0, F0, S1, E1, F1, S2, E2, F2, S3, E3, F3, S4, E4, F4, ne0_1, ne0_2, ne1_2, ne0_3, ne1_3, ne2_3, ne0_4, ne1_4, ne2_4, ne3_4⟩
  obtain ⟨n, o, h1, h2, h3, _, L, rfl, ⟨rfl, N⟩, hq⟩ := rm0 l s _ hw tables_1 i0 i1 i2 d0 d1 d2 d3 d4 s.heap s.heap.size (Nat.le_refl _) B p e ha hc hk s m _ below hf ((Spec.applies_iff_loose hf).mp happ).1 ⟨rfl, State.Warmed39.refl s, rfl⟩ trivial
  refine ⟨n, _, h1, h2, h3, hpost _ _ _ _ _ _ ⟨Cond.after_iff.mpr rfl, Cond.after_iff.mpr (eq_i res_at (Term.int_eval (1)) rfl), trivial⟩ ⟨hq.1, hq.2.1, (hq.2.2.sift fun y hy => Or.inr (N y hy)).mono (by decide) (by decide)⟩⟩
theorem main_1_1 : Claimed_1_1 := comes_1 fun _ _ _ _ _ _ h hF => ⟨h.1, hF⟩
theorem main_1_2 : Claimed_1_2 := comes_1 fun _ _ _ _ _ _ h hF => ⟨h.2.1, hF⟩
end Jvm.Pilot.@@N@@
namespace Jvm.Pilot.@@N@@
open Jvm Jvm.ClassFile Sem Op Lib Jvm.Free Jvm.Stand Jvm.Pilot.@@N@@.Jvm.D
/-! MADE BY PROGRAM (witnessworld.py) out of the Statement's table words and the real class files: 12 classes; the members and pool entries that the words name. The judged class is class 1, her method 2. -/
namespace start1
open Jvm.ClassFile
def u (s : String) : CpInfo := .utf8 (stringToUtf16 s)
/-- a pool by its gaps: so many unusable entries, then the entry; so many at the end -/
def gap : Nat → List CpInfo → List CpInfo
  | 0, r => r
  | n + 1, r => .unusable :: gap n r
def poolList (es : List (Nat × CpInfo)) (last : Nat) : List CpInfo := es.foldr (fun e r => gap e.1 (e.2 :: r)) (gap last [])
def pool (es : List (Nat × CpInfo)) (last : Nat) : Array CpInfo := ⟨poolList es last⟩
def fileOf (pool : Array CpInfo) (this : Nat) (attrs : Array Attribute := #[]) (ms : Array MethodInfo := #[]) (fl : Nat := 33) (sup : Nat := 0) (ifs : Array Nat := #[]) (fds : Array FieldInfo := #[]) : ClassFile where
  minorVersion := 0
  majorVersion := 65
  constantPool := pool
  accessFlags := fl
  thisClass := this
  superClass := sup
  interfaces := ifs
  fields := fds
  methods := ms
  attributes := attrs
def plain (name : String) (sup : Option ClassId) : Class where
  name := name
  kind := .ordinary
  loader := none
  accessFlags := 33
  super := sup
  interfaces := #[]
  cf := none
  fields := #[]
  methods := #[]
  instanceTypes := #[]
  staticTypes := #[]
  resolved := #[]
  callSites := []
  init := .initialized
  statics := none
  mirror := none

def pool0 : Array CpInfo := pool [(5, u "<init>"), (0, u "()V"), (1, .class_ 10), (1, u "java/lang/Object")] 113

def k0m0 : Method := { name := "<init>", desc := "()V", sig := { parameters := [], returnType := none }, accessFlags := 1, code := none }
/-- java/lang/Object -/
def k0 : Class := { plain "java/lang/Object" none with
  accessFlags := 33
  interfaces := #[]
  cf := some (fileOf pool0 8 #[] #[{ accessFlags := 1, nameIndex := 5, descriptorIndex := 6, attributes := #[] }] 33 0 #[] #[])
  fields := #[]
  methods := #[k0m0]
  instanceTypes := #[]
  staticTypes := #[]
  resolved := Array.replicate 124 none
  statics := none }

def pool1 : Array CpInfo := pool [(2, .class_ 4), (1, u "java/lang/Object"), (0, u "<init>"), (0, u "()V"), (0, .methodref 8 9), (0, .class_ 10), (0, .nameAndType 11 12), (0, u "com/example/velwin/velwin/rules/ComparisonHoldsPinLaw"), (0, u "sign"), (0, u "(JJ)I"), (0, .fieldref 14 15), (0, .class_ 16), (0, .nameAndType 17 18), (0, u "com/example/velwin/velwin/rules/Comparison"), (0, u "GT"), (0, u "Lcom/example/velwin/velwin/rules/Comparison;"), (0, .methodref 14 20), (0, .nameAndType 21 22), (0, u "holds"), (0, u "(JJ)Z"), (0, .fieldref 14 24), (0, .nameAndType 25 18), (0, u "GTE"), (0, .fieldref 14 27), (0, .nameAndType 28 18), (0, u "EQ"), (0, .fieldref 14 30), (0, .nameAndType 31 18), (0, u "LT"), (0, .fieldref 14 33), (0, .nameAndType 34 18), (0, u "LTE"), (3, u "law"), (0, u "(JJI)Z")] 2

def k1m0 : Method := { name := "<init>", desc := "()V", sig := { parameters := [], returnType := none }, accessFlags := 1, code := none }
def k1c1 : Code := { maxStack := 4, maxLocals := 4, code := method_2_code, exceptionTable := #[], attributes := #[] }
def k1m1 : Method := { name := "sign", desc := "(JJ)I", sig := { parameters := [.long, .long], returnType := some .int }, accessFlags := 10, code := some k1c1 }
def k1c2 : Code := { maxStack := 5, maxLocals := 16, code := code, exceptionTable := #[], attributes := #[] }
def k1m2 : Method := { name := "law", desc := "(JJI)Z", sig := { parameters := [.long, .long, .int], returnType := some .boolean }, accessFlags := 9, code := some k1c2 }
/-- com/example/velwin/velwin/rules/ComparisonHoldsPinLaw -/
def k1 : Class := { plain "com/example/velwin/velwin/rules/ComparisonHoldsPinLaw" (some 0) with
  accessFlags := 49
  interfaces := #[]
  cf := some (fileOf pool1 8 #[] #[{ accessFlags := 1, nameIndex := 5, descriptorIndex := 6, attributes := #[] }, { accessFlags := 10, nameIndex := 11, descriptorIndex := 12, attributes := #[] }, { accessFlags := 9, nameIndex := 38, descriptorIndex := 39, attributes := #[] }] 49 2 #[] #[])
  fields := #[]
  methods := #[k1m0, k1m1, k1m2]
  instanceTypes := #[]
  staticTypes := #[]
  resolved := Array.replicate 42 none
  statics := none }

def pool2 : Array CpInfo := pool [(1, .class_ 2), (0, u "java/lang/constant/Constable"), (0, .class_ 4), (0, u "java/lang/Object")] 6

/-- java/lang/constant/Constable -/
def k2 : Class := { plain "java/lang/constant/Constable" (some 0) with
  accessFlags := 1537
  interfaces := #[]
  cf := some (fileOf pool2 1 #[] #[] 1537 3 #[] #[])
  fields := #[]
  methods := #[]
  instanceTypes := #[]
  staticTypes := #[]
  resolved := Array.replicate 11 none
  statics := none }

def pool3 : Array CpInfo := pool [(1, .class_ 2), (0, u "java/lang/Comparable"), (0, .class_ 4), (0, u "java/lang/Object")] 7

/-- java/lang/Comparable -/
def k3 : Class := { plain "java/lang/Comparable" (some 0) with
  accessFlags := 1537
  interfaces := #[]
  cf := some (fileOf pool3 1 #[] #[] 1537 3 #[] #[])
  fields := #[]
  methods := #[]
  instanceTypes := #[]
  staticTypes := #[]
  resolved := Array.replicate 12 none
  statics := none }

def pool4 : Array CpInfo := pool [(1, .class_ 2), (0, u "java/io/Serializable"), (0, .class_ 4), (0, u "java/lang/Object")] 2

/-- java/io/Serializable -/
def k4 : Class := { plain "java/io/Serializable" (some 0) with
  accessFlags := 1537
  interfaces := #[]
  cf := some (fileOf pool4 1 #[] #[] 1537 3 #[] #[])
  fields := #[]
  methods := #[]
  instanceTypes := #[]
  staticTypes := #[]
  resolved := Array.replicate 7 none
  statics := none }

def pool5 : Array CpInfo := pool [(2, .class_ 4), (1, u "java/lang/Enum"), (0, u "name"), (0, u "Ljava/lang/String;"), (0, .fieldref 2 8), (0, .nameAndType 9 10), (0, u "ordinal"), (0, u "I"), (1, .class_ 14), (1, u "java/lang/Object"), (4, u "hash"), (86, .class_ 108), (1, u "java/lang/Enum$EnumDesc"), (2, .class_ 112), (0, u "java/lang/constant/Constable"), (0, .class_ 114), (0, u "java/lang/Comparable"), (0, .class_ 116), (0, u "java/io/Serializable"), (9, u "()I")] 77

def k5c0 : Code := { maxStack := 1, maxLocals := 1, code := jdk_37_method_2_code, exceptionTable := #[], attributes := #[] }
def k5m0 : Method := { name := "ordinal", desc := "()I", sig := { parameters := [], returnType := some .int }, accessFlags := 17, code := some k5c0 }
/-- java/lang/Enum -/
def k5 : Class := { plain "java/lang/Enum" (some 0) with
  accessFlags := 1057
  interfaces := #[2, 3, 4]
  cf := some (fileOf pool5 2 #[.nestMembers #[106]] #[{ accessFlags := 17, nameIndex := 9, descriptorIndex := 126, attributes := #[] }] 1057 12 #[111, 113, 115] #[{ accessFlags := 18, nameIndex := 5, descriptorIndex := 6, attributes := #[] }, { accessFlags := 18, nameIndex := 9, descriptorIndex := 10, attributes := #[] }, { accessFlags := 2, nameIndex := 19, descriptorIndex := 10, attributes := #[] }])
  fields := #[{ name := "name", type := (.object "java/lang/String"), accessFlags := 18, slot := 0, constantValue := 0 }, { name := "ordinal", type := .int, accessFlags := 18, slot := 1, constantValue := 0 }, { name := "hash", type := .int, accessFlags := 2, slot := 2, constantValue := 0 }]
  methods := #[k5m0]
  instanceTypes := #[(.object "java/lang/String"), .int, .int]
  staticTypes := #[]
  resolved := Array.replicate 204 none
  statics := none }

def pool6 : Array CpInfo := pool [(1, .class_ 2), (0, u "com/example/velwin/velwin/rules/Comparison"), (2, u "GT"), (0, u "Lcom/example/velwin/velwin/rules/Comparison;"), (2, u "GTE"), (2, u "EQ"), (2, u "LT"), (2, u "LTE"), (2, u "$VALUES"), (0, u "[Lcom/example/velwin/velwin/rules/Comparison;"), (6, .class_ 31), (1, u "java/lang/Enum"), (6, .methodref 1 39), (0, .nameAndType 40 41), (0, u "ordinal"), (0, u "()I"), (22, u "holds"), (0, u "(JJ)Z")] 5

def k6c0 : Code := { maxStack := 4, maxLocals := 5, code := prog_35_method_4_code, exceptionTable := #[], attributes := #[] }
def k6m0 : Method := { name := "holds", desc := "(JJ)Z", sig := { parameters := [.long, .long], returnType := some .boolean }, accessFlags := 1, code := some k6c0 }
/-- com/example/velwin/velwin/rules/Comparison -/
def k6 : Class := { plain "com/example/velwin/velwin/rules/Comparison" (some 5) with
  accessFlags := 16433
  interfaces := #[]
  cf := some (fileOf pool6 1 #[] #[{ accessFlags := 1, nameIndex := 64, descriptorIndex := 65, attributes := #[] }] 16433 29 #[] #[{ accessFlags := 16409, nameIndex := 5, descriptorIndex := 6, attributes := #[] }, { accessFlags := 16409, nameIndex := 9, descriptorIndex := 6, attributes := #[] }, { accessFlags := 16409, nameIndex := 12, descriptorIndex := 6, attributes := #[] }, { accessFlags := 16409, nameIndex := 15, descriptorIndex := 6, attributes := #[] }, { accessFlags := 16409, nameIndex := 18, descriptorIndex := 6, attributes := #[] }, { accessFlags := 4122, nameIndex := 21, descriptorIndex := 22, attributes := #[] }])
  fields := #[{ name := "GT", type := (.object "com/example/velwin/velwin/rules/Comparison"), accessFlags := 16409, slot := 0, constantValue := 0 }, { name := "GTE", type := (.object "com/example/velwin/velwin/rules/Comparison"), accessFlags := 16409, slot := 1, constantValue := 0 }, { name := "EQ", type := (.object "com/example/velwin/velwin/rules/Comparison"), accessFlags := 16409, slot := 2, constantValue := 0 }, { name := "LT", type := (.object "com/example/velwin/velwin/rules/Comparison"), accessFlags := 16409, slot := 3, constantValue := 0 }, { name := "LTE", type := (.object "com/example/velwin/velwin/rules/Comparison"), accessFlags := 16409, slot := 4, constantValue := 0 }, { name := "$VALUES", type := (.array (.object "com/example/velwin/velwin/rules/Comparison")), accessFlags := 4122, slot := 5, constantValue := 0 }]
  methods := #[k6m0]
  instanceTypes := #[(.object "java/lang/String"), .int, .int]
  staticTypes := #[(.object "com/example/velwin/velwin/rules/Comparison"), (.object "com/example/velwin/velwin/rules/Comparison"), (.object "com/example/velwin/velwin/rules/Comparison"), (.object "com/example/velwin/velwin/rules/Comparison"), (.object "com/example/velwin/velwin/rules/Comparison"), (.array (.object "com/example/velwin/velwin/rules/Comparison"))]
  resolved := Array.replicate 71 none
  statics := some 0 }

def pool7 : Array CpInfo := pool [(1, u "java/lang/Cloneable"), (0, .class_ 1), (0, u "java/lang/Object"), (0, .class_ 3)] 3

/-- java/lang/Cloneable -/
def k7 : Class := { plain "java/lang/Cloneable" (some 0) with
  accessFlags := 1537
  interfaces := #[]
  cf := some (fileOf pool7 2 #[] #[] 1537 4 #[] #[])
  fields := #[]
  methods := #[]
  instanceTypes := #[]
  staticTypes := #[]
  resolved := Array.replicate 8 none
  statics := none }

/-- the primitive byte -/
def k8 : Class := { plain "byte" none with kind := .primitive 'B', accessFlags := 0x411 }
/-- [B -/
def k9 : Class := { plain "[B" (some 0) with kind := .array 8 .byte, interfaces := #[7, 4], accessFlags := 1041 }

/-- the primitive int -/
def k10 : Class := { plain "int" none with kind := .primitive 'I', accessFlags := 0x411 }
/-- [I -/
def k11 : Class := { plain "[I" (some 0) with kind := .array 10 .int, interfaces := #[7, 4], accessFlags := 1041 }

def heap : Heap := #[{ cls := 6, slots := #[.ref 1, .ref 2, .ref 3, .ref 4, .ref 5, .null], vm := .statics 6 },
  { cls := 6, slots := #[.null, .int 0, .int 0], vm := .none },
  { cls := 6, slots := #[.null, .int 1, .int 0], vm := .none },
  { cls := 6, slots := #[.null, .int 2, .int 0], vm := .none },
  { cls := 6, slots := #[.null, .int 3, .int 0], vm := .none },
  { cls := 6, slots := #[.null, .int 4, .int 0], vm := .none }]
def classes : Array Class := #[k0, k1, k2, k3, k4, k5, k6, k7, k8, k9, k10, k11]
def interned : List (Array UInt16 × Addr) := []
def slotsUsed : Nat := 21
def theMethod : MethodId := ⟨1, 2⟩
def args0 : Array Value := #[.long 5, .long 6, .int 1]
def aboutOver (below : List Frame) : State where
  vm := { classes := classes, interned := interned.toArray }
  heap := heap
  slotsUsed := slotsUsed
  threads := #[{ frames := .invoking theMethod args0 :: below }]
def below0 : List Frame := [.native { method := ⟨0, 0⟩, args := #[] }]
def about1 : State := aboutOver below0
def p0 : Program := .bare "" "" ""
def e0 : Env := launch0.env 0 0 0
theorem w_frames : about1.frames = Frame.invoking theMethod args0 :: below0 := rfl
set_option maxRecDepth 65536 in
theorem w_args : argsFit about1.vm theMethod args0 = true := by decide +kernel
set_option maxRecDepth 65536 in
theorem w_heap : heapFits about1 = true := by decide +kernel
set_option maxRecDepth 65536 in
theorem w_runnable : about1.curStatus? = some .runnable := by decide +kernel
set_option maxRecDepth 65536 in
theorem w_alone : about1.alone = true := by decide +kernel
set_option maxRecDepth 65536 in
theorem w_named : about1.methodNamed? x = some theMethod := by decide +kernel
set_option maxRecDepth 65536 in
theorem w_hears : about1.hears theMethod below0 = true := by decide +kernel
set_option maxRecDepth 65536 in
theorem w_ripe : about1.ripe theMethod args0 below0 = true := by decide +kernel
theorem w_running : about1.status = .running := rfl
set_option maxRecDepth 65536 in
theorem w_room : about1.hasRoom e0.platform room_1 = true :=
  launch0.hasRoom_least _ room_1 (by decide +kernel) (by decide +kernel) (by decide +kernel) (by decide +kernel) (by decide +kernel) (by decide +kernel)
theorem allAtoms_all (ts : List Jvm.Cond) (a : Array Jvm.Value) (st : Jvm.State) : (allAtoms ts).before a st = ts.all (fun c => c.before a st) := by
  induction ts with
  | nil => rfl
  | cons c t ih =>
    show (Jvm.Cond.and c (allAtoms t)).before a st = _
    rw [Jvm.Cond.before_and, ih, List.all_cons]
def words1 : List Jvm.Cond := Jvm.Cond.code x code maxLocals ret :: tables_1
/-- a 'code' word, met by the world's own term for the bytes: nothing is compared byte by byte -/
theorem code_word {y : MethodName} {bytes : ByteArray} {mx : Nat} {rt : Option FieldType} {a : Array Value} {s : State} {m : MethodId} {meth : Method} {c : Code} (h1 : s.methodNamed? y = some m) (h2 : s.vm.method? m = some meth) (h3 : meth.code = some c) (h4 : c.code = bytes)
    (h5 : (c.maxLocals == mx && c.exceptionTable.isEmpty && decide (c.maxStack ≤ mostOperands) && decide (meth.sig.returnType = rt) && !meth.locks && decide (parseMethodDescriptor y.desc = some meth.sig)) = true) : (Jvm.Cond.code y bytes mx rt).before a s = true := by
  simp only [Bool.and_eq_true, beq_iff_eq, Bool.not_eq_true', decide_eq_true_eq] at h5
  obtain ⟨⟨⟨⟨⟨g1, g2⟩, g3⟩, g4⟩, g5⟩, g6⟩ := h5
  simp [Cond.before, Cond.holds, Cond.value, h1, h2, h3, h4, g1, g2, g3, g4, g5, g6]
def isCode : Jvm.Cond → Bool
  | .code _ _ _ _ => true
  | _ => false
theorem all_split {L : List Jvm.Cond} {P : Jvm.Cond → Bool} (h1 : L.all (fun c => isCode c || P c) = true) (h2 : ∀ c ∈ L.filter isCode, P c = true) : L.all P = true := by
  refine List.all_eq_true.mpr fun c hc => ?_
  have h := List.all_eq_true.mp h1 c hc
  rcases Bool.eq_false_or_eq_true (isCode c) with hi | hi
  · exact h2 c (List.mem_filter.mpr ⟨hc, hi⟩)
  · simpa [hi] using h
set_option maxRecDepth 65536 in
theorem w_c0 : (Jvm.Cond.code x code maxLocals ret).before args0 about1 = true := code_word (m := ⟨1, 2⟩) (meth := k1m2) (c := k1c2) (by decide +kernel) rfl rfl rfl (by decide +kernel)
set_option maxRecDepth 65536 in
theorem w_c1 : (Jvm.Cond.code ({ cls := "com/example/velwin/velwin/rules/ComparisonHoldsPinLaw", name := "sign", desc := "(JJ)I" } : Jvm.MethodName) method_2_code (4 : Nat) (Option.some Jvm.ClassFile.FieldType.int)).before args0 about1 = true := code_word (m := ⟨1, 1⟩) (meth := k1m1) (c := k1c1) (by decide +kernel) rfl rfl rfl (by decide +kernel)
set_option maxRecDepth 65536 in
theorem w_c2 : (Jvm.Cond.code ({ cls := "com/example/velwin/velwin/rules/Comparison", name := "holds", desc := "(JJ)Z" } : Jvm.MethodName) prog_35_method_4_code (5 : Nat) (Option.some Jvm.ClassFile.FieldType.boolean)).before args0 about1 = true := code_word (m := ⟨6, 0⟩) (meth := k6m0) (c := k6c0) (by decide +kernel) rfl rfl rfl (by decide +kernel)
set_option maxRecDepth 65536 in
theorem w_c3 : (Jvm.Cond.code ({ cls := "java/lang/Enum", name := "ordinal", desc := "()I" } : Jvm.MethodName) jdk_37_method_2_code (1 : Nat) (Option.some Jvm.ClassFile.FieldType.int)).before args0 about1 = true := code_word (m := ⟨5, 0⟩) (meth := k5m0) (c := k5c0) (by decide +kernel) rfl rfl rfl (by decide +kernel)
def codes1 : List Jvm.Cond := [Jvm.Cond.code x code maxLocals ret, Jvm.Cond.code ({ cls := "com/example/velwin/velwin/rules/ComparisonHoldsPinLaw", name := "sign", desc := "(JJ)I" } : Jvm.MethodName) method_2_code (4 : Nat) (Option.some Jvm.ClassFile.FieldType.int), Jvm.Cond.code ({ cls := "com/example/velwin/velwin/rules/Comparison", name := "holds", desc := "(JJ)Z" } : Jvm.MethodName) prog_35_method_4_code (5 : Nat) (Option.some Jvm.ClassFile.FieldType.boolean), Jvm.Cond.code ({ cls := "java/lang/Enum", name := "ordinal", desc := "()I" } : Jvm.MethodName) jdk_37_method_2_code (1 : Nat) (Option.some Jvm.ClassFile.FieldType.int)]
set_option maxRecDepth 65536 in
theorem codes_eq : words1.filter isCode = codes1 := rfl
theorem w_codes : ∀ c ∈ words1.filter isCode, c.before args0 about1 = true := by
  rw [codes_eq]
  intro c hc
  simp only [codes1, List.mem_cons, List.not_mem_nil, or_false] at hc
  rcases hc with rfl | rfl | rfl | rfl
  · exact w_c0
  · exact w_c1
  · exact w_c2
  · exact w_c3
set_option maxRecDepth 65536 in
theorem w_t1 : (words1.take 24).all (fun c => isCode c || c.before args0 about1) = true := by decide +kernel
set_option maxRecDepth 65536 in
theorem w_t2 : (words1.drop 24).all (fun c => isCode c || c.before args0 about1) = true := by decide +kernel
theorem w_tables : (allAtoms (Jvm.Cond.code x code maxLocals ret :: tables_1)).before args0 about1 = true := by
  rw [allAtoms_all]
  show words1.all (fun c => c.before args0 about1) = true
  refine all_split ?_ w_codes
  rw [← List.take_append_drop 24 words1, List.all_append, w_t1, w_t2]
  rfl
set_option maxRecDepth 65536 in
theorem w_case : (Jvm.Cond.and given_1 narrow_1).before args0 about1 = true := by decide +kernel
theorem w_applies : (headSpec (Jvm.Cond.code x code maxLocals ret :: tables_1) room_1).applies x e0.platform about1 = true :=
  (Spec.applies_iff w_frames).mpr ⟨w_running, w_runnable, w_alone, w_named, w_hears, w_ripe, w_room, w_tables⟩
theorem atStart : AtStart classFile x code maxLocals ret World_1 tables_1 room_1 Calls_1 rest_1 Pre_1 launch0 p0 e0 about1 theMethod args0 below0 :=
  ⟨lists_1, trivial, launch0.admits_env _ _ _, launch0.least_env, fairChoices_fair.cas, fairChoices_fair.clock, w_frames, w_args, w_heap, w_applies, trivial, trivial, w_case⟩
end start1
theorem witness_1 : WitnessClaimed_1 := ⟨start1.p0, start1.e0, start1.about1, start1.theMethod, start1.args0, start1.below0, start1.atStart⟩
end Jvm.Pilot.@@N@@
