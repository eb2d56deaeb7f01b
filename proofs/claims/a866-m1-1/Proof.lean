import JvmDerived
import JvmDerived.Pilot.@@N@@Statement
import JvmDerived.Pilot.@@N@@Code
set_option linter.unusedVariables false
set_option linter.unusedSimpArgs false
namespace Jvm.Pilot.@@N@@
open Jvm Jvm.ClassFile Sem Op Lib Jvm.Free Jvm.Stand Jvm.LawKit Jvm.RoadKit Bundle Jvm.Pilot.@@N@@.Jvm.D
/-- from S the method comes to its end, and what it leaves answers Q -/
def Rest (tb : Tables) (e : Env) (below : List Frame) (s : State) (Q : Option Value → Heap → List Loc → Prop) (k n : Nat) (S : State) : Prop :=
  ∃ t o, Steps tb e below S t ∧ t.status = .running ∧ Ended t below o ∧ ∃ v L, o = .returned v ∧ Q v t.heap L ∧ FrameEnd s o t L k n
theorem Rest.via {tb : Tables} {e : Env} {below : List Frame} {s : State} {Q : Option Value → Heap → List Loc → Prop} {k n : Nat} {S S' : State} (h : ∀ t, Steps tb e below S' t → Steps tb e below S t) (r : Rest tb e below s Q k n S') : Rest tb e below s Q k n S := by
  obtain ⟨t, o, h1, h2⟩ := r; exact ⟨t, o, h t h1, h2⟩
theorem Rest.ret {p : Program} {l : Launch} {e : Env} {R : Room} {s : State} {m : MethodId} {args : Array Value} {below : List Frame} {meth : Method} {c : Code} {T : State} {locs : List Loc} {cells slots : Nat} {Q : Option Value → Heap → List Loc → Prop} {k n : Nat} {S : State} {v : Option Value}
    (X : Stand p l e R s m args below meth c T locs cells slots) (hv : meth.sig.returnType = none → v = none) (hlocks : meth.locks = false)
    (st : ∀ fs, (∀ (f : JFrame) (acts : List Action), f.method = m → f.locked = none → f.entered = [] → (doReturn e (T.setTop f) acts v).1 = T.setFrames fs) → Steps p.tables e below S (T.setFrames fs))
    (hq : Q v T.heap locs) (hk : cells ≤ k) (hn : slots ≤ n) : Rest p.tables e below s Q k n S := by
  obtain ⟨fs, hr, hrun, hended, hW, hsame⟩ := X.leave (v := v) hv hlocks
  exact ⟨_, _, st fs hr, hrun, hended, _, _, rfl, hq, ⟨_, rfl⟩, hW, hsame.mono hk hn⟩
def own_bf (e s : Int64) : Int64 := if e < ((-9223372036854775808 : Int64) + s) then (-9223372036854775808 : Int64) else (e - s)
def own_ex (e s : Int64) : Int64 := if e < (0 : Int64) then (if (e - (-9223372036854775808 : Int64)) < s then (-9223372036854775808 : Int64) else (e - s)) else (e - s)
theorem own_same (e s : Int64) (hs : 0 ≤ s.toInt) : own_bf e s = own_ex e s := by
  have r1 := rng64 e
  have r2 := rng64 s
  have em : (-9223372036854775808 : Int64).toInt = -9223372036854775808 := by decide
  have ez : (0 : Int64).toInt = 0 := by decide
  have a1 := c_ladd (-9223372036854775808 : Int64) s
  have a2 := rng64 ((-9223372036854775808 : Int64) + s)
  have b1 := c_lsub e (-9223372036854775808 : Int64)
  have b2 := rng64 (e - (-9223372036854775808 : Int64))
  unfold own_bf own_ex
  by_cases p0 : e < (0 : Int64)
  · rw [if_pos p0]
    by_cases p1 : (e - (-9223372036854775808 : Int64)) < s
    · rw [if_pos p1]
      by_cases p2 : e < ((-9223372036854775808 : Int64) + s)
      · rw [if_pos p2]
      · exfalso; rw [Int64.lt_iff_toInt_lt] at p0 p1 p2; omega
    · rw [if_neg p1]
      by_cases p2 : e < ((-9223372036854775808 : Int64) + s)
      · exfalso; rw [Int64.lt_iff_toInt_lt] at p0 p1 p2; omega
      · rw [if_neg p2]
  · rw [if_neg p0]
    by_cases p2 : e < ((-9223372036854775808 : Int64) + s)
    · exfalso; rw [Int64.lt_iff_toInt_lt] at p0 p2; omega
    · rw [if_neg p2]
theorem own_span (s : Int64) : 0 ≤ (s &&& (9223372036854775807 : Int64)).toInt := by
  have e := c_maskL s 9223372036854775807 63 (by decide) (by decide)
  rw [e]
  exact Int.emod_nonneg _ (by decide)
theorem d1_0 : decode prog_20_method_20_code 0 = .ok (.lload_n 0, 1) := by decide +kernel
theorem d1_1 : decode prog_20_method_20_code 1 = .ok (.ldc2_w 11, 3) := by decide +kernel
theorem d1_4 : decode prog_20_method_20_code 4 = .ok (.lload_n 2, 1) := by decide +kernel
theorem d1_5 : decode prog_20_method_20_code 5 = .ok (.ladd, 1) := by decide +kernel
theorem d1_6 : decode prog_20_method_20_code 6 = .ok (.lcmp, 1) := by decide +kernel
theorem d1_7 : decode prog_20_method_20_code 7 = .ok (.ifCond .ge 9, 3) := by decide +kernel
theorem d1_10 : decode prog_20_method_20_code 10 = .ok (.ldc2_w 11, 3) := by decide +kernel
theorem d1_13 : decode prog_20_method_20_code 13 = .ok (.goto 6, 3) := by decide +kernel
theorem d1_16 : decode prog_20_method_20_code 16 = .ok (.lload_n 0, 1) := by decide +kernel
theorem d1_17 : decode prog_20_method_20_code 17 = .ok (.lload_n 2, 1) := by decide +kernel
theorem d1_18 : decode prog_20_method_20_code 18 = .ok (.lsub, 1) := by decide +kernel
theorem d1_19 : decode prog_20_method_20_code 19 = .ok (.lreturn, 1) := by decide +kernel
theorem pn_0 : plainName "com/example/velwin/velwin/engine/EngineGroup" = true := by first | (simp [plainName, overriddenIn]; done) | decide +kernel
theorem ef_B (m : MethodId) (q0 : Int64) (q1 : Int64) : entryFrame m #[(.long q0), (.long q1)] 4 = mkF m 0 #[.val (.long q0), .second, .val (.long q1), .second] [] := by first | (simp [entryFrame, mkF, argsToLocals, Value.category, maxLocals]; done) | rfl
def QB (Z : State) (q0 : Int64) (q1 : Int64) (h0 : Heap) (n0 : Nat) (v : Option Value) (h : Heap) (L : List Loc) : Prop := v = some (.long (own_bf q0 q1)) ∧ Fr n0 L ∧ h = h0
set_option maxRecDepth 65536 in
set_option maxHeartbeats 40000000 in
theorem rmB (l : Launch) (Z : State) (aw : Array Value) (hw : ∀ d ∈ tables_1, d.before aw Z = true) (ws : List Jvm.Cond) (q0 : Int64) (q1 : Int64) (h0 : Heap) (n0 : Nat) (Z0 : n0 ≤ h0.size)  :
    MetFree l (⟨"com/example/velwin/velwin/engine/EngineGroup", "backFrom", "(JJ)J"⟩ : MethodName) (head1 (Jvm.Cond.code (⟨"com/example/velwin/velwin/engine/EngineGroup", "backFrom", "(JJ)J"⟩ : MethodName) prog_20_method_20_code 4 (some .long) :: ws) ({ frames := 0, cells := 0, slots := 0, locals := 0 } : Room)) (fun a U => a = #[(.long q0), (.long q1)] ∧ Z.Warmed39 U.vm ∧ U.heap = h0) (fun _ _ _ _ _ => True) (fun _ U o U' => ∃ v L, o = .returned v ∧ QB Z q0 q1 h0 n0 v U'.heap L ∧ FrameEnd U o U' L ({ frames := 0, cells := 0, slots := 0, locals := 0 } : Room).cells ({ frames := 0, cells := 0, slots := 0, locals := 0 } : Room).slots) := by
  refine MetFree.of_bodySF (plainFor_of_name pn_0) hisR ?_
  intro p e s m args below meth c s₁ Bd hml0 hP hK
  obtain ⟨rfl, hZ, hh⟩ := hP
  have hx := Bd.exec
  have hby := Bd.bytes
  have hml : c.maxLocals = 4 := hml0
  have hown : s.vm.findClass "com/example/velwin/velwin/engine/EngineGroup" = some m.cls := findClass_of_methodNamed Bd.named
  have hnm := (name_of_methodNamed Bd.named Bd.method).1
  have hlk : meth.locks = false := BodyLoose.notSynchronized Bd
  have X0 : Stand p l e ({ frames := 0, cells := 0, slots := 0, locals := 0 } : Room) s m #[(.long q0), (.long q1)] below meth c s₁ [] 0 0 := Stand.of_body Bd
  have eh0 : s₁.heap = h0 := by rw [← hh, Bd.state]; rfl
  have N0 := Fr.nil n0
  show Rest p.tables e below s (QB Z q0 q1 h0 n0) _ _ (s₁.setTop (entryFrame m #[(.long q0), (.long q1)] 4))
  refine Rest.via (fun t k => castTop (ef_B m q0 q1) k) ?_
  show Rest p.tables e below s _ _ _ (s₁.setTop (mkF m 0 #[.val (.long q0), .second, .val (.long q1), .second] []))
  refine Rest.via (fun t k => XS.lloadN X0.here hx rfl (hb hby d1_0) rfl k) ?_
  show Rest p.tables e below s _ _ _ (s₁.setTop (mkF m 1 #[.val (.long q0), .second, .val (.long q1), .second] [(.long q0)]))
  refine Rest.via (fun t k => X0.ldc2Long hx hown (mvT hZ (hw _ (List.mem_of_getElem? (i := 5) rfl))) (g := (mkF m 1 #[.val (.long q0), .second, .val (.long q1), .second] [(.long q0)])) rfl (hb hby d1_1) t k) ?_
  show Rest p.tables e below s _ _ _ (s₁.setTop (mkF m 4 #[.val (.long q0), .second, .val (.long q1), .second] [(.long (-9223372036854775808 : Int64)), (.long q0)]))
  refine Rest.via (fun t k => XS.lloadN X0.here hx rfl (hb hby d1_4) rfl k) ?_
  show Rest p.tables e below s _ _ _ (s₁.setTop (mkF m 5 #[.val (.long q0), .second, .val (.long q1), .second] [(.long q1), (.long (-9223372036854775808 : Int64)), (.long q0)]))
  refine Rest.via (fun t k => XS.ladd X0.here hx rfl (hb hby d1_5) rfl k) ?_
  show Rest p.tables e below s _ _ _ (s₁.setTop (mkF m 6 #[.val (.long q0), .second, .val (.long q1), .second] [(.long ((-9223372036854775808 : Int64) + q1)), (.long q0)]))
  refine Rest.via (fun t k => XS.lcmp X0.here hx rfl (hb hby d1_6) rfl k) ?_
  show Rest p.tables e below s _ _ _ (s₁.setTop (mkF m 7 #[.val (.long q0), .second, .val (.long q1), .second] [(.int (lcmpW q0 ((-9223372036854775808 : Int64) + q1)))]))
  by_cases hc7 : q0 < ((-9223372036854775808 : Int64) + q1)
  · refine Rest.via (fun t k => XS.ifNo X0.here hx rfl (hb hby d1_7) rfl ((if0 _ _).trans (tlt ((lw_lt _ _).mpr hc7)).2.1) k) ?_
    show Rest p.tables e below s _ _ _ (s₁.setTop (mkF m 10 #[.val (.long q0), .second, .val (.long q1), .second] []))
    refine Rest.via (fun t k => X0.ldc2Long hx hown (mvT hZ (hw _ (List.mem_of_getElem? (i := 5) rfl))) (g := (mkF m 10 #[.val (.long q0), .second, .val (.long q1), .second] [])) rfl (hb hby d1_10) t k) ?_
    show Rest p.tables e below s _ _ _ (s₁.setTop (mkF m 13 #[.val (.long q0), .second, .val (.long q1), .second] [(.long (-9223372036854775808 : Int64))]))
    refine Rest.via (fun t k => XS.goto X0.here hx rfl (pc0 := 13) (pc' := 19) rfl (hb hby d1_13) (by decide) (by decide) k) ?_
    show Rest p.tables e below s _ _ _ (s₁.setTop (mkF m 19 #[.val (.long q0), .second, .val (.long q1), .second] [(.long (-9223372036854775808 : Int64))]))
    refine Rest.ret X0 (v := some (.long (-9223372036854775808 : Int64))) (fun h => by rw [Bd.returns] at h; cases h) hlk (fun fs hr => retOut X0 hx Bd.returns rfl (Or.inr (Or.inl ⟨rfl, rfl, _, rfl⟩)) (hb hby d1_19) hr) ?_ (by decide) (by decide)
    rw [eh0]
    exact ⟨by rw [own_bf, if_pos hc7], N0, rfl⟩
  · refine Rest.via (fun t k => XS.ifYes X0.here hx rfl (pc0 := 7) (pc' := 16) rfl (hb hby d1_7) rfl ((if0 _ _).trans (flt (fun q => hc7 ((lw_lt _ _).mp q))).2.1) (by decide) (by decide) k) ?_
    show Rest p.tables e below s _ _ _ (s₁.setTop (mkF m 16 #[.val (.long q0), .second, .val (.long q1), .second] []))
    refine Rest.via (fun t k => XS.lloadN X0.here hx rfl (hb hby d1_16) rfl k) ?_
    show Rest p.tables e below s _ _ _ (s₁.setTop (mkF m 17 #[.val (.long q0), .second, .val (.long q1), .second] [(.long q0)]))
    refine Rest.via (fun t k => XS.lloadN X0.here hx rfl (hb hby d1_17) rfl k) ?_
    show Rest p.tables e below s _ _ _ (s₁.setTop (mkF m 18 #[.val (.long q0), .second, .val (.long q1), .second] [(.long q1), (.long q0)]))
    refine Rest.via (fun t k => XS.lsub X0.here hx rfl (hb hby d1_18) rfl k) ?_
    show Rest p.tables e below s _ _ _ (s₁.setTop (mkF m 19 #[.val (.long q0), .second, .val (.long q1), .second] [(.long (q0 - q1))]))
    refine Rest.ret X0 (v := some (.long (q0 - q1))) (fun h => by rw [Bd.returns] at h; cases h) hlk (fun fs hr => retOut X0 hx Bd.returns rfl (Or.inr (Or.inl ⟨rfl, rfl, _, rfl⟩)) (hb hby d1_19) hr) ?_ (by decide) (by decide)
    rw [eh0]
    exact ⟨by rw [own_bf, if_neg hc7], N0, rfl⟩
theorem d2_0 : decode method_3_code 0 = .ok (.lload_n 0, 1) := by decide +kernel
theorem d2_1 : decode method_3_code 1 = .ok (.lconst 0, 1) := by decide +kernel
theorem d2_2 : decode method_3_code 2 = .ok (.lcmp, 1) := by decide +kernel
theorem d2_3 : decode method_3_code 3 = .ok (.ifCond .lt 7, 3) := by decide +kernel
theorem d2_6 : decode method_3_code 6 = .ok (.lload_n 0, 1) := by decide +kernel
theorem d2_7 : decode method_3_code 7 = .ok (.lload_n 2, 1) := by decide +kernel
theorem d2_8 : decode method_3_code 8 = .ok (.lsub, 1) := by decide +kernel
theorem d2_9 : decode method_3_code 9 = .ok (.lreturn, 1) := by decide +kernel
theorem d2_10 : decode method_3_code 10 = .ok (.lload_n 0, 1) := by decide +kernel
theorem d2_11 : decode method_3_code 11 = .ok (.ldc2_w 11, 3) := by decide +kernel
theorem d2_14 : decode method_3_code 14 = .ok (.lsub, 1) := by decide +kernel
theorem d2_15 : decode method_3_code 15 = .ok (.lstore 4, 2) := by decide +kernel
theorem d2_17 : decode method_3_code 17 = .ok (.lload_n 2, 1) := by decide +kernel
theorem d2_18 : decode method_3_code 18 = .ok (.lload 4, 2) := by decide +kernel
theorem d2_20 : decode method_3_code 20 = .ok (.lcmp, 1) := by decide +kernel
theorem d2_21 : decode method_3_code 21 = .ok (.ifCond .le 7, 3) := by decide +kernel
theorem d2_24 : decode method_3_code 24 = .ok (.ldc2_w 11, 3) := by decide +kernel
theorem d2_27 : decode method_3_code 27 = .ok (.lreturn, 1) := by decide +kernel
theorem d2_28 : decode method_3_code 28 = .ok (.lload_n 0, 1) := by decide +kernel
theorem d2_29 : decode method_3_code 29 = .ok (.lload_n 2, 1) := by decide +kernel
theorem d2_30 : decode method_3_code 30 = .ok (.lsub, 1) := by decide +kernel
theorem d2_31 : decode method_3_code 31 = .ok (.lreturn, 1) := by decide +kernel
theorem pn_1 : plainName "com/example/velwin/velwin/engine/EngineGroupBackFromPinLaw" = true := by first | (simp [plainName, overriddenIn]; done) | decide +kernel
theorem ef_E (m : MethodId) (q0 : Int64) (q1 : Int64) : entryFrame m #[(.long q0), (.long q1)] 6 = mkF m 0 #[.val (.long q0), .second, .val (.long q1), .second, .unset, .unset] [] := by first | (simp [entryFrame, mkF, argsToLocals, Value.category, maxLocals]; done) | rfl
def QE (Z : State) (q0 : Int64) (q1 : Int64) (h0 : Heap) (n0 : Nat) (v : Option Value) (h : Heap) (L : List Loc) : Prop := v = some (.long (own_ex q0 q1)) ∧ Fr n0 L ∧ h = h0
set_option maxRecDepth 65536 in
set_option maxHeartbeats 40000000 in
theorem rmE (l : Launch) (Z : State) (aw : Array Value) (hw : ∀ d ∈ tables_1, d.before aw Z = true) (ws : List Jvm.Cond) (q0 : Int64) (q1 : Int64) (h0 : Heap) (n0 : Nat) (Z0 : n0 ≤ h0.size)  :
    MetFree l (⟨"com/example/velwin/velwin/engine/EngineGroupBackFromPinLaw", "expected", "(JJ)J"⟩ : MethodName) (head1 (Jvm.Cond.code (⟨"com/example/velwin/velwin/engine/EngineGroupBackFromPinLaw", "expected", "(JJ)J"⟩ : MethodName) method_3_code 6 (some .long) :: ws) ({ frames := 0, cells := 0, slots := 0, locals := 0 } : Room)) (fun a U => a = #[(.long q0), (.long q1)] ∧ Z.Warmed39 U.vm ∧ U.heap = h0) (fun _ _ _ _ _ => True) (fun _ U o U' => ∃ v L, o = .returned v ∧ QE Z q0 q1 h0 n0 v U'.heap L ∧ FrameEnd U o U' L ({ frames := 0, cells := 0, slots := 0, locals := 0 } : Room).cells ({ frames := 0, cells := 0, slots := 0, locals := 0 } : Room).slots) := by
  refine MetFree.of_bodySF (plainFor_of_name pn_1) hisR ?_
  intro p e s m args below meth c s₁ Bd hml0 hP hK
  obtain ⟨rfl, hZ, hh⟩ := hP
  have hx := Bd.exec
  have hby := Bd.bytes
  have hml : c.maxLocals = 6 := hml0
  have hown : s.vm.findClass "com/example/velwin/velwin/engine/EngineGroupBackFromPinLaw" = some m.cls := findClass_of_methodNamed Bd.named
  have hnm := (name_of_methodNamed Bd.named Bd.method).1
  have hlk : meth.locks = false := BodyLoose.notSynchronized Bd
  have X0 : Stand p l e ({ frames := 0, cells := 0, slots := 0, locals := 0 } : Room) s m #[(.long q0), (.long q1)] below meth c s₁ [] 0 0 := Stand.of_body Bd
  have eh0 : s₁.heap = h0 := by rw [← hh, Bd.state]; rfl
  have N0 := Fr.nil n0
  show Rest p.tables e below s (QE Z q0 q1 h0 n0) _ _ (s₁.setTop (entryFrame m #[(.long q0), (.long q1)] 6))
  refine Rest.via (fun t k => castTop (ef_E m q0 q1) k) ?_
  show Rest p.tables e below s _ _ _ (s₁.setTop (mkF m 0 #[.val (.long q0), .second, .val (.long q1), .second, .unset, .unset] []))
  refine Rest.via (fun t k => XS.lloadN X0.here hx rfl (hb hby d2_0) rfl k) ?_
  show Rest p.tables e below s _ _ _ (s₁.setTop (mkF m 1 #[.val (.long q0), .second, .val (.long q1), .second, .unset, .unset] [(.long q0)]))
  refine Rest.via (fun t k => XS.lconst X0.here hx rfl (hb hby d2_1) k) ?_
  show Rest p.tables e below s _ _ _ (s₁.setTop (mkF m 2 #[.val (.long q0), .second, .val (.long q1), .second, .unset, .unset] [(.long (0 : Int64)), (.long q0)]))
  refine Rest.via (fun t k => XS.lcmp X0.here hx rfl (hb hby d2_2) rfl k) ?_
  show Rest p.tables e below s _ _ _ (s₁.setTop (mkF m 3 #[.val (.long q0), .second, .val (.long q1), .second, .unset, .unset] [(.int (lcmpW q0 (0 : Int64)))]))
  by_cases hc3 : q0 < (0 : Int64)
  · refine Rest.via (fun t k => XS.ifYes X0.here hx rfl (pc0 := 3) (pc' := 10) rfl (hb hby d2_3) rfl ((if0 _ _).trans (tlt ((lw_lt _ _).mpr hc3)).1) (by decide) (by decide) k) ?_
    show Rest p.tables e below s _ _ _ (s₁.setTop (mkF m 10 #[.val (.long q0), .second, .val (.long q1), .second, .unset, .unset] []))
    refine Rest.via (fun t k => XS.lloadN X0.here hx rfl (hb hby d2_10) rfl k) ?_
    show Rest p.tables e below s _ _ _ (s₁.setTop (mkF m 11 #[.val (.long q0), .second, .val (.long q1), .second, .unset, .unset] [(.long q0)]))
    refine Rest.via (fun t k => X0.ldc2Long hx hown (mvT hZ (hw _ (List.mem_of_getElem? (i := 10) rfl))) (g := (mkF m 11 #[.val (.long q0), .second, .val (.long q1), .second, .unset, .unset] [(.long q0)])) rfl (hb hby d2_11) t k) ?_
    show Rest p.tables e below s _ _ _ (s₁.setTop (mkF m 14 #[.val (.long q0), .second, .val (.long q1), .second, .unset, .unset] [(.long (-9223372036854775808 : Int64)), (.long q0)]))
    refine Rest.via (fun t k => XS.lsub X0.here hx rfl (hb hby d2_14) rfl k) ?_
    show Rest p.tables e below s _ _ _ (s₁.setTop (mkF m 15 #[.val (.long q0), .second, .val (.long q1), .second, .unset, .unset] [(.long (q0 - (-9223372036854775808 : Int64)))]))
    refine Rest.via (fun t k => XS.lstore X0.here hx rfl (hb hby d2_15) rfl (l' := #[.val (.long q0), .second, .val (.long q1), .second, .val (.long (q0 - (-9223372036854775808 : Int64))), .second]) rfl k) ?_
    show Rest p.tables e below s _ _ _ (s₁.setTop (mkF m 17 #[.val (.long q0), .second, .val (.long q1), .second, .val (.long (q0 - (-9223372036854775808 : Int64))), .second] []))
    refine Rest.via (fun t k => XS.lloadN X0.here hx rfl (hb hby d2_17) rfl k) ?_
    show Rest p.tables e below s _ _ _ (s₁.setTop (mkF m 18 #[.val (.long q0), .second, .val (.long q1), .second, .val (.long (q0 - (-9223372036854775808 : Int64))), .second] [(.long q1)]))
    refine Rest.via (fun t k => XS.lload X0.here hx rfl (hb hby d2_18) rfl k) ?_
    show Rest p.tables e below s _ _ _ (s₁.setTop (mkF m 20 #[.val (.long q0), .second, .val (.long q1), .second, .val (.long (q0 - (-9223372036854775808 : Int64))), .second] [(.long (q0 - (-9223372036854775808 : Int64))), (.long q1)]))
    refine Rest.via (fun t k => XS.lcmp X0.here hx rfl (hb hby d2_20) rfl k) ?_
    show Rest p.tables e below s _ _ _ (s₁.setTop (mkF m 21 #[.val (.long q0), .second, .val (.long q1), .second, .val (.long (q0 - (-9223372036854775808 : Int64))), .second] [(.int (lcmpW q1 (q0 - (-9223372036854775808 : Int64))))]))
    by_cases hc21 : (q0 - (-9223372036854775808 : Int64)) < q1
    · refine Rest.via (fun t k => XS.ifNo X0.here hx rfl (hb hby d2_21) rfl ((if0 _ _).trans (tlt ((lw_gt _ _).mpr hc21)).2.2.2) k) ?_
      show Rest p.tables e below s _ _ _ (s₁.setTop (mkF m 24 #[.val (.long q0), .second, .val (.long q1), .second, .val (.long (q0 - (-9223372036854775808 : Int64))), .second] []))
      refine Rest.via (fun t k => X0.ldc2Long hx hown (mvT hZ (hw _ (List.mem_of_getElem? (i := 10) rfl))) (g := (mkF m 24 #[.val (.long q0), .second, .val (.long q1), .second, .val (.long (q0 - (-9223372036854775808 : Int64))), .second] [])) rfl (hb hby d2_24) t k) ?_
      show Rest p.tables e below s _ _ _ (s₁.setTop (mkF m 27 #[.val (.long q0), .second, .val (.long q1), .second, .val (.long (q0 - (-9223372036854775808 : Int64))), .second] [(.long (-9223372036854775808 : Int64))]))
      refine Rest.ret X0 (v := some (.long (-9223372036854775808 : Int64))) (fun h => by rw [Bd.returns] at h; cases h) hlk (fun fs hr => retOut X0 hx Bd.returns rfl (Or.inr (Or.inl ⟨rfl, rfl, _, rfl⟩)) (hb hby d2_27) hr) ?_ (by decide) (by decide)
      rw [eh0]
      exact ⟨by rw [own_ex, if_pos hc3, if_pos hc21], N0, rfl⟩
    · refine Rest.via (fun t k => XS.ifYes X0.here hx rfl (pc0 := 21) (pc' := 28) rfl (hb hby d2_21) rfl ((if0 _ _).trans (flt (fun q => hc21 ((lw_gt _ _).mp q))).2.2.2) (by decide) (by decide) k) ?_
      show Rest p.tables e below s _ _ _ (s₁.setTop (mkF m 28 #[.val (.long q0), .second, .val (.long q1), .second, .val (.long (q0 - (-9223372036854775808 : Int64))), .second] []))
      refine Rest.via (fun t k => XS.lloadN X0.here hx rfl (hb hby d2_28) rfl k) ?_
      show Rest p.tables e below s _ _ _ (s₁.setTop (mkF m 29 #[.val (.long q0), .second, .val (.long q1), .second, .val (.long (q0 - (-9223372036854775808 : Int64))), .second] [(.long q0)]))
      refine Rest.via (fun t k => XS.lloadN X0.here hx rfl (hb hby d2_29) rfl k) ?_
      show Rest p.tables e below s _ _ _ (s₁.setTop (mkF m 30 #[.val (.long q0), .second, .val (.long q1), .second, .val (.long (q0 - (-9223372036854775808 : Int64))), .second] [(.long q1), (.long q0)]))
      refine Rest.via (fun t k => XS.lsub X0.here hx rfl (hb hby d2_30) rfl k) ?_
      show Rest p.tables e below s _ _ _ (s₁.setTop (mkF m 31 #[.val (.long q0), .second, .val (.long q1), .second, .val (.long (q0 - (-9223372036854775808 : Int64))), .second] [(.long (q0 - q1))]))
      refine Rest.ret X0 (v := some (.long (q0 - q1))) (fun h => by rw [Bd.returns] at h; cases h) hlk (fun fs hr => retOut X0 hx Bd.returns rfl (Or.inr (Or.inl ⟨rfl, rfl, _, rfl⟩)) (hb hby d2_31) hr) ?_ (by decide) (by decide)
      rw [eh0]
      exact ⟨by rw [own_ex, if_pos hc3, if_neg hc21], N0, rfl⟩
  · refine Rest.via (fun t k => XS.ifNo X0.here hx rfl (hb hby d2_3) rfl ((if0 _ _).trans (flt (fun q => hc3 ((lw_lt _ _).mp q))).1) k) ?_
    show Rest p.tables e below s _ _ _ (s₁.setTop (mkF m 6 #[.val (.long q0), .second, .val (.long q1), .second, .unset, .unset] []))
    refine Rest.via (fun t k => XS.lloadN X0.here hx rfl (hb hby d2_6) rfl k) ?_
    show Rest p.tables e below s _ _ _ (s₁.setTop (mkF m 7 #[.val (.long q0), .second, .val (.long q1), .second, .unset, .unset] [(.long q0)]))
    refine Rest.via (fun t k => XS.lloadN X0.here hx rfl (hb hby d2_7) rfl k) ?_
    show Rest p.tables e below s _ _ _ (s₁.setTop (mkF m 8 #[.val (.long q0), .second, .val (.long q1), .second, .unset, .unset] [(.long q1), (.long q0)]))
    refine Rest.via (fun t k => XS.lsub X0.here hx rfl (hb hby d2_8) rfl k) ?_
    show Rest p.tables e below s _ _ _ (s₁.setTop (mkF m 9 #[.val (.long q0), .second, .val (.long q1), .second, .unset, .unset] [(.long (q0 - q1))]))
    refine Rest.ret X0 (v := some (.long (q0 - q1))) (fun h => by rw [Bd.returns] at h; cases h) hlk (fun fs hr => retOut X0 hx Bd.returns rfl (Or.inr (Or.inl ⟨rfl, rfl, _, rfl⟩)) (hb hby d2_9) hr) ?_ (by decide) (by decide)
    rw [eh0]
    exact ⟨by rw [own_ex, if_neg hc3], N0, rfl⟩
theorem pd_0 : parseMethodDescriptor "(JJ)J" = some ⟨[.long, .long], some .long⟩ := by decide +kernel
theorem ef_0 (m : MethodId) (q0 : Int64) (q1 : Int64) (q2 : Int64) : entryFrame m #[(.long q0), (.long q1), (.long q2)] maxLocals = mkF m 0 #[.val (.long q0), .second, .val (.long q1), .second, .val (.long q2), .second, .unset, .unset, .unset, .unset, .unset, .unset] [] := by first | (simp [entryFrame, mkF, argsToLocals, Value.category, maxLocals]; done) | rfl
def Q0 (Z : State) (q0 : Int64) (q1 : Int64) (q2 : Int64) (h0 : Heap) (n0 : Nat) (v : Option Value) (h : Heap) (L : List Loc) : Prop := v = some (.int 1) ∧ Fr n0 L
set_option maxRecDepth 65536 in
set_option maxHeartbeats 40000000 in
theorem rm0 (l : Launch) (Z : State) (aw : Array Value) (hw : ∀ d ∈ tables_1, d.before aw Z = true) (ws : List Jvm.Cond) (q0 : Int64) (q1 : Int64) (q2 : Int64) (h0 : Heap) (n0 : Nat) (Z0 : n0 ≤ h0.size)  :
    MetFree l x (head1 (Jvm.Cond.code x code maxLocals ret :: ws) room_1) (fun a U => a = #[(.long q0), (.long q1), (.long q2)] ∧ Z.Warmed39 U.vm ∧ U.heap = h0) (fun _ _ _ _ _ => True) (fun _ U o U' => ∃ v L, o = .returned v ∧ Q0 Z q0 q1 q2 h0 n0 v U'.heap L ∧ FrameEnd U o U' L 0 0) := by
  refine MetFree.of_bodySF (plainFor_of_name pn_1) hisR ?_
  intro p e s m args below meth c s₁ Bd hml0 hP hK
  obtain ⟨rfl, hZ, hh⟩ := hP
  have hx := Bd.exec
  have hby := Bd.bytes
  have hml : c.maxLocals = 12 := hml0
  have hown : s.vm.findClass "com/example/velwin/velwin/engine/EngineGroupBackFromPinLaw" = some m.cls := findClass_of_methodNamed Bd.named
  have hnm := (name_of_methodNamed Bd.named Bd.method).1
  have hlk : meth.locks = false := BodyLoose.notSynchronized Bd
  have X0 : Stand p l e room_1 s m #[(.long q0), (.long q1), (.long q2)] below meth c s₁ [] 0 0 := Stand.of_body Bd
  have eh0 : s₁.heap = h0 := by rw [← hh, Bd.state]; rfl
  have N0 := Fr.nil n0
  show Rest p.tables e below s (Q0 Z q0 q1 q2 h0 n0) _ _ (s₁.setTop (entryFrame m #[(.long q0), (.long q1), (.long q2)] maxLocals))
  refine Rest.via (fun t k => castTop (ef_0 m q0 q1 q2) k) ?_
  show Rest p.tables e below s _ _ _ (s₁.setTop (mkF m 0 #[.val (.long q0), .second, .val (.long q1), .second, .val (.long q2), .second, .unset, .unset, .unset, .unset, .unset, .unset] []))
  refine Rest.via (fun t k => XS.lloadN X0.here hx rfl (hb hby at_0) rfl k) ?_
  show Rest p.tables e below s _ _ _ (s₁.setTop (mkF m 1 #[.val (.long q0), .second, .val (.long q1), .second, .val (.long q2), .second, .unset, .unset, .unset, .unset, .unset, .unset] [(.long q1)]))
  refine Rest.via (fun t k => X0.ldc2Long hx hown (mvT hZ (hw _ (List.mem_of_getElem? (i := 0) rfl))) (g := (mkF m 1 #[.val (.long q0), .second, .val (.long q1), .second, .val (.long q2), .second, .unset, .unset, .unset, .unset, .unset, .unset] [(.long q1)])) rfl (hb hby at_1) t k) ?_
  show Rest p.tables e below s _ _ _ (s₁.setTop (mkF m 4 #[.val (.long q0), .second, .val (.long q1), .second, .val (.long q2), .second, .unset, .unset, .unset, .unset, .unset, .unset] [(.long (9223372036854775807 : Int64)), (.long q1)]))
  refine Rest.via (fun t k => XS.land X0.here hx rfl (hb hby at_4) rfl k) ?_
  show Rest p.tables e below s _ _ _ (s₁.setTop (mkF m 5 #[.val (.long q0), .second, .val (.long q1), .second, .val (.long q2), .second, .unset, .unset, .unset, .unset, .unset, .unset] [(.long (q1 &&& (9223372036854775807 : Int64)))]))
  refine Rest.via (fun t k => XS.lstore X0.here hx rfl (hb hby at_5) rfl (l' := #[.val (.long q0), .second, .val (.long q1), .second, .val (.long q2), .second, .val (.long (q1 &&& (9223372036854775807 : Int64))), .second, .unset, .unset, .unset, .unset]) rfl k) ?_
  show Rest p.tables e below s _ _ _ (s₁.setTop (mkF m 7 #[.val (.long q0), .second, .val (.long q1), .second, .val (.long q2), .second, .val (.long (q1 &&& (9223372036854775807 : Int64))), .second, .unset, .unset, .unset, .unset] []))
  refine Rest.via (fun t k => XS.lloadN X0.here hx rfl (hb hby at_7) rfl k) ?_
  show Rest p.tables e below s _ _ _ (s₁.setTop (mkF m 8 #[.val (.long q0), .second, .val (.long q1), .second, .val (.long q2), .second, .val (.long (q1 &&& (9223372036854775807 : Int64))), .second, .unset, .unset, .unset, .unset] [(.long q0)]))
  refine Rest.via (fun t k => XS.lstore X0.here hx rfl (hb hby at_8) rfl (l' := #[.val (.long q0), .second, .val (.long q1), .second, .val (.long q2), .second, .val (.long (q1 &&& (9223372036854775807 : Int64))), .second, .val (.long q0), .second, .unset, .unset]) rfl k) ?_
  show Rest p.tables e below s _ _ _ (s₁.setTop (mkF m 10 #[.val (.long q0), .second, .val (.long q1), .second, .val (.long q2), .second, .val (.long (q1 &&& (9223372036854775807 : Int64))), .second, .val (.long q0), .second, .unset, .unset] []))
  refine Rest.via (fun t k => XS.lload X0.here hx rfl (hb hby at_10) rfl k) ?_
  show Rest p.tables e below s _ _ _ (s₁.setTop (mkF m 12 #[.val (.long q0), .second, .val (.long q1), .second, .val (.long q2), .second, .val (.long (q1 &&& (9223372036854775807 : Int64))), .second, .val (.long q0), .second, .unset, .unset] [(.long q2)]))
  refine Rest.via (fun t k => XS.lconst X0.here hx rfl (hb hby at_12) k) ?_
  show Rest p.tables e below s _ _ _ (s₁.setTop (mkF m 13 #[.val (.long q0), .second, .val (.long q1), .second, .val (.long q2), .second, .val (.long (q1 &&& (9223372036854775807 : Int64))), .second, .val (.long q0), .second, .unset, .unset] [(.long (1 : Int64)), (.long q2)]))
  refine Rest.via (fun t k => XS.land X0.here hx rfl (hb hby at_13) rfl k) ?_
  show Rest p.tables e below s _ _ _ (s₁.setTop (mkF m 14 #[.val (.long q0), .second, .val (.long q1), .second, .val (.long q2), .second, .val (.long (q1 &&& (9223372036854775807 : Int64))), .second, .val (.long q0), .second, .unset, .unset] [(.long (q2 &&& (1 : Int64)))]))
  refine Rest.via (fun t k => XS.lconst X0.here hx rfl (hb hby at_14) k) ?_
  show Rest p.tables e below s _ _ _ (s₁.setTop (mkF m 15 #[.val (.long q0), .second, .val (.long q1), .second, .val (.long q2), .second, .val (.long (q1 &&& (9223372036854775807 : Int64))), .second, .val (.long q0), .second, .unset, .unset] [(.long (0 : Int64)), (.long (q2 &&& (1 : Int64)))]))
  refine Rest.via (fun t k => XS.lcmp X0.here hx rfl (hb hby at_15) rfl k) ?_
  show Rest p.tables e below s _ _ _ (s₁.setTop (mkF m 16 #[.val (.long q0), .second, .val (.long q1), .second, .val (.long q2), .second, .val (.long (q1 &&& (9223372036854775807 : Int64))), .second, .val (.long q0), .second, .unset, .unset] [(.int (lcmpW (q2 &&& (1 : Int64)) (0 : Int64)))]))
  by_cases hc16 : (q2 &&& (1 : Int64)) = (0 : Int64)
  · refine Rest.via (fun t k => XS.ifYes X0.here hx rfl (pc0 := 16) (pc' := 38) rfl (hb hby at_16) rfl ((if0 _ _).trans (teq ((lw_eq _ _).mpr hc16)).1) (by decide) (by decide) k) ?_
    show Rest p.tables e below s _ _ _ (s₁.setTop (mkF m 38 #[.val (.long q0), .second, .val (.long q1), .second, .val (.long q2), .second, .val (.long (q1 &&& (9223372036854775807 : Int64))), .second, .val (.long q0), .second, .unset, .unset] []))
    refine Rest.via (fun t k => XS.lload X0.here hx rfl (hb hby at_38) rfl k) ?_
    show Rest p.tables e below s _ _ _ (s₁.setTop (mkF m 40 #[.val (.long q0), .second, .val (.long q1), .second, .val (.long q2), .second, .val (.long (q1 &&& (9223372036854775807 : Int64))), .second, .val (.long q0), .second, .unset, .unset] [(.long q0)]))
    refine Rest.via (fun t k => XS.lload X0.here hx rfl (hb hby at_40) rfl k) ?_
    show Rest p.tables e below s _ _ _ (s₁.setTop (mkF m 42 #[.val (.long q0), .second, .val (.long q1), .second, .val (.long q2), .second, .val (.long (q1 &&& (9223372036854775807 : Int64))), .second, .val (.long q0), .second, .unset, .unset] [(.long (q1 &&& (9223372036854775807 : Int64))), (.long q0)]))
    obtain ⟨_, _, ⟨T1, L1, k1, n1⟩, -, X1, ⟨Lc1, hQ1, l1, y1, z1⟩, st1⟩ := Jvm.LawKit.callS X0 hx (y := (⟨"com/example/velwin/velwin/engine/EngineGroup", "backFrom", "(JJ)J"⟩ : MethodName)) hown (mvT hZ (hw _ (List.mem_of_getElem? (i := 1) rfl))) (mvT hZ (hw _ (List.mem_of_getElem? (i := 2) rfl))) (mvT hZ (hw _ (List.mem_of_getElem? (i := 3) rfl))) (mvT hZ (hw _ (List.mem_of_getElem? (i := 4) rfl))) (by decide) (backOf (W := 0) (rmB l Z aw hw [] q0 (q1 &&& (9223372036854775807 : Int64))  h0 n0 (Nat.le_trans Z0 (Keep.refl h0 []).1) ) hZ (hw _ (List.mem_of_getElem? (i := 4) rfl)) (hw _ (List.mem_of_getElem? (i := 3) rfl)) (by decide) (by decide)) (g := (mkF m 42 #[.val (.long q0), .second, .val (.long q1), .second, .val (.long q2), .second, .val (.long (q1 &&& (9223372036854775807 : Int64))), .second, .val (.long q0), .second, .unset, .unset] [(.long (q1 &&& (9223372036854775807 : Int64))), (.long q0)])) rfl (by rw [hml]; rfl) (argsL := [(.long q0), (.long (q1 &&& (9223372036854775807 : Int64)))]) (rest := []) (lenOf pd_0 rfl) rfl (by show 2 * 0 + _ ≤ _; exact Nat.le_of_eq rfl) (hb hby at_42) (fun _ _ => ⟨rfl, eh0, (by decide : 0 + 0 ≤ _), (by decide : 0 + 0 ≤ _)⟩)
    dsimp only [Pt.U, Pt.locs, Pt.cells, Pt.slots] at X1 l1 y1 z1 st1 hQ1
    subst l1 y1 z1
    obtain ⟨rfl, Nq1, e1⟩ := hQ1
    have N1 := Fr.app N0 Nq1
    refine Rest.via (fun t k => st1 t k) ?_
    show Rest p.tables e below s _ _ _ (T1.setTop (mkF m 45 #[.val (.long q0), .second, .val (.long q1), .second, .val (.long q2), .second, .val (.long (q1 &&& (9223372036854775807 : Int64))), .second, .val (.long q0), .second, .unset, .unset] [(.long (own_bf q0 (q1 &&& (9223372036854775807 : Int64))))]))
    refine Rest.via (fun t k => XS.lstore X1.here hx rfl (hb hby at_45) rfl (l' := #[.val (.long q0), .second, .val (.long q1), .second, .val (.long q2), .second, .val (.long (q1 &&& (9223372036854775807 : Int64))), .second, .val (.long q0), .second, .val (.long (own_bf q0 (q1 &&& (9223372036854775807 : Int64)))), .second]) rfl k) ?_
    show Rest p.tables e below s _ _ _ (T1.setTop (mkF m 47 #[.val (.long q0), .second, .val (.long q1), .second, .val (.long q2), .second, .val (.long (q1 &&& (9223372036854775807 : Int64))), .second, .val (.long q0), .second, .val (.long (own_bf q0 (q1 &&& (9223372036854775807 : Int64)))), .second] []))
    refine Rest.via (fun t k => XS.lload X1.here hx rfl (hb hby at_47) rfl k) ?_
    show Rest p.tables e below s _ _ _ (T1.setTop (mkF m 49 #[.val (.long q0), .second, .val (.long q1), .second, .val (.long q2), .second, .val (.long (q1 &&& (9223372036854775807 : Int64))), .second, .val (.long q0), .second, .val (.long (own_bf q0 (q1 &&& (9223372036854775807 : Int64)))), .second] [(.long (own_bf q0 (q1 &&& (9223372036854775807 : Int64))))]))
    refine Rest.via (fun t k => XS.lload X1.here hx rfl (hb hby at_49) rfl k) ?_
    show Rest p.tables e below s _ _ _ (T1.setTop (mkF m 51 #[.val (.long q0), .second, .val (.long q1), .second, .val (.long q2), .second, .val (.long (q1 &&& (9223372036854775807 : Int64))), .second, .val (.long q0), .second, .val (.long (own_bf q0 (q1 &&& (9223372036854775807 : Int64)))), .second] [(.long q0), (.long (own_bf q0 (q1 &&& (9223372036854775807 : Int64))))]))
    refine Rest.via (fun t k => XS.lload X1.here hx rfl (hb hby at_51) rfl k) ?_
    show Rest p.tables e below s _ _ _ (T1.setTop (mkF m 53 #[.val (.long q0), .second, .val (.long q1), .second, .val (.long q2), .second, .val (.long (q1 &&& (9223372036854775807 : Int64))), .second, .val (.long q0), .second, .val (.long (own_bf q0 (q1 &&& (9223372036854775807 : Int64)))), .second] [(.long (q1 &&& (9223372036854775807 : Int64))), (.long q0), (.long (own_bf q0 (q1 &&& (9223372036854775807 : Int64))))]))
    obtain ⟨_, _, ⟨T2, L2, k2, n2⟩, -, X2, ⟨Lc2, hQ2, l2, y2, z2⟩, st2⟩ := Jvm.LawKit.callS X1 hx (y := (⟨"com/example/velwin/velwin/engine/EngineGroupBackFromPinLaw", "expected", "(JJ)J"⟩ : MethodName)) hown (mvT hZ (hw _ (List.mem_of_getElem? (i := 6) rfl))) (mvT hZ (hw _ (List.mem_of_getElem? (i := 7) rfl))) (mvT hZ (hw _ (List.mem_of_getElem? (i := 8) rfl))) (mvT hZ (hw _ (List.mem_of_getElem? (i := 9) rfl))) (by decide) (backOf (W := 2) (rmE l Z aw hw [] q0 (q1 &&& (9223372036854775807 : Int64))  h0 n0 (Nat.le_trans Z0 (Keep.refl h0 []).1) ) hZ (hw _ (List.mem_of_getElem? (i := 9) rfl)) (hw _ (List.mem_of_getElem? (i := 8) rfl)) (by decide) (by decide)) (g := (mkF m 53 #[.val (.long q0), .second, .val (.long q1), .second, .val (.long q2), .second, .val (.long (q1 &&& (9223372036854775807 : Int64))), .second, .val (.long q0), .second, .val (.long (own_bf q0 (q1 &&& (9223372036854775807 : Int64)))), .second] [(.long (q1 &&& (9223372036854775807 : Int64))), (.long q0), (.long (own_bf q0 (q1 &&& (9223372036854775807 : Int64))))])) rfl (by rw [hml]; rfl) (argsL := [(.long q0), (.long (q1 &&& (9223372036854775807 : Int64)))]) (rest := [(.long (own_bf q0 (q1 &&& (9223372036854775807 : Int64))))]) (lenOf pd_0 rfl) rfl (by show 2 * 0 + _ ≤ _; exact Nat.le_of_eq rfl) (hb hby at_53) (fun _ _ => ⟨rfl, e1, (by decide : 0 + 0 ≤ _), (by decide : 0 + 0 ≤ _)⟩)
    dsimp only [Pt.U, Pt.locs, Pt.cells, Pt.slots] at X2 l2 y2 z2 st2 hQ2
    subst l2 y2 z2
    obtain ⟨rfl, Nq2, e2⟩ := hQ2
    have N2 := Fr.app N1 Nq2
    refine Rest.via (fun t k => st2 t k) ?_
    show Rest p.tables e below s _ _ _ (T2.setTop (mkF m 56 #[.val (.long q0), .second, .val (.long q1), .second, .val (.long q2), .second, .val (.long (q1 &&& (9223372036854775807 : Int64))), .second, .val (.long q0), .second, .val (.long (own_bf q0 (q1 &&& (9223372036854775807 : Int64)))), .second] [(.long (own_ex q0 (q1 &&& (9223372036854775807 : Int64)))), (.long (own_bf q0 (q1 &&& (9223372036854775807 : Int64))))]))
    refine Rest.via (fun t k => XS.lcmp X2.here hx rfl (hb hby at_56) rfl k) ?_
    show Rest p.tables e below s _ _ _ (T2.setTop (mkF m 57 #[.val (.long q0), .second, .val (.long q1), .second, .val (.long q2), .second, .val (.long (q1 &&& (9223372036854775807 : Int64))), .second, .val (.long q0), .second, .val (.long (own_bf q0 (q1 &&& (9223372036854775807 : Int64)))), .second] [(.int (lcmpW (own_bf q0 (q1 &&& (9223372036854775807 : Int64))) (own_ex q0 (q1 &&& (9223372036854775807 : Int64)))))]))
    refine Rest.via (fun t k => XS.ifNo X2.here hx rfl (hb hby at_57) rfl ((if0 _ _).trans (teq ((lw_eq _ _).mpr (own_same _ _ (own_span _) : (own_bf q0 (q1 &&& (9223372036854775807 : Int64))) = (own_ex q0 (q1 &&& (9223372036854775807 : Int64)))))).2) k) ?_
    show Rest p.tables e below s _ _ _ (T2.setTop (mkF m 60 #[.val (.long q0), .second, .val (.long q1), .second, .val (.long q2), .second, .val (.long (q1 &&& (9223372036854775807 : Int64))), .second, .val (.long q0), .second, .val (.long (own_bf q0 (q1 &&& (9223372036854775807 : Int64)))), .second] []))
    refine Rest.via (fun t k => XS.iconst X2.here hx rfl (hb hby at_60) k) ?_
    show Rest p.tables e below s _ _ _ (T2.setTop (mkF m 61 #[.val (.long q0), .second, .val (.long q1), .second, .val (.long q2), .second, .val (.long (q1 &&& (9223372036854775807 : Int64))), .second, .val (.long q0), .second, .val (.long (own_bf q0 (q1 &&& (9223372036854775807 : Int64)))), .second] [(.int (1 : Int32))]))
    refine Rest.via (fun t k => XS.goto X2.here hx rfl (pc0 := 61) (pc' := 65) rfl (hb hby at_61) (by decide) (by decide) k) ?_
    show Rest p.tables e below s _ _ _ (T2.setTop (mkF m 65 #[.val (.long q0), .second, .val (.long q1), .second, .val (.long q2), .second, .val (.long (q1 &&& (9223372036854775807 : Int64))), .second, .val (.long q0), .second, .val (.long (own_bf q0 (q1 &&& (9223372036854775807 : Int64)))), .second] [(.int (1 : Int32))]))
    refine Rest.ret X2 (v := some (.int (nar .boolean (1 : Int32)))) (fun h => by rw [Bd.returns] at h; cases h) hlk (fun fs hr => retN X2 hx (t := .boolean) Bd.returns (by simp) (hb hby at_65) hr) ?_ (by decide) (by decide)
    rw [e2]
    exact ⟨rfl, N2⟩
  · refine Rest.via (fun t k => XS.ifNo X0.here hx rfl (hb hby at_16) rfl ((if0 _ _).trans (feq (fun q => hc16 ((lw_eq _ _).mp q))).1) k) ?_
    show Rest p.tables e below s _ _ _ (s₁.setTop (mkF m 19 #[.val (.long q0), .second, .val (.long q1), .second, .val (.long q2), .second, .val (.long (q1 &&& (9223372036854775807 : Int64))), .second, .val (.long q0), .second, .unset, .unset] []))
    refine Rest.via (fun t k => X0.ldc2Long hx hown (mvT hZ (hw _ (List.mem_of_getElem? (i := 10) rfl))) (g := (mkF m 19 #[.val (.long q0), .second, .val (.long q1), .second, .val (.long q2), .second, .val (.long (q1 &&& (9223372036854775807 : Int64))), .second, .val (.long q0), .second, .unset, .unset] [])) rfl (hb hby at_19) t k) ?_
    show Rest p.tables e below s _ _ _ (s₁.setTop (mkF m 22 #[.val (.long q0), .second, .val (.long q1), .second, .val (.long q2), .second, .val (.long (q1 &&& (9223372036854775807 : Int64))), .second, .val (.long q0), .second, .unset, .unset] [(.long (-9223372036854775808 : Int64))]))
    refine Rest.via (fun t k => XS.lload X0.here hx rfl (hb hby at_22) rfl k) ?_
    show Rest p.tables e below s _ _ _ (s₁.setTop (mkF m 24 #[.val (.long q0), .second, .val (.long q1), .second, .val (.long q2), .second, .val (.long (q1 &&& (9223372036854775807 : Int64))), .second, .val (.long q0), .second, .unset, .unset] [(.long (q1 &&& (9223372036854775807 : Int64))), (.long (-9223372036854775808 : Int64))]))
    refine Rest.via (fun t k => XS.ladd X0.here hx rfl (hb hby at_24) rfl k) ?_
    show Rest p.tables e below s _ _ _ (s₁.setTop (mkF m 25 #[.val (.long q0), .second, .val (.long q1), .second, .val (.long q2), .second, .val (.long (q1 &&& (9223372036854775807 : Int64))), .second, .val (.long q0), .second, .unset, .unset] [(.long ((-9223372036854775808 : Int64) + (q1 &&& (9223372036854775807 : Int64))))]))
    refine Rest.via (fun t k => XS.lload X0.here hx rfl (hb hby at_25) rfl k) ?_
    show Rest p.tables e below s _ _ _ (s₁.setTop (mkF m 27 #[.val (.long q0), .second, .val (.long q1), .second, .val (.long q2), .second, .val (.long (q1 &&& (9223372036854775807 : Int64))), .second, .val (.long q0), .second, .unset, .unset] [(.long q2), (.long ((-9223372036854775808 : Int64) + (q1 &&& (9223372036854775807 : Int64))))]))
    refine Rest.via (fun t k => XS.iconst X0.here hx rfl (hb hby at_27) k) ?_
    show Rest p.tables e below s _ _ _ (s₁.setTop (mkF m 28 #[.val (.long q0), .second, .val (.long q1), .second, .val (.long q2), .second, .val (.long (q1 &&& (9223372036854775807 : Int64))), .second, .val (.long q0), .second, .unset, .unset] [(.int (1 : Int32)), (.long q2), (.long ((-9223372036854775808 : Int64) + (q1 &&& (9223372036854775807 : Int64))))]))
    refine Rest.via (fun t k => XS.lushr X0.here hx rfl (hb hby at_28) rfl k) ?_
    show Rest p.tables e below s _ _ _ (s₁.setTop (mkF m 29 #[.val (.long q0), .second, .val (.long q1), .second, .val (.long q2), .second, .val (.long (q1 &&& (9223372036854775807 : Int64))), .second, .val (.long q0), .second, .unset, .unset] [(.long ((q2.toUInt64 >>> ((1 : Int32) &&& 0x3f).toInt64.toUInt64).toInt64)), (.long ((-9223372036854775808 : Int64) + (q1 &&& (9223372036854775807 : Int64))))]))
    refine Rest.via (fun t k => X0.ldc2Long hx hown (mvT hZ (hw _ (List.mem_of_getElem? (i := 11) rfl))) (g := (mkF m 29 #[.val (.long q0), .second, .val (.long q1), .second, .val (.long q2), .second, .val (.long (q1 &&& (9223372036854775807 : Int64))), .second, .val (.long q0), .second, .unset, .unset] [(.long ((q2.toUInt64 >>> ((1 : Int32) &&& 0x3f).toInt64.toUInt64).toInt64)), (.long ((-9223372036854775808 : Int64) + (q1 &&& (9223372036854775807 : Int64))))])) rfl (hb hby at_29) t k) ?_
    show Rest p.tables e below s _ _ _ (s₁.setTop (mkF m 32 #[.val (.long q0), .second, .val (.long q1), .second, .val (.long q2), .second, .val (.long (q1 &&& (9223372036854775807 : Int64))), .second, .val (.long q0), .second, .unset, .unset] [(.long (3 : Int64)), (.long ((q2.toUInt64 >>> ((1 : Int32) &&& 0x3f).toInt64.toUInt64).toInt64)), (.long ((-9223372036854775808 : Int64) + (q1 &&& (9223372036854775807 : Int64))))]))
    refine Rest.via (fun t k => XS.lrem X0.here hx rfl (hb hby at_32) rfl (by decide) k) ?_
    show Rest p.tables e below s _ _ _ (s₁.setTop (mkF m 33 #[.val (.long q0), .second, .val (.long q1), .second, .val (.long q2), .second, .val (.long (q1 &&& (9223372036854775807 : Int64))), .second, .val (.long q0), .second, .unset, .unset] [(.long (((q2.toUInt64 >>> ((1 : Int32) &&& 0x3f).toInt64.toUInt64).toInt64) - (((q2.toUInt64 >>> ((1 : Int32) &&& 0x3f).toInt64.toUInt64).toInt64) / (3 : Int64)) * (3 : Int64))), (.long ((-9223372036854775808 : Int64) + (q1 &&& (9223372036854775807 : Int64))))]))
    refine Rest.via (fun t k => XS.lconst X0.here hx rfl (hb hby at_33) k) ?_
    show Rest p.tables e below s _ _ _ (s₁.setTop (mkF m 34 #[.val (.long q0), .second, .val (.long q1), .second, .val (.long q2), .second, .val (.long (q1 &&& (9223372036854775807 : Int64))), .second, .val (.long q0), .second, .unset, .unset] [(.long (1 : Int64)), (.long (((q2.toUInt64 >>> ((1 : Int32) &&& 0x3f).toInt64.toUInt64).toInt64) - (((q2.toUInt64 >>> ((1 : Int32) &&& 0x3f).toInt64.toUInt64).toInt64) / (3 : Int64)) * (3 : Int64))), (.long ((-9223372036854775808 : Int64) + (q1 &&& (9223372036854775807 : Int64))))]))
    refine Rest.via (fun t k => XS.lsub X0.here hx rfl (hb hby at_34) rfl k) ?_
    show Rest p.tables e below s _ _ _ (s₁.setTop (mkF m 35 #[.val (.long q0), .second, .val (.long q1), .second, .val (.long q2), .second, .val (.long (q1 &&& (9223372036854775807 : Int64))), .second, .val (.long q0), .second, .unset, .unset] [(.long ((((q2.toUInt64 >>> ((1 : Int32) &&& 0x3f).toInt64.toUInt64).toInt64) - (((q2.toUInt64 >>> ((1 : Int32) &&& 0x3f).toInt64.toUInt64).toInt64) / (3 : Int64)) * (3 : Int64)) - (1 : Int64))), (.long ((-9223372036854775808 : Int64) + (q1 &&& (9223372036854775807 : Int64))))]))
    refine Rest.via (fun t k => XS.ladd X0.here hx rfl (hb hby at_35) rfl k) ?_
    show Rest p.tables e below s _ _ _ (s₁.setTop (mkF m 36 #[.val (.long q0), .second, .val (.long q1), .second, .val (.long q2), .second, .val (.long (q1 &&& (9223372036854775807 : Int64))), .second, .val (.long q0), .second, .unset, .unset] [(.long (((-9223372036854775808 : Int64) + (q1 &&& (9223372036854775807 : Int64))) + ((((q2.toUInt64 >>> ((1 : Int32) &&& 0x3f).toInt64.toUInt64).toInt64) - (((q2.toUInt64 >>> ((1 : Int32) &&& 0x3f).toInt64.toUInt64).toInt64) / (3 : Int64)) * (3 : Int64)) - (1 : Int64))))]))
    refine Rest.via (fun t k => XS.lstore X0.here hx rfl (hb hby at_36) rfl (l' := #[.val (.long q0), .second, .val (.long q1), .second, .val (.long q2), .second, .val (.long (q1 &&& (9223372036854775807 : Int64))), .second, .val (.long (((-9223372036854775808 : Int64) + (q1 &&& (9223372036854775807 : Int64))) + ((((q2.toUInt64 >>> ((1 : Int32) &&& 0x3f).toInt64.toUInt64).toInt64) - (((q2.toUInt64 >>> ((1 : Int32) &&& 0x3f).toInt64.toUInt64).toInt64) / (3 : Int64)) * (3 : Int64)) - (1 : Int64)))), .second, .unset, .unset]) rfl k) ?_
    show Rest p.tables e below s _ _ _ (s₁.setTop (mkF m 38 #[.val (.long q0), .second, .val (.long q1), .second, .val (.long q2), .second, .val (.long (q1 &&& (9223372036854775807 : Int64))), .second, .val (.long (((-9223372036854775808 : Int64) + (q1 &&& (9223372036854775807 : Int64))) + ((((q2.toUInt64 >>> ((1 : Int32) &&& 0x3f).toInt64.toUInt64).toInt64) - (((q2.toUInt64 >>> ((1 : Int32) &&& 0x3f).toInt64.toUInt64).toInt64) / (3 : Int64)) * (3 : Int64)) - (1 : Int64)))), .second, .unset, .unset] []))
    obtain ⟨en, hv_en⟩ : ∃ z : Int64, z = (((-9223372036854775808 : Int64) + (q1 &&& (9223372036854775807 : Int64))) + ((((q2.toUInt64 >>> ((1 : Int32) &&& 0x3f).toInt64.toUInt64).toInt64) - (((q2.toUInt64 >>> ((1 : Int32) &&& 0x3f).toInt64.toUInt64).toInt64) / (3 : Int64)) * (3 : Int64)) - (1 : Int64))) := ⟨_, rfl⟩
    rw [← hv_en]
    show Rest p.tables e below s _ _ _ (s₁.setTop (mkF m 38 #[.val (.long q0), .second, .val (.long q1), .second, .val (.long q2), .second, .val (.long (q1 &&& (9223372036854775807 : Int64))), .second, .val (.long en), .second, .unset, .unset] []))
    refine Rest.via (fun t k => XS.lload X0.here hx rfl (hb hby at_38) rfl k) ?_
    show Rest p.tables e below s _ _ _ (s₁.setTop (mkF m 40 #[.val (.long q0), .second, .val (.long q1), .second, .val (.long q2), .second, .val (.long (q1 &&& (9223372036854775807 : Int64))), .second, .val (.long en), .second, .unset, .unset] [(.long en)]))
    refine Rest.via (fun t k => XS.lload X0.here hx rfl (hb hby at_40) rfl k) ?_
    show Rest p.tables e below s _ _ _ (s₁.setTop (mkF m 42 #[.val (.long q0), .second, .val (.long q1), .second, .val (.long q2), .second, .val (.long (q1 &&& (9223372036854775807 : Int64))), .second, .val (.long en), .second, .unset, .unset] [(.long (q1 &&& (9223372036854775807 : Int64))), (.long en)]))
    obtain ⟨_, _, ⟨T3, L3, k3, n3⟩, -, X3, ⟨Lc3, hQ3, l3, y3, z3⟩, st3⟩ := Jvm.LawKit.callS X0 hx (y := (⟨"com/example/velwin/velwin/engine/EngineGroup", "backFrom", "(JJ)J"⟩ : MethodName)) hown (mvT hZ (hw _ (List.mem_of_getElem? (i := 1) rfl))) (mvT hZ (hw _ (List.mem_of_getElem? (i := 2) rfl))) (mvT hZ (hw _ (List.mem_of_getElem? (i := 3) rfl))) (mvT hZ (hw _ (List.mem_of_getElem? (i := 4) rfl))) (by decide) (backOf (W := 0) (rmB l Z aw hw [] en (q1 &&& (9223372036854775807 : Int64))  h0 n0 (Nat.le_trans Z0 (Keep.refl h0 []).1) ) hZ (hw _ (List.mem_of_getElem? (i := 4) rfl)) (hw _ (List.mem_of_getElem? (i := 3) rfl)) (by decide) (by decide)) (g := (mkF m 42 #[.val (.long q0), .second, .val (.long q1), .second, .val (.long q2), .second, .val (.long (q1 &&& (9223372036854775807 : Int64))), .second, .val (.long en), .second, .unset, .unset] [(.long (q1 &&& (9223372036854775807 : Int64))), (.long en)])) rfl (by rw [hml]; rfl) (argsL := [(.long en), (.long (q1 &&& (9223372036854775807 : Int64)))]) (rest := []) (lenOf pd_0 rfl) rfl (by show 2 * 0 + _ ≤ _; exact Nat.le_of_eq rfl) (hb hby at_42) (fun _ _ => ⟨rfl, eh0, (by decide : 0 + 0 ≤ _), (by decide : 0 + 0 ≤ _)⟩)
    dsimp only [Pt.U, Pt.locs, Pt.cells, Pt.slots] at X3 l3 y3 z3 st3 hQ3
    subst l3 y3 z3
    obtain ⟨rfl, Nq3, e3⟩ := hQ3
    have N3 := Fr.app N0 Nq3
    refine Rest.via (fun t k => st3 t k) ?_
    show Rest p.tables e below s _ _ _ (T3.setTop (mkF m 45 #[.val (.long q0), .second, .val (.long q1), .second, .val (.long q2), .second, .val (.long (q1 &&& (9223372036854775807 : Int64))), .second, .val (.long en), .second, .unset, .unset] [(.long (own_bf en (q1 &&& (9223372036854775807 : Int64))))]))
    refine Rest.via (fun t k => XS.lstore X3.here hx rfl (hb hby at_45) rfl (l' := #[.val (.long q0), .second, .val (.long q1), .second, .val (.long q2), .second, .val (.long (q1 &&& (9223372036854775807 : Int64))), .second, .val (.long en), .second, .val (.long (own_bf en (q1 &&& (9223372036854775807 : Int64)))), .second]) rfl k) ?_
    show Rest p.tables e below s _ _ _ (T3.setTop (mkF m 47 #[.val (.long q0), .second, .val (.long q1), .second, .val (.long q2), .second, .val (.long (q1 &&& (9223372036854775807 : Int64))), .second, .val (.long en), .second, .val (.long (own_bf en (q1 &&& (9223372036854775807 : Int64)))), .second] []))
    refine Rest.via (fun t k => XS.lload X3.here hx rfl (hb hby at_47) rfl k) ?_
    show Rest p.tables e below s _ _ _ (T3.setTop (mkF m 49 #[.val (.long q0), .second, .val (.long q1), .second, .val (.long q2), .second, .val (.long (q1 &&& (9223372036854775807 : Int64))), .second, .val (.long en), .second, .val (.long (own_bf en (q1 &&& (9223372036854775807 : Int64)))), .second] [(.long (own_bf en (q1 &&& (9223372036854775807 : Int64))))]))
    refine Rest.via (fun t k => XS.lload X3.here hx rfl (hb hby at_49) rfl k) ?_
    show Rest p.tables e below s _ _ _ (T3.setTop (mkF m 51 #[.val (.long q0), .second, .val (.long q1), .second, .val (.long q2), .second, .val (.long (q1 &&& (9223372036854775807 : Int64))), .second, .val (.long en), .second, .val (.long (own_bf en (q1 &&& (9223372036854775807 : Int64)))), .second] [(.long en), (.long (own_bf en (q1 &&& (9223372036854775807 : Int64))))]))
    refine Rest.via (fun t k => XS.lload X3.here hx rfl (hb hby at_51) rfl k) ?_
    show Rest p.tables e below s _ _ _ (T3.setTop (mkF m 53 #[.val (.long q0), .second, .val (.long q1), .second, .val (.long q2), .second, .val (.long (q1 &&& (9223372036854775807 : Int64))), .second, .val (.long en), .second, .val (.long (own_bf en (q1 &&& (9223372036854775807 : Int64)))), .second] [(.long (q1 &&& (9223372036854775807 : Int64))), (.long en), (.long (own_bf en (q1 &&& (9223372036854775807 : Int64))))]))
    obtain ⟨_, _, ⟨T4, L4, k4, n4⟩, -, X4, ⟨Lc4, hQ4, l4, y4, z4⟩, st4⟩ := Jvm.LawKit.callS X3 hx (y := (⟨"com/example/velwin/velwin/engine/EngineGroupBackFromPinLaw", "expected", "(JJ)J"⟩ : MethodName)) hown (mvT hZ (hw _ (List.mem_of_getElem? (i := 6) rfl))) (mvT hZ (hw _ (List.mem_of_getElem? (i := 7) rfl))) (mvT hZ (hw _ (List.mem_of_getElem? (i := 8) rfl))) (mvT hZ (hw _ (List.mem_of_getElem? (i := 9) rfl))) (by decide) (backOf (W := 2) (rmE l Z aw hw [] en (q1 &&& (9223372036854775807 : Int64))  h0 n0 (Nat.le_trans Z0 (Keep.refl h0 []).1) ) hZ (hw _ (List.mem_of_getElem? (i := 9) rfl)) (hw _ (List.mem_of_getElem? (i := 8) rfl)) (by decide) (by decide)) (g := (mkF m 53 #[.val (.long q0), .second, .val (.long q1), .second, .val (.long q2), .second, .val (.long (q1 &&& (9223372036854775807 : Int64))), .second, .val (.long en), .second, .val (.long (own_bf en (q1 &&& (9223372036854775807 : Int64)))), .second] [(.long (q1 &&& (9223372036854775807 : Int64))), (.long en), (.long (own_bf en (q1 &&& (9223372036854775807 : Int64))))])) rfl (by rw [hml]; rfl) (argsL := [(.long en), (.long (q1 &&& (9223372036854775807 : Int64)))]) (rest := [(.long (own_bf en (q1 &&& (9223372036854775807 : Int64))))]) (lenOf pd_0 rfl) rfl (by show 2 * 0 + _ ≤ _; exact Nat.le_of_eq rfl) (hb hby at_53) (fun _ _ => ⟨rfl, e3, (by decide : 0 + 0 ≤ _), (by decide : 0 + 0 ≤ _)⟩)
    dsimp only [Pt.U, Pt.locs, Pt.cells, Pt.slots] at X4 l4 y4 z4 st4 hQ4
    subst l4 y4 z4
    obtain ⟨rfl, Nq4, e4⟩ := hQ4
    have N4 := Fr.app N3 Nq4
    refine Rest.via (fun t k => st4 t k) ?_
    show Rest p.tables e below s _ _ _ (T4.setTop (mkF m 56 #[.val (.long q0), .second, .val (.long q1), .second, .val (.long q2), .second, .val (.long (q1 &&& (9223372036854775807 : Int64))), .second, .val (.long en), .second, .val (.long (own_bf en (q1 &&& (9223372036854775807 : Int64)))), .second] [(.long (own_ex en (q1 &&& (9223372036854775807 : Int64)))), (.long (own_bf en (q1 &&& (9223372036854775807 : Int64))))]))
    refine Rest.via (fun t k => XS.lcmp X4.here hx rfl (hb hby at_56) rfl k) ?_
    show Rest p.tables e below s _ _ _ (T4.setTop (mkF m 57 #[.val (.long q0), .second, .val (.long q1), .second, .val (.long q2), .second, .val (.long (q1 &&& (9223372036854775807 : Int64))), .second, .val (.long en), .second, .val (.long (own_bf en (q1 &&& (9223372036854775807 : Int64)))), .second] [(.int (lcmpW (own_bf en (q1 &&& (9223372036854775807 : Int64))) (own_ex en (q1 &&& (9223372036854775807 : Int64)))))]))
    refine Rest.via (fun t k => XS.ifNo X4.here hx rfl (hb hby at_57) rfl ((if0 _ _).trans (teq ((lw_eq _ _).mpr (own_same _ _ (own_span _) : (own_bf en (q1 &&& (9223372036854775807 : Int64))) = (own_ex en (q1 &&& (9223372036854775807 : Int64)))))).2) k) ?_
    show Rest p.tables e below s _ _ _ (T4.setTop (mkF m 60 #[.val (.long q0), .second, .val (.long q1), .second, .val (.long q2), .second, .val (.long (q1 &&& (9223372036854775807 : Int64))), .second, .val (.long en), .second, .val (.long (own_bf en (q1 &&& (9223372036854775807 : Int64)))), .second] []))
    refine Rest.via (fun t k => XS.iconst X4.here hx rfl (hb hby at_60) k) ?_
    show Rest p.tables e below s _ _ _ (T4.setTop (mkF m 61 #[.val (.long q0), .second, .val (.long q1), .second, .val (.long q2), .second, .val (.long (q1 &&& (9223372036854775807 : Int64))), .second, .val (.long en), .second, .val (.long (own_bf en (q1 &&& (9223372036854775807 : Int64)))), .second] [(.int (1 : Int32))]))
    refine Rest.via (fun t k => XS.goto X4.here hx rfl (pc0 := 61) (pc' := 65) rfl (hb hby at_61) (by decide) (by decide) k) ?_
    show Rest p.tables e below s _ _ _ (T4.setTop (mkF m 65 #[.val (.long q0), .second, .val (.long q1), .second, .val (.long q2), .second, .val (.long (q1 &&& (9223372036854775807 : Int64))), .second, .val (.long en), .second, .val (.long (own_bf en (q1 &&& (9223372036854775807 : Int64)))), .second] [(.int (1 : Int32))]))
    refine Rest.ret X4 (v := some (.int (nar .boolean (1 : Int32)))) (fun h => by rw [Bd.returns] at h; cases h) hlk (fun fs hr => retN X4 hx (t := .boolean) Bd.returns (by simp) (hb hby at_65) hr) ?_ (by decide) (by decide)
    rw [e4]
    exact ⟨rfl, N4⟩
set_option maxRecDepth 65536 in
set_option maxHeartbeats 40000000 in
theorem comes_1 {Post : Tables → Env → Array Value → State → Outcome → State → Prop} (hpost : ∀ tb e args s v u, (limb_1_1.after args s (.returned v) u = true ∧ limb_1_2.after args s (.returned v) u = true ∧ True) → FrameEnd s (.returned v) u (Jvm.fieldLocs frame_1_writes args s ++ Jvm.arrayLocs frame_1_arrays args s ++ Jvm.staticLocs frame_1_statics s) 0 0 → Post tb e args s (.returned v) u) :
    ArmFor flags0 classFile x code maxLocals ret World_1 tables_1 room_1 Calls_1 rest_1 Pre_1 Post := by
  intro l hfl _ _ p e ha hc hk s m args below hf hA hF happ hP
  obtain ⟨hcalls, hrest, hpre⟩ := hP
  obtain ⟨-, -, -, hnamed, -, -, -, hat⟩ := (Spec.applies_iff hf).mp happ
  obtain ⟨hg, hn⟩ := and_e (Cond.before_iff.mp (show (Jvm.Cond.and given_1 narrow_1).before args s = true from hpre))
  obtain ⟨hcnt, hg0⟩ := and_e hg
  obtain ⟨ha0, hg1⟩ := and_e hg0
  obtain ⟨ha1, hg2⟩ := and_e hg1
  have ha2 := hg2
  obtain ⟨w0, w1, w2, rfl⟩ : ∃ w0 w1 w2 : Value, args = #[w0, w1, w2] := by
    have hs : args.size = 3 := by simpa [Cond.value, given_1] using hcnt
    obtain ⟨L⟩ := args
    match L, hs with
    | [w0, w1, w2], _ => exact ⟨w0, w1, w2, rfl⟩
  have hw := fun d (hd : d ∈ tables_1) => atoms_spec (ws := Jvm.Cond.code x code maxLocals ret :: tables_1) hat d (List.mem_cons_of_mem _ hd)
  have hfit : Fit s := fun {y c} hc i hi => by
    obtain ⟨ha, rfl⟩ := Array.getElem?_eq_some_iff.mp hc
    have q := List.all_eq_true.mp ((Array.all_eq_true_iff_forall_mem.mp hF) _ (Array.getElem_mem ha)) i (List.mem_range.mpr hi)
    simpa [Array.getElem?_eq_getElem hi] using q
  obtain ⟨i0, ei0⟩ := isL_v ha0
  obtain rfl : w0 = (.long i0) := Option.some.inj ei0
  obtain ⟨i1, ei1⟩ := isL_v ha1
  obtain rfl : w1 = (.long i1) := Option.some.inj ei1
  obtain ⟨i2, ei2⟩ := isL_v ha2
  obtain rfl : w2 = (.long i2) := Option.some.inj ei2
  obtain ⟨n, o, h1, h2, h3, _, L, rfl, ⟨rfl, N⟩, hq⟩ := rm0 l s _ hw tables_1 i0 i1 i2  s.heap s.heap.size (Nat.le_refl _)  p e ha hc hk s m _ below hf ((Spec.applies_iff_loose hf).mp happ).1 ⟨rfl, State.Warmed39.refl s, rfl⟩ trivial
  refine ⟨n, _, h1, h2, h3, hpost _ _ _ _ _ _ ⟨Cond.after_iff.mpr rfl, Cond.after_iff.mpr (eq_i res_at (Term.int_eval (1)) rfl), trivial⟩ ⟨hq.1, hq.2.1, (hq.2.2.sift fun y hy => Or.inr (N y hy)).mono (by decide) (by decide)⟩⟩
theorem main_1_1 : Claimed_1_1 := comes_1 fun _ _ _ _ _ _ h hF => ⟨h.1, hF⟩
theorem main_1_2 : Claimed_1_2 := comes_1 fun _ _ _ _ _ _ h hF => ⟨h.2.1, hF⟩
end Jvm.Pilot.@@N@@
namespace Jvm.Pilot.@@N@@
open Jvm Jvm.ClassFile Sem Op Lib Jvm.Free Jvm.Stand Jvm.Pilot.@@N@@.Jvm.D
/-! MADE BY PROGRAM (witnessworld.py) out of the Statement's table words and the real class files: 9 classes; the members and pool entries that the words name. The judged class is class 1, her method 1. -/
namespace start1
open Jvm.ClassFile
def u (s : String) : CpInfo := .utf8 (stringToUtf16 s)
/-- a pool by its gaps: so many unusable entries, then the entry; so many at the end -/
def gap : Nat → List CpInfo → List CpInfo
  | 0, r => r
  | n + 1, r => .unusable :: gap n r
def poolList (es : List (Nat × CpInfo)) (last : Nat) : List CpInfo := es.foldr (fun e r => gap e.1 (e.2 :: r)) (gap last [])
def pool (es : List (Nat × CpInfo)) (last : Nat) : Array CpInfo := ⟨poolList es last⟩
def fileOf (pool : Array CpInfo) (this : Nat) (attrs : Array Attribute := #[]) (ms : Array MethodInfo := #[]) (fl : Nat := 33) (sup : Nat := 0) (ifs : Array Nat := #[]) (fds : Array FieldInfo := #[]) : ClassFile where
  minorVersion := 0
  majorVersion := 65
  constantPool := pool
  accessFlags := fl
  thisClass := this
  superClass := sup
  interfaces := ifs
  fields := fds
  methods := ms
  attributes := attrs
def plain (name : String) (sup : Option ClassId) : Class where
  name := name
  kind := .ordinary
  loader := none
  accessFlags := 33
  super := sup
  interfaces := #[]
  cf := none
  fields := #[]
  methods := #[]
  instanceTypes := #[]
  staticTypes := #[]
  resolved := #[]
  callSites := []
  init := .initialized
  statics := none
  mirror := none

def pool0 : Array CpInfo := pool [(5, u "<init>"), (0, u "()V"), (1, .class_ 10), (1, u "java/lang/Object")] 113

def k0m0 : Method := { name := "<init>", desc := "()V", sig := { parameters := [], returnType := none }, accessFlags := 1, code := none }
/-- java/lang/Object -/
def k0 : Class := { plain "java/lang/Object" none with
  accessFlags := 33
  interfaces := #[]
  cf := some (fileOf pool0 8 #[] #[{ accessFlags := 1, nameIndex := 5, descriptorIndex := 6, attributes := #[] }] 33 0 #[] #[])
  fields := #[]
  methods := #[k0m0]
  instanceTypes := #[]
  staticTypes := #[]
  resolved := Array.replicate 124 none
  statics := none }

def pool1 : Array CpInfo := pool [(2, .class_ 4), (1, u "java/lang/Object"), (0, u "<init>"), (0, u "()V"), (2, .long 9223372036854775807), (1, .long 9223372036854775808), (1, .long 3), (1, .methodref 16 17), (0, .class_ 18), (0, .nameAndType 19 20), (0, u "com/example/velwin/velwin/engine/EngineGroup"), (0, u "backFrom"), (0, u "(JJ)J"), (0, .methodref 22 23), (0, .class_ 24), (0, .nameAndType 25 20), (0, u "com/example/velwin/velwin/engine/EngineGroupBackFromPinLaw"), (0, u "expected"), (2, u "law"), (0, u "(JJJ)Z")] 3

def k1m0 : Method := { name := "<init>", desc := "()V", sig := { parameters := [], returnType := none }, accessFlags := 1, code := none }
def k1c1 : Code := { maxStack := 6, maxLocals := 12, code := code, exceptionTable := #[], attributes := #[] }
def k1m1 : Method := { name := "law", desc := "(JJJ)Z", sig := { parameters := [.long, .long, .long], returnType := some .boolean }, accessFlags := 9, code := some k1c1 }
def k1c2 : Code := { maxStack := 4, maxLocals := 6, code := method_3_code, exceptionTable := #[], attributes := #[] }
def k1m2 : Method := { name := "expected", desc := "(JJ)J", sig := { parameters := [.long, .long], returnType := some .long }, accessFlags := 10, code := some k1c2 }
/-- com/example/velwin/velwin/engine/EngineGroupBackFromPinLaw -/
def k1 : Class := { plain "com/example/velwin/velwin/engine/EngineGroupBackFromPinLaw" (some 0) with
  accessFlags := 49
  interfaces := #[]
  cf := some (fileOf pool1 22 #[] #[{ accessFlags := 1, nameIndex := 5, descriptorIndex := 6, attributes := #[] }, { accessFlags := 9, nameIndex := 28, descriptorIndex := 29, attributes := #[] }, { accessFlags := 10, nameIndex := 25, descriptorIndex := 20, attributes := #[] }] 49 2 #[] #[])
  fields := #[]
  methods := #[k1m0, k1m1, k1m2]
  instanceTypes := #[]
  staticTypes := #[]
  resolved := Array.replicate 33 none
  statics := none }

def pool2 : Array CpInfo := pool [(2, .class_ 4), (1, u "java/lang/Object"), (6, .long 9223372036854775808), (5, .class_ 19), (1, u "com/example/velwin/velwin/engine/EngineGroup"), (0, u "newest"), (0, u "Ljava/util/concurrent/atomic/AtomicLong;"), (2, u "longestWindow"), (0, u "Ljava/time/Duration;"), (2, u "latenessMillis"), (0, u "J"), (8, u "keptMillis"), (20, u "engines"), (0, u "Ljava/util/List;"), (7, u "drops"), (0, u "Lcom/example/velwin/velwin/engine/DropSweep;"), (155, u "backFrom"), (0, u "(JJ)J")] 149

def k2c0 : Code := { maxStack := 6, maxLocals := 4, code := prog_20_method_20_code, exceptionTable := #[], attributes := #[] }
def k2m0 : Method := { name := "backFrom", desc := "(JJ)J", sig := { parameters := [.long, .long], returnType := some .long }, accessFlags := 8, code := some k2c0 }
/-- com/example/velwin/velwin/engine/EngineGroup -/
def k2 : Class := { plain "com/example/velwin/velwin/engine/EngineGroup" (some 0) with
  accessFlags := 49
  interfaces := #[]
  cf := some (fileOf pool2 17 #[] #[{ accessFlags := 8, nameIndex := 225, descriptorIndex := 226, attributes := #[] }] 49 2 #[] #[{ accessFlags := 18, nameIndex := 24, descriptorIndex := 25, attributes := #[] }, { accessFlags := 18, nameIndex := 28, descriptorIndex := 29, attributes := #[] }, { accessFlags := 18, nameIndex := 38, descriptorIndex := 29, attributes := #[] }, { accessFlags := 18, nameIndex := 20, descriptorIndex := 21, attributes := #[] }, { accessFlags := 18, nameIndex := 59, descriptorIndex := 60, attributes := #[] }, { accessFlags := 18, nameIndex := 68, descriptorIndex := 69, attributes := #[] }])
  fields := #[{ name := "longestWindow", type := (.object "java/time/Duration"), accessFlags := 18, slot := 0, constantValue := 0 }, { name := "latenessMillis", type := .long, accessFlags := 18, slot := 1, constantValue := 0 }, { name := "keptMillis", type := .long, accessFlags := 18, slot := 2, constantValue := 0 }, { name := "newest", type := (.object "java/util/concurrent/atomic/AtomicLong"), accessFlags := 18, slot := 3, constantValue := 0 }, { name := "engines", type := (.object "java/util/List"), accessFlags := 18, slot := 4, constantValue := 0 }, { name := "drops", type := (.object "com/example/velwin/velwin/engine/DropSweep"), accessFlags := 18, slot := 5, constantValue := 0 }]
  methods := #[k2m0]
  instanceTypes := #[(.object "java/time/Duration"), .long, .long, (.object "java/util/concurrent/atomic/AtomicLong"), (.object "java/util/List"), (.object "com/example/velwin/velwin/engine/DropSweep")]
  staticTypes := #[]
  resolved := Array.replicate 376 none
  statics := none }

def pool3 : Array CpInfo := pool [(1, u "java/lang/Cloneable"), (0, .class_ 1), (0, u "java/lang/Object"), (0, .class_ 3)] 3

/-- java/lang/Cloneable -/
def k3 : Class := { plain "java/lang/Cloneable" (some 0) with
  accessFlags := 1537
  interfaces := #[]
  cf := some (fileOf pool3 2 #[] #[] 1537 4 #[] #[])
  fields := #[]
  methods := #[]
  instanceTypes := #[]
  staticTypes := #[]
  resolved := Array.replicate 8 none
  statics := none }

def pool4 : Array CpInfo := pool [(1, u "java/io/Serializable"), (0, .class_ 1), (0, u "java/lang/Object"), (0, .class_ 3)] 3

/-- java/io/Serializable -/
def k4 : Class := { plain "java/io/Serializable" (some 0) with
  accessFlags := 1537
  interfaces := #[]
  cf := some (fileOf pool4 2 #[] #[] 1537 4 #[] #[])
  fields := #[]
  methods := #[]
  instanceTypes := #[]
  staticTypes := #[]
  resolved := Array.replicate 8 none
  statics := none }

/-- the primitive byte -/
def k5 : Class := { plain "byte" none with kind := .primitive 'B', accessFlags := 0x411 }
/-- [B -/
def k6 : Class := { plain "[B" (some 0) with kind := .array 5 .byte, interfaces := #[3, 4], accessFlags := 1041 }

/-- the primitive int -/
def k7 : Class := { plain "int" none with kind := .primitive 'I', accessFlags := 0x411 }
/-- [I -/
def k8 : Class := { plain "[I" (some 0) with kind := .array 7 .int, interfaces := #[3, 4], accessFlags := 1041 }

def heap : Heap := #[]
def classes : Array Class := #[k0, k1, k2, k3, k4, k5, k6, k7, k8]
def interned : List (Array UInt16 × Addr) := []
def slotsUsed : Nat := 0
def theMethod : MethodId := ⟨1, 1⟩
def args0 : Array Value := #[.long 5, .long 7, .long 9]
def aboutOver (below : List Frame) : State where
  vm := { classes := classes, interned := interned.toArray }
  heap := heap
  slotsUsed := slotsUsed
  threads := #[{ frames := .invoking theMethod args0 :: below }]
def below0 : List Frame := [.native { method := ⟨0, 0⟩, args := #[] }]
def about1 : State := aboutOver below0
def p0 : Program := .bare "" "" ""
def e0 : Env := launch0.env 0 0 0
theorem w_frames : about1.frames = Frame.invoking theMethod args0 :: below0 := rfl
set_option maxRecDepth 65536 in
theorem w_args : argsFit about1.vm theMethod args0 = true := by decide +kernel
set_option maxRecDepth 65536 in
theorem w_heap : heapFits about1 = true := by decide +kernel
set_option maxRecDepth 65536 in
theorem w_runnable : about1.curStatus? = some .runnable := by decide +kernel
set_option maxRecDepth 65536 in
theorem w_alone : about1.alone = true := by decide +kernel
set_option maxRecDepth 65536 in
theorem w_named : about1.methodNamed? x = some theMethod := by decide +kernel
set_option maxRecDepth 65536 in
theorem w_hears : about1.hears theMethod below0 = true := by decide +kernel
set_option maxRecDepth 65536 in
theorem w_ripe : about1.ripe theMethod args0 below0 = true := by decide +kernel
theorem w_running : about1.status = .running := rfl
set_option maxRecDepth 65536 in
theorem w_room : about1.hasRoom e0.platform room_1 = true :=
  launch0.hasRoom_least _ room_1 (by decide +kernel) (by decide +kernel) (by decide +kernel) (by decide +kernel) (by decide +kernel) (by decide +kernel)
theorem allAtoms_all (ts : List Jvm.Cond) (a : Array Jvm.Value) (st : Jvm.State) : (allAtoms ts).before a st = ts.all (fun c => c.before a st) := by
  induction ts with
  | nil => rfl
  | cons c t ih =>
    show (Jvm.Cond.and c (allAtoms t)).before a st = _
    rw [Jvm.Cond.before_and, ih, List.all_cons]
def words1 : List Jvm.Cond := Jvm.Cond.code x code maxLocals ret :: tables_1
/-- a 'code' word, met by the world's own term for the bytes: nothing is compared byte by byte -/
theorem code_word {y : MethodName} {bytes : ByteArray} {mx : Nat} {rt : Option FieldType} {a : Array Value} {s : State} {m : MethodId} {meth : Method} {c : Code} (h1 : s.methodNamed? y = some m) (h2 : s.vm.method? m = some meth) (h3 : meth.code = some c) (h4 : c.code = bytes)
    (h5 : (c.maxLocals == mx && c.exceptionTable.isEmpty && decide (c.maxStack ≤ mostOperands) && decide (meth.sig.returnType = rt) && !meth.locks && decide (parseMethodDescriptor y.desc = some meth.sig)) = true) : (Jvm.Cond.code y bytes mx rt).before a s = true := by
  simp only [Bool.and_eq_true, beq_iff_eq, Bool.not_eq_true', decide_eq_true_eq] at h5
  obtain ⟨⟨⟨⟨⟨g1, g2⟩, g3⟩, g4⟩, g5⟩, g6⟩ := h5
  simp [Cond.before, Cond.holds, Cond.value, h1, h2, h3, h4, g1, g2, g3, g4, g5, g6]
def isCode : Jvm.Cond → Bool
  | .code _ _ _ _ => true
  | _ => false
theorem all_split {L : List Jvm.Cond} {P : Jvm.Cond → Bool} (h1 : L.all (fun c => isCode c || P c) = true) (h2 : ∀ c ∈ L.filter isCode, P c = true) : L.all P = true := by
  refine List.all_eq_true.mpr fun c hc => ?_
  have h := List.all_eq_true.mp h1 c hc
  rcases Bool.eq_false_or_eq_true (isCode c) with hi | hi
  · exact h2 c (List.mem_filter.mpr ⟨hc, hi⟩)
  · simpa [hi] using h
set_option maxRecDepth 65536 in
theorem w_c0 : (Jvm.Cond.code x code maxLocals ret).before args0 about1 = true := code_word (m := ⟨1, 1⟩) (meth := k1m1) (c := k1c1) (by decide +kernel) rfl rfl rfl (by decide +kernel)
set_option maxRecDepth 65536 in
theorem w_c1 : (Jvm.Cond.code ({ cls := "com/example/velwin/velwin/engine/EngineGroup", name := "backFrom", desc := "(JJ)J" } : Jvm.MethodName) prog_20_method_20_code (4 : Nat) (Option.some Jvm.ClassFile.FieldType.long)).before args0 about1 = true := code_word (m := ⟨2, 0⟩) (meth := k2m0) (c := k2c0) (by decide +kernel) rfl rfl rfl (by decide +kernel)
set_option maxRecDepth 65536 in
theorem w_c2 : (Jvm.Cond.code ({ cls := "com/example/velwin/velwin/engine/EngineGroupBackFromPinLaw", name := "expected", desc := "(JJ)J" } : Jvm.MethodName) method_3_code (6 : Nat) (Option.some Jvm.ClassFile.FieldType.long)).before args0 about1 = true := code_word (m := ⟨1, 2⟩) (meth := k1m2) (c := k1c2) (by decide +kernel) rfl rfl rfl (by decide +kernel)
def codes1 : List Jvm.Cond := [Jvm.Cond.code x code maxLocals ret, Jvm.Cond.code ({ cls := "com/example/velwin/velwin/engine/EngineGroup", name := "backFrom", desc := "(JJ)J" } : Jvm.MethodName) prog_20_method_20_code (4 : Nat) (Option.some Jvm.ClassFile.FieldType.long), Jvm.Cond.code ({ cls := "com/example/velwin/velwin/engine/EngineGroupBackFromPinLaw", name := "expected", desc := "(JJ)J" } : Jvm.MethodName) method_3_code (6 : Nat) (Option.some Jvm.ClassFile.FieldType.long)]
set_option maxRecDepth 65536 in
theorem codes_eq : words1.filter isCode = codes1 := rfl
theorem w_codes : ∀ c ∈ words1.filter isCode, c.before args0 about1 = true := by
  rw [codes_eq]
  intro c hc
  simp only [codes1, List.mem_cons, List.not_mem_nil, or_false] at hc
  rcases hc with rfl | rfl | rfl
  · exact w_c0
  · exact w_c1
  · exact w_c2
set_option maxRecDepth 65536 in
theorem w_t1 : words1.all (fun c => isCode c || c.before args0 about1) = true := by decide +kernel
theorem w_tables : (allAtoms (Jvm.Cond.code x code maxLocals ret :: tables_1)).before args0 about1 = true := by
  rw [allAtoms_all]
  show words1.all (fun c => c.before args0 about1) = true
  refine all_split ?_ w_codes
  rw [w_t1]
set_option maxRecDepth 65536 in
theorem w_case : (Jvm.Cond.and given_1 narrow_1).before args0 about1 = true := by decide +kernel
theorem w_applies : (headSpec (Jvm.Cond.code x code maxLocals ret :: tables_1) room_1).applies x e0.platform about1 = true :=
  (Spec.applies_iff w_frames).mpr ⟨w_running, w_runnable, w_alone, w_named, w_hears, w_ripe, w_room, w_tables⟩
theorem atStart : AtStart classFile x code maxLocals ret World_1 tables_1 room_1 Calls_1 rest_1 Pre_1 launch0 p0 e0 about1 theMethod args0 below0 :=
  ⟨lists_1, trivial, launch0.admits_env _ _ _, launch0.least_env, fairChoices_fair.cas, fairChoices_fair.clock, w_frames, w_args, w_heap, w_applies, trivial, trivial, w_case⟩
end start1
theorem witness_1 : WitnessClaimed_1 := ⟨start1.p0, start1.e0, start1.about1, start1.theMethod, start1.args0, start1.below0, start1.atStart⟩
end Jvm.Pilot.@@N@@
