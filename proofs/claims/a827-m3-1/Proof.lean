import JvmDerived
import JvmDerived.Pilot.@@N@@Statement
import JvmDerived.Pilot.@@N@@Code
set_option linter.unusedVariables false
set_option linter.unusedSimpArgs false
namespace Jvm.Pilot.@@N@@
open Jvm Jvm.ClassFile Sem Op Lib Jvm.Free Jvm.Stand Jvm.LawKit Jvm.RoadKit Bundle Jvm.Pilot.@@N@@.Jvm.D
/-- from S the method comes to its end, and what it leaves answers Q -/
def Rest (tb : Tables) (e : Env) (below : List Frame) (s : State) (Q : Option Value → Heap → List Loc → Prop) (k n : Nat) (S : State) : Prop :=
  ∃ t o, Steps tb e below S t ∧ t.status = .running ∧ Ended t below o ∧ ∃ v L, o = .returned v ∧ Q v t.heap L ∧ FrameEnd s o t L k n
theorem Rest.via {tb : Tables} {e : Env} {below : List Frame} {s : State} {Q : Option Value → Heap → List Loc → Prop} {k n : Nat} {S S' : State} (h : ∀ t, Steps tb e below S' t → Steps tb e below S t) (r : Rest tb e below s Q k n S') : Rest tb e below s Q k n S := by
  obtain ⟨t, o, h1, h2⟩ := r; exact ⟨t, o, h t h1, h2⟩
theorem Rest.ret {p : Program} {l : Launch} {e : Env} {R : Room} {s : State} {m : MethodId} {args : Array Value} {below : List Frame} {meth : Method} {c : Code} {T : State} {locs : List Loc} {cells slots : Nat} {Q : Option Value → Heap → List Loc → Prop} {k n : Nat} {S : State} {v : Option Value}
    (X : Stand p l e R s m args below meth c T locs cells slots) (hv : meth.sig.returnType = none → v = none) (hlocks : meth.locks = false)
    (st : ∀ fs, (∀ (f : JFrame) (acts : List Action), f.method = m → f.locked = none → f.entered = [] → (doReturn e (T.setTop f) acts v).1 = T.setFrames fs) → Steps p.tables e below S (T.setFrames fs))
    (hq : Q v T.heap locs) (hk : cells ≤ k) (hn : slots ≤ n) : Rest p.tables e below s Q k n S := by
  obtain ⟨fs, hr, hrun, hended, hW, hsame⟩ := X.leave (v := v) hv hlocks
  exact ⟨_, _, st fs hr, hrun, hended, _, _, rfl, hq, ⟨_, rfl⟩, hW, hsame.mono hk hn⟩
def own_al (c : Int32) : Int32 := if (c ||| (32 : Int32)) < (97 : Int32) then 0 else if (122 : Int32) < (c ||| (32 : Int32)) then 0 else 1
def own_ad (c : Int32) : Int32 := if ((c.toInt64) - (48 : Int64)) < (0 : Int64) then 0 else if ((c.toInt64) - (48 : Int64)) < (10 : Int64) then 1 else 0
def own_le (c : Int32) : Int32 := if c < (97 : Int32) then (if c < (65 : Int32) then 0 else if (90 : Int32) < c then 0 else 1) else if (122 : Int32) < c then (if c < (65 : Int32) then 0 else if (90 : Int32) < c then 0 else 1) else 1
def own_di (c : Int32) : Int32 := if c < (48 : Int32) then 0 else if (57 : Int32) < c then 0 else 1
def own_ld (c : Int32) : Int32 := if own_le c = (0 : Int32) then (if own_di c = (0 : Int32) then 0 else 1) else 1
theorem own_or6 (b : Fin 64) : (b.val ||| 32) = if b.val < 32 then b.val + 32 else b.val := by revert b; decide
theorem own_orN (n : Nat) : (n ||| 32) = if n % 64 < 32 then n + 32 else n := by
  have h1 : (n ||| 32) % 64 = (n % 64) ||| 32 := by
    have := Nat.or_mod_two_pow (a := n) (b := 32) (n := 6)
    simpa using this
  have h2 : (n ||| 32) / 64 = n / 64 := by
    have := Nat.or_div_two_pow (a := n) (b := 32) (n := 6)
    simpa using this
  have h3 := own_or6 ⟨n % 64, Nat.mod_lt _ (by decide)⟩
  simp only at h3
  rw [h3] at h1
  have h4 := Nat.div_add_mod (n ||| 32) 64
  have h5 := Nat.div_add_mod n 64
  by_cases q : n % 64 < 32
  · rw [if_pos q] at h1 ⊢; omega
  · rw [if_neg q] at h1 ⊢; omega
theorem own_or (c : Int32) : (c.toInt % 64 < 32 → (c ||| (32 : Int32)).toInt = c.toInt + 32) ∧ (¬ c.toInt % 64 < 32 → (c ||| (32 : Int32)).toInt = c.toInt) := by
  have h1 : (c ||| (32 : Int32)).toBitVec.toNat = c.toBitVec.toNat ||| 32 := by
    show (c.toBitVec ||| (32 : Int32).toBitVec).toNat = _
    rw [BitVec.toNat_or]; rfl
  have t1 : c.toInt = if 2 * c.toBitVec.toNat < 2 ^ 32 then (c.toBitVec.toNat : Int) else (c.toBitVec.toNat : Int) - ((2 ^ 32 : Nat) : Int) := BitVec.toInt_eq_toNat_cond _
  have t2 : (c ||| (32 : Int32)).toInt = if 2 * (c ||| (32 : Int32)).toBitVec.toNat < 2 ^ 32 then ((c ||| (32 : Int32)).toBitVec.toNat : Int) else ((c ||| (32 : Int32)).toBitVec.toNat : Int) - ((2 ^ 32 : Nat) : Int) := BitVec.toInt_eq_toNat_cond _
  have hn : c.toBitVec.toNat < 2 ^ 32 := c.toBitVec.isLt
  rw [h1, own_orN] at t2
  generalize (c ||| (32 : Int32)).toInt = u at *
  generalize c.toInt = w at *
  generalize c.toBitVec.toNat = n at *
  constructor
  · intro q
    by_cases q1 : n % 64 < 32
    · rw [if_pos q1] at t2
      by_cases q2 : 2 * n < 2 ^ 32
      · rw [if_pos q2] at t1
        by_cases q3 : 2 * (n + 32) < 2 ^ 32
        · rw [if_pos q3] at t2; omega
        · omega
      · rw [if_neg q2] at t1
        by_cases q3 : 2 * (n + 32) < 2 ^ 32
        · omega
        · rw [if_neg q3] at t2; omega
    · exfalso
      by_cases q2 : 2 * n < 2 ^ 32
      · rw [if_pos q2] at t1; omega
      · rw [if_neg q2] at t1; omega
  · intro q
    by_cases q1 : n % 64 < 32
    · exfalso
      by_cases q2 : 2 * n < 2 ^ 32
      · rw [if_pos q2] at t1; omega
      · rw [if_neg q2] at t1; omega
    · rw [if_neg q1] at t2
      rw [t1, t2]
theorem own_al_le (c : Int32) : own_al c = own_le c := by
  have h := own_or c
  have r := rng32 c
  have e97 : (97 : Int32).toInt = 97 := by decide
  have e122 : (122 : Int32).toInt = 122 := by decide
  have e65 : (65 : Int32).toInt = 65 := by decide
  have e90 : (90 : Int32).toInt = 90 := by decide
  unfold own_al own_le
  simp only [Int32.lt_iff_toInt_lt, e97, e122, e65, e90]
  generalize (c ||| (32 : Int32)).toInt = u at *
  generalize c.toInt = n at *
  split <;> (try split) <;> (try split) <;> (try split) <;> (try split) <;> (try split) <;> (try split) <;> first | rfl | (exfalso; omega)
theorem own_ad_di (c : Int32) : own_ad c = own_di c := by
  have r := rng32 c
  have e48 : (48 : Int32).toInt = 48 := by decide
  have e57 : (57 : Int32).toInt = 57 := by decide
  have d1 := c_lsub (c.toInt64) (48 : Int64)
  have d2 := rng64 ((c.toInt64) - (48 : Int64))
  have d3 := c_i2l c
  have e48' : (48 : Int64).toInt = 48 := by decide
  have e0' : (0 : Int64).toInt = 0 := by decide
  have e10' : (10 : Int64).toInt = 10 := by decide
  unfold own_ad own_di
  simp only [Int32.lt_iff_toInt_lt, Int64.lt_iff_toInt_lt, e48, e57, e0', e10']
  generalize ((c.toInt64) - (48 : Int64)).toInt = d at *
  generalize (c.toInt64).toInt = w at *
  generalize c.toInt = n at *
  split <;> (try split) <;> (try split) <;> (try split) <;> first | rfl | (exfalso; omega)
theorem own_di01 (c : Int32) : (if own_di c = (0 : Int32) then (0 : Int32) else 1) = own_di c := by
  unfold own_di
  by_cases h1 : c < (48 : Int32)
  · simp only [if_pos h1, if_true]
  · by_cases h2 : (57 : Int32) < c
    · simp only [if_neg h1, if_pos h2, if_true]
    · simp only [if_neg h1, if_neg h2]; decide
theorem own_cases (c : Int32) : own_ld c = if own_al c = (0 : Int32) then own_ad c else 1 := by
  rw [own_al_le, own_ad_di, own_ld, own_di01]
theorem own_law1 {c : Int32} (h : ¬ own_al c = (0 : Int32)) : own_ld c = (1 : Int32) := by rw [own_cases, if_neg h]
theorem own_law2 {c : Int32} (h : own_al c = (0 : Int32)) (h2 : ¬ own_ad c = (0 : Int32)) : own_ld c = (1 : Int32) := by
  rw [own_cases, if_pos h]
  unfold own_ad at h2 ⊢
  split at h2
  · exact absurd rfl h2
  · split at h2
    · rename_i q1 q2; rw [if_neg q1, if_pos q2]
    · exact absurd rfl h2
theorem own_law3 {c : Int32} (h : own_al c = (0 : Int32)) (h2 : own_ad c = (0 : Int32)) : own_ld c = (0 : Int32) := by rw [own_cases, if_pos h, h2]
theorem d1_0 : decode method_3_code 0 = .ok (.iload_n 0, 1) := by decide +kernel
theorem d1_1 : decode method_3_code 1 = .ok (.bipush 32, 2) := by decide +kernel
theorem d1_3 : decode method_3_code 3 = .ok (.ior, 1) := by decide +kernel
theorem d1_4 : decode method_3_code 4 = .ok (.istore_n 1, 1) := by decide +kernel
theorem d1_5 : decode method_3_code 5 = .ok (.iload_n 1, 1) := by decide +kernel
theorem d1_6 : decode method_3_code 6 = .ok (.bipush 97, 2) := by decide +kernel
theorem d1_8 : decode method_3_code 8 = .ok (.if_icmp .lt 13, 3) := by decide +kernel
theorem d1_11 : decode method_3_code 11 = .ok (.iload_n 1, 1) := by decide +kernel
theorem d1_12 : decode method_3_code 12 = .ok (.bipush 122, 2) := by decide +kernel
theorem d1_14 : decode method_3_code 14 = .ok (.if_icmp .gt 7, 3) := by decide +kernel
theorem d1_17 : decode method_3_code 17 = .ok (.iconst 1, 1) := by decide +kernel
theorem d1_18 : decode method_3_code 18 = .ok (.goto 4, 3) := by decide +kernel
theorem d1_21 : decode method_3_code 21 = .ok (.iconst 0, 1) := by decide +kernel
theorem d1_22 : decode method_3_code 22 = .ok (.ireturn, 1) := by decide +kernel
theorem pn_0 : plainName "com/example/vested_pointer/vestedpointer/mappingtable/HttpUrlIsLetterOrDigitPinLaw" = true := by first | (simp [plainName, overriddenIn]; done) | decide +kernel
theorem ef_A (m : MethodId) (p0 : Int32) : entryFrame m #[(.int p0)] 2 = mkF m 0 #[.val (.int p0), .unset] [] := by first | (simp [entryFrame, mkF, argsToLocals, Value.category, maxLocals]; done) | rfl
def QA (Z : State) (p0 : Int32) (h0 : Heap) (n0 : Nat) (v : Option Value) (h : Heap) (L : List Loc) : Prop := v = some (.int (own_al p0)) ∧ Fr n0 L ∧ h = h0
set_option maxRecDepth 65536 in
set_option maxHeartbeats 40000000 in
theorem rmA (l : Launch) (Z : State) (aw : Array Value) (hw : ∀ d ∈ tables_1, d.before aw Z = true) (ws : List Jvm.Cond) (p0 : Int32) (h0 : Heap) (n0 : Nat) (Z0 : n0 ≤ h0.size)  :
    MetFree l (⟨"com/example/vested_pointer/vestedpointer/mappingtable/HttpUrlIsLetterOrDigitPinLaw", "isAsciiLetter", "(I)Z"⟩ : MethodName) (head1 (Jvm.Cond.code (⟨"com/example/vested_pointer/vestedpointer/mappingtable/HttpUrlIsLetterOrDigitPinLaw", "isAsciiLetter", "(I)Z"⟩ : MethodName) method_3_code 2 (some .boolean) :: ws) ({ frames := 0, cells := 0, slots := 0, locals := 0 } : Room)) (fun a U => a = #[(.int p0)] ∧ Z.Warmed39 U.vm ∧ U.heap = h0) (fun _ _ _ _ _ => True) (fun _ U o U' => ∃ v L, o = .returned v ∧ QA Z p0 h0 n0 v U'.heap L ∧ FrameEnd U o U' L ({ frames := 0, cells := 0, slots := 0, locals := 0 } : Room).cells ({ frames := 0, cells := 0, slots := 0, locals := 0 } : Room).slots) := by
  refine MetFree.of_bodySF (plainFor_of_name pn_0) hisR ?_
  intro p e s m args below meth c s₁ Bd hml0 hP hK
  obtain ⟨rfl, hZ, hh⟩ := hP
  have hx := Bd.exec
  have hby := Bd.bytes
  have hml : c.maxLocals = 2 := hml0
  have hown : s.vm.findClass "com/example/vested_pointer/vestedpointer/mappingtable/HttpUrlIsLetterOrDigitPinLaw" = some m.cls := findClass_of_methodNamed Bd.named
  have hnm := (name_of_methodNamed Bd.named Bd.method).1
  have hlk : meth.locks = false := BodyLoose.notSynchronized Bd
  have X0 : Stand p l e ({ frames := 0, cells := 0, slots := 0, locals := 0 } : Room) s m #[(.int p0)] below meth c s₁ [] 0 0 := Stand.of_body Bd
  have eh0 : s₁.heap = h0 := by rw [← hh, Bd.state]; rfl
  have N0 := Fr.nil n0
  show Rest p.tables e below s (QA Z p0 h0 n0) _ _ (s₁.setTop (entryFrame m #[(.int p0)] 2))
  refine Rest.via (fun t k => castTop (ef_A m p0) k) ?_
  show Rest p.tables e below s _ _ _ (s₁.setTop (mkF m 0 #[.val (.int p0), .unset] []))
  refine Rest.via (fun t k => XS.iloadN X0.here hx rfl (hb hby d1_0) rfl k) ?_
  show Rest p.tables e below s _ _ _ (s₁.setTop (mkF m 1 #[.val (.int p0), .unset] [(.int p0)]))
  refine Rest.via (fun t k => XS.bipush X0.here hx rfl (hb hby d1_1) k) ?_
  show Rest p.tables e below s _ _ _ (s₁.setTop (mkF m 3 #[.val (.int p0), .unset] [(.int (32 : Int32)), (.int p0)]))
  refine Rest.via (fun t k => XS.ior X0.here hx rfl (hb hby d1_3) rfl k) ?_
  show Rest p.tables e below s _ _ _ (s₁.setTop (mkF m 4 #[.val (.int p0), .unset] [(.int (p0 ||| (32 : Int32)))]))
  refine Rest.via (fun t k => XS.istoreN X0.here hx rfl (hb hby d1_4) rfl (l' := #[.val (.int p0), .val (.int (p0 ||| (32 : Int32)))]) rfl k) ?_
  show Rest p.tables e below s _ _ _ (s₁.setTop (mkF m 5 #[.val (.int p0), .val (.int (p0 ||| (32 : Int32)))] []))
  refine Rest.via (fun t k => XS.iloadN X0.here hx rfl (hb hby d1_5) rfl k) ?_
  show Rest p.tables e below s _ _ _ (s₁.setTop (mkF m 6 #[.val (.int p0), .val (.int (p0 ||| (32 : Int32)))] [(.int (p0 ||| (32 : Int32)))]))
  refine Rest.via (fun t k => XS.bipush X0.here hx rfl (hb hby d1_6) k) ?_
  show Rest p.tables e below s _ _ _ (s₁.setTop (mkF m 8 #[.val (.int p0), .val (.int (p0 ||| (32 : Int32)))] [(.int (97 : Int32)), (.int (p0 ||| (32 : Int32)))]))
  by_cases hc8 : (p0 ||| (32 : Int32)) < (97 : Int32)
  · refine Rest.via (fun t k => XS.icmpYes X0.here hx rfl (pc0 := 8) (pc' := 21) rfl (hb hby d1_8) rfl (tlt hc8).1 (by decide) (by decide) k) ?_
    show Rest p.tables e below s _ _ _ (s₁.setTop (mkF m 21 #[.val (.int p0), .val (.int (p0 ||| (32 : Int32)))] []))
    refine Rest.via (fun t k => XS.iconst X0.here hx rfl (hb hby d1_21) k) ?_
    show Rest p.tables e below s _ _ _ (s₁.setTop (mkF m 22 #[.val (.int p0), .val (.int (p0 ||| (32 : Int32)))] [(.int (0 : Int32))]))
    refine Rest.ret X0 (v := some (.int (nar .boolean (0 : Int32)))) (fun h => by rw [Bd.returns] at h; cases h) hlk (fun fs hr => retN X0 hx (t := .boolean) Bd.returns (by simp) (hb hby d1_22) hr) ?_ (by decide) (by decide)
    rw [eh0]
    exact ⟨by show some (Value.int (0 : Int32)) = _; rw [own_al, if_pos hc8], N0, rfl⟩
  · refine Rest.via (fun t k => XS.icmpNo X0.here hx rfl (hb hby d1_8) rfl (flt hc8).1 k) ?_
    show Rest p.tables e below s _ _ _ (s₁.setTop (mkF m 11 #[.val (.int p0), .val (.int (p0 ||| (32 : Int32)))] []))
    refine Rest.via (fun t k => XS.iloadN X0.here hx rfl (hb hby d1_11) rfl k) ?_
    show Rest p.tables e below s _ _ _ (s₁.setTop (mkF m 12 #[.val (.int p0), .val (.int (p0 ||| (32 : Int32)))] [(.int (p0 ||| (32 : Int32)))]))
    refine Rest.via (fun t k => XS.bipush X0.here hx rfl (hb hby d1_12) k) ?_
    show Rest p.tables e below s _ _ _ (s₁.setTop (mkF m 14 #[.val (.int p0), .val (.int (p0 ||| (32 : Int32)))] [(.int (122 : Int32)), (.int (p0 ||| (32 : Int32)))]))
    by_cases hc14 : (122 : Int32) < (p0 ||| (32 : Int32))
    · refine Rest.via (fun t k => XS.icmpYes X0.here hx rfl (pc0 := 14) (pc' := 21) rfl (hb hby d1_14) rfl (tlt hc14).2.2.1 (by decide) (by decide) k) ?_
      show Rest p.tables e below s _ _ _ (s₁.setTop (mkF m 21 #[.val (.int p0), .val (.int (p0 ||| (32 : Int32)))] []))
      refine Rest.via (fun t k => XS.iconst X0.here hx rfl (hb hby d1_21) k) ?_
      show Rest p.tables e below s _ _ _ (s₁.setTop (mkF m 22 #[.val (.int p0), .val (.int (p0 ||| (32 : Int32)))] [(.int (0 : Int32))]))
      refine Rest.ret X0 (v := some (.int (nar .boolean (0 : Int32)))) (fun h => by rw [Bd.returns] at h; cases h) hlk (fun fs hr => retN X0 hx (t := .boolean) Bd.returns (by simp) (hb hby d1_22) hr) ?_ (by decide) (by decide)
      rw [eh0]
      exact ⟨by show some (Value.int (0 : Int32)) = _; rw [own_al, if_neg hc8, if_pos hc14], N0, rfl⟩
    · refine Rest.via (fun t k => XS.icmpNo X0.here hx rfl (hb hby d1_14) rfl (flt hc14).2.2.1 k) ?_
      show Rest p.tables e below s _ _ _ (s₁.setTop (mkF m 17 #[.val (.int p0), .val (.int (p0 ||| (32 : Int32)))] []))
      refine Rest.via (fun t k => XS.iconst X0.here hx rfl (hb hby d1_17) k) ?_
      show Rest p.tables e below s _ _ _ (s₁.setTop (mkF m 18 #[.val (.int p0), .val (.int (p0 ||| (32 : Int32)))] [(.int (1 : Int32))]))
      refine Rest.via (fun t k => XS.goto X0.here hx rfl (pc0 := 18) (pc' := 22) rfl (hb hby d1_18) (by decide) (by decide) k) ?_
      show Rest p.tables e below s _ _ _ (s₁.setTop (mkF m 22 #[.val (.int p0), .val (.int (p0 ||| (32 : Int32)))] [(.int (1 : Int32))]))
      refine Rest.ret X0 (v := some (.int (nar .boolean (1 : Int32)))) (fun h => by rw [Bd.returns] at h; cases h) hlk (fun fs hr => retN X0 hx (t := .boolean) Bd.returns (by simp) (hb hby d1_22) hr) ?_ (by decide) (by decide)
      rw [eh0]
      exact ⟨by show some (Value.int (1 : Int32)) = _; rw [own_al, if_neg hc8, if_neg hc14], N0, rfl⟩
theorem d2_0 : decode method_4_code 0 = .ok (.iload_n 0, 1) := by decide +kernel
theorem d2_1 : decode method_4_code 1 = .ok (.i2l, 1) := by decide +kernel
theorem d2_2 : decode method_4_code 2 = .ok (.ldc2_w 21, 3) := by decide +kernel
theorem d2_5 : decode method_4_code 5 = .ok (.lsub, 1) := by decide +kernel
theorem d2_6 : decode method_4_code 6 = .ok (.lstore_n 1, 1) := by decide +kernel
theorem d2_7 : decode method_4_code 7 = .ok (.lload_n 1, 1) := by decide +kernel
theorem d2_8 : decode method_4_code 8 = .ok (.lconst 0, 1) := by decide +kernel
theorem d2_9 : decode method_4_code 9 = .ok (.lcmp, 1) := by decide +kernel
theorem d2_10 : decode method_4_code 10 = .ok (.ifCond .lt 15, 3) := by decide +kernel
theorem d2_13 : decode method_4_code 13 = .ok (.lload_n 1, 1) := by decide +kernel
theorem d2_14 : decode method_4_code 14 = .ok (.ldc2_w 23, 3) := by decide +kernel
theorem d2_17 : decode method_4_code 17 = .ok (.lcmp, 1) := by decide +kernel
theorem d2_18 : decode method_4_code 18 = .ok (.ifCond .ge 7, 3) := by decide +kernel
theorem d2_21 : decode method_4_code 21 = .ok (.iconst 1, 1) := by decide +kernel
theorem d2_22 : decode method_4_code 22 = .ok (.goto 4, 3) := by decide +kernel
theorem d2_25 : decode method_4_code 25 = .ok (.iconst 0, 1) := by decide +kernel
theorem d2_26 : decode method_4_code 26 = .ok (.ireturn, 1) := by decide +kernel
theorem ef_B (m : MethodId) (p0 : Int32) : entryFrame m #[(.int p0)] 3 = mkF m 0 #[.val (.int p0), .unset, .unset] [] := by first | (simp [entryFrame, mkF, argsToLocals, Value.category, maxLocals]; done) | rfl
def QB (Z : State) (p0 : Int32) (h0 : Heap) (n0 : Nat) (v : Option Value) (h : Heap) (L : List Loc) : Prop := v = some (.int (own_ad p0)) ∧ Fr n0 L ∧ h = h0
set_option maxRecDepth 65536 in
set_option maxHeartbeats 40000000 in
theorem rmB (l : Launch) (Z : State) (aw : Array Value) (hw : ∀ d ∈ tables_1, d.before aw Z = true) (ws : List Jvm.Cond) (p0 : Int32) (h0 : Heap) (n0 : Nat) (Z0 : n0 ≤ h0.size)  :
    MetFree l (⟨"com/example/vested_pointer/vestedpointer/mappingtable/HttpUrlIsLetterOrDigitPinLaw", "isAsciiDigit", "(I)Z"⟩ : MethodName) (head1 (Jvm.Cond.code (⟨"com/example/vested_pointer/vestedpointer/mappingtable/HttpUrlIsLetterOrDigitPinLaw", "isAsciiDigit", "(I)Z"⟩ : MethodName) method_4_code 3 (some .boolean) :: ws) ({ frames := 0, cells := 0, slots := 0, locals := 0 } : Room)) (fun a U => a = #[(.int p0)] ∧ Z.Warmed39 U.vm ∧ U.heap = h0) (fun _ _ _ _ _ => True) (fun _ U o U' => ∃ v L, o = .returned v ∧ QB Z p0 h0 n0 v U'.heap L ∧ FrameEnd U o U' L ({ frames := 0, cells := 0, slots := 0, locals := 0 } : Room).cells ({ frames := 0, cells := 0, slots := 0, locals := 0 } : Room).slots) := by
  refine MetFree.of_bodySF (plainFor_of_name pn_0) hisR ?_
  intro p e s m args below meth c s₁ Bd hml0 hP hK
  obtain ⟨rfl, hZ, hh⟩ := hP
  have hx := Bd.exec
  have hby := Bd.bytes
  have hml : c.maxLocals = 3 := hml0
  have hown : s.vm.findClass "com/example/vested_pointer/vestedpointer/mappingtable/HttpUrlIsLetterOrDigitPinLaw" = some m.cls := findClass_of_methodNamed Bd.named
  have hnm := (name_of_methodNamed Bd.named Bd.method).1
  have hlk : meth.locks = false := BodyLoose.notSynchronized Bd
  have X0 : Stand p l e ({ frames := 0, cells := 0, slots := 0, locals := 0 } : Room) s m #[(.int p0)] below meth c s₁ [] 0 0 := Stand.of_body Bd
  have eh0 : s₁.heap = h0 := by rw [← hh, Bd.state]; rfl
  have N0 := Fr.nil n0
  show Rest p.tables e below s (QB Z p0 h0 n0) _ _ (s₁.setTop (entryFrame m #[(.int p0)] 3))
  refine Rest.via (fun t k => castTop (ef_B m p0) k) ?_
  show Rest p.tables e below s _ _ _ (s₁.setTop (mkF m 0 #[.val (.int p0), .unset, .unset] []))
  refine Rest.via (fun t k => XS.iloadN X0.here hx rfl (hb hby d2_0) rfl k) ?_
  show Rest p.tables e below s _ _ _ (s₁.setTop (mkF m 1 #[.val (.int p0), .unset, .unset] [(.int p0)]))
  refine Rest.via (fun t k => XS.i2l X0.here hx rfl (hb hby d2_1) rfl k) ?_
  show Rest p.tables e below s _ _ _ (s₁.setTop (mkF m 2 #[.val (.int p0), .unset, .unset] [(.long (p0.toInt64))]))
  refine Rest.via (fun t k => X0.ldc2Long hx hown (mvT hZ (hw _ (List.mem_of_getElem? (i := 7) rfl))) (g := (mkF m 2 #[.val (.int p0), .unset, .unset] [(.long (p0.toInt64))])) rfl (hb hby d2_2) t k) ?_
  show Rest p.tables e below s _ _ _ (s₁.setTop (mkF m 5 #[.val (.int p0), .unset, .unset] [(.long (48 : Int64)), (.long (p0.toInt64))]))
  refine Rest.via (fun t k => XS.lsub X0.here hx rfl (hb hby d2_5) rfl k) ?_
  show Rest p.tables e below s _ _ _ (s₁.setTop (mkF m 6 #[.val (.int p0), .unset, .unset] [(.long ((p0.toInt64) - (48 : Int64)))]))
  refine Rest.via (fun t k => XS.lstoreN X0.here hx rfl (hb hby d2_6) rfl (l' := #[.val (.int p0), .val (.long ((p0.toInt64) - (48 : Int64))), .second]) rfl k) ?_
  show Rest p.tables e below s _ _ _ (s₁.setTop (mkF m 7 #[.val (.int p0), .val (.long ((p0.toInt64) - (48 : Int64))), .second] []))
  refine Rest.via (fun t k => XS.lloadN X0.here hx rfl (hb hby d2_7) rfl k) ?_
  show Rest p.tables e below s _ _ _ (s₁.setTop (mkF m 8 #[.val (.int p0), .val (.long ((p0.toInt64) - (48 : Int64))), .second] [(.long ((p0.toInt64) - (48 : Int64)))]))
  refine Rest.via (fun t k => XS.lconst X0.here hx rfl (hb hby d2_8) k) ?_
  show Rest p.tables e below s _ _ _ (s₁.setTop (mkF m 9 #[.val (.int p0), .val (.long ((p0.toInt64) - (48 : Int64))), .second] [(.long (0 : Int64)), (.long ((p0.toInt64) - (48 : Int64)))]))
  refine Rest.via (fun t k => XS.lcmp X0.here hx rfl (hb hby d2_9) rfl k) ?_
  show Rest p.tables e below s _ _ _ (s₁.setTop (mkF m 10 #[.val (.int p0), .val (.long ((p0.toInt64) - (48 : Int64))), .second] [(.int (lcmpW ((p0.toInt64) - (48 : Int64)) (0 : Int64)))]))
  by_cases hc10 : ((p0.toInt64) - (48 : Int64)) < (0 : Int64)
  · refine Rest.via (fun t k => XS.ifYes X0.here hx rfl (pc0 := 10) (pc' := 25) rfl (hb hby d2_10) rfl ((if0 _ _).trans (tlt ((lw_lt _ _).mpr hc10)).1) (by decide) (by decide) k) ?_
    show Rest p.tables e below s _ _ _ (s₁.setTop (mkF m 25 #[.val (.int p0), .val (.long ((p0.toInt64) - (48 : Int64))), .second] []))
    refine Rest.via (fun t k => XS.iconst X0.here hx rfl (hb hby d2_25) k) ?_
    show Rest p.tables e below s _ _ _ (s₁.setTop (mkF m 26 #[.val (.int p0), .val (.long ((p0.toInt64) - (48 : Int64))), .second] [(.int (0 : Int32))]))
    refine Rest.ret X0 (v := some (.int (nar .boolean (0 : Int32)))) (fun h => by rw [Bd.returns] at h; cases h) hlk (fun fs hr => retN X0 hx (t := .boolean) Bd.returns (by simp) (hb hby d2_26) hr) ?_ (by decide) (by decide)
    rw [eh0]
    exact ⟨by show some (Value.int (0 : Int32)) = _; rw [own_ad, if_pos hc10], N0, rfl⟩
  · refine Rest.via (fun t k => XS.ifNo X0.here hx rfl (hb hby d2_10) rfl ((if0 _ _).trans (flt (fun q => hc10 ((lw_lt _ _).mp q))).1) k) ?_
    show Rest p.tables e below s _ _ _ (s₁.setTop (mkF m 13 #[.val (.int p0), .val (.long ((p0.toInt64) - (48 : Int64))), .second] []))
    refine Rest.via (fun t k => XS.lloadN X0.here hx rfl (hb hby d2_13) rfl k) ?_
    show Rest p.tables e below s _ _ _ (s₁.setTop (mkF m 14 #[.val (.int p0), .val (.long ((p0.toInt64) - (48 : Int64))), .second] [(.long ((p0.toInt64) - (48 : Int64)))]))
    refine Rest.via (fun t k => X0.ldc2Long hx hown (mvT hZ (hw _ (List.mem_of_getElem? (i := 18) rfl))) (g := (mkF m 14 #[.val (.int p0), .val (.long ((p0.toInt64) - (48 : Int64))), .second] [(.long ((p0.toInt64) - (48 : Int64)))])) rfl (hb hby d2_14) t k) ?_
    show Rest p.tables e below s _ _ _ (s₁.setTop (mkF m 17 #[.val (.int p0), .val (.long ((p0.toInt64) - (48 : Int64))), .second] [(.long (10 : Int64)), (.long ((p0.toInt64) - (48 : Int64)))]))
    refine Rest.via (fun t k => XS.lcmp X0.here hx rfl (hb hby d2_17) rfl k) ?_
    show Rest p.tables e below s _ _ _ (s₁.setTop (mkF m 18 #[.val (.int p0), .val (.long ((p0.toInt64) - (48 : Int64))), .second] [(.int (lcmpW ((p0.toInt64) - (48 : Int64)) (10 : Int64)))]))
    by_cases hc18 : ((p0.toInt64) - (48 : Int64)) < (10 : Int64)
    · refine Rest.via (fun t k => XS.ifNo X0.here hx rfl (hb hby d2_18) rfl ((if0 _ _).trans (tlt ((lw_lt _ _).mpr hc18)).2.1) k) ?_
      show Rest p.tables e below s _ _ _ (s₁.setTop (mkF m 21 #[.val (.int p0), .val (.long ((p0.toInt64) - (48 : Int64))), .second] []))
      refine Rest.via (fun t k => XS.iconst X0.here hx rfl (hb hby d2_21) k) ?_
      show Rest p.tables e below s _ _ _ (s₁.setTop (mkF m 22 #[.val (.int p0), .val (.long ((p0.toInt64) - (48 : Int64))), .second] [(.int (1 : Int32))]))
      refine Rest.via (fun t k => XS.goto X0.here hx rfl (pc0 := 22) (pc' := 26) rfl (hb hby d2_22) (by decide) (by decide) k) ?_
      show Rest p.tables e below s _ _ _ (s₁.setTop (mkF m 26 #[.val (.int p0), .val (.long ((p0.toInt64) - (48 : Int64))), .second] [(.int (1 : Int32))]))
      refine Rest.ret X0 (v := some (.int (nar .boolean (1 : Int32)))) (fun h => by rw [Bd.returns] at h; cases h) hlk (fun fs hr => retN X0 hx (t := .boolean) Bd.returns (by simp) (hb hby d2_26) hr) ?_ (by decide) (by decide)
      rw [eh0]
      exact ⟨by show some (Value.int (1 : Int32)) = _; rw [own_ad, if_neg hc10, if_pos hc18], N0, rfl⟩
    · refine Rest.via (fun t k => XS.ifYes X0.here hx rfl (pc0 := 18) (pc' := 25) rfl (hb hby d2_18) rfl ((if0 _ _).trans (flt (fun q => hc18 ((lw_lt _ _).mp q))).2.1) (by decide) (by decide) k) ?_
      show Rest p.tables e below s _ _ _ (s₁.setTop (mkF m 25 #[.val (.int p0), .val (.long ((p0.toInt64) - (48 : Int64))), .second] []))
      refine Rest.via (fun t k => XS.iconst X0.here hx rfl (hb hby d2_25) k) ?_
      show Rest p.tables e below s _ _ _ (s₁.setTop (mkF m 26 #[.val (.int p0), .val (.long ((p0.toInt64) - (48 : Int64))), .second] [(.int (0 : Int32))]))
      refine Rest.ret X0 (v := some (.int (nar .boolean (0 : Int32)))) (fun h => by rw [Bd.returns] at h; cases h) hlk (fun fs hr => retN X0 hx (t := .boolean) Bd.returns (by simp) (hb hby d2_26) hr) ?_ (by decide) (by decide)
      rw [eh0]
      exact ⟨by show some (Value.int (0 : Int32)) = _; rw [own_ad, if_neg hc10, if_neg hc18], N0, rfl⟩
theorem d4_0 : decode prog_17_method_12_code 0 = .ok (.iload_n 0, 1) := by decide +kernel
theorem d4_1 : decode prog_17_method_12_code 1 = .ok (.bipush 97, 2) := by decide +kernel
theorem d4_3 : decode prog_17_method_12_code 3 = .ok (.if_icmp .lt 9, 3) := by decide +kernel
theorem d4_6 : decode prog_17_method_12_code 6 = .ok (.iload_n 0, 1) := by decide +kernel
theorem d4_7 : decode prog_17_method_12_code 7 = .ok (.bipush 122, 2) := by decide +kernel
theorem d4_9 : decode prog_17_method_12_code 9 = .ok (.if_icmp .le 15, 3) := by decide +kernel
theorem d4_12 : decode prog_17_method_12_code 12 = .ok (.iload_n 0, 1) := by decide +kernel
theorem d4_13 : decode prog_17_method_12_code 13 = .ok (.bipush 65, 2) := by decide +kernel
theorem d4_15 : decode prog_17_method_12_code 15 = .ok (.if_icmp .lt 13, 3) := by decide +kernel
theorem d4_18 : decode prog_17_method_12_code 18 = .ok (.iload_n 0, 1) := by decide +kernel
theorem d4_19 : decode prog_17_method_12_code 19 = .ok (.bipush 90, 2) := by decide +kernel
theorem d4_21 : decode prog_17_method_12_code 21 = .ok (.if_icmp .gt 7, 3) := by decide +kernel
theorem d4_24 : decode prog_17_method_12_code 24 = .ok (.iconst 1, 1) := by decide +kernel
theorem d4_25 : decode prog_17_method_12_code 25 = .ok (.goto 4, 3) := by decide +kernel
theorem d4_28 : decode prog_17_method_12_code 28 = .ok (.iconst 0, 1) := by decide +kernel
theorem d4_29 : decode prog_17_method_12_code 29 = .ok (.ireturn, 1) := by decide +kernel
theorem pn_1 : plainName "com/example/vested_pointer/vestedpointer/mappingtable/HttpUrl" = true := by first | (simp [plainName, overriddenIn]; done) | decide +kernel
theorem ef_C (m : MethodId) (p0 : Int32) : entryFrame m #[(.int p0)] 1 = mkF m 0 #[.val (.int p0)] [] := by first | (simp [entryFrame, mkF, argsToLocals, Value.category, maxLocals]; done) | rfl
def QC (Z : State) (p0 : Int32) (h0 : Heap) (n0 : Nat) (v : Option Value) (h : Heap) (L : List Loc) : Prop := v = some (.int (own_le p0)) ∧ Fr n0 L ∧ h = h0
set_option maxRecDepth 65536 in
set_option maxHeartbeats 40000000 in
theorem rmC (l : Launch) (Z : State) (aw : Array Value) (hw : ∀ d ∈ tables_1, d.before aw Z = true) (ws : List Jvm.Cond) (p0 : Int32) (h0 : Heap) (n0 : Nat) (Z0 : n0 ≤ h0.size)  :
    MetFree l (⟨"com/example/vested_pointer/vestedpointer/mappingtable/HttpUrl", "isLetter", "(I)Z"⟩ : MethodName) (head1 (Jvm.Cond.code (⟨"com/example/vested_pointer/vestedpointer/mappingtable/HttpUrl", "isLetter", "(I)Z"⟩ : MethodName) prog_17_method_12_code 1 (some .boolean) :: ws) ({ frames := 0, cells := 0, slots := 0, locals := 0 } : Room)) (fun a U => a = #[(.int p0)] ∧ Z.Warmed39 U.vm ∧ U.heap = h0) (fun _ _ _ _ _ => True) (fun _ U o U' => ∃ v L, o = .returned v ∧ QC Z p0 h0 n0 v U'.heap L ∧ FrameEnd U o U' L ({ frames := 0, cells := 0, slots := 0, locals := 0 } : Room).cells ({ frames := 0, cells := 0, slots := 0, locals := 0 } : Room).slots) := by
  refine MetFree.of_bodySF (plainFor_of_name pn_1) hisR ?_
  intro p e s m args below meth c s₁ Bd hml0 hP hK
  obtain ⟨rfl, hZ, hh⟩ := hP
  have hx := Bd.exec
  have hby := Bd.bytes
  have hml : c.maxLocals = 1 := hml0
  have hown : s.vm.findClass "com/example/vested_pointer/vestedpointer/mappingtable/HttpUrl" = some m.cls := findClass_of_methodNamed Bd.named
  have hnm := (name_of_methodNamed Bd.named Bd.method).1
  have hlk : meth.locks = false := BodyLoose.notSynchronized Bd
  have X0 : Stand p l e ({ frames := 0, cells := 0, slots := 0, locals := 0 } : Room) s m #[(.int p0)] below meth c s₁ [] 0 0 := Stand.of_body Bd
  have eh0 : s₁.heap = h0 := by rw [← hh, Bd.state]; rfl
  have N0 := Fr.nil n0
  show Rest p.tables e below s (QC Z p0 h0 n0) _ _ (s₁.setTop (entryFrame m #[(.int p0)] 1))
  refine Rest.via (fun t k => castTop (ef_C m p0) k) ?_
  show Rest p.tables e below s _ _ _ (s₁.setTop (mkF m 0 #[.val (.int p0)] []))
  refine Rest.via (fun t k => XS.iloadN X0.here hx rfl (hb hby d4_0) rfl k) ?_
  show Rest p.tables e below s _ _ _ (s₁.setTop (mkF m 1 #[.val (.int p0)] [(.int p0)]))
  refine Rest.via (fun t k => XS.bipush X0.here hx rfl (hb hby d4_1) k) ?_
  show Rest p.tables e below s _ _ _ (s₁.setTop (mkF m 3 #[.val (.int p0)] [(.int (97 : Int32)), (.int p0)]))
  by_cases hc3 : p0 < (97 : Int32)
  · refine Rest.via (fun t k => XS.icmpYes X0.here hx rfl (pc0 := 3) (pc' := 12) rfl (hb hby d4_3) rfl (tlt hc3).1 (by decide) (by decide) k) ?_
    show Rest p.tables e below s _ _ _ (s₁.setTop (mkF m 12 #[.val (.int p0)] []))
    refine Rest.via (fun t k => XS.iloadN X0.here hx rfl (hb hby d4_12) rfl k) ?_
    show Rest p.tables e below s _ _ _ (s₁.setTop (mkF m 13 #[.val (.int p0)] [(.int p0)]))
    refine Rest.via (fun t k => XS.bipush X0.here hx rfl (hb hby d4_13) k) ?_
    show Rest p.tables e below s _ _ _ (s₁.setTop (mkF m 15 #[.val (.int p0)] [(.int (65 : Int32)), (.int p0)]))
    by_cases hc15 : p0 < (65 : Int32)
    · refine Rest.via (fun t k => XS.icmpYes X0.here hx rfl (pc0 := 15) (pc' := 28) rfl (hb hby d4_15) rfl (tlt hc15).1 (by decide) (by decide) k) ?_
      show Rest p.tables e below s _ _ _ (s₁.setTop (mkF m 28 #[.val (.int p0)] []))
      refine Rest.via (fun t k => XS.iconst X0.here hx rfl (hb hby d4_28) k) ?_
      show Rest p.tables e below s _ _ _ (s₁.setTop (mkF m 29 #[.val (.int p0)] [(.int (0 : Int32))]))
      refine Rest.ret X0 (v := some (.int (nar .boolean (0 : Int32)))) (fun h => by rw [Bd.returns] at h; cases h) hlk (fun fs hr => retN X0 hx (t := .boolean) Bd.returns (by simp) (hb hby d4_29) hr) ?_ (by decide) (by decide)
      rw [eh0]
      exact ⟨by show some (Value.int (0 : Int32)) = _; rw [own_le, if_pos hc3, if_pos hc15], N0, rfl⟩
    · refine Rest.via (fun t k => XS.icmpNo X0.here hx rfl (hb hby d4_15) rfl (flt hc15).1 k) ?_
      show Rest p.tables e below s _ _ _ (s₁.setTop (mkF m 18 #[.val (.int p0)] []))
      refine Rest.via (fun t k => XS.iloadN X0.here hx rfl (hb hby d4_18) rfl k) ?_
      show Rest p.tables e below s _ _ _ (s₁.setTop (mkF m 19 #[.val (.int p0)] [(.int p0)]))
      refine Rest.via (fun t k => XS.bipush X0.here hx rfl (hb hby d4_19) k) ?_
      show Rest p.tables e below s _ _ _ (s₁.setTop (mkF m 21 #[.val (.int p0)] [(.int (90 : Int32)), (.int p0)]))
      by_cases hc21 : (90 : Int32) < p0
      · refine Rest.via (fun t k => XS.icmpYes X0.here hx rfl (pc0 := 21) (pc' := 28) rfl (hb hby d4_21) rfl (tlt hc21).2.2.1 (by decide) (by decide) k) ?_
        show Rest p.tables e below s _ _ _ (s₁.setTop (mkF m 28 #[.val (.int p0)] []))
        refine Rest.via (fun t k => XS.iconst X0.here hx rfl (hb hby d4_28) k) ?_
        show Rest p.tables e below s _ _ _ (s₁.setTop (mkF m 29 #[.val (.int p0)] [(.int (0 : Int32))]))
        refine Rest.ret X0 (v := some (.int (nar .boolean (0 : Int32)))) (fun h => by rw [Bd.returns] at h; cases h) hlk (fun fs hr => retN X0 hx (t := .boolean) Bd.returns (by simp) (hb hby d4_29) hr) ?_ (by decide) (by decide)
        rw [eh0]
        exact ⟨by show some (Value.int (0 : Int32)) = _; rw [own_le, if_pos hc3, if_neg hc15, if_pos hc21], N0, rfl⟩
      · refine Rest.via (fun t k => XS.icmpNo X0.here hx rfl (hb hby d4_21) rfl (flt hc21).2.2.1 k) ?_
        show Rest p.tables e below s _ _ _ (s₁.setTop (mkF m 24 #[.val (.int p0)] []))
        refine Rest.via (fun t k => XS.iconst X0.here hx rfl (hb hby d4_24) k) ?_
        show Rest p.tables e below s _ _ _ (s₁.setTop (mkF m 25 #[.val (.int p0)] [(.int (1 : Int32))]))
        refine Rest.via (fun t k => XS.goto X0.here hx rfl (pc0 := 25) (pc' := 29) rfl (hb hby d4_25) (by decide) (by decide) k) ?_
        show Rest p.tables e below s _ _ _ (s₁.setTop (mkF m 29 #[.val (.int p0)] [(.int (1 : Int32))]))
        refine Rest.ret X0 (v := some (.int (nar .boolean (1 : Int32)))) (fun h => by rw [Bd.returns] at h; cases h) hlk (fun fs hr => retN X0 hx (t := .boolean) Bd.returns (by simp) (hb hby d4_29) hr) ?_ (by decide) (by decide)
        rw [eh0]
        exact ⟨by show some (Value.int (1 : Int32)) = _; rw [own_le, if_pos hc3, if_neg hc15, if_neg hc21], N0, rfl⟩
  · refine Rest.via (fun t k => XS.icmpNo X0.here hx rfl (hb hby d4_3) rfl (flt hc3).1 k) ?_
    show Rest p.tables e below s _ _ _ (s₁.setTop (mkF m 6 #[.val (.int p0)] []))
    refine Rest.via (fun t k => XS.iloadN X0.here hx rfl (hb hby d4_6) rfl k) ?_
    show Rest p.tables e below s _ _ _ (s₁.setTop (mkF m 7 #[.val (.int p0)] [(.int p0)]))
    refine Rest.via (fun t k => XS.bipush X0.here hx rfl (hb hby d4_7) k) ?_
    show Rest p.tables e below s _ _ _ (s₁.setTop (mkF m 9 #[.val (.int p0)] [(.int (122 : Int32)), (.int p0)]))
    by_cases hc9 : (122 : Int32) < p0
    · refine Rest.via (fun t k => XS.icmpNo X0.here hx rfl (hb hby d4_9) rfl (tlt hc9).2.2.2 k) ?_
      show Rest p.tables e below s _ _ _ (s₁.setTop (mkF m 12 #[.val (.int p0)] []))
      refine Rest.via (fun t k => XS.iloadN X0.here hx rfl (hb hby d4_12) rfl k) ?_
      show Rest p.tables e below s _ _ _ (s₁.setTop (mkF m 13 #[.val (.int p0)] [(.int p0)]))
      refine Rest.via (fun t k => XS.bipush X0.here hx rfl (hb hby d4_13) k) ?_
      show Rest p.tables e below s _ _ _ (s₁.setTop (mkF m 15 #[.val (.int p0)] [(.int (65 : Int32)), (.int p0)]))
      by_cases hc15 : p0 < (65 : Int32)
      · refine Rest.via (fun t k => XS.icmpYes X0.here hx rfl (pc0 := 15) (pc' := 28) rfl (hb hby d4_15) rfl (tlt hc15).1 (by decide) (by decide) k) ?_
        show Rest p.tables e below s _ _ _ (s₁.setTop (mkF m 28 #[.val (.int p0)] []))
        refine Rest.via (fun t k => XS.iconst X0.here hx rfl (hb hby d4_28) k) ?_
        show Rest p.tables e below s _ _ _ (s₁.setTop (mkF m 29 #[.val (.int p0)] [(.int (0 : Int32))]))
        refine Rest.ret X0 (v := some (.int (nar .boolean (0 : Int32)))) (fun h => by rw [Bd.returns] at h; cases h) hlk (fun fs hr => retN X0 hx (t := .boolean) Bd.returns (by simp) (hb hby d4_29) hr) ?_ (by decide) (by decide)
        rw [eh0]
        exact ⟨by show some (Value.int (0 : Int32)) = _; rw [own_le, if_neg hc3, if_pos hc9, if_pos hc15], N0, rfl⟩
      · refine Rest.via (fun t k => XS.icmpNo X0.here hx rfl (hb hby d4_15) rfl (flt hc15).1 k) ?_
        show Rest p.tables e below s _ _ _ (s₁.setTop (mkF m 18 #[.val (.int p0)] []))
        refine Rest.via (fun t k => XS.iloadN X0.here hx rfl (hb hby d4_18) rfl k) ?_
        show Rest p.tables e below s _ _ _ (s₁.setTop (mkF m 19 #[.val (.int p0)] [(.int p0)]))
        refine Rest.via (fun t k => XS.bipush X0.here hx rfl (hb hby d4_19) k) ?_
        show Rest p.tables e below s _ _ _ (s₁.setTop (mkF m 21 #[.val (.int p0)] [(.int (90 : Int32)), (.int p0)]))
        by_cases hc21 : (90 : Int32) < p0
        · refine Rest.via (fun t k => XS.icmpYes X0.here hx rfl (pc0 := 21) (pc' := 28) rfl (hb hby d4_21) rfl (tlt hc21).2.2.1 (by decide) (by decide) k) ?_
          show Rest p.tables e below s _ _ _ (s₁.setTop (mkF m 28 #[.val (.int p0)] []))
          refine Rest.via (fun t k => XS.iconst X0.here hx rfl (hb hby d4_28) k) ?_
          show Rest p.tables e below s _ _ _ (s₁.setTop (mkF m 29 #[.val (.int p0)] [(.int (0 : Int32))]))
          refine Rest.ret X0 (v := some (.int (nar .boolean (0 : Int32)))) (fun h => by rw [Bd.returns] at h; cases h) hlk (fun fs hr => retN X0 hx (t := .boolean) Bd.returns (by simp) (hb hby d4_29) hr) ?_ (by decide) (by decide)
          rw [eh0]
          exact ⟨by show some (Value.int (0 : Int32)) = _; rw [own_le, if_neg hc3, if_pos hc9, if_neg hc15, if_pos hc21], N0, rfl⟩
        · refine Rest.via (fun t k => XS.icmpNo X0.here hx rfl (hb hby d4_21) rfl (flt hc21).2.2.1 k) ?_
          show Rest p.tables e below s _ _ _ (s₁.setTop (mkF m 24 #[.val (.int p0)] []))
          refine Rest.via (fun t k => XS.iconst X0.here hx rfl (hb hby d4_24) k) ?_
          show Rest p.tables e below s _ _ _ (s₁.setTop (mkF m 25 #[.val (.int p0)] [(.int (1 : Int32))]))
          refine Rest.via (fun t k => XS.goto X0.here hx rfl (pc0 := 25) (pc' := 29) rfl (hb hby d4_25) (by decide) (by decide) k) ?_
          show Rest p.tables e below s _ _ _ (s₁.setTop (mkF m 29 #[.val (.int p0)] [(.int (1 : Int32))]))
          refine Rest.ret X0 (v := some (.int (nar .boolean (1 : Int32)))) (fun h => by rw [Bd.returns] at h; cases h) hlk (fun fs hr => retN X0 hx (t := .boolean) Bd.returns (by simp) (hb hby d4_29) hr) ?_ (by decide) (by decide)
          rw [eh0]
          exact ⟨by show some (Value.int (1 : Int32)) = _; rw [own_le, if_neg hc3, if_pos hc9, if_neg hc15, if_neg hc21], N0, rfl⟩
    · refine Rest.via (fun t k => XS.icmpYes X0.here hx rfl (pc0 := 9) (pc' := 24) rfl (hb hby d4_9) rfl (flt hc9).2.2.2 (by decide) (by decide) k) ?_
      show Rest p.tables e below s _ _ _ (s₁.setTop (mkF m 24 #[.val (.int p0)] []))
      refine Rest.via (fun t k => XS.iconst X0.here hx rfl (hb hby d4_24) k) ?_
      show Rest p.tables e below s _ _ _ (s₁.setTop (mkF m 25 #[.val (.int p0)] [(.int (1 : Int32))]))
      refine Rest.via (fun t k => XS.goto X0.here hx rfl (pc0 := 25) (pc' := 29) rfl (hb hby d4_25) (by decide) (by decide) k) ?_
      show Rest p.tables e below s _ _ _ (s₁.setTop (mkF m 29 #[.val (.int p0)] [(.int (1 : Int32))]))
      refine Rest.ret X0 (v := some (.int (nar .boolean (1 : Int32)))) (fun h => by rw [Bd.returns] at h; cases h) hlk (fun fs hr => retN X0 hx (t := .boolean) Bd.returns (by simp) (hb hby d4_29) hr) ?_ (by decide) (by decide)
      rw [eh0]
      exact ⟨by show some (Value.int (1 : Int32)) = _; rw [own_le, if_neg hc3, if_neg hc9], N0, rfl⟩
theorem d5_0 : decode prog_17_method_13_code 0 = .ok (.iload_n 0, 1) := by decide +kernel
theorem d5_1 : decode prog_17_method_13_code 1 = .ok (.bipush 48, 2) := by decide +kernel
theorem d5_3 : decode prog_17_method_13_code 3 = .ok (.if_icmp .lt 13, 3) := by decide +kernel
theorem d5_6 : decode prog_17_method_13_code 6 = .ok (.iload_n 0, 1) := by decide +kernel
theorem d5_7 : decode prog_17_method_13_code 7 = .ok (.bipush 57, 2) := by decide +kernel
theorem d5_9 : decode prog_17_method_13_code 9 = .ok (.if_icmp .gt 7, 3) := by decide +kernel
theorem d5_12 : decode prog_17_method_13_code 12 = .ok (.iconst 1, 1) := by decide +kernel
theorem d5_13 : decode prog_17_method_13_code 13 = .ok (.goto 4, 3) := by decide +kernel
theorem d5_16 : decode prog_17_method_13_code 16 = .ok (.iconst 0, 1) := by decide +kernel
theorem d5_17 : decode prog_17_method_13_code 17 = .ok (.ireturn, 1) := by decide +kernel
theorem ef_E (m : MethodId) (p0 : Int32) : entryFrame m #[(.int p0)] 1 = mkF m 0 #[.val (.int p0)] [] := by first | (simp [entryFrame, mkF, argsToLocals, Value.category, maxLocals]; done) | rfl
def QE (Z : State) (p0 : Int32) (h0 : Heap) (n0 : Nat) (v : Option Value) (h : Heap) (L : List Loc) : Prop := v = some (.int (own_di p0)) ∧ Fr n0 L ∧ h = h0
set_option maxRecDepth 65536 in
set_option maxHeartbeats 40000000 in
theorem rmE (l : Launch) (Z : State) (aw : Array Value) (hw : ∀ d ∈ tables_1, d.before aw Z = true) (ws : List Jvm.Cond) (p0 : Int32) (h0 : Heap) (n0 : Nat) (Z0 : n0 ≤ h0.size)  :
    MetFree l (⟨"com/example/vested_pointer/vestedpointer/mappingtable/HttpUrl", "isDigit", "(I)Z"⟩ : MethodName) (head1 (Jvm.Cond.code (⟨"com/example/vested_pointer/vestedpointer/mappingtable/HttpUrl", "isDigit", "(I)Z"⟩ : MethodName) prog_17_method_13_code 1 (some .boolean) :: ws) ({ frames := 0, cells := 0, slots := 0, locals := 0 } : Room)) (fun a U => a = #[(.int p0)] ∧ Z.Warmed39 U.vm ∧ U.heap = h0) (fun _ _ _ _ _ => True) (fun _ U o U' => ∃ v L, o = .returned v ∧ QE Z p0 h0 n0 v U'.heap L ∧ FrameEnd U o U' L ({ frames := 0, cells := 0, slots := 0, locals := 0 } : Room).cells ({ frames := 0, cells := 0, slots := 0, locals := 0 } : Room).slots) := by
  refine MetFree.of_bodySF (plainFor_of_name pn_1) hisR ?_
  intro p e s m args below meth c s₁ Bd hml0 hP hK
  obtain ⟨rfl, hZ, hh⟩ := hP
  have hx := Bd.exec
  have hby := Bd.bytes
  have hml : c.maxLocals = 1 := hml0
  have hown : s.vm.findClass "com/example/vested_pointer/vestedpointer/mappingtable/HttpUrl" = some m.cls := findClass_of_methodNamed Bd.named
  have hnm := (name_of_methodNamed Bd.named Bd.method).1
  have hlk : meth.locks = false := BodyLoose.notSynchronized Bd
  have X0 : Stand p l e ({ frames := 0, cells := 0, slots := 0, locals := 0 } : Room) s m #[(.int p0)] below meth c s₁ [] 0 0 := Stand.of_body Bd
  have eh0 : s₁.heap = h0 := by rw [← hh, Bd.state]; rfl
  have N0 := Fr.nil n0
  show Rest p.tables e below s (QE Z p0 h0 n0) _ _ (s₁.setTop (entryFrame m #[(.int p0)] 1))
  refine Rest.via (fun t k => castTop (ef_E m p0) k) ?_
  show Rest p.tables e below s _ _ _ (s₁.setTop (mkF m 0 #[.val (.int p0)] []))
  refine Rest.via (fun t k => XS.iloadN X0.here hx rfl (hb hby d5_0) rfl k) ?_
  show Rest p.tables e below s _ _ _ (s₁.setTop (mkF m 1 #[.val (.int p0)] [(.int p0)]))
  refine Rest.via (fun t k => XS.bipush X0.here hx rfl (hb hby d5_1) k) ?_
  show Rest p.tables e below s _ _ _ (s₁.setTop (mkF m 3 #[.val (.int p0)] [(.int (48 : Int32)), (.int p0)]))
  by_cases hc3 : p0 < (48 : Int32)
  · refine Rest.via (fun t k => XS.icmpYes X0.here hx rfl (pc0 := 3) (pc' := 16) rfl (hb hby d5_3) rfl (tlt hc3).1 (by decide) (by decide) k) ?_
    show Rest p.tables e below s _ _ _ (s₁.setTop (mkF m 16 #[.val (.int p0)] []))
    refine Rest.via (fun t k => XS.iconst X0.here hx rfl (hb hby d5_16) k) ?_
    show Rest p.tables e below s _ _ _ (s₁.setTop (mkF m 17 #[.val (.int p0)] [(.int (0 : Int32))]))
    refine Rest.ret X0 (v := some (.int (nar .boolean (0 : Int32)))) (fun h => by rw [Bd.returns] at h; cases h) hlk (fun fs hr => retN X0 hx (t := .boolean) Bd.returns (by simp) (hb hby d5_17) hr) ?_ (by decide) (by decide)
    rw [eh0]
    exact ⟨by show some (Value.int (0 : Int32)) = _; rw [own_di, if_pos hc3], N0, rfl⟩
  · refine Rest.via (fun t k => XS.icmpNo X0.here hx rfl (hb hby d5_3) rfl (flt hc3).1 k) ?_
    show Rest p.tables e below s _ _ _ (s₁.setTop (mkF m 6 #[.val (.int p0)] []))
    refine Rest.via (fun t k => XS.iloadN X0.here hx rfl (hb hby d5_6) rfl k) ?_
    show Rest p.tables e below s _ _ _ (s₁.setTop (mkF m 7 #[.val (.int p0)] [(.int p0)]))
    refine Rest.via (fun t k => XS.bipush X0.here hx rfl (hb hby d5_7) k) ?_
    show Rest p.tables e below s _ _ _ (s₁.setTop (mkF m 9 #[.val (.int p0)] [(.int (57 : Int32)), (.int p0)]))
    by_cases hc9 : (57 : Int32) < p0
    · refine Rest.via (fun t k => XS.icmpYes X0.here hx rfl (pc0 := 9) (pc' := 16) rfl (hb hby d5_9) rfl (tlt hc9).2.2.1 (by decide) (by decide) k) ?_
      show Rest p.tables e below s _ _ _ (s₁.setTop (mkF m 16 #[.val (.int p0)] []))
      refine Rest.via (fun t k => XS.iconst X0.here hx rfl (hb hby d5_16) k) ?_
      show Rest p.tables e below s _ _ _ (s₁.setTop (mkF m 17 #[.val (.int p0)] [(.int (0 : Int32))]))
      refine Rest.ret X0 (v := some (.int (nar .boolean (0 : Int32)))) (fun h => by rw [Bd.returns] at h; cases h) hlk (fun fs hr => retN X0 hx (t := .boolean) Bd.returns (by simp) (hb hby d5_17) hr) ?_ (by decide) (by decide)
      rw [eh0]
      exact ⟨by show some (Value.int (0 : Int32)) = _; rw [own_di, if_neg hc3, if_pos hc9], N0, rfl⟩
    · refine Rest.via (fun t k => XS.icmpNo X0.here hx rfl (hb hby d5_9) rfl (flt hc9).2.2.1 k) ?_
      show Rest p.tables e below s _ _ _ (s₁.setTop (mkF m 12 #[.val (.int p0)] []))
      refine Rest.via (fun t k => XS.iconst X0.here hx rfl (hb hby d5_12) k) ?_
      show Rest p.tables e below s _ _ _ (s₁.setTop (mkF m 13 #[.val (.int p0)] [(.int (1 : Int32))]))
      refine Rest.via (fun t k => XS.goto X0.here hx rfl (pc0 := 13) (pc' := 17) rfl (hb hby d5_13) (by decide) (by decide) k) ?_
      show Rest p.tables e below s _ _ _ (s₁.setTop (mkF m 17 #[.val (.int p0)] [(.int (1 : Int32))]))
      refine Rest.ret X0 (v := some (.int (nar .boolean (1 : Int32)))) (fun h => by rw [Bd.returns] at h; cases h) hlk (fun fs hr => retN X0 hx (t := .boolean) Bd.returns (by simp) (hb hby d5_17) hr) ?_ (by decide) (by decide)
      rw [eh0]
      exact ⟨by show some (Value.int (1 : Int32)) = _; rw [own_di, if_neg hc3, if_neg hc9], N0, rfl⟩
theorem pd_0 : parseMethodDescriptor "(I)Z" = some ⟨[.int], some .boolean⟩ := by decide +kernel
theorem d3_0 : decode prog_17_method_14_code 0 = .ok (.iload_n 0, 1) := by decide +kernel
theorem d3_1 : decode prog_17_method_14_code 1 = .ok (.invokestatic 169, 3) := by decide +kernel
theorem d3_4 : decode prog_17_method_14_code 4 = .ok (.ifCond .ne 10, 3) := by decide +kernel
theorem d3_7 : decode prog_17_method_14_code 7 = .ok (.iload_n 0, 1) := by decide +kernel
theorem d3_8 : decode prog_17_method_14_code 8 = .ok (.invokestatic 111, 3) := by decide +kernel
theorem d3_11 : decode prog_17_method_14_code 11 = .ok (.ifCond .eq 7, 3) := by decide +kernel
theorem d3_14 : decode prog_17_method_14_code 14 = .ok (.iconst 1, 1) := by decide +kernel
theorem d3_15 : decode prog_17_method_14_code 15 = .ok (.goto 4, 3) := by decide +kernel
theorem d3_18 : decode prog_17_method_14_code 18 = .ok (.iconst 0, 1) := by decide +kernel
theorem d3_19 : decode prog_17_method_14_code 19 = .ok (.ireturn, 1) := by decide +kernel
theorem ef_G (m : MethodId) (p0 : Int32) : entryFrame m #[(.int p0)] 1 = mkF m 0 #[.val (.int p0)] [] := by first | (simp [entryFrame, mkF, argsToLocals, Value.category, maxLocals]; done) | rfl
def QG (Z : State) (p0 : Int32) (h0 : Heap) (n0 : Nat) (v : Option Value) (h : Heap) (L : List Loc) : Prop := v = some (.int (own_ld p0)) ∧ Fr n0 L ∧ h = h0
set_option maxRecDepth 65536 in
set_option maxHeartbeats 40000000 in
theorem rmG (l : Launch) (Z : State) (aw : Array Value) (hw : ∀ d ∈ tables_1, d.before aw Z = true) (ws : List Jvm.Cond) (p0 : Int32) (h0 : Heap) (n0 : Nat) (Z0 : n0 ≤ h0.size)  :
    MetFree l (⟨"com/example/vested_pointer/vestedpointer/mappingtable/HttpUrl", "isLetterOrDigit", "(I)Z"⟩ : MethodName) (head1 (Jvm.Cond.code (⟨"com/example/vested_pointer/vestedpointer/mappingtable/HttpUrl", "isLetterOrDigit", "(I)Z"⟩ : MethodName) prog_17_method_14_code 1 (some .boolean) :: ws) ({ frames := 1, cells := 0, slots := 0, locals := 12 } : Room)) (fun a U => a = #[(.int p0)] ∧ Z.Warmed39 U.vm ∧ U.heap = h0) (fun _ _ _ _ _ => True) (fun _ U o U' => ∃ v L, o = .returned v ∧ QG Z p0 h0 n0 v U'.heap L ∧ FrameEnd U o U' L ({ frames := 1, cells := 0, slots := 0, locals := 12 } : Room).cells ({ frames := 1, cells := 0, slots := 0, locals := 12 } : Room).slots) := by
  refine MetFree.of_bodySF (plainFor_of_name pn_1) hisR ?_
  intro p e s m args below meth c s₁ Bd hml0 hP hK
  obtain ⟨rfl, hZ, hh⟩ := hP
  have hx := Bd.exec
  have hby := Bd.bytes
  have hml : c.maxLocals = 1 := hml0
  have hown : s.vm.findClass "com/example/vested_pointer/vestedpointer/mappingtable/HttpUrl" = some m.cls := findClass_of_methodNamed Bd.named
  have hnm := (name_of_methodNamed Bd.named Bd.method).1
  have hlk : meth.locks = false := BodyLoose.notSynchronized Bd
  have X0 : Stand p l e ({ frames := 1, cells := 0, slots := 0, locals := 12 } : Room) s m #[(.int p0)] below meth c s₁ [] 0 0 := Stand.of_body Bd
  have eh0 : s₁.heap = h0 := by rw [← hh, Bd.state]; rfl
  have N0 := Fr.nil n0
  show Rest p.tables e below s (QG Z p0 h0 n0) _ _ (s₁.setTop (entryFrame m #[(.int p0)] 1))
  refine Rest.via (fun t k => castTop (ef_G m p0) k) ?_
  show Rest p.tables e below s _ _ _ (s₁.setTop (mkF m 0 #[.val (.int p0)] []))
  refine Rest.via (fun t k => XS.iloadN X0.here hx rfl (hb hby d3_0) rfl k) ?_
  show Rest p.tables e below s _ _ _ (s₁.setTop (mkF m 1 #[.val (.int p0)] [(.int p0)]))
  obtain ⟨_, _, ⟨T1, L1, k1, n1⟩, -, X1, ⟨Lc1, hQ1, l1, y1, z1⟩, st1⟩ := Jvm.LawKit.callS X0 hx (y := (⟨"com/example/vested_pointer/vestedpointer/mappingtable/HttpUrl", "isLetter", "(I)Z"⟩ : MethodName)) hown (mvT hZ (hw _ (List.mem_of_getElem? (i := 12) rfl))) (mvT hZ (hw _ (List.mem_of_getElem? (i := 13) rfl))) (mvT hZ (hw _ (List.mem_of_getElem? (i := 10) rfl))) (mvT hZ (hw _ (List.mem_of_getElem? (i := 14) rfl))) (by decide) (backOf (W := 0) (rmC l Z aw hw [] p0  h0 n0 (Nat.le_trans Z0 (Keep.refl h0 []).1) ) hZ (hw _ (List.mem_of_getElem? (i := 14) rfl)) (hw _ (List.mem_of_getElem? (i := 10) rfl)) (by decide) (by decide)) (g := (mkF m 1 #[.val (.int p0)] [(.int p0)])) rfl (by rw [hml]; rfl) (argsL := [(.int p0)]) (rest := []) (lenOf pd_0 rfl) rfl (by show 2 * 0 + _ ≤ _; exact Nat.le_of_eq rfl) (hb hby d3_1) (fun _ _ => ⟨rfl, eh0, (by decide : 0 + 0 ≤ _), (by decide : 0 + 0 ≤ _)⟩)
  dsimp only [Pt.U, Pt.locs, Pt.cells, Pt.slots] at X1 l1 y1 z1 st1 hQ1
  subst l1 y1 z1
  obtain ⟨rfl, Nq1, e1⟩ := hQ1
  have N1 := Fr.app N0 Nq1
  refine Rest.via (fun t k => st1 t k) ?_
  show Rest p.tables e below s _ _ _ (T1.setTop (mkF m 4 #[.val (.int p0)] [(.int (own_le p0))]))
  by_cases hc4 : (own_le p0) = (0 : Int32)
  · refine Rest.via (fun t k => XS.ifNo X1.here hx rfl (hb hby d3_4) rfl ((if0 _ _).trans (teq hc4).2) k) ?_
    show Rest p.tables e below s _ _ _ (T1.setTop (mkF m 7 #[.val (.int p0)] []))
    refine Rest.via (fun t k => XS.iloadN X1.here hx rfl (hb hby d3_7) rfl k) ?_
    show Rest p.tables e below s _ _ _ (T1.setTop (mkF m 8 #[.val (.int p0)] [(.int p0)]))
    obtain ⟨_, _, ⟨T2, L2, k2, n2⟩, -, X2, ⟨Lc2, hQ2, l2, y2, z2⟩, st2⟩ := Jvm.LawKit.callS X1 hx (y := (⟨"com/example/vested_pointer/vestedpointer/mappingtable/HttpUrl", "isDigit", "(I)Z"⟩ : MethodName)) hown (mvT hZ (hw _ (List.mem_of_getElem? (i := 15) rfl))) (mvT hZ (hw _ (List.mem_of_getElem? (i := 16) rfl))) (mvT hZ (hw _ (List.mem_of_getElem? (i := 10) rfl))) (mvT hZ (hw _ (List.mem_of_getElem? (i := 17) rfl))) (by decide) (backOf (W := 0) (rmE l Z aw hw [] p0  h0 n0 (Nat.le_trans Z0 (Keep.refl h0 []).1) ) hZ (hw _ (List.mem_of_getElem? (i := 17) rfl)) (hw _ (List.mem_of_getElem? (i := 10) rfl)) (by decide) (by decide)) (g := (mkF m 8 #[.val (.int p0)] [(.int p0)])) rfl (by rw [hml]; rfl) (argsL := [(.int p0)]) (rest := []) (lenOf pd_0 rfl) rfl (by show 2 * 0 + _ ≤ _; exact Nat.le_of_eq rfl) (hb hby d3_8) (fun _ _ => ⟨rfl, e1, (by decide : 0 + 0 ≤ _), (by decide : 0 + 0 ≤ _)⟩)
    dsimp only [Pt.U, Pt.locs, Pt.cells, Pt.slots] at X2 l2 y2 z2 st2 hQ2
    subst l2 y2 z2
    obtain ⟨rfl, Nq2, e2⟩ := hQ2
    have N2 := Fr.app N1 Nq2
    refine Rest.via (fun t k => st2 t k) ?_
    show Rest p.tables e below s _ _ _ (T2.setTop (mkF m 11 #[.val (.int p0)] [(.int (own_di p0))]))
    by_cases hc11 : (own_di p0) = (0 : Int32)
    · refine Rest.via (fun t k => XS.ifYes X2.here hx rfl (pc0 := 11) (pc' := 18) rfl (hb hby d3_11) rfl ((if0 _ _).trans (teq hc11).1) (by decide) (by decide) k) ?_
      show Rest p.tables e below s _ _ _ (T2.setTop (mkF m 18 #[.val (.int p0)] []))
      refine Rest.via (fun t k => XS.iconst X2.here hx rfl (hb hby d3_18) k) ?_
      show Rest p.tables e below s _ _ _ (T2.setTop (mkF m 19 #[.val (.int p0)] [(.int (0 : Int32))]))
      refine Rest.ret X2 (v := some (.int (nar .boolean (0 : Int32)))) (fun h => by rw [Bd.returns] at h; cases h) hlk (fun fs hr => retN X2 hx (t := .boolean) Bd.returns (by simp) (hb hby d3_19) hr) ?_ (by decide) (by decide)
      rw [e2]
      exact ⟨by show some (Value.int (0 : Int32)) = _; rw [own_ld, if_pos hc4, if_pos hc11], N2, rfl⟩
    · refine Rest.via (fun t k => XS.ifNo X2.here hx rfl (hb hby d3_11) rfl ((if0 _ _).trans (feq hc11).1) k) ?_
      show Rest p.tables e below s _ _ _ (T2.setTop (mkF m 14 #[.val (.int p0)] []))
      refine Rest.via (fun t k => XS.iconst X2.here hx rfl (hb hby d3_14) k) ?_
      show Rest p.tables e below s _ _ _ (T2.setTop (mkF m 15 #[.val (.int p0)] [(.int (1 : Int32))]))
      refine Rest.via (fun t k => XS.goto X2.here hx rfl (pc0 := 15) (pc' := 19) rfl (hb hby d3_15) (by decide) (by decide) k) ?_
      show Rest p.tables e below s _ _ _ (T2.setTop (mkF m 19 #[.val (.int p0)] [(.int (1 : Int32))]))
      refine Rest.ret X2 (v := some (.int (nar .boolean (1 : Int32)))) (fun h => by rw [Bd.returns] at h; cases h) hlk (fun fs hr => retN X2 hx (t := .boolean) Bd.returns (by simp) (hb hby d3_19) hr) ?_ (by decide) (by decide)
      rw [e2]
      exact ⟨by show some (Value.int (1 : Int32)) = _; rw [own_ld, if_pos hc4, if_neg hc11], N2, rfl⟩
  · refine Rest.via (fun t k => XS.ifYes X1.here hx rfl (pc0 := 4) (pc' := 14) rfl (hb hby d3_4) rfl ((if0 _ _).trans (feq hc4).2) (by decide) (by decide) k) ?_
    show Rest p.tables e below s _ _ _ (T1.setTop (mkF m 14 #[.val (.int p0)] []))
    refine Rest.via (fun t k => XS.iconst X1.here hx rfl (hb hby d3_14) k) ?_
    show Rest p.tables e below s _ _ _ (T1.setTop (mkF m 15 #[.val (.int p0)] [(.int (1 : Int32))]))
    refine Rest.via (fun t k => XS.goto X1.here hx rfl (pc0 := 15) (pc' := 19) rfl (hb hby d3_15) (by decide) (by decide) k) ?_
    show Rest p.tables e below s _ _ _ (T1.setTop (mkF m 19 #[.val (.int p0)] [(.int (1 : Int32))]))
    refine Rest.ret X1 (v := some (.int (nar .boolean (1 : Int32)))) (fun h => by rw [Bd.returns] at h; cases h) hlk (fun fs hr => retN X1 hx (t := .boolean) Bd.returns (by simp) (hb hby d3_19) hr) ?_ (by decide) (by decide)
    rw [e1]
    exact ⟨by show some (Value.int (1 : Int32)) = _; rw [own_ld, if_neg hc4], N1, rfl⟩
theorem ef_0 (m : MethodId) (p0 : Int32) (p1 : Int32) : entryFrame m #[(.int p0), (.int p1)] maxLocals = mkF m 0 #[.val (.int p0), .val (.int p1), .unset, .unset] [] := by first | (simp [entryFrame, mkF, argsToLocals, Value.category, maxLocals]; done) | rfl
def Q0 (Z : State) (p0 : Int32) (p1 : Int32) (h0 : Heap) (n0 : Nat) (v : Option Value) (h : Heap) (L : List Loc) : Prop := v = some (.int 1) ∧ Fr n0 L
set_option maxRecDepth 65536 in
set_option maxHeartbeats 40000000 in
theorem rm0 (l : Launch) (Z : State) (aw : Array Value) (hw : ∀ d ∈ tables_1, d.before aw Z = true) (ws : List Jvm.Cond) (p0 : Int32) (p1 : Int32) (h0 : Heap) (n0 : Nat) (Z0 : n0 ≤ h0.size)  :
    MetFree l x (head1 (Jvm.Cond.code x code maxLocals ret :: ws) room_1) (fun a U => a = #[(.int p0), (.int p1)] ∧ Z.Warmed39 U.vm ∧ U.heap = h0) (fun _ _ _ _ _ => True) (fun _ U o U' => ∃ v L, o = .returned v ∧ Q0 Z p0 p1 h0 n0 v U'.heap L ∧ FrameEnd U o U' L 0 0) := by
  refine MetFree.of_bodySF (plainFor_of_name pn_0) hisR ?_
  intro p e s m args below meth c s₁ Bd hml0 hP hK
  obtain ⟨rfl, hZ, hh⟩ := hP
  have hx := Bd.exec
  have hby := Bd.bytes
  have hml : c.maxLocals = 4 := hml0
  have hown : s.vm.findClass "com/example/vested_pointer/vestedpointer/mappingtable/HttpUrlIsLetterOrDigitPinLaw" = some m.cls := findClass_of_methodNamed Bd.named
  have hnm := (name_of_methodNamed Bd.named Bd.method).1
  have hlk : meth.locks = false := BodyLoose.notSynchronized Bd
  have X0 : Stand p l e room_1 s m #[(.int p0), (.int p1)] below meth c s₁ [] 0 0 := Stand.of_body Bd
  have eh0 : s₁.heap = h0 := by rw [← hh, Bd.state]; rfl
  have N0 := Fr.nil n0
  show Rest p.tables e below s (Q0 Z p0 p1 h0 n0) _ _ (s₁.setTop (entryFrame m #[(.int p0), (.int p1)] maxLocals))
  refine Rest.via (fun t k => castTop (ef_0 m p0 p1) k) ?_
  show Rest p.tables e below s _ _ _ (s₁.setTop (mkF m 0 #[.val (.int p0), .val (.int p1), .unset, .unset] []))
  refine Rest.via (fun t k => XS.iloadN X0.here hx rfl (hb hby at_0) rfl k) ?_
  show Rest p.tables e below s _ _ _ (s₁.setTop (mkF m 1 #[.val (.int p0), .val (.int p1), .unset, .unset] [(.int p0)]))
  refine Rest.via (fun t k => XS.istoreN X0.here hx rfl (hb hby at_1) rfl (l' := #[.val (.int p0), .val (.int p1), .val (.int p0), .unset]) rfl k) ?_
  show Rest p.tables e below s _ _ _ (s₁.setTop (mkF m 2 #[.val (.int p0), .val (.int p1), .val (.int p0), .unset] []))
  refine Rest.via (fun t k => XS.iloadN X0.here hx rfl (hb hby at_2) rfl k) ?_
  show Rest p.tables e below s _ _ _ (s₁.setTop (mkF m 3 #[.val (.int p0), .val (.int p1), .val (.int p0), .unset] [(.int p1)]))
  refine Rest.via (fun t k => XS.iconst X0.here hx rfl (hb hby at_3) k) ?_
  show Rest p.tables e below s _ _ _ (s₁.setTop (mkF m 4 #[.val (.int p0), .val (.int p1), .val (.int p0), .unset] [(.int (1 : Int32)), (.int p1)]))
  refine Rest.via (fun t k => XS.iand X0.here hx rfl (hb hby at_4) rfl k) ?_
  show Rest p.tables e below s _ _ _ (s₁.setTop (mkF m 5 #[.val (.int p0), .val (.int p1), .val (.int p0), .unset] [(.int (p1 &&& (1 : Int32)))]))
  by_cases hc5 : (p1 &&& (1 : Int32)) = (0 : Int32)
  · refine Rest.via (fun t k => XS.ifYes X0.here hx rfl (pc0 := 5) (pc' := 14) rfl (hb hby at_5) rfl ((if0 _ _).trans (teq hc5).1) (by decide) (by decide) k) ?_
    show Rest p.tables e below s _ _ _ (s₁.setTop (mkF m 14 #[.val (.int p0), .val (.int p1), .val (.int p0), .unset] []))
    refine Rest.via (fun t k => XS.iloadN X0.here hx rfl (hb hby at_14) rfl k) ?_
    show Rest p.tables e below s _ _ _ (s₁.setTop (mkF m 15 #[.val (.int p0), .val (.int p1), .val (.int p0), .unset] [(.int p0)]))
    obtain ⟨_, _, ⟨T1, L1, k1, n1⟩, -, X1, ⟨Lc1, hQ1, l1, y1, z1⟩, st1⟩ := Jvm.LawKit.callS X0 hx (y := (⟨"com/example/vested_pointer/vestedpointer/mappingtable/HttpUrlIsLetterOrDigitPinLaw", "isAsciiLetter", "(I)Z"⟩ : MethodName)) hown (mvT hZ (hw _ (List.mem_of_getElem? (i := 0) rfl))) (mvT hZ (hw _ (List.mem_of_getElem? (i := 1) rfl))) (mvT hZ (hw _ (List.mem_of_getElem? (i := 2) rfl))) (mvT hZ (hw _ (List.mem_of_getElem? (i := 3) rfl))) (by decide) (backOf (W := 0) (rmA l Z aw hw [] p0  h0 n0 (Nat.le_trans Z0 (Keep.refl h0 []).1) ) hZ (hw _ (List.mem_of_getElem? (i := 3) rfl)) (hw _ (List.mem_of_getElem? (i := 2) rfl)) (by decide) (by decide)) (g := (mkF m 15 #[.val (.int p0), .val (.int p1), .val (.int p0), .unset] [(.int p0)])) rfl (by rw [hml]; rfl) (argsL := [(.int p0)]) (rest := []) (lenOf pd_0 rfl) rfl (by show 2 * 0 + _ ≤ _; exact Nat.le_of_eq rfl) (hb hby at_15) (fun _ _ => ⟨rfl, eh0, (by decide : 0 + 0 ≤ _), (by decide : 0 + 0 ≤ _)⟩)
    dsimp only [Pt.U, Pt.locs, Pt.cells, Pt.slots] at X1 l1 y1 z1 st1 hQ1
    subst l1 y1 z1
    obtain ⟨rfl, Nq1, e1⟩ := hQ1
    have N1 := Fr.app N0 Nq1
    refine Rest.via (fun t k => st1 t k) ?_
    show Rest p.tables e below s _ _ _ (T1.setTop (mkF m 18 #[.val (.int p0), .val (.int p1), .val (.int p0), .unset] [(.int (own_al p0))]))
    by_cases hc18 : (own_al p0) = (0 : Int32)
    · refine Rest.via (fun t k => XS.ifNo X1.here hx rfl (hb hby at_18) rfl ((if0 _ _).trans (teq hc18).2) k) ?_
      show Rest p.tables e below s _ _ _ (T1.setTop (mkF m 21 #[.val (.int p0), .val (.int p1), .val (.int p0), .unset] []))
      refine Rest.via (fun t k => XS.iloadN X1.here hx rfl (hb hby at_21) rfl k) ?_
      show Rest p.tables e below s _ _ _ (T1.setTop (mkF m 22 #[.val (.int p0), .val (.int p1), .val (.int p0), .unset] [(.int p0)]))
      obtain ⟨_, _, ⟨T2, L2, k2, n2⟩, -, X2, ⟨Lc2, hQ2, l2, y2, z2⟩, st2⟩ := Jvm.LawKit.callS X1 hx (y := (⟨"com/example/vested_pointer/vestedpointer/mappingtable/HttpUrlIsLetterOrDigitPinLaw", "isAsciiDigit", "(I)Z"⟩ : MethodName)) hown (mvT hZ (hw _ (List.mem_of_getElem? (i := 4) rfl))) (mvT hZ (hw _ (List.mem_of_getElem? (i := 5) rfl))) (mvT hZ (hw _ (List.mem_of_getElem? (i := 2) rfl))) (mvT hZ (hw _ (List.mem_of_getElem? (i := 6) rfl))) (by decide) (backOf (W := 0) (rmB l Z aw hw [] p0  h0 n0 (Nat.le_trans Z0 (Keep.refl h0 []).1) ) hZ (hw _ (List.mem_of_getElem? (i := 6) rfl)) (hw _ (List.mem_of_getElem? (i := 2) rfl)) (by decide) (by decide)) (g := (mkF m 22 #[.val (.int p0), .val (.int p1), .val (.int p0), .unset] [(.int p0)])) rfl (by rw [hml]; rfl) (argsL := [(.int p0)]) (rest := []) (lenOf pd_0 rfl) rfl (by show 2 * 0 + _ ≤ _; exact Nat.le_of_eq rfl) (hb hby at_22) (fun _ _ => ⟨rfl, e1, (by decide : 0 + 0 ≤ _), (by decide : 0 + 0 ≤ _)⟩)
      dsimp only [Pt.U, Pt.locs, Pt.cells, Pt.slots] at X2 l2 y2 z2 st2 hQ2
      subst l2 y2 z2
      obtain ⟨rfl, Nq2, e2⟩ := hQ2
      have N2 := Fr.app N1 Nq2
      refine Rest.via (fun t k => st2 t k) ?_
      show Rest p.tables e below s _ _ _ (T2.setTop (mkF m 25 #[.val (.int p0), .val (.int p1), .val (.int p0), .unset] [(.int (own_ad p0))]))
      by_cases hc25 : (own_ad p0) = (0 : Int32)
      · refine Rest.via (fun t k => XS.ifYes X2.here hx rfl (pc0 := 25) (pc' := 32) rfl (hb hby at_25) rfl ((if0 _ _).trans (teq hc25).1) (by decide) (by decide) k) ?_
        show Rest p.tables e below s _ _ _ (T2.setTop (mkF m 32 #[.val (.int p0), .val (.int p1), .val (.int p0), .unset] []))
        refine Rest.via (fun t k => XS.iconst X2.here hx rfl (hb hby at_32) k) ?_
        show Rest p.tables e below s _ _ _ (T2.setTop (mkF m 33 #[.val (.int p0), .val (.int p1), .val (.int p0), .unset] [(.int (0 : Int32))]))
        refine Rest.via (fun t k => XS.istoreN X2.here hx rfl (hb hby at_33) rfl (l' := #[.val (.int p0), .val (.int p1), .val (.int p0), .val (.int (0 : Int32))]) rfl k) ?_
        show Rest p.tables e below s _ _ _ (T2.setTop (mkF m 34 #[.val (.int p0), .val (.int p1), .val (.int p0), .val (.int (0 : Int32))] []))
        refine Rest.via (fun t k => XS.iloadN X2.here hx rfl (hb hby at_34) rfl k) ?_
        show Rest p.tables e below s _ _ _ (T2.setTop (mkF m 35 #[.val (.int p0), .val (.int p1), .val (.int p0), .val (.int (0 : Int32))] [(.int p0)]))
        obtain ⟨_, _, ⟨T3, L3, k3, n3⟩, -, X3, ⟨Lc3, hQ3, l3, y3, z3⟩, st3⟩ := Jvm.LawKit.callS X2 hx (y := (⟨"com/example/vested_pointer/vestedpointer/mappingtable/HttpUrl", "isLetterOrDigit", "(I)Z"⟩ : MethodName)) hown (mvT hZ (hw _ (List.mem_of_getElem? (i := 8) rfl))) (mvT hZ (hw _ (List.mem_of_getElem? (i := 9) rfl))) (mvT hZ (hw _ (List.mem_of_getElem? (i := 10) rfl))) (mvT hZ (hw _ (List.mem_of_getElem? (i := 11) rfl))) (by decide) (backOf (W := 0) (rmG l Z aw hw [] p0  h0 n0 (Nat.le_trans Z0 (Keep.refl h0 []).1) ) hZ (hw _ (List.mem_of_getElem? (i := 11) rfl)) (hw _ (List.mem_of_getElem? (i := 10) rfl)) (by decide) (by decide)) (g := (mkF m 35 #[.val (.int p0), .val (.int p1), .val (.int p0), .val (.int (0 : Int32))] [(.int p0)])) rfl (by rw [hml]; rfl) (argsL := [(.int p0)]) (rest := []) (lenOf pd_0 rfl) rfl (by show 2 * 0 + _ ≤ _; exact Nat.le_of_eq rfl) (hb hby at_35) (fun _ _ => ⟨rfl, e2, (by decide : 0 + 0 ≤ _), (by decide : 0 + 0 ≤ _)⟩)
        dsimp only [Pt.U, Pt.locs, Pt.cells, Pt.slots] at X3 l3 y3 z3 st3 hQ3
        subst l3 y3 z3
        obtain ⟨rfl, Nq3, e3⟩ := hQ3
        have N3 := Fr.app N2 Nq3
        refine Rest.via (fun t k => st3 t k) ?_
        show Rest p.tables e below s _ _ _ (T3.setTop (mkF m 38 #[.val (.int p0), .val (.int p1), .val (.int p0), .val (.int (0 : Int32))] [(.int (own_ld p0))]))
        refine Rest.via (fun t k => XS.iloadN X3.here hx rfl (hb hby at_38) rfl k) ?_
        show Rest p.tables e below s _ _ _ (T3.setTop (mkF m 39 #[.val (.int p0), .val (.int p1), .val (.int p0), .val (.int (0 : Int32))] [(.int (0 : Int32)), (.int (own_ld p0))]))
        refine Rest.via (fun t k => XS.icmpNo X3.here hx rfl (hb hby at_39) rfl (teq (own_law3 hc18 hc25 : (own_ld p0) = (0 : Int32))).2 k) ?_
        show Rest p.tables e below s _ _ _ (T3.setTop (mkF m 42 #[.val (.int p0), .val (.int p1), .val (.int p0), .val (.int (0 : Int32))] []))
        refine Rest.via (fun t k => XS.iconst X3.here hx rfl (hb hby at_42) k) ?_
        show Rest p.tables e below s _ _ _ (T3.setTop (mkF m 43 #[.val (.int p0), .val (.int p1), .val (.int p0), .val (.int (0 : Int32))] [(.int (1 : Int32))]))
        refine Rest.via (fun t k => XS.goto X3.here hx rfl (pc0 := 43) (pc' := 47) rfl (hb hby at_43) (by decide) (by decide) k) ?_
        show Rest p.tables e below s _ _ _ (T3.setTop (mkF m 47 #[.val (.int p0), .val (.int p1), .val (.int p0), .val (.int (0 : Int32))] [(.int (1 : Int32))]))
        refine Rest.ret X3 (v := some (.int (nar .boolean (1 : Int32)))) (fun h => by rw [Bd.returns] at h; cases h) hlk (fun fs hr => retN X3 hx (t := .boolean) Bd.returns (by simp) (hb hby at_47) hr) ?_ (by decide) (by decide)
        rw [e3]
        exact ⟨rfl, N3⟩
      · refine Rest.via (fun t k => XS.ifNo X2.here hx rfl (hb hby at_25) rfl ((if0 _ _).trans (feq hc25).1) k) ?_
        show Rest p.tables e below s _ _ _ (T2.setTop (mkF m 28 #[.val (.int p0), .val (.int p1), .val (.int p0), .unset] []))
        refine Rest.via (fun t k => XS.iconst X2.here hx rfl (hb hby at_28) k) ?_
        show Rest p.tables e below s _ _ _ (T2.setTop (mkF m 29 #[.val (.int p0), .val (.int p1), .val (.int p0), .unset] [(.int (1 : Int32))]))
        refine Rest.via (fun t k => XS.goto X2.here hx rfl (pc0 := 29) (pc' := 33) rfl (hb hby at_29) (by decide) (by decide) k) ?_
        show Rest p.tables e below s _ _ _ (T2.setTop (mkF m 33 #[.val (.int p0), .val (.int p1), .val (.int p0), .unset] [(.int (1 : Int32))]))
        refine Rest.via (fun t k => XS.istoreN X2.here hx rfl (hb hby at_33) rfl (l' := #[.val (.int p0), .val (.int p1), .val (.int p0), .val (.int (1 : Int32))]) rfl k) ?_
        show Rest p.tables e below s _ _ _ (T2.setTop (mkF m 34 #[.val (.int p0), .val (.int p1), .val (.int p0), .val (.int (1 : Int32))] []))
        refine Rest.via (fun t k => XS.iloadN X2.here hx rfl (hb hby at_34) rfl k) ?_
        show Rest p.tables e below s _ _ _ (T2.setTop (mkF m 35 #[.val (.int p0), .val (.int p1), .val (.int p0), .val (.int (1 : Int32))] [(.int p0)]))
        obtain ⟨_, _, ⟨T4, L4, k4, n4⟩, -, X4, ⟨Lc4, hQ4, l4, y4, z4⟩, st4⟩ := Jvm.LawKit.callS X2 hx (y := (⟨"com/example/vested_pointer/vestedpointer/mappingtable/HttpUrl", "isLetterOrDigit", "(I)Z"⟩ : MethodName)) hown (mvT hZ (hw _ (List.mem_of_getElem? (i := 8) rfl))) (mvT hZ (hw _ (List.mem_of_getElem? (i := 9) rfl))) (mvT hZ (hw _ (List.mem_of_getElem? (i := 10) rfl))) (mvT hZ (hw _ (List.mem_of_getElem? (i := 11) rfl))) (by decide) (backOf (W := 0) (rmG l Z aw hw [] p0  h0 n0 (Nat.le_trans Z0 (Keep.refl h0 []).1) ) hZ (hw _ (List.mem_of_getElem? (i := 11) rfl)) (hw _ (List.mem_of_getElem? (i := 10) rfl)) (by decide) (by decide)) (g := (mkF m 35 #[.val (.int p0), .val (.int p1), .val (.int p0), .val (.int (1 : Int32))] [(.int p0)])) rfl (by rw [hml]; rfl) (argsL := [(.int p0)]) (rest := []) (lenOf pd_0 rfl) rfl (by show 2 * 0 + _ ≤ _; exact Nat.le_of_eq rfl) (hb hby at_35) (fun _ _ => ⟨rfl, e2, (by decide : 0 + 0 ≤ _), (by decide : 0 + 0 ≤ _)⟩)
        dsimp only [Pt.U, Pt.locs, Pt.cells, Pt.slots] at X4 l4 y4 z4 st4 hQ4
        subst l4 y4 z4
        obtain ⟨rfl, Nq4, e4⟩ := hQ4
        have N4 := Fr.app N2 Nq4
        refine Rest.via (fun t k => st4 t k) ?_
        show Rest p.tables e below s _ _ _ (T4.setTop (mkF m 38 #[.val (.int p0), .val (.int p1), .val (.int p0), .val (.int (1 : Int32))] [(.int (own_ld p0))]))
        refine Rest.via (fun t k => XS.iloadN X4.here hx rfl (hb hby at_38) rfl k) ?_
        show Rest p.tables e below s _ _ _ (T4.setTop (mkF m 39 #[.val (.int p0), .val (.int p1), .val (.int p0), .val (.int (1 : Int32))] [(.int (1 : Int32)), (.int (own_ld p0))]))
        refine Rest.via (fun t k => XS.icmpNo X4.here hx rfl (hb hby at_39) rfl (teq (own_law2 hc18 hc25 : (own_ld p0) = (1 : Int32))).2 k) ?_
        show Rest p.tables e below s _ _ _ (T4.setTop (mkF m 42 #[.val (.int p0), .val (.int p1), .val (.int p0), .val (.int (1 : Int32))] []))
        refine Rest.via (fun t k => XS.iconst X4.here hx rfl (hb hby at_42) k) ?_
        show Rest p.tables e below s _ _ _ (T4.setTop (mkF m 43 #[.val (.int p0), .val (.int p1), .val (.int p0), .val (.int (1 : Int32))] [(.int (1 : Int32))]))
        refine Rest.via (fun t k => XS.goto X4.here hx rfl (pc0 := 43) (pc' := 47) rfl (hb hby at_43) (by decide) (by decide) k) ?_
        show Rest p.tables e below s _ _ _ (T4.setTop (mkF m 47 #[.val (.int p0), .val (.int p1), .val (.int p0), .val (.int (1 : Int32))] [(.int (1 : Int32))]))
        refine Rest.ret X4 (v := some (.int (nar .boolean (1 : Int32)))) (fun h => by rw [Bd.returns] at h; cases h) hlk (fun fs hr => retN X4 hx (t := .boolean) Bd.returns (by simp) (hb hby at_47) hr) ?_ (by decide) (by decide)
        rw [e4]
        exact ⟨rfl, N4⟩
    · refine Rest.via (fun t k => XS.ifYes X1.here hx rfl (pc0 := 18) (pc' := 28) rfl (hb hby at_18) rfl ((if0 _ _).trans (feq hc18).2) (by decide) (by decide) k) ?_
      show Rest p.tables e below s _ _ _ (T1.setTop (mkF m 28 #[.val (.int p0), .val (.int p1), .val (.int p0), .unset] []))
      refine Rest.via (fun t k => XS.iconst X1.here hx rfl (hb hby at_28) k) ?_
      show Rest p.tables e below s _ _ _ (T1.setTop (mkF m 29 #[.val (.int p0), .val (.int p1), .val (.int p0), .unset] [(.int (1 : Int32))]))
      refine Rest.via (fun t k => XS.goto X1.here hx rfl (pc0 := 29) (pc' := 33) rfl (hb hby at_29) (by decide) (by decide) k) ?_
      show Rest p.tables e below s _ _ _ (T1.setTop (mkF m 33 #[.val (.int p0), .val (.int p1), .val (.int p0), .unset] [(.int (1 : Int32))]))
      refine Rest.via (fun t k => XS.istoreN X1.here hx rfl (hb hby at_33) rfl (l' := #[.val (.int p0), .val (.int p1), .val (.int p0), .val (.int (1 : Int32))]) rfl k) ?_
      show Rest p.tables e below s _ _ _ (T1.setTop (mkF m 34 #[.val (.int p0), .val (.int p1), .val (.int p0), .val (.int (1 : Int32))] []))
      refine Rest.via (fun t k => XS.iloadN X1.here hx rfl (hb hby at_34) rfl k) ?_
      show Rest p.tables e below s _ _ _ (T1.setTop (mkF m 35 #[.val (.int p0), .val (.int p1), .val (.int p0), .val (.int (1 : Int32))] [(.int p0)]))
      obtain ⟨_, _, ⟨T5, L5, k5, n5⟩, -, X5, ⟨Lc5, hQ5, l5, y5, z5⟩, st5⟩ := Jvm.LawKit.callS X1 hx (y := (⟨"com/example/vested_pointer/vestedpointer/mappingtable/HttpUrl", "isLetterOrDigit", "(I)Z"⟩ : MethodName)) hown (mvT hZ (hw _ (List.mem_of_getElem? (i := 8) rfl))) (mvT hZ (hw _ (List.mem_of_getElem? (i := 9) rfl))) (mvT hZ (hw _ (List.mem_of_getElem? (i := 10) rfl))) (mvT hZ (hw _ (List.mem_of_getElem? (i := 11) rfl))) (by decide) (backOf (W := 0) (rmG l Z aw hw [] p0  h0 n0 (Nat.le_trans Z0 (Keep.refl h0 []).1) ) hZ (hw _ (List.mem_of_getElem? (i := 11) rfl)) (hw _ (List.mem_of_getElem? (i := 10) rfl)) (by decide) (by decide)) (g := (mkF m 35 #[.val (.int p0), .val (.int p1), .val (.int p0), .val (.int (1 : Int32))] [(.int p0)])) rfl (by rw [hml]; rfl) (argsL := [(.int p0)]) (rest := []) (lenOf pd_0 rfl) rfl (by show 2 * 0 + _ ≤ _; exact Nat.le_of_eq rfl) (hb hby at_35) (fun _ _ => ⟨rfl, e1, (by decide : 0 + 0 ≤ _), (by decide : 0 + 0 ≤ _)⟩)
      dsimp only [Pt.U, Pt.locs, Pt.cells, Pt.slots] at X5 l5 y5 z5 st5 hQ5
      subst l5 y5 z5
      obtain ⟨rfl, Nq5, e5⟩ := hQ5
      have N5 := Fr.app N1 Nq5
      refine Rest.via (fun t k => st5 t k) ?_
      show Rest p.tables e below s _ _ _ (T5.setTop (mkF m 38 #[.val (.int p0), .val (.int p1), .val (.int p0), .val (.int (1 : Int32))] [(.int (own_ld p0))]))
      refine Rest.via (fun t k => XS.iloadN X5.here hx rfl (hb hby at_38) rfl k) ?_
      show Rest p.tables e below s _ _ _ (T5.setTop (mkF m 39 #[.val (.int p0), .val (.int p1), .val (.int p0), .val (.int (1 : Int32))] [(.int (1 : Int32)), (.int (own_ld p0))]))
      refine Rest.via (fun t k => XS.icmpNo X5.here hx rfl (hb hby at_39) rfl (teq (own_law1 hc18 : (own_ld p0) = (1 : Int32))).2 k) ?_
      show Rest p.tables e below s _ _ _ (T5.setTop (mkF m 42 #[.val (.int p0), .val (.int p1), .val (.int p0), .val (.int (1 : Int32))] []))
      refine Rest.via (fun t k => XS.iconst X5.here hx rfl (hb hby at_42) k) ?_
      show Rest p.tables e below s _ _ _ (T5.setTop (mkF m 43 #[.val (.int p0), .val (.int p1), .val (.int p0), .val (.int (1 : Int32))] [(.int (1 : Int32))]))
      refine Rest.via (fun t k => XS.goto X5.here hx rfl (pc0 := 43) (pc' := 47) rfl (hb hby at_43) (by decide) (by decide) k) ?_
      show Rest p.tables e below s _ _ _ (T5.setTop (mkF m 47 #[.val (.int p0), .val (.int p1), .val (.int p0), .val (.int (1 : Int32))] [(.int (1 : Int32))]))
      refine Rest.ret X5 (v := some (.int (nar .boolean (1 : Int32)))) (fun h => by rw [Bd.returns] at h; cases h) hlk (fun fs hr => retN X5 hx (t := .boolean) Bd.returns (by simp) (hb hby at_47) hr) ?_ (by decide) (by decide)
      rw [e5]
      exact ⟨rfl, N5⟩
  · refine Rest.via (fun t k => XS.ifNo X0.here hx rfl (hb hby at_5) rfl ((if0 _ _).trans (feq hc5).1) k) ?_
    show Rest p.tables e below s _ _ _ (s₁.setTop (mkF m 8 #[.val (.int p0), .val (.int p1), .val (.int p0), .unset] []))
    refine Rest.via (fun t k => XS.iloadN X0.here hx rfl (hb hby at_8) rfl k) ?_
    show Rest p.tables e below s _ _ _ (s₁.setTop (mkF m 9 #[.val (.int p0), .val (.int p1), .val (.int p0), .unset] [(.int p0)]))
    refine Rest.via (fun t k => XS.sipush X0.here hx rfl (hb hby at_9) k) ?_
    show Rest p.tables e below s _ _ _ (s₁.setTop (mkF m 12 #[.val (.int p0), .val (.int p1), .val (.int p0), .unset] [(.int (255 : Int32)), (.int p0)]))
    refine Rest.via (fun t k => XS.iand X0.here hx rfl (hb hby at_12) rfl k) ?_
    show Rest p.tables e below s _ _ _ (s₁.setTop (mkF m 13 #[.val (.int p0), .val (.int p1), .val (.int p0), .unset] [(.int (p0 &&& (255 : Int32)))]))
    refine Rest.via (fun t k => XS.istoreN X0.here hx rfl (hb hby at_13) rfl (l' := #[.val (.int p0), .val (.int p1), .val (.int (p0 &&& (255 : Int32))), .unset]) rfl k) ?_
    show Rest p.tables e below s _ _ _ (s₁.setTop (mkF m 14 #[.val (.int p0), .val (.int p1), .val (.int (p0 &&& (255 : Int32))), .unset] []))
    refine Rest.via (fun t k => XS.iloadN X0.here hx rfl (hb hby at_14) rfl k) ?_
    show Rest p.tables e below s _ _ _ (s₁.setTop (mkF m 15 #[.val (.int p0), .val (.int p1), .val (.int (p0 &&& (255 : Int32))), .unset] [(.int (p0 &&& (255 : Int32)))]))
    obtain ⟨_, _, ⟨T6, L6, k6, n6⟩, -, X6, ⟨Lc6, hQ6, l6, y6, z6⟩, st6⟩ := Jvm.LawKit.callS X0 hx (y := (⟨"com/example/vested_pointer/vestedpointer/mappingtable/HttpUrlIsLetterOrDigitPinLaw", "isAsciiLetter", "(I)Z"⟩ : MethodName)) hown (mvT hZ (hw _ (List.mem_of_getElem? (i := 0) rfl))) (mvT hZ (hw _ (List.mem_of_getElem? (i := 1) rfl))) (mvT hZ (hw _ (List.mem_of_getElem? (i := 2) rfl))) (mvT hZ (hw _ (List.mem_of_getElem? (i := 3) rfl))) (by decide) (backOf (W := 0) (rmA l Z aw hw [] (p0 &&& (255 : Int32))  h0 n0 (Nat.le_trans Z0 (Keep.refl h0 []).1) ) hZ (hw _ (List.mem_of_getElem? (i := 3) rfl)) (hw _ (List.mem_of_getElem? (i := 2) rfl)) (by decide) (by decide)) (g := (mkF m 15 #[.val (.int p0), .val (.int p1), .val (.int (p0 &&& (255 : Int32))), .unset] [(.int (p0 &&& (255 : Int32)))])) rfl (by rw [hml]; rfl) (argsL := [(.int (p0 &&& (255 : Int32)))]) (rest := []) (lenOf pd_0 rfl) rfl (by show 2 * 0 + _ ≤ _; exact Nat.le_of_eq rfl) (hb hby at_15) (fun _ _ => ⟨rfl, eh0, (by decide : 0 + 0 ≤ _), (by decide : 0 + 0 ≤ _)⟩)
    dsimp only [Pt.U, Pt.locs, Pt.cells, Pt.slots] at X6 l6 y6 z6 st6 hQ6
    subst l6 y6 z6
    obtain ⟨rfl, Nq6, e6⟩ := hQ6
    have N6 := Fr.app N0 Nq6
    refine Rest.via (fun t k => st6 t k) ?_
    show Rest p.tables e below s _ _ _ (T6.setTop (mkF m 18 #[.val (.int p0), .val (.int p1), .val (.int (p0 &&& (255 : Int32))), .unset] [(.int (own_al (p0 &&& (255 : Int32))))]))
    by_cases hc18 : (own_al (p0 &&& (255 : Int32))) = (0 : Int32)
    · refine Rest.via (fun t k => XS.ifNo X6.here hx rfl (hb hby at_18) rfl ((if0 _ _).trans (teq hc18).2) k) ?_
      show Rest p.tables e below s _ _ _ (T6.setTop (mkF m 21 #[.val (.int p0), .val (.int p1), .val (.int (p0 &&& (255 : Int32))), .unset] []))
      refine Rest.via (fun t k => XS.iloadN X6.here hx rfl (hb hby at_21) rfl k) ?_
      show Rest p.tables e below s _ _ _ (T6.setTop (mkF m 22 #[.val (.int p0), .val (.int p1), .val (.int (p0 &&& (255 : Int32))), .unset] [(.int (p0 &&& (255 : Int32)))]))
      obtain ⟨_, _, ⟨T7, L7, k7, n7⟩, -, X7, ⟨Lc7, hQ7, l7, y7, z7⟩, st7⟩ := Jvm.LawKit.callS X6 hx (y := (⟨"com/example/vested_pointer/vestedpointer/mappingtable/HttpUrlIsLetterOrDigitPinLaw", "isAsciiDigit", "(I)Z"⟩ : MethodName)) hown (mvT hZ (hw _ (List.mem_of_getElem? (i := 4) rfl))) (mvT hZ (hw _ (List.mem_of_getElem? (i := 5) rfl))) (mvT hZ (hw _ (List.mem_of_getElem? (i := 2) rfl))) (mvT hZ (hw _ (List.mem_of_getElem? (i := 6) rfl))) (by decide) (backOf (W := 0) (rmB l Z aw hw [] (p0 &&& (255 : Int32))  h0 n0 (Nat.le_trans Z0 (Keep.refl h0 []).1) ) hZ (hw _ (List.mem_of_getElem? (i := 6) rfl)) (hw _ (List.mem_of_getElem? (i := 2) rfl)) (by decide) (by decide)) (g := (mkF m 22 #[.val (.int p0), .val (.int p1), .val (.int (p0 &&& (255 : Int32))), .unset] [(.int (p0 &&& (255 : Int32)))])) rfl (by rw [hml]; rfl) (argsL := [(.int (p0 &&& (255 : Int32)))]) (rest := []) (lenOf pd_0 rfl) rfl (by show 2 * 0 + _ ≤ _; exact Nat.le_of_eq rfl) (hb hby at_22) (fun _ _ => ⟨rfl, e6, (by decide : 0 + 0 ≤ _), (by decide : 0 + 0 ≤ _)⟩)
      dsimp only [Pt.U, Pt.locs, Pt.cells, Pt.slots] at X7 l7 y7 z7 st7 hQ7
      subst l7 y7 z7
      obtain ⟨rfl, Nq7, e7⟩ := hQ7
      have N7 := Fr.app N6 Nq7
      refine Rest.via (fun t k => st7 t k) ?_
      show Rest p.tables e below s _ _ _ (T7.setTop (mkF m 25 #[.val (.int p0), .val (.int p1), .val (.int (p0 &&& (255 : Int32))), .unset] [(.int (own_ad (p0 &&& (255 : Int32))))]))
      by_cases hc25 : (own_ad (p0 &&& (255 : Int32))) = (0 : Int32)
      · refine Rest.via (fun t k => XS.ifYes X7.here hx rfl (pc0 := 25) (pc' := 32) rfl (hb hby at_25) rfl ((if0 _ _).trans (teq hc25).1) (by decide) (by decide) k) ?_
        show Rest p.tables e below s _ _ _ (T7.setTop (mkF m 32 #[.val (.int p0), .val (.int p1), .val (.int (p0 &&& (255 : Int32))), .unset] []))
        refine Rest.via (fun t k => XS.iconst X7.here hx rfl (hb hby at_32) k) ?_
        show Rest p.tables e below s _ _ _ (T7.setTop (mkF m 33 #[.val (.int p0), .val (.int p1), .val (.int (p0 &&& (255 : Int32))), .unset] [(.int (0 : Int32))]))
        refine Rest.via (fun t k => XS.istoreN X7.here hx rfl (hb hby at_33) rfl (l' := #[.val (.int p0), .val (.int p1), .val (.int (p0 &&& (255 : Int32))), .val (.int (0 : Int32))]) rfl k) ?_
        show Rest p.tables e below s _ _ _ (T7.setTop (mkF m 34 #[.val (.int p0), .val (.int p1), .val (.int (p0 &&& (255 : Int32))), .val (.int (0 : Int32))] []))
        refine Rest.via (fun t k => XS.iloadN X7.here hx rfl (hb hby at_34) rfl k) ?_
        show Rest p.tables e below s _ _ _ (T7.setTop (mkF m 35 #[.val (.int p0), .val (.int p1), .val (.int (p0 &&& (255 : Int32))), .val (.int (0 : Int32))] [(.int (p0 &&& (255 : Int32)))]))
        obtain ⟨_, _, ⟨T8, L8, k8, n8⟩, -, X8, ⟨Lc8, hQ8, l8, y8, z8⟩, st8⟩ := Jvm.LawKit.callS X7 hx (y := (⟨"com/example/vested_pointer/vestedpointer/mappingtable/HttpUrl", "isLetterOrDigit", "(I)Z"⟩ : MethodName)) hown (mvT hZ (hw _ (List.mem_of_getElem? (i := 8) rfl))) (mvT hZ (hw _ (List.mem_of_getElem? (i := 9) rfl))) (mvT hZ (hw _ (List.mem_of_getElem? (i := 10) rfl))) (mvT hZ (hw _ (List.mem_of_getElem? (i := 11) rfl))) (by decide) (backOf (W := 0) (rmG l Z aw hw [] (p0 &&& (255 : Int32))  h0 n0 (Nat.le_trans Z0 (Keep.refl h0 []).1) ) hZ (hw _ (List.mem_of_getElem? (i := 11) rfl)) (hw _ (List.mem_of_getElem? (i := 10) rfl)) (by decide) (by decide)) (g := (mkF m 35 #[.val (.int p0), .val (.int p1), .val (.int (p0 &&& (255 : Int32))), .val (.int (0 : Int32))] [(.int (p0 &&& (255 : Int32)))])) rfl (by rw [hml]; rfl) (argsL := [(.int (p0 &&& (255 : Int32)))]) (rest := []) (lenOf pd_0 rfl) rfl (by show 2 * 0 + _ ≤ _; exact Nat.le_of_eq rfl) (hb hby at_35) (fun _ _ => ⟨rfl, e7, (by decide : 0 + 0 ≤ _), (by decide : 0 + 0 ≤ _)⟩)
        dsimp only [Pt.U, Pt.locs, Pt.cells, Pt.slots] at X8 l8 y8 z8 st8 hQ8
        subst l8 y8 z8
        obtain ⟨rfl, Nq8, e8⟩ := hQ8
        have N8 := Fr.app N7 Nq8
        refine Rest.via (fun t k => st8 t k) ?_
        show Rest p.tables e below s _ _ _ (T8.setTop (mkF m 38 #[.val (.int p0), .val (.int p1), .val (.int (p0 &&& (255 : Int32))), .val (.int (0 : Int32))] [(.int (own_ld (p0 &&& (255 : Int32))))]))
        refine Rest.via (fun t k => XS.iloadN X8.here hx rfl (hb hby at_38) rfl k) ?_
        show Rest p.tables e below s _ _ _ (T8.setTop (mkF m 39 #[.val (.int p0), .val (.int p1), .val (.int (p0 &&& (255 : Int32))), .val (.int (0 : Int32))] [(.int (0 : Int32)), (.int (own_ld (p0 &&& (255 : Int32))))]))
        refine Rest.via (fun t k => XS.icmpNo X8.here hx rfl (hb hby at_39) rfl (teq (own_law3 hc18 hc25 : (own_ld (p0 &&& (255 : Int32))) = (0 : Int32))).2 k) ?_
        show Rest p.tables e below s _ _ _ (T8.setTop (mkF m 42 #[.val (.int p0), .val (.int p1), .val (.int (p0 &&& (255 : Int32))), .val (.int (0 : Int32))] []))
        refine Rest.via (fun t k => XS.iconst X8.here hx rfl (hb hby at_42) k) ?_
        show Rest p.tables e below s _ _ _ (T8.setTop (mkF m 43 #[.val (.int p0), .val (.int p1), .val (.int (p0 &&& (255 : Int32))), .val (.int (0 : Int32))] [(.int (1 : Int32))]))
        refine Rest.via (fun t k => XS.goto X8.here hx rfl (pc0 := 43) (pc' := 47) rfl (hb hby at_43) (by decide) (by decide) k) ?_
        show Rest p.tables e below s _ _ _ (T8.setTop (mkF m 47 #[.val (.int p0), .val (.int p1), .val (.int (p0 &&& (255 : Int32))), .val (.int (0 : Int32))] [(.int (1 : Int32))]))
        refine Rest.ret X8 (v := some (.int (nar .boolean (1 : Int32)))) (fun h => by rw [Bd.returns] at h; cases h) hlk (fun fs hr => retN X8 hx (t := .boolean) Bd.returns (by simp) (hb hby at_47) hr) ?_ (by decide) (by decide)
        rw [e8]
        exact ⟨rfl, N8⟩
      · refine Rest.via (fun t k => XS.ifNo X7.here hx rfl (hb hby at_25) rfl ((if0 _ _).trans (feq hc25).1) k) ?_
        show Rest p.tables e below s _ _ _ (T7.setTop (mkF m 28 #[.val (.int p0), .val (.int p1), .val (.int (p0 &&& (255 : Int32))), .unset] []))
        refine Rest.via (fun t k => XS.iconst X7.here hx rfl (hb hby at_28) k) ?_
        show Rest p.tables e below s _ _ _ (T7.setTop (mkF m 29 #[.val (.int p0), .val (.int p1), .val (.int (p0 &&& (255 : Int32))), .unset] [(.int (1 : Int32))]))
        refine Rest.via (fun t k => XS.goto X7.here hx rfl (pc0 := 29) (pc' := 33) rfl (hb hby at_29) (by decide) (by decide) k) ?_
        show Rest p.tables e below s _ _ _ (T7.setTop (mkF m 33 #[.val (.int p0), .val (.int p1), .val (.int (p0 &&& (255 : Int32))), .unset] [(.int (1 : Int32))]))
        refine Rest.via (fun t k => XS.istoreN X7.here hx rfl (hb hby at_33) rfl (l' := #[.val (.int p0), .val (.int p1), .val (.int (p0 &&& (255 : Int32))), .val (.int (1 : Int32))]) rfl k) ?_
        show Rest p.tables e below s _ _ _ (T7.setTop (mkF m 34 #[.val (.int p0), .val (.int p1), .val (.int (p0 &&& (255 : Int32))), .val (.int (1 : Int32))] []))
        refine Rest.via (fun t k => XS.iloadN X7.here hx rfl (hb hby at_34) rfl k) ?_
        show Rest p.tables e below s _ _ _ (T7.setTop (mkF m 35 #[.val (.int p0), .val (.int p1), .val (.int (p0 &&& (255 : Int32))), .val (.int (1 : Int32))] [(.int (p0 &&& (255 : Int32)))]))
        obtain ⟨_, _, ⟨T9, L9, k9, n9⟩, -, X9, ⟨Lc9, hQ9, l9, y9, z9⟩, st9⟩ := Jvm.LawKit.callS X7 hx (y := (⟨"com/example/vested_pointer/vestedpointer/mappingtable/HttpUrl", "isLetterOrDigit", "(I)Z"⟩ : MethodName)) hown (mvT hZ (hw _ (List.mem_of_getElem? (i := 8) rfl))) (mvT hZ (hw _ (List.mem_of_getElem? (i := 9) rfl))) (mvT hZ (hw _ (List.mem_of_getElem? (i := 10) rfl))) (mvT hZ (hw _ (List.mem_of_getElem? (i := 11) rfl))) (by decide) (backOf (W := 0) (rmG l Z aw hw [] (p0 &&& (255 : Int32))  h0 n0 (Nat.le_trans Z0 (Keep.refl h0 []).1) ) hZ (hw _ (List.mem_of_getElem? (i := 11) rfl)) (hw _ (List.mem_of_getElem? (i := 10) rfl)) (by decide) (by decide)) (g := (mkF m 35 #[.val (.int p0), .val (.int p1), .val (.int (p0 &&& (255 : Int32))), .val (.int (1 : Int32))] [(.int (p0 &&& (255 : Int32)))])) rfl (by rw [hml]; rfl) (argsL := [(.int (p0 &&& (255 : Int32)))]) (rest := []) (lenOf pd_0 rfl) rfl (by show 2 * 0 + _ ≤ _; exact Nat.le_of_eq rfl) (hb hby at_35) (fun _ _ => ⟨rfl, e7, (by decide : 0 + 0 ≤ _), (by decide : 0 + 0 ≤ _)⟩)
        dsimp only [Pt.U, Pt.locs, Pt.cells, Pt.slots] at X9 l9 y9 z9 st9 hQ9
        subst l9 y9 z9
        obtain ⟨rfl, Nq9, e9⟩ := hQ9
        have N9 := Fr.app N7 Nq9
        refine Rest.via (fun t k => st9 t k) ?_
        show Rest p.tables e below s _ _ _ (T9.setTop (mkF m 38 #[.val (.int p0), .val (.int p1), .val (.int (p0 &&& (255 : Int32))), .val (.int (1 : Int32))] [(.int (own_ld (p0 &&& (255 : Int32))))]))
        refine Rest.via (fun t k => XS.iloadN X9.here hx rfl (hb hby at_38) rfl k) ?_
        show Rest p.tables e below s _ _ _ (T9.setTop (mkF m 39 #[.val (.int p0), .val (.int p1), .val (.int (p0 &&& (255 : Int32))), .val (.int (1 : Int32))] [(.int (1 : Int32)), (.int (own_ld (p0 &&& (255 : Int32))))]))
        refine Rest.via (fun t k => XS.icmpNo X9.here hx rfl (hb hby at_39) rfl (teq (own_law2 hc18 hc25 : (own_ld (p0 &&& (255 : Int32))) = (1 : Int32))).2 k) ?_
        show Rest p.tables e below s _ _ _ (T9.setTop (mkF m 42 #[.val (.int p0), .val (.int p1), .val (.int (p0 &&& (255 : Int32))), .val (.int (1 : Int32))] []))
        refine Rest.via (fun t k => XS.iconst X9.here hx rfl (hb hby at_42) k) ?_
        show Rest p.tables e below s _ _ _ (T9.setTop (mkF m 43 #[.val (.int p0), .val (.int p1), .val (.int (p0 &&& (255 : Int32))), .val (.int (1 : Int32))] [(.int (1 : Int32))]))
        refine Rest.via (fun t k => XS.goto X9.here hx rfl (pc0 := 43) (pc' := 47) rfl (hb hby at_43) (by decide) (by decide) k) ?_
        show Rest p.tables e below s _ _ _ (T9.setTop (mkF m 47 #[.val (.int p0), .val (.int p1), .val (.int (p0 &&& (255 : Int32))), .val (.int (1 : Int32))] [(.int (1 : Int32))]))
        refine Rest.ret X9 (v := some (.int (nar .boolean (1 : Int32)))) (fun h => by rw [Bd.returns] at h; cases h) hlk (fun fs hr => retN X9 hx (t := .boolean) Bd.returns (by simp) (hb hby at_47) hr) ?_ (by decide) (by decide)
        rw [e9]
        exact ⟨rfl, N9⟩
    · refine Rest.via (fun t k => XS.ifYes X6.here hx rfl (pc0 := 18) (pc' := 28) rfl (hb hby at_18) rfl ((if0 _ _).trans (feq hc18).2) (by decide) (by decide) k) ?_
      show Rest p.tables e below s _ _ _ (T6.setTop (mkF m 28 #[.val (.int p0), .val (.int p1), .val (.int (p0 &&& (255 : Int32))), .unset] []))
      refine Rest.via (fun t k => XS.iconst X6.here hx rfl (hb hby at_28) k) ?_
      show Rest p.tables e below s _ _ _ (T6.setTop (mkF m 29 #[.val (.int p0), .val (.int p1), .val (.int (p0 &&& (255 : Int32))), .unset] [(.int (1 : Int32))]))
      refine Rest.via (fun t k => XS.goto X6.here hx rfl (pc0 := 29) (pc' := 33) rfl (hb hby at_29) (by decide) (by decide) k) ?_
      show Rest p.tables e below s _ _ _ (T6.setTop (mkF m 33 #[.val (.int p0), .val (.int p1), .val (.int (p0 &&& (255 : Int32))), .unset] [(.int (1 : Int32))]))
      refine Rest.via (fun t k => XS.istoreN X6.here hx rfl (hb hby at_33) rfl (l' := #[.val (.int p0), .val (.int p1), .val (.int (p0 &&& (255 : Int32))), .val (.int (1 : Int32))]) rfl k) ?_
      show Rest p.tables e below s _ _ _ (T6.setTop (mkF m 34 #[.val (.int p0), .val (.int p1), .val (.int (p0 &&& (255 : Int32))), .val (.int (1 : Int32))] []))
      refine Rest.via (fun t k => XS.iloadN X6.here hx rfl (hb hby at_34) rfl k) ?_
      show Rest p.tables e below s _ _ _ (T6.setTop (mkF m 35 #[.val (.int p0), .val (.int p1), .val (.int (p0 &&& (255 : Int32))), .val (.int (1 : Int32))] [(.int (p0 &&& (255 : Int32)))]))
      obtain ⟨_, _, ⟨T10, L10, k10, n10⟩, -, X10, ⟨Lc10, hQ10, l10, y10, z10⟩, st10⟩ := Jvm.LawKit.callS X6 hx (y := (⟨"com/example/vested_pointer/vestedpointer/mappingtable/HttpUrl", "isLetterOrDigit", "(I)Z"⟩ : MethodName)) hown (mvT hZ (hw _ (List.mem_of_getElem? (i := 8) rfl))) (mvT hZ (hw _ (List.mem_of_getElem? (i := 9) rfl))) (mvT hZ (hw _ (List.mem_of_getElem? (i := 10) rfl))) (mvT hZ (hw _ (List.mem_of_getElem? (i := 11) rfl))) (by decide) (backOf (W := 0) (rmG l Z aw hw [] (p0 &&& (255 : Int32))  h0 n0 (Nat.le_trans Z0 (Keep.refl h0 []).1) ) hZ (hw _ (List.mem_of_getElem? (i := 11) rfl)) (hw _ (List.mem_of_getElem? (i := 10) rfl)) (by decide) (by decide)) (g := (mkF m 35 #[.val (.int p0), .val (.int p1), .val (.int (p0 &&& (255 : Int32))), .val (.int (1 : Int32))] [(.int (p0 &&& (255 : Int32)))])) rfl (by rw [hml]; rfl) (argsL := [(.int (p0 &&& (255 : Int32)))]) (rest := []) (lenOf pd_0 rfl) rfl (by show 2 * 0 + _ ≤ _; exact Nat.le_of_eq rfl) (hb hby at_35) (fun _ _ => ⟨rfl, e6, (by decide : 0 + 0 ≤ _), (by decide : 0 + 0 ≤ _)⟩)
      dsimp only [Pt.U, Pt.locs, Pt.cells, Pt.slots] at X10 l10 y10 z10 st10 hQ10
      subst l10 y10 z10
      obtain ⟨rfl, Nq10, e10⟩ := hQ10
      have N10 := Fr.app N6 Nq10
      refine Rest.via (fun t k => st10 t k) ?_
      show Rest p.tables e below s _ _ _ (T10.setTop (mkF m 38 #[.val (.int p0), .val (.int p1), .val (.int (p0 &&& (255 : Int32))), .val (.int (1 : Int32))] [(.int (own_ld (p0 &&& (255 : Int32))))]))
      refine Rest.via (fun t k => XS.iloadN X10.here hx rfl (hb hby at_38) rfl k) ?_
      show Rest p.tables e below s _ _ _ (T10.setTop (mkF m 39 #[.val (.int p0), .val (.int p1), .val (.int (p0 &&& (255 : Int32))), .val (.int (1 : Int32))] [(.int (1 : Int32)), (.int (own_ld (p0 &&& (255 : Int32))))]))
      refine Rest.via (fun t k => XS.icmpNo X10.here hx rfl (hb hby at_39) rfl (teq (own_law1 hc18 : (own_ld (p0 &&& (255 : Int32))) = (1 : Int32))).2 k) ?_
      show Rest p.tables e below s _ _ _ (T10.setTop (mkF m 42 #[.val (.int p0), .val (.int p1), .val (.int (p0 &&& (255 : Int32))), .val (.int (1 : Int32))] []))
      refine Rest.via (fun t k => XS.iconst X10.here hx rfl (hb hby at_42) k) ?_
      show Rest p.tables e below s _ _ _ (T10.setTop (mkF m 43 #[.val (.int p0), .val (.int p1), .val (.int (p0 &&& (255 : Int32))), .val (.int (1 : Int32))] [(.int (1 : Int32))]))
      refine Rest.via (fun t k => XS.goto X10.here hx rfl (pc0 := 43) (pc' := 47) rfl (hb hby at_43) (by decide) (by decide) k) ?_
      show Rest p.tables e below s _ _ _ (T10.setTop (mkF m 47 #[.val (.int p0), .val (.int p1), .val (.int (p0 &&& (255 : Int32))), .val (.int (1 : Int32))] [(.int (1 : Int32))]))
      refine Rest.ret X10 (v := some (.int (nar .boolean (1 : Int32)))) (fun h => by rw [Bd.returns] at h; cases h) hlk (fun fs hr => retN X10 hx (t := .boolean) Bd.returns (by simp) (hb hby at_47) hr) ?_ (by decide) (by decide)
      rw [e10]
      exact ⟨rfl, N10⟩
set_option maxRecDepth 65536 in
set_option maxHeartbeats 40000000 in
theorem comes_1 {Post : Tables → Env → Array Value → State → Outcome → State → Prop} (hpost : ∀ tb e args s v u, (limb_1_1.after args s (.returned v) u = true ∧ limb_1_2.after args s (.returned v) u = true ∧ True) → FrameEnd s (.returned v) u (Jvm.fieldLocs frame_1_writes args s ++ Jvm.arrayLocs frame_1_arrays args s ++ Jvm.staticLocs frame_1_statics s) 0 0 → Post tb e args s (.returned v) u) :
    ArmFor flags0 classFile x code maxLocals ret World_1 tables_1 room_1 Calls_1 rest_1 Pre_1 Post := by
  intro l hfl _ _ p e ha hc hk s m args below hf hA hF happ hP
  obtain ⟨hcalls, hrest, hpre⟩ := hP
  obtain ⟨-, -, -, hnamed, -, -, -, hat⟩ := (Spec.applies_iff hf).mp happ
  obtain ⟨hg, hn⟩ := and_e (Cond.before_iff.mp (show (Jvm.Cond.and given_1 narrow_1).before args s = true from hpre))
  obtain ⟨hcnt, hg0⟩ := and_e hg
  obtain ⟨ha0, hg1⟩ := and_e hg0
  have ha1 := hg1
  obtain ⟨w0, w1, rfl⟩ : ∃ w0 w1 : Value, args = #[w0, w1] := by
    have hs : args.size = 2 := by simpa [Cond.value, given_1] using hcnt
    obtain ⟨L⟩ := args
    match L, hs with
    | [w0, w1], _ => exact ⟨w0, w1, rfl⟩
  have hw := fun d (hd : d ∈ tables_1) => atoms_spec (ws := Jvm.Cond.code x code maxLocals ret :: tables_1) hat d (List.mem_cons_of_mem _ hd)
  have hfit : Fit s := fun {y c} hc i hi => by
    obtain ⟨ha, rfl⟩ := Array.getElem?_eq_some_iff.mp hc
    have q := List.all_eq_true.mp ((Array.all_eq_true_iff_forall_mem.mp hF) _ (Array.getElem_mem ha)) i (List.mem_range.mpr hi)
    simpa [Array.getElem?_eq_getElem hi] using q
  obtain ⟨i0, ei0⟩ := is_v ha0
  obtain rfl : w0 = (.int i0) := Option.some.inj ei0
  obtain ⟨i1, ei1⟩ := is_v ha1
  obtain rfl : w1 = (.int i1) := Option.some.inj ei1
  obtain ⟨n, o, h1, h2, h3, _, L, rfl, ⟨rfl, N⟩, hq⟩ := rm0 l s _ hw tables_1 i0 i1  s.heap s.heap.size (Nat.le_refl _)  p e ha hc hk s m _ below hf ((Spec.applies_iff_loose hf).mp happ).1 ⟨rfl, State.Warmed39.refl s, rfl⟩ trivial
  refine ⟨n, _, h1, h2, h3, hpost _ _ _ _ _ _ ⟨Cond.after_iff.mpr rfl, Cond.after_iff.mpr (eq_i res_at (Term.int_eval (1)) rfl), trivial⟩ ⟨hq.1, hq.2.1, (hq.2.2.sift fun y hy => Or.inr (N y hy)).mono (by decide) (by decide)⟩⟩
theorem main_1_1 : Claimed_1_1 := comes_1 fun _ _ _ _ _ _ h hF => ⟨h.1, hF⟩
theorem main_1_2 : Claimed_1_2 := comes_1 fun _ _ _ _ _ _ h hF => ⟨h.2.1, hF⟩
end Jvm.Pilot.@@N@@
namespace Jvm.Pilot.@@N@@
open Jvm Jvm.ClassFile Sem Op Lib Jvm.Free Jvm.Stand Jvm.Pilot.@@N@@.Jvm.D
/-! MADE BY PROGRAM (witnessworld.py) out of the Statement's table words and the real class files: 9 classes; the members and pool entries that the words name. The judged class is class 1, her method 1. -/
namespace start1
open Jvm.ClassFile
def u (s : String) : CpInfo := .utf8 (stringToUtf16 s)
/-- a pool by its gaps: so many unusable entries, then the entry; so many at the end -/
def gap : Nat → List CpInfo → List CpInfo
  | 0, r => r
  | n + 1, r => .unusable :: gap n r
def poolList (es : List (Nat × CpInfo)) (last : Nat) : List CpInfo := es.foldr (fun e r => gap e.1 (e.2 :: r)) (gap last [])
def pool (es : List (Nat × CpInfo)) (last : Nat) : Array CpInfo := ⟨poolList es last⟩
def fileOf (pool : Array CpInfo) (this : Nat) (attrs : Array Attribute := #[]) (ms : Array MethodInfo := #[]) (fl : Nat := 33) (sup : Nat := 0) (ifs : Array Nat := #[]) (fds : Array FieldInfo := #[]) : ClassFile where
  minorVersion := 0
  majorVersion := 65
  constantPool := pool
  accessFlags := fl
  thisClass := this
  superClass := sup
  interfaces := ifs
  fields := fds
  methods := ms
  attributes := attrs
def plain (name : String) (sup : Option ClassId) : Class where
  name := name
  kind := .ordinary
  loader := none
  accessFlags := 33
  super := sup
  interfaces := #[]
  cf := none
  fields := #[]
  methods := #[]
  instanceTypes := #[]
  staticTypes := #[]
  resolved := #[]
  callSites := []
  init := .initialized
  statics := none
  mirror := none

def pool0 : Array CpInfo := pool [(5, u "<init>"), (0, u "()V"), (1, .class_ 10), (1, u "java/lang/Object")] 113

def k0m0 : Method := { name := "<init>", desc := "()V", sig := { parameters := [], returnType := none }, accessFlags := 1, code := none }
/-- java/lang/Object -/
def k0 : Class := { plain "java/lang/Object" none with
  accessFlags := 33
  interfaces := #[]
  cf := some (fileOf pool0 8 #[] #[{ accessFlags := 1, nameIndex := 5, descriptorIndex := 6, attributes := #[] }] 33 0 #[] #[])
  fields := #[]
  methods := #[k0m0]
  instanceTypes := #[]
  staticTypes := #[]
  resolved := Array.replicate 124 none
  statics := none }

def pool1 : Array CpInfo := pool [(2, .class_ 4), (1, u "java/lang/Object"), (0, u "<init>"), (0, u "()V"), (0, .methodref 8 9), (0, .class_ 10), (0, .nameAndType 11 12), (0, u "com/example/vested_pointer/vestedpointer/mappingtable/HttpUrlIsLetterOrDigitPinLaw"), (0, u "isAsciiLetter"), (0, u "(I)Z"), (0, .methodref 8 14), (0, .nameAndType 15 12), (0, u "isAsciiDigit"), (0, .methodref 17 18), (0, .class_ 19), (0, .nameAndType 20 12), (0, u "com/example/vested_pointer/vestedpointer/mappingtable/HttpUrl"), (0, u "isLetterOrDigit"), (0, .long 48), (1, .long 10), (3, u "law"), (0, u "(II)Z")] 3

def k1m0 : Method := { name := "<init>", desc := "()V", sig := { parameters := [], returnType := none }, accessFlags := 2, code := none }
def k1c1 : Code := { maxStack := 2, maxLocals := 4, code := code, exceptionTable := #[], attributes := #[] }
def k1m1 : Method := { name := "law", desc := "(II)Z", sig := { parameters := [.int, .int], returnType := some .boolean }, accessFlags := 9, code := some k1c1 }
def k1c2 : Code := { maxStack := 2, maxLocals := 2, code := method_3_code, exceptionTable := #[], attributes := #[] }
def k1m2 : Method := { name := "isAsciiLetter", desc := "(I)Z", sig := { parameters := [.int], returnType := some .boolean }, accessFlags := 10, code := some k1c2 }
def k1c3 : Code := { maxStack := 4, maxLocals := 3, code := method_4_code, exceptionTable := #[], attributes := #[] }
def k1m3 : Method := { name := "isAsciiDigit", desc := "(I)Z", sig := { parameters := [.int], returnType := some .boolean }, accessFlags := 10, code := some k1c3 }
/-- com/example/vested_pointer/vestedpointer/mappingtable/HttpUrlIsLetterOrDigitPinLaw -/
def k1 : Class := { plain "com/example/vested_pointer/vestedpointer/mappingtable/HttpUrlIsLetterOrDigitPinLaw" (some 0) with
  accessFlags := 49
  interfaces := #[]
  cf := some (fileOf pool1 8 #[] #[{ accessFlags := 2, nameIndex := 5, descriptorIndex := 6, attributes := #[] }, { accessFlags := 9, nameIndex := 27, descriptorIndex := 28, attributes := #[] }, { accessFlags := 10, nameIndex := 11, descriptorIndex := 12, attributes := #[] }, { accessFlags := 10, nameIndex := 15, descriptorIndex := 12, attributes := #[] }] 49 2 #[] #[])
  fields := #[]
  methods := #[k1m0, k1m1, k1m2, k1m3]
  instanceTypes := #[]
  staticTypes := #[]
  resolved := Array.replicate 32 none
  statics := none }

def pool2 : Array CpInfo := pool [(2, .class_ 4), (1, u "java/lang/Object"), (0, u "<init>"), (0, u "()V"), (11, .class_ 20), (1, u "com/example/vested_pointer/vestedpointer/mappingtable/HttpUrl"), (90, .methodref 18 112), (0, .nameAndType 113 114), (0, u "isDigit"), (0, u "(I)Z"), (15, u "isLetterOrDigit"), (38, .methodref 18 170), (0, .nameAndType 171 114), (0, u "isLetter"), (8, u "UNRESERVED_AND_SUB_DELIMS"), (0, u "Ljava/lang/String;")] 30

def k2m0 : Method := { name := "<init>", desc := "()V", sig := { parameters := [], returnType := none }, accessFlags := 2, code := none }
def k2c1 : Code := { maxStack := 2, maxLocals := 1, code := prog_17_method_12_code, exceptionTable := #[], attributes := #[] }
def k2m1 : Method := { name := "isLetter", desc := "(I)Z", sig := { parameters := [.int], returnType := some .boolean }, accessFlags := 10, code := some k2c1 }
def k2c2 : Code := { maxStack := 2, maxLocals := 1, code := prog_17_method_13_code, exceptionTable := #[], attributes := #[] }
def k2m2 : Method := { name := "isDigit", desc := "(I)Z", sig := { parameters := [.int], returnType := some .boolean }, accessFlags := 10, code := some k2c2 }
def k2c3 : Code := { maxStack := 1, maxLocals := 1, code := prog_17_method_14_code, exceptionTable := #[], attributes := #[] }
def k2m3 : Method := { name := "isLetterOrDigit", desc := "(I)Z", sig := { parameters := [.int], returnType := some .boolean }, accessFlags := 8, code := some k2c3 }
/-- com/example/vested_pointer/vestedpointer/mappingtable/HttpUrl -/
def k2 : Class := { plain "com/example/vested_pointer/vestedpointer/mappingtable/HttpUrl" (some 0) with
  accessFlags := 48
  interfaces := #[]
  cf := some (fileOf pool2 18 #[] #[{ accessFlags := 2, nameIndex := 5, descriptorIndex := 6, attributes := #[] }, { accessFlags := 10, nameIndex := 171, descriptorIndex := 114, attributes := #[] }, { accessFlags := 10, nameIndex := 113, descriptorIndex := 114, attributes := #[] }, { accessFlags := 8, nameIndex := 130, descriptorIndex := 114, attributes := #[] }] 48 2 #[] #[{ accessFlags := 26, nameIndex := 180, descriptorIndex := 181, attributes := #[] }])
  fields := #[{ name := "UNRESERVED_AND_SUB_DELIMS", type := (.object "java/lang/String"), accessFlags := 26, slot := 0, constantValue := 0 }]
  methods := #[k2m0, k2m1, k2m2, k2m3]
  instanceTypes := #[]
  staticTypes := #[(.object "java/lang/String")]
  resolved := Array.replicate 212 none
  statics := none }

def pool3 : Array CpInfo := pool [(1, u "java/lang/Cloneable"), (0, .class_ 1), (0, u "java/lang/Object"), (0, .class_ 3)] 3

/-- java/lang/Cloneable -/
def k3 : Class := { plain "java/lang/Cloneable" (some 0) with
  accessFlags := 1537
  interfaces := #[]
  cf := some (fileOf pool3 2 #[] #[] 1537 4 #[] #[])
  fields := #[]
  methods := #[]
  instanceTypes := #[]
  staticTypes := #[]
  resolved := Array.replicate 8 none
  statics := none }

def pool4 : Array CpInfo := pool [(1, u "java/io/Serializable"), (0, .class_ 1), (0, u "java/lang/Object"), (0, .class_ 3)] 3

/-- java/io/Serializable -/
def k4 : Class := { plain "java/io/Serializable" (some 0) with
  accessFlags := 1537
  interfaces := #[]
  cf := some (fileOf pool4 2 #[] #[] 1537 4 #[] #[])
  fields := #[]
  methods := #[]
  instanceTypes := #[]
  staticTypes := #[]
  resolved := Array.replicate 8 none
  statics := none }

/-- the primitive byte -/
def k5 : Class := { plain "byte" none with kind := .primitive 'B', accessFlags := 0x411 }
/-- [B -/
def k6 : Class := { plain "[B" (some 0) with kind := .array 5 .byte, interfaces := #[3, 4], accessFlags := 1041 }

/-- the primitive int -/
def k7 : Class := { plain "int" none with kind := .primitive 'I', accessFlags := 0x411 }
/-- [I -/
def k8 : Class := { plain "[I" (some 0) with kind := .array 7 .int, interfaces := #[3, 4], accessFlags := 1041 }

def heap : Heap := #[]
def classes : Array Class := #[k0, k1, k2, k3, k4, k5, k6, k7, k8]
def interned : List (Array UInt16 × Addr) := []
def slotsUsed : Nat := 0
def theMethod : MethodId := ⟨1, 1⟩
def args0 : Array Value := #[.int 65, .int 1]
def aboutOver (below : List Frame) : State where
  vm := { classes := classes, interned := interned.toArray }
  heap := heap
  slotsUsed := slotsUsed
  threads := #[{ frames := .invoking theMethod args0 :: below }]
def below0 : List Frame := [.native { method := ⟨0, 0⟩, args := #[] }]
def about1 : State := aboutOver below0
def p0 : Program := .bare "" "" ""
def e0 : Env := launch0.env 0 0 0
theorem w_frames : about1.frames = Frame.invoking theMethod args0 :: below0 := rfl
set_option maxRecDepth 65536 in
theorem w_args : argsFit about1.vm theMethod args0 = true := by decide +kernel
set_option maxRecDepth 65536 in
theorem w_heap : heapFits about1 = true := by decide +kernel
set_option maxRecDepth 65536 in
theorem w_runnable : about1.curStatus? = some .runnable := by decide +kernel
set_option maxRecDepth 65536 in
theorem w_alone : about1.alone = true := by decide +kernel
set_option maxRecDepth 65536 in
theorem w_named : about1.methodNamed? x = some theMethod := by decide +kernel
set_option maxRecDepth 65536 in
theorem w_hears : about1.hears theMethod below0 = true := by decide +kernel
set_option maxRecDepth 65536 in
theorem w_ripe : about1.ripe theMethod args0 below0 = true := by decide +kernel
theorem w_running : about1.status = .running := rfl
set_option maxRecDepth 65536 in
theorem w_room : about1.hasRoom e0.platform room_1 = true :=
  launch0.hasRoom_least _ room_1 (by decide +kernel) (by decide +kernel) (by decide +kernel) (by decide +kernel) (by decide +kernel) (by decide +kernel)
theorem allAtoms_all (ts : List Jvm.Cond) (a : Array Jvm.Value) (st : Jvm.State) : (allAtoms ts).before a st = ts.all (fun c => c.before a st) := by
  induction ts with
  | nil => rfl
  | cons c t ih =>
    show (Jvm.Cond.and c (allAtoms t)).before a st = _
    rw [Jvm.Cond.before_and, ih, List.all_cons]
def words1 : List Jvm.Cond := Jvm.Cond.code x code maxLocals ret :: tables_1
/-- a 'code' word, met by the world's own term for the bytes: nothing is compared byte by byte -/
theorem code_word {y : MethodName} {bytes : ByteArray} {mx : Nat} {rt : Option FieldType} {a : Array Value} {s : State} {m : MethodId} {meth : Method} {c : Code} (h1 : s.methodNamed? y = some m) (h2 : s.vm.method? m = some meth) (h3 : meth.code = some c) (h4 : c.code = bytes)
    (h5 : (c.maxLocals == mx && c.exceptionTable.isEmpty && decide (c.maxStack ≤ mostOperands) && decide (meth.sig.returnType = rt) && !meth.locks && decide (parseMethodDescriptor y.desc = some meth.sig)) = true) : (Jvm.Cond.code y bytes mx rt).before a s = true := by
  simp only [Bool.and_eq_true, beq_iff_eq, Bool.not_eq_true', decide_eq_true_eq] at h5
  obtain ⟨⟨⟨⟨⟨g1, g2⟩, g3⟩, g4⟩, g5⟩, g6⟩ := h5
  simp [Cond.before, Cond.holds, Cond.value, h1, h2, h3, h4, g1, g2, g3, g4, g5, g6]
def isCode : Jvm.Cond → Bool
  | .code _ _ _ _ => true
  | _ => false
theorem all_split {L : List Jvm.Cond} {P : Jvm.Cond → Bool} (h1 : L.all (fun c => isCode c || P c) = true) (h2 : ∀ c ∈ L.filter isCode, P c = true) : L.all P = true := by
  refine List.all_eq_true.mpr fun c hc => ?_
  have h := List.all_eq_true.mp h1 c hc
  rcases Bool.eq_false_or_eq_true (isCode c) with hi | hi
  · exact h2 c (List.mem_filter.mpr ⟨hc, hi⟩)
  · simpa [hi] using h
set_option maxRecDepth 65536 in
theorem w_c0 : (Jvm.Cond.code x code maxLocals ret).before args0 about1 = true := code_word (m := ⟨1, 1⟩) (meth := k1m1) (c := k1c1) (by decide +kernel) rfl rfl rfl (by decide +kernel)
set_option maxRecDepth 65536 in
theorem w_c1 : (Jvm.Cond.code ({ cls := "com/example/vested_pointer/vestedpointer/mappingtable/HttpUrlIsLetterOrDigitPinLaw", name := "isAsciiLetter", desc := "(I)Z" } : Jvm.MethodName) method_3_code (2 : Nat) (Option.some Jvm.ClassFile.FieldType.boolean)).before args0 about1 = true := code_word (m := ⟨1, 2⟩) (meth := k1m2) (c := k1c2) (by decide +kernel) rfl rfl rfl (by decide +kernel)
set_option maxRecDepth 65536 in
theorem w_c2 : (Jvm.Cond.code ({ cls := "com/example/vested_pointer/vestedpointer/mappingtable/HttpUrlIsLetterOrDigitPinLaw", name := "isAsciiDigit", desc := "(I)Z" } : Jvm.MethodName) method_4_code (3 : Nat) (Option.some Jvm.ClassFile.FieldType.boolean)).before args0 about1 = true := code_word (m := ⟨1, 3⟩) (meth := k1m3) (c := k1c3) (by decide +kernel) rfl rfl rfl (by decide +kernel)
set_option maxRecDepth 65536 in
theorem w_c3 : (Jvm.Cond.code ({ cls := "com/example/vested_pointer/vestedpointer/mappingtable/HttpUrl", name := "isLetterOrDigit", desc := "(I)Z" } : Jvm.MethodName) prog_17_method_14_code (1 : Nat) (Option.some Jvm.ClassFile.FieldType.boolean)).before args0 about1 = true := code_word (m := ⟨2, 3⟩) (meth := k2m3) (c := k2c3) (by decide +kernel) rfl rfl rfl (by decide +kernel)
set_option maxRecDepth 65536 in
theorem w_c4 : (Jvm.Cond.code ({ cls := "com/example/vested_pointer/vestedpointer/mappingtable/HttpUrl", name := "isLetter", desc := "(I)Z" } : Jvm.MethodName) prog_17_method_12_code (1 : Nat) (Option.some Jvm.ClassFile.FieldType.boolean)).before args0 about1 = true := code_word (m := ⟨2, 1⟩) (meth := k2m1) (c := k2c1) (by decide +kernel) rfl rfl rfl (by decide +kernel)
set_option maxRecDepth 65536 in
theorem w_c5 : (Jvm.Cond.code ({ cls := "com/example/vested_pointer/vestedpointer/mappingtable/HttpUrl", name := "isDigit", desc := "(I)Z" } : Jvm.MethodName) prog_17_method_13_code (1 : Nat) (Option.some Jvm.ClassFile.FieldType.boolean)).before args0 about1 = true := code_word (m := ⟨2, 2⟩) (meth := k2m2) (c := k2c2) (by decide +kernel) rfl rfl rfl (by decide +kernel)
def codes1 : List Jvm.Cond := [Jvm.Cond.code x code maxLocals ret, Jvm.Cond.code ({ cls := "com/example/vested_pointer/vestedpointer/mappingtable/HttpUrlIsLetterOrDigitPinLaw", name := "isAsciiLetter", desc := "(I)Z" } : Jvm.MethodName) method_3_code (2 : Nat) (Option.some Jvm.ClassFile.FieldType.boolean), Jvm.Cond.code ({ cls := "com/example/vested_pointer/vestedpointer/mappingtable/HttpUrlIsLetterOrDigitPinLaw", name := "isAsciiDigit", desc := "(I)Z" } : Jvm.MethodName) method_4_code (3 : Nat) (Option.some Jvm.ClassFile.FieldType.boolean), Jvm.Cond.code ({ cls := "com/example/vested_pointer/vestedpointer/mappingtable/HttpUrl", name := "isLetterOrDigit", desc := "(I)Z" } : Jvm.MethodName) prog_17_method_14_code (1 : Nat) (Option.some Jvm.ClassFile.FieldType.boolean), Jvm.Cond.code ({ cls := "com/example/vested_pointer/vestedpointer/mappingtable/HttpUrl", name := "isLetter", desc := "(I)Z" } : Jvm.MethodName) prog_17_method_12_code (1 : Nat) (Option.some Jvm.ClassFile.FieldType.boolean), Jvm.Cond.code ({ cls := "com/example/vested_pointer/vestedpointer/mappingtable/HttpUrl", name := "isDigit", desc := "(I)Z" } : Jvm.MethodName) prog_17_method_13_code (1 : Nat) (Option.some Jvm.ClassFile.FieldType.boolean)]
set_option maxRecDepth 65536 in
theorem codes_eq : words1.filter isCode = codes1 := rfl
theorem w_codes : ∀ c ∈ words1.filter isCode, c.before args0 about1 = true := by
  rw [codes_eq]
  intro c hc
  simp only [codes1, List.mem_cons, List.not_mem_nil, or_false] at hc
  rcases hc with rfl | rfl | rfl | rfl | rfl | rfl
  · exact w_c0
  · exact w_c1
  · exact w_c2
  · exact w_c3
  · exact w_c4
  · exact w_c5
set_option maxRecDepth 65536 in
theorem w_t1 : words1.all (fun c => isCode c || c.before args0 about1) = true := by decide +kernel
theorem w_tables : (allAtoms (Jvm.Cond.code x code maxLocals ret :: tables_1)).before args0 about1 = true := by
  rw [allAtoms_all]
  show words1.all (fun c => c.before args0 about1) = true
  refine all_split ?_ w_codes
  rw [w_t1]
set_option maxRecDepth 65536 in
theorem w_case : (Jvm.Cond.and given_1 narrow_1).before args0 about1 = true := by decide +kernel
theorem w_applies : (headSpec (Jvm.Cond.code x code maxLocals ret :: tables_1) room_1).applies x e0.platform about1 = true :=
  (Spec.applies_iff w_frames).mpr ⟨w_running, w_runnable, w_alone, w_named, w_hears, w_ripe, w_room, w_tables⟩
theorem atStart : AtStart classFile x code maxLocals ret World_1 tables_1 room_1 Calls_1 rest_1 Pre_1 launch0 p0 e0 about1 theMethod args0 below0 :=
  ⟨lists_1, trivial, launch0.admits_env _ _ _, launch0.least_env, fairChoices_fair.cas, fairChoices_fair.clock, w_frames, w_args, w_heap, w_applies, trivial, trivial, w_case⟩
end start1
theorem witness_1 : WitnessClaimed_1 := ⟨start1.p0, start1.e0, start1.about1, start1.theMethod, start1.args0, start1.below0, start1.atStart⟩
end Jvm.Pilot.@@N@@
