import JvmDerived
import JvmDerived.Pilot.@@N@@Statement
import JvmDerived.Pilot.@@N@@Code
set_option linter.unusedVariables false
set_option linter.unusedSimpArgs false
namespace Jvm.Pilot.@@N@@
open Jvm Jvm.ClassFile Sem Op Lib Jvm.Free Jvm.Stand Jvm.LawKit Jvm.RoadKit Bundle Jvm.Pilot.@@N@@.Jvm.D
/-- from S the method comes to its end, and what it leaves answers Q -/
def Rest (tb : Tables) (e : Env) (below : List Frame) (s : State) (Q : Option Value → Heap → List Loc → Prop) (k n : Nat) (S : State) : Prop :=
  ∃ t o, Steps tb e below S t ∧ t.status = .running ∧ Ended t below o ∧ ∃ v L, o = .returned v ∧ Q v t.heap L ∧ FrameEnd s o t L k n
theorem Rest.via {tb : Tables} {e : Env} {below : List Frame} {s : State} {Q : Option Value → Heap → List Loc → Prop} {k n : Nat} {S S' : State} (h : ∀ t, Steps tb e below S' t → Steps tb e below S t) (r : Rest tb e below s Q k n S') : Rest tb e below s Q k n S := by
  obtain ⟨t, o, h1, h2⟩ := r; exact ⟨t, o, h t h1, h2⟩
theorem Rest.ret {p : Program} {l : Launch} {e : Env} {R : Room} {s : State} {m : MethodId} {args : Array Value} {below : List Frame} {meth : Method} {c : Code} {T : State} {locs : List Loc} {cells slots : Nat} {Q : Option Value → Heap → List Loc → Prop} {k n : Nat} {S : State} {v : Option Value}
    (X : Stand p l e R s m args below meth c T locs cells slots) (hv : meth.sig.returnType = none → v = none) (hlocks : meth.locks = false)
    (st : ∀ fs, (∀ (f : JFrame) (acts : List Action), f.method = m → f.locked = none → f.entered = [] → (doReturn e (T.setTop f) acts v).1 = T.setFrames fs) → Steps p.tables e below S (T.setFrames fs))
    (hq : Q v T.heap locs) (hk : cells ≤ k) (hn : slots ≤ n) : Rest p.tables e below s Q k n S := by
  obtain ⟨fs, hr, hrun, hended, hW, hsame⟩ := X.leave (v := v) hv hlocks
  exact ⟨_, _, st fs hr, hrun, hended, _, _, rfl, hq, ⟨_, rfl⟩, hW, hsame.mono hk hn⟩
theorem own_eqfld {args : Array Value} {s : State} {t : Term} {C n d : String} {a : Addr} {k : Int32} (ht : t.eval args s none [] s = some (.ref a)) (h : (Jvm.Cond.eq (.field t C n d) (.int k)).value args s none s [] = some true) : Fld s s.heap a C n d (.int k) := by
  obtain ⟨x, y, e1, e2, k1, k2⟩ := cmp_v (Or.inl h)
  cases (Option.some.inj (e2.symm.trans (Term.int_eval k)) : y = .int k)
  obtain ⟨z, rfl⟩ := k2
  have hz : z = k := gotT (Cond.eq_ints e1 (Term.int_eval k)) h
  subst hz
  exact Fld.start (by rw [← fld_at ht]; exact e1)
def own_B (Z : State) (h : Heap) (d0 d1 d2 d3 : Addr) : Prop := Sta Z h "com/example/reknit/reknit/DataClass" "CRITICAL_HIGH" "Lcom/example/reknit/reknit/DataClass;" (.ref d0) ∧ Exa Z h d0 "com/example/reknit/reknit/DataClass" ∧ Fld Z h d0 "java/lang/Enum" "ordinal" "I" (.int (0 : Int32)) ∧ Sta Z h "com/example/reknit/reknit/DataClass" "CRITICAL_LOW" "Lcom/example/reknit/reknit/DataClass;" (.ref d1) ∧ Exa Z h d1 "com/example/reknit/reknit/DataClass" ∧ Fld Z h d1 "java/lang/Enum" "ordinal" "I" (.int (1 : Int32)) ∧ Sta Z h "com/example/reknit/reknit/DataClass" "GENERAL_HIGH" "Lcom/example/reknit/reknit/DataClass;" (.ref d2) ∧ Exa Z h d2 "com/example/reknit/reknit/DataClass" ∧ Fld Z h d2 "java/lang/Enum" "ordinal" "I" (.int (2 : Int32)) ∧ Sta Z h "com/example/reknit/reknit/DataClass" "GENERAL_LOW" "Lcom/example/reknit/reknit/DataClass;" (.ref d3) ∧ Exa Z h d3 "com/example/reknit/reknit/DataClass" ∧ Fld Z h d3 "java/lang/Enum" "ordinal" "I" (.int (3 : Int32)) ∧ d0 ≠ d1 ∧ d0 ≠ d2 ∧ d1 ≠ d2 ∧ d0 ≠ d3 ∧ d1 ≠ d3 ∧ d2 ≠ d3
theorem own_four (x : Int32) : (x &&& (3 : Int32)) = 0 ∨ (x &&& (3 : Int32)) = 1 ∨ (x &&& (3 : Int32)) = 2 ∨ (x &&& (3 : Int32)) = 3 := by
  have e := c_mask x 3 2 (by decide) (by decide)
  have h1 := Int.emod_nonneg x.toInt (b := ((2 ^ 2 : Nat) : Int)) (by decide)
  have h2 := Int.emod_lt_of_pos x.toInt (b := ((2 ^ 2 : Nat) : Int)) (by decide)
  have e0 : (0 : Int32).toInt = 0 := by decide
  have e1 : (1 : Int32).toInt = 1 := by decide
  have e2 : (2 : Int32).toInt = 2 := by decide
  have e3 : (3 : Int32).toInt = 3 := by decide
  simp only [← Int32.toInt_inj, e0, e1, e2, e3]
  omega
theorem d4_0 : decode jdk_37_method_2_code 0 = .ok (.aload_n 0, 1) := by decide +kernel
theorem d4_1 : decode jdk_37_method_2_code 1 = .ok (.getfield 7, 3) := by decide +kernel
theorem d4_4 : decode jdk_37_method_2_code 4 = .ok (.ireturn, 1) := by decide +kernel
theorem pn_0 : plainName "java/lang/Enum" = true := by first | (simp [plainName, overriddenIn]; done) | decide +kernel
theorem ef_O (m : MethodId) (a0 : Addr) : entryFrame m #[(.ref a0)] 1 = mkF m 0 #[.val (.ref a0)] [] := by first | (simp [entryFrame, mkF, argsToLocals, Value.category, maxLocals]; done) | rfl
def QO (Z : State) (a0 : Addr) (w1 : Int32) (h0 : Heap) (n0 : Nat) (v : Option Value) (h : Heap) (L : List Loc) : Prop := v = some (.int w1) ∧ Fr n0 L ∧ h = h0
set_option maxRecDepth 65536 in
set_option maxHeartbeats 40000000 in
theorem rmO (l : Launch) (Z : State) (aw : Array Value) (hw : ∀ d ∈ tables_1, d.before aw Z = true) (ws : List Jvm.Cond) (a0 : Addr) (w1 : Int32) (h0 : Heap) (n0 : Nat) (Z0 : n0 ≤ h0.size) (F : Fld Z h0 a0 "java/lang/Enum" "ordinal" "I" (.int w1)) :
    MetFree l (⟨"java/lang/Enum", "ordinal", "()I"⟩ : MethodName) (head1 (Jvm.Cond.code (⟨"java/lang/Enum", "ordinal", "()I"⟩ : MethodName) jdk_37_method_2_code 1 (some .int) :: ws) ({ frames := 0, cells := 0, slots := 0, locals := 0 } : Room)) (fun a U => a = #[(.ref a0)] ∧ Z.Warmed39 U.vm ∧ U.heap = h0) (fun _ _ _ _ _ => True) (fun _ U o U' => ∃ v L, o = .returned v ∧ QO Z a0 w1 h0 n0 v U'.heap L ∧ FrameEnd U o U' L ({ frames := 0, cells := 0, slots := 0, locals := 0 } : Room).cells ({ frames := 0, cells := 0, slots := 0, locals := 0 } : Room).slots) := by
  refine MetFree.of_bodySF (plainFor_of_name pn_0) hisR ?_
  intro p e s m args below meth c s₁ Bd hml0 hP hK
  obtain ⟨rfl, hZ, hh⟩ := hP
  have hx := Bd.exec
  have hby := Bd.bytes
  have hml : c.maxLocals = 1 := hml0
  have hown : s.vm.findClass "java/lang/Enum" = some m.cls := findClass_of_methodNamed Bd.named
  have hnm := (name_of_methodNamed Bd.named Bd.method).1
  have hlk : meth.locks = false := BodyLoose.notSynchronized Bd
  have X0 : Stand p l e ({ frames := 0, cells := 0, slots := 0, locals := 0 } : Room) s m #[(.ref a0)] below meth c s₁ [] 0 0 := Stand.of_body Bd
  have eh0 : s₁.heap = h0 := by rw [← hh, Bd.state]; rfl
  have N0 := Fr.nil n0
  show Rest p.tables e below s (QO Z a0 w1 h0 n0) _ _ (s₁.setTop (entryFrame m #[(.ref a0)] 1))
  refine Rest.via (fun t k => castTop (ef_O m a0) k) ?_
  show Rest p.tables e below s _ _ _ (s₁.setTop (mkF m 0 #[.val (.ref a0)] []))
  refine Rest.via (fun t k => XS.aloadN X0.here hx rfl (hb hby d4_0) rfl rfl k) ?_
  show Rest p.tables e below s _ _ _ (s₁.setTop (mkF m 1 #[.val (.ref a0)] [(.ref a0)]))
  obtain ⟨T1, X1, e1, st1⟩ := getF X0 hx hZ hown (host := "") (Or.inl (hw _ (List.mem_of_getElem? (i := 25) rfl))) Via.refl eh0 F (g := (mkF m 1 #[.val (.ref a0)] [(.ref a0)])) rfl rfl (hb hby d4_1)
  refine Rest.via (fun t k => st1 t k) ?_
  show Rest p.tables e below s _ _ _ (T1.setTop (mkF m 4 #[.val (.ref a0)] [(.int w1)]))
  refine Rest.ret X1 (v := some (.int w1)) (fun h => by rw [Bd.returns] at h; cases h) hlk (fun fs hr => retOut X1 hx Bd.returns rfl (Or.inl ⟨rfl, Or.inl rfl, _, rfl⟩) (hb hby d4_4) hr) ?_ (by decide) (by decide)
  rw [e1]
  exact ⟨rfl, N0, rfl⟩
theorem d1_0 : decode method_2_code 0 = .ok (.iload_n 0, 1) := by decide +kernel
theorem d1_1 : decode method_2_code 1 = .ok (.ifCond .ne 7, 3) := by decide +kernel
theorem d1_4 : decode method_2_code 4 = .ok (.getstatic 7, 3) := by decide +kernel
theorem d1_7 : decode method_2_code 7 = .ok (.areturn, 1) := by decide +kernel
theorem pn_1 : plainName "com/example/reknit/reknit/DataClassIsCriticalPinLaw" = true := by first | (simp [plainName, overriddenIn]; done) | decide +kernel
theorem ef_P0 (m : MethodId)  : entryFrame m #[(.int (0 : Int32))] 1 = mkF m 0 #[.val (.int (0 : Int32))] [] := by first | (simp [entryFrame, mkF, argsToLocals, Value.category, maxLocals]; done) | rfl
def QP0 (Z : State) (d0 : Addr) (d1 : Addr) (d2 : Addr) (d3 : Addr) (h0 : Heap) (n0 : Nat) (v : Option Value) (h : Heap) (L : List Loc) : Prop := v = some (.ref d0) ∧ Fr n0 L ∧ h = h0
set_option maxRecDepth 65536 in
set_option maxHeartbeats 40000000 in
theorem rmP0 (l : Launch) (Z : State) (aw : Array Value) (hw : ∀ d ∈ tables_1, d.before aw Z = true) (ws : List Jvm.Cond) (d0 : Addr) (d1 : Addr) (d2 : Addr) (d3 : Addr) (h0 : Heap) (n0 : Nat) (Z0 : n0 ≤ h0.size) (B : own_B Z h0 d0 d1 d2 d3) :
    MetFree l (⟨"com/example/reknit/reknit/DataClassIsCriticalPinLaw", "pick", "(I)Lcom/example/reknit/reknit/DataClass;"⟩ : MethodName) (head1 (Jvm.Cond.code (⟨"com/example/reknit/reknit/DataClassIsCriticalPinLaw", "pick", "(I)Lcom/example/reknit/reknit/DataClass;"⟩ : MethodName) method_2_code 1 (some (.object "com/example/reknit/reknit/DataClass")) :: ws) ({ frames := 0, cells := 0, slots := 0, locals := 0 } : Room)) (fun a U => a = #[(.int (0 : Int32))] ∧ Z.Warmed39 U.vm ∧ U.heap = h0) (fun _ _ _ _ _ => True) (fun _ U o U' => ∃ v L, o = .returned v ∧ QP0 Z d0 d1 d2 d3 h0 n0 v U'.heap L ∧ FrameEnd U o U' L ({ frames := 0, cells := 0, slots := 0, locals := 0 } : Room).cells ({ frames := 0, cells := 0, slots := 0, locals := 0 } : Room).slots) := by
  refine MetFree.of_bodySF (plainFor_of_name pn_1) hisR ?_
  intro p e s m args below meth c s₁ Bd hml0 hP hK
  obtain ⟨rfl, hZ, hh⟩ := hP
  have hx := Bd.exec
  have hby := Bd.bytes
  have hml : c.maxLocals = 1 := hml0
  have hown : s.vm.findClass "com/example/reknit/reknit/DataClassIsCriticalPinLaw" = some m.cls := findClass_of_methodNamed Bd.named
  have hnm := (name_of_methodNamed Bd.named Bd.method).1
  have hlk : meth.locks = false := BodyLoose.notSynchronized Bd
  have X0 : Stand p l e ({ frames := 0, cells := 0, slots := 0, locals := 0 } : Room) s m #[(.int (0 : Int32))] below meth c s₁ [] 0 0 := Stand.of_body Bd
  have eh0 : s₁.heap = h0 := by rw [← hh, Bd.state]; rfl
  have N0 := Fr.nil n0
  show Rest p.tables e below s (QP0 Z d0 d1 d2 d3 h0 n0) _ _ (s₁.setTop (entryFrame m #[(.int (0 : Int32))] 1))
  refine Rest.via (fun t k => castTop (ef_P0 m ) k) ?_
  have B0 := B
  obtain ⟨S0, E0, F0, S1, E1, F1, S2, E2, F2, S3, E3, F3, ne0_1, ne0_2, ne1_2, ne0_3, ne1_3, ne2_3⟩ := B0
  show Rest p.tables e below s _ _ _ (s₁.setTop (mkF m 0 #[.val (.int (0 : Int32))] []))
  refine Rest.via (fun t k => XS.iloadN X0.here hx rfl (hb hby d1_0) rfl k) ?_
  show Rest p.tables e below s _ _ _ (s₁.setTop (mkF m 1 #[.val (.int (0 : Int32))] [(.int (0 : Int32))]))
  refine Rest.via (fun t k => XS.ifNo X0.here hx rfl (hb hby d1_1) rfl ((if0 _ _).trans (teq (by decide : (0 : Int32) = (0 : Int32))).2) k) ?_
  show Rest p.tables e below s _ _ _ (s₁.setTop (mkF m 4 #[.val (.int (0 : Int32))] []))
  obtain ⟨T1, X1, e1, st1⟩ := getS2 X0 hx hZ hown (host := "") (Or.inl (hw _ (List.mem_of_getElem? (i := 4) rfl))) Via.refl eh0 S0 (g := (mkF m 4 #[.val (.int (0 : Int32))] [])) rfl (hb hby d1_4)
  refine Rest.via (fun t k => st1 t k) ?_
  show Rest p.tables e below s _ _ _ (T1.setTop (mkF m 7 #[.val (.int (0 : Int32))] [(.ref d0)]))
  refine Rest.ret X1 (v := some (.ref d0)) (fun h => by rw [Bd.returns] at h; cases h) hlk (fun fs hr => retOut X1 hx Bd.returns rfl (Or.inr (Or.inr (Or.inr (Or.inr ⟨rfl, rfl, rfl⟩)))) (hb hby d1_7) hr) ?_ (by decide) (by decide)
  rw [e1]
  exact ⟨rfl, N0, rfl⟩
theorem d2_0 : decode prog_14_method_5_code 0 = .ok (.aload_n 0, 1) := by decide +kernel
theorem d2_1 : decode prog_14_method_5_code 1 = .ok (.getstatic 3, 3) := by decide +kernel
theorem d2_4 : decode prog_14_method_5_code 4 = .ok (.if_acmp .eq 10, 3) := by decide +kernel
theorem d2_14 : decode prog_14_method_5_code 14 = .ok (.iconst 1, 1) := by decide +kernel
theorem d2_15 : decode prog_14_method_5_code 15 = .ok (.goto 4, 3) := by decide +kernel
theorem d2_19 : decode prog_14_method_5_code 19 = .ok (.ireturn, 1) := by decide +kernel
theorem pn_2 : plainName "com/example/reknit/reknit/DataClass" = true := by first | (simp [plainName, overriddenIn]; done) | decide +kernel
theorem ef_C0 (m : MethodId)  : entryFrame m #[(.ref d0)] 1 = mkF m 0 #[.val (.ref d0)] [] := by first | (simp [entryFrame, mkF, argsToLocals, Value.category, maxLocals]; done) | rfl
def QC0 (Z : State) (d0 : Addr) (d1 : Addr) (d2 : Addr) (d3 : Addr) (h0 : Heap) (n0 : Nat) (v : Option Value) (h : Heap) (L : List Loc) : Prop := v = some (.int (1 : Int32)) ∧ Fr n0 L ∧ h = h0
set_option maxRecDepth 65536 in
set_option maxHeartbeats 40000000 in
theorem rmC0 (l : Launch) (Z : State) (aw : Array Value) (hw : ∀ d ∈ tables_1, d.before aw Z = true) (ws : List Jvm.Cond) (d0 : Addr) (d1 : Addr) (d2 : Addr) (d3 : Addr) (h0 : Heap) (n0 : Nat) (Z0 : n0 ≤ h0.size) (B : own_B Z h0 d0 d1 d2 d3) :
    MetFree l (⟨"com/example/reknit/reknit/DataClass", "isCritical", "()Z"⟩ : MethodName) (head1 (Jvm.Cond.code (⟨"com/example/reknit/reknit/DataClass", "isCritical", "()Z"⟩ : MethodName) prog_14_method_5_code 1 (some .boolean) :: ws) ({ frames := 0, cells := 0, slots := 0, locals := 0 } : Room)) (fun a U => a = #[(.ref d0)] ∧ Z.Warmed39 U.vm ∧ U.heap = h0) (fun _ _ _ _ _ => True) (fun _ U o U' => ∃ v L, o = .returned v ∧ QC0 Z d0 d1 d2 d3 h0 n0 v U'.heap L ∧ FrameEnd U o U' L ({ frames := 0, cells := 0, slots := 0, locals := 0 } : Room).cells ({ frames := 0, cells := 0, slots := 0, locals := 0 } : Room).slots) := by
  refine MetFree.of_bodySF (plainFor_of_name pn_2) hisR ?_
  intro p e s m args below meth c s₁ Bd hml0 hP hK
  obtain ⟨rfl, hZ, hh⟩ := hP
  have hx := Bd.exec
  have hby := Bd.bytes
  have hml : c.maxLocals = 1 := hml0
  have hown : s.vm.findClass "com/example/reknit/reknit/DataClass" = some m.cls := findClass_of_methodNamed Bd.named
  have hnm := (name_of_methodNamed Bd.named Bd.method).1
  have hlk : meth.locks = false := BodyLoose.notSynchronized Bd
  have X0 : Stand p l e ({ frames := 0, cells := 0, slots := 0, locals := 0 } : Room) s m #[(.ref d0)] below meth c s₁ [] 0 0 := Stand.of_body Bd
  have eh0 : s₁.heap = h0 := by rw [← hh, Bd.state]; rfl
  have N0 := Fr.nil n0
  show Rest p.tables e below s (QC0 Z d0 d1 d2 d3 h0 n0) _ _ (s₁.setTop (entryFrame m #[(.ref d0)] 1))
  refine Rest.via (fun t k => castTop (ef_C0 m ) k) ?_
  have B0 := B
  obtain ⟨S0, E0, F0, S1, E1, F1, S2, E2, F2, S3, E3, F3, ne0_1, ne0_2, ne1_2, ne0_3, ne1_3, ne2_3⟩ := B0
  show Rest p.tables e below s _ _ _ (s₁.setTop (mkF m 0 #[.val (.ref d0)] []))
  refine Rest.via (fun t k => XS.aloadN X0.here hx rfl (hb hby d2_0) rfl rfl k) ?_
  show Rest p.tables e below s _ _ _ (s₁.setTop (mkF m 1 #[.val (.ref d0)] [(.ref d0)]))
  obtain ⟨T1, X1, e1, st1⟩ := getS2 X0 hx hZ hown (host := "") (Or.inl (hw _ (List.mem_of_getElem? (i := 12) rfl))) Via.refl eh0 S0 (g := (mkF m 1 #[.val (.ref d0)] [(.ref d0)])) rfl (hb hby d2_1)
  refine Rest.via (fun t k => st1 t k) ?_
  show Rest p.tables e below s _ _ _ (T1.setTop (mkF m 4 #[.val (.ref d0)] [(.ref d0), (.ref d0)]))
  refine Rest.via (fun t k => Jvm.RoadKit.acmp (g := (mkF m 4 #[.val (.ref d0)] [(.ref d0), (.ref d0)])) X1 hx rfl rfl rfl (pc0 := 4) (pc' := 14) (same := true) rfl (hb hby d2_4) rfl (decide_eq_true rfl) (by decide) (by decide) k) ?_
  show Rest p.tables e below s _ _ _ (T1.setTop (mkF m 14 #[.val (.ref d0)] []))
  refine Rest.via (fun t k => XS.iconst X1.here hx rfl (hb hby d2_14) k) ?_
  show Rest p.tables e below s _ _ _ (T1.setTop (mkF m 15 #[.val (.ref d0)] [(.int (1 : Int32))]))
  refine Rest.via (fun t k => XS.goto X1.here hx rfl (pc0 := 15) (pc' := 19) rfl (hb hby d2_15) (by decide) (by decide) k) ?_
  show Rest p.tables e below s _ _ _ (T1.setTop (mkF m 19 #[.val (.ref d0)] [(.int (1 : Int32))]))
  refine Rest.ret X1 (v := some (.int (nar .boolean (1 : Int32)))) (fun h => by rw [Bd.returns] at h; cases h) hlk (fun fs hr => retN X1 hx (t := .boolean) Bd.returns (by simp) (hb hby d2_19) hr) ?_ (by decide) (by decide)
  rw [e1]
  exact ⟨rfl, N0, rfl⟩
theorem pd_0 : parseMethodDescriptor "()I" = some ⟨[], some .int⟩ := by decide +kernel
theorem d3_0 : decode prog_14_method_6_code 0 = .ok (.aload_n 0, 1) := by decide +kernel
theorem d3_1 : decode prog_14_method_6_code 1 = .ok (.invokevirtual 54, 3) := by decide +kernel
theorem d3_4 : decode prog_14_method_6_code 4 = .ok (.tableswitch 32 0 3 #[42, 48, 54, 60], 32) := by decide +kernel
theorem d3_46 : decode prog_14_method_6_code 46 = .ok (.getstatic 7, 3) := by decide +kernel
theorem d3_49 : decode prog_14_method_6_code 49 = .ok (.goto 18, 3) := by decide +kernel
theorem d3_67 : decode prog_14_method_6_code 67 = .ok (.areturn, 1) := by decide +kernel
theorem ef_R0 (m : MethodId)  : entryFrame m #[(.ref d0)] 1 = mkF m 0 #[.val (.ref d0)] [] := by first | (simp [entryFrame, mkF, argsToLocals, Value.category, maxLocals]; done) | rfl
def QR0 (Z : State) (d0 : Addr) (d1 : Addr) (d2 : Addr) (d3 : Addr) (h0 : Heap) (n0 : Nat) (v : Option Value) (h : Heap) (L : List Loc) : Prop := v = some (.ref d1) ∧ Fr n0 L ∧ h = h0
set_option maxRecDepth 65536 in
set_option maxHeartbeats 40000000 in
theorem rmR0 (l : Launch) (Z : State) (aw : Array Value) (hw : ∀ d ∈ tables_1, d.before aw Z = true) (ws : List Jvm.Cond) (d0 : Addr) (d1 : Addr) (d2 : Addr) (d3 : Addr) (h0 : Heap) (n0 : Nat) (Z0 : n0 ≤ h0.size) (B : own_B Z h0 d0 d1 d2 d3) :
    MetFree l (⟨"com/example/reknit/reknit/DataClass", "partner", "()Lcom/example/reknit/reknit/DataClass;"⟩ : MethodName) (head1 (Jvm.Cond.code (⟨"com/example/reknit/reknit/DataClass", "partner", "()Lcom/example/reknit/reknit/DataClass;"⟩ : MethodName) prog_14_method_6_code 1 (some (.object "com/example/reknit/reknit/DataClass")) :: ws) ({ frames := 1, cells := 0, slots := 0, locals := 12 } : Room)) (fun a U => a = #[(.ref d0)] ∧ Z.Warmed39 U.vm ∧ U.heap = h0) (fun _ _ _ _ _ => True) (fun _ U o U' => ∃ v L, o = .returned v ∧ QR0 Z d0 d1 d2 d3 h0 n0 v U'.heap L ∧ FrameEnd U o U' L ({ frames := 1, cells := 0, slots := 0, locals := 12 } : Room).cells ({ frames := 1, cells := 0, slots := 0, locals := 12 } : Room).slots) := by
  refine MetFree.of_bodySF (plainFor_of_name pn_2) hisR ?_
  intro p e s m args below meth c s₁ Bd hml0 hP hK
  obtain ⟨rfl, hZ, hh⟩ := hP
  have hx := Bd.exec
  have hby := Bd.bytes
  have hml : c.maxLocals = 1 := hml0
  have hown : s.vm.findClass "com/example/reknit/reknit/DataClass" = some m.cls := findClass_of_methodNamed Bd.named
  have hnm := (name_of_methodNamed Bd.named Bd.method).1
  have hlk : meth.locks = false := BodyLoose.notSynchronized Bd
  have X0 : Stand p l e ({ frames := 1, cells := 0, slots := 0, locals := 12 } : Room) s m #[(.ref d0)] below meth c s₁ [] 0 0 := Stand.of_body Bd
  have eh0 : s₁.heap = h0 := by rw [← hh, Bd.state]; rfl
  have N0 := Fr.nil n0
  show Rest p.tables e below s (QR0 Z d0 d1 d2 d3 h0 n0) _ _ (s₁.setTop (entryFrame m #[(.ref d0)] 1))
  refine Rest.via (fun t k => castTop (ef_R0 m ) k) ?_
  have B0 := B
  obtain ⟨S0, E0, F0, S1, E1, F1, S2, E2, F2, S3, E3, F3, ne0_1, ne0_2, ne1_2, ne0_3, ne1_3, ne2_3⟩ := B0
  show Rest p.tables e below s _ _ _ (s₁.setTop (mkF m 0 #[.val (.ref d0)] []))
  refine Rest.via (fun t k => XS.aloadN X0.here hx rfl (hb hby d3_0) rfl rfl k) ?_
  show Rest p.tables e below s _ _ _ (s₁.setTop (mkF m 1 #[.val (.ref d0)] [(.ref d0)]))
  obtain ⟨cq1, kq1, q1a, q1b, q1c⟩ := isOf hZ eh0 E0
  obtain ⟨_, _, ⟨T1, L1, k1, n1⟩, -, X1, ⟨Lc1, hQ1, l1, y1, z1⟩, st1⟩ := X0.virtualBackUp hx (owner := "java/lang/Enum") (x := (⟨"com/example/reknit/reknit/DataClass", "ordinal", "()I"⟩ : MethodName)) (y := (⟨"java/lang/Enum", "ordinal", "()I"⟩ : MethodName)) hown (mvT hZ (hw _ (List.mem_of_getElem? (i := 18) rfl))) (mvT hZ (hw _ (List.mem_of_getElem? (i := 19) rfl))) (mvT hZ (hw _ (List.mem_of_getElem? (i := 20) rfl))) (by decide) (mvT hZ (hw _ (List.mem_of_getElem? (i := 22) rfl))) (mvT hZ (hw _ (List.mem_of_getElem? (i := 21) rfl))) (backOf (W := 0) (rmO l Z aw hw [] d0 (0 : Int32) h0 n0 (Nat.le_trans Z0 (Keep.refl h0 []).1) F0) hZ (hw _ (List.mem_of_getElem? (i := 24) rfl)) (hw _ (List.mem_of_getElem? (i := 23) rfl)) (by decide) (by decide)) q1a q1c (g := (mkF m 1 #[.val (.ref d0)] [(.ref d0)])) rfl (by rw [hml]; rfl) (Steps.refl _) (argsL := []) (rest := []) (lenOf pd_0 rfl) rfl (by show 2 * 0 + _ ≤ _; exact Nat.le_of_eq rfl) (hb hby d3_1) (fun _ _ => ⟨rfl, eh0, (by decide : 0 + 0 ≤ _), (by decide : 0 + 0 ≤ _)⟩)
  dsimp only [Pt.U, Pt.locs, Pt.cells, Pt.slots] at X1 l1 y1 z1 st1 hQ1
  subst l1 y1 z1
  obtain ⟨rfl, Nq1, e1⟩ := hQ1
  have N1 := Fr.app N0 Nq1
  refine Rest.via (fun t k => st1.trans k) ?_
  show Rest p.tables e below s _ _ _ (T1.setTop (mkF m 4 #[.val (.ref d0)] [(.int (0 : Int32))]))
  refine Rest.via (fun t k => XS.tswIn X1.here hx rfl (pc0 := 4) (pc' := 46) (o := 42) rfl (hb hby d3_4) rfl (by decide) (by decide) (by decide) (by decide) k) ?_
  show Rest p.tables e below s _ _ _ (T1.setTop (mkF m 46 #[.val (.ref d0)] []))
  obtain ⟨T2, X2, e2, st2⟩ := getS2 X1 hx hZ hown (host := "") (Or.inl (hw _ (List.mem_of_getElem? (i := 27) rfl))) Via.refl e1 S1 (g := (mkF m 46 #[.val (.ref d0)] [])) rfl (hb hby d3_46)
  refine Rest.via (fun t k => st2 t k) ?_
  show Rest p.tables e below s _ _ _ (T2.setTop (mkF m 49 #[.val (.ref d0)] [(.ref d1)]))
  refine Rest.via (fun t k => XS.goto X2.here hx rfl (pc0 := 49) (pc' := 67) rfl (hb hby d3_49) (by decide) (by decide) k) ?_
  show Rest p.tables e below s _ _ _ (T2.setTop (mkF m 67 #[.val (.ref d0)] [(.ref d1)]))
  refine Rest.ret X2 (v := some (.ref d1)) (fun h => by rw [Bd.returns] at h; cases h) hlk (fun fs hr => retOut X2 hx Bd.returns rfl (Or.inr (Or.inr (Or.inr (Or.inr ⟨rfl, rfl, rfl⟩)))) (hb hby d3_67) hr) ?_ (by decide) (by decide)
  rw [e2]
  exact ⟨rfl, N1, rfl⟩
theorem d1_8 : decode method_2_code 8 = .ok (.iload_n 0, 1) := by decide +kernel
theorem d1_9 : decode method_2_code 9 = .ok (.iconst 1, 1) := by decide +kernel
theorem d1_10 : decode method_2_code 10 = .ok (.if_icmp .ne 7, 3) := by decide +kernel
theorem d1_13 : decode method_2_code 13 = .ok (.getstatic 13, 3) := by decide +kernel
theorem d1_16 : decode method_2_code 16 = .ok (.areturn, 1) := by decide +kernel
theorem ef_P1 (m : MethodId)  : entryFrame m #[(.int (1 : Int32))] 1 = mkF m 0 #[.val (.int (1 : Int32))] [] := by first | (simp [entryFrame, mkF, argsToLocals, Value.category, maxLocals]; done) | rfl
def QP1 (Z : State) (d0 : Addr) (d1 : Addr) (d2 : Addr) (d3 : Addr) (h0 : Heap) (n0 : Nat) (v : Option Value) (h : Heap) (L : List Loc) : Prop := v = some (.ref d1) ∧ Fr n0 L ∧ h = h0
set_option maxRecDepth 65536 in
set_option maxHeartbeats 40000000 in
theorem rmP1 (l : Launch) (Z : State) (aw : Array Value) (hw : ∀ d ∈ tables_1, d.before aw Z = true) (ws : List Jvm.Cond) (d0 : Addr) (d1 : Addr) (d2 : Addr) (d3 : Addr) (h0 : Heap) (n0 : Nat) (Z0 : n0 ≤ h0.size) (B : own_B Z h0 d0 d1 d2 d3) :
    MetFree l (⟨"com/example/reknit/reknit/DataClassIsCriticalPinLaw", "pick", "(I)Lcom/example/reknit/reknit/DataClass;"⟩ : MethodName) (head1 (Jvm.Cond.code (⟨"com/example/reknit/reknit/DataClassIsCriticalPinLaw", "pick", "(I)Lcom/example/reknit/reknit/DataClass;"⟩ : MethodName) method_2_code 1 (some (.object "com/example/reknit/reknit/DataClass")) :: ws) ({ frames := 0, cells := 0, slots := 0, locals := 0 } : Room)) (fun a U => a = #[(.int (1 : Int32))] ∧ Z.Warmed39 U.vm ∧ U.heap = h0) (fun _ _ _ _ _ => True) (fun _ U o U' => ∃ v L, o = .returned v ∧ QP1 Z d0 d1 d2 d3 h0 n0 v U'.heap L ∧ FrameEnd U o U' L ({ frames := 0, cells := 0, slots := 0, locals := 0 } : Room).cells ({ frames := 0, cells := 0, slots := 0, locals := 0 } : Room).slots) := by
  refine MetFree.of_bodySF (plainFor_of_name pn_1) hisR ?_
  intro p e s m args below meth c s₁ Bd hml0 hP hK
  obtain ⟨rfl, hZ, hh⟩ := hP
  have hx := Bd.exec
  have hby := Bd.bytes
  have hml : c.maxLocals = 1 := hml0
  have hown : s.vm.findClass "com/example/reknit/reknit/DataClassIsCriticalPinLaw" = some m.cls := findClass_of_methodNamed Bd.named
  have hnm := (name_of_methodNamed Bd.named Bd.method).1
  have hlk : meth.locks = false := BodyLoose.notSynchronized Bd
  have X0 : Stand p l e ({ frames := 0, cells := 0, slots := 0, locals := 0 } : Room) s m #[(.int (1 : Int32))] below meth c s₁ [] 0 0 := Stand.of_body Bd
  have eh0 : s₁.heap = h0 := by rw [← hh, Bd.state]; rfl
  have N0 := Fr.nil n0
  show Rest p.tables e below s (QP1 Z d0 d1 d2 d3 h0 n0) _ _ (s₁.setTop (entryFrame m #[(.int (1 : Int32))] 1))
  refine Rest.via (fun t k => castTop (ef_P1 m ) k) ?_
  have B0 := B
  obtain ⟨S0, E0, F0, S1, E1, F1, S2, E2, F2, S3, E3, F3, ne0_1, ne0_2, ne1_2, ne0_3, ne1_3, ne2_3⟩ := B0
  show Rest p.tables e below s _ _ _ (s₁.setTop (mkF m 0 #[.val (.int (1 : Int32))] []))
  refine Rest.via (fun t k => XS.iloadN X0.here hx rfl (hb hby d1_0) rfl k) ?_
  show Rest p.tables e below s _ _ _ (s₁.setTop (mkF m 1 #[.val (.int (1 : Int32))] [(.int (1 : Int32))]))
  refine Rest.via (fun t k => XS.ifYes X0.here hx rfl (pc0 := 1) (pc' := 8) rfl (hb hby d1_1) rfl ((if0 _ _).trans (feq (by decide : ¬ ((1 : Int32) = (0 : Int32)))).2) (by decide) (by decide) k) ?_
  show Rest p.tables e below s _ _ _ (s₁.setTop (mkF m 8 #[.val (.int (1 : Int32))] []))
  refine Rest.via (fun t k => XS.iloadN X0.here hx rfl (hb hby d1_8) rfl k) ?_
  show Rest p.tables e below s _ _ _ (s₁.setTop (mkF m 9 #[.val (.int (1 : Int32))] [(.int (1 : Int32))]))
  refine Rest.via (fun t k => XS.iconst X0.here hx rfl (hb hby d1_9) k) ?_
  show Rest p.tables e below s _ _ _ (s₁.setTop (mkF m 10 #[.val (.int (1 : Int32))] [(.int (1 : Int32)), (.int (1 : Int32))]))
  refine Rest.via (fun t k => XS.icmpNo X0.here hx rfl (hb hby d1_10) rfl (teq (by decide : (1 : Int32) = (1 : Int32))).2 k) ?_
  show Rest p.tables e below s _ _ _ (s₁.setTop (mkF m 13 #[.val (.int (1 : Int32))] []))
  obtain ⟨T1, X1, e1, st1⟩ := getS2 X0 hx hZ hown (host := "") (Or.inl (hw _ (List.mem_of_getElem? (i := 35) rfl))) Via.refl eh0 S1 (g := (mkF m 13 #[.val (.int (1 : Int32))] [])) rfl (hb hby d1_13)
  refine Rest.via (fun t k => st1 t k) ?_
  show Rest p.tables e below s _ _ _ (T1.setTop (mkF m 16 #[.val (.int (1 : Int32))] [(.ref d1)]))
  refine Rest.ret X1 (v := some (.ref d1)) (fun h => by rw [Bd.returns] at h; cases h) hlk (fun fs hr => retOut X1 hx Bd.returns rfl (Or.inr (Or.inr (Or.inr (Or.inr ⟨rfl, rfl, rfl⟩)))) (hb hby d1_16) hr) ?_ (by decide) (by decide)
  rw [e1]
  exact ⟨rfl, N0, rfl⟩
theorem d2_7 : decode prog_14_method_5_code 7 = .ok (.aload_n 0, 1) := by decide +kernel
theorem d2_8 : decode prog_14_method_5_code 8 = .ok (.getstatic 7, 3) := by decide +kernel
theorem d2_11 : decode prog_14_method_5_code 11 = .ok (.if_acmp .ne 7, 3) := by decide +kernel
theorem ef_C1 (m : MethodId)  : entryFrame m #[(.ref d1)] 1 = mkF m 0 #[.val (.ref d1)] [] := by first | (simp [entryFrame, mkF, argsToLocals, Value.category, maxLocals]; done) | rfl
def QC1 (Z : State) (d0 : Addr) (d1 : Addr) (d2 : Addr) (d3 : Addr) (h0 : Heap) (n0 : Nat) (v : Option Value) (h : Heap) (L : List Loc) : Prop := v = some (.int (1 : Int32)) ∧ Fr n0 L ∧ h = h0
set_option maxRecDepth 65536 in
set_option maxHeartbeats 40000000 in
theorem rmC1 (l : Launch) (Z : State) (aw : Array Value) (hw : ∀ d ∈ tables_1, d.before aw Z = true) (ws : List Jvm.Cond) (d0 : Addr) (d1 : Addr) (d2 : Addr) (d3 : Addr) (h0 : Heap) (n0 : Nat) (Z0 : n0 ≤ h0.size) (B : own_B Z h0 d0 d1 d2 d3) :
    MetFree l (⟨"com/example/reknit/reknit/DataClass", "isCritical", "()Z"⟩ : MethodName) (head1 (Jvm.Cond.code (⟨"com/example/reknit/reknit/DataClass", "isCritical", "()Z"⟩ : MethodName) prog_14_method_5_code 1 (some .boolean) :: ws) ({ frames := 0, cells := 0, slots := 0, locals := 0 } : Room)) (fun a U => a = #[(.ref d1)] ∧ Z.Warmed39 U.vm ∧ U.heap = h0) (fun _ _ _ _ _ => True) (fun _ U o U' => ∃ v L, o = .returned v ∧ QC1 Z d0 d1 d2 d3 h0 n0 v U'.heap L ∧ FrameEnd U o U' L ({ frames := 0, cells := 0, slots := 0, locals := 0 } : Room).cells ({ frames := 0, cells := 0, slots := 0, locals := 0 } : Room).slots) := by
  refine MetFree.of_bodySF (plainFor_of_name pn_2) hisR ?_
  intro p e s m args below meth c s₁ Bd hml0 hP hK
  obtain ⟨rfl, hZ, hh⟩ := hP
  have hx := Bd.exec
  have hby := Bd.bytes
  have hml : c.maxLocals = 1 := hml0
  have hown : s.vm.findClass "com/example/reknit/reknit/DataClass" = some m.cls := findClass_of_methodNamed Bd.named
  have hnm := (name_of_methodNamed Bd.named Bd.method).1
  have hlk : meth.locks = false := BodyLoose.notSynchronized Bd
  have X0 : Stand p l e ({ frames := 0, cells := 0, slots := 0, locals := 0 } : Room) s m #[(.ref d1)] below meth c s₁ [] 0 0 := Stand.of_body Bd
  have eh0 : s₁.heap = h0 := by rw [← hh, Bd.state]; rfl
  have N0 := Fr.nil n0
  show Rest p.tables e below s (QC1 Z d0 d1 d2 d3 h0 n0) _ _ (s₁.setTop (entryFrame m #[(.ref d1)] 1))
  refine Rest.via (fun t k => castTop (ef_C1 m ) k) ?_
  have B0 := B
  obtain ⟨S0, E0, F0, S1, E1, F1, S2, E2, F2, S3, E3, F3, ne0_1, ne0_2, ne1_2, ne0_3, ne1_3, ne2_3⟩ := B0
  show Rest p.tables e below s _ _ _ (s₁.setTop (mkF m 0 #[.val (.ref d1)] []))
  refine Rest.via (fun t k => XS.aloadN X0.here hx rfl (hb hby d2_0) rfl rfl k) ?_
  show Rest p.tables e below s _ _ _ (s₁.setTop (mkF m 1 #[.val (.ref d1)] [(.ref d1)]))
  obtain ⟨T1, X1, e1, st1⟩ := getS2 X0 hx hZ hown (host := "") (Or.inl (hw _ (List.mem_of_getElem? (i := 12) rfl))) Via.refl eh0 S0 (g := (mkF m 1 #[.val (.ref d1)] [(.ref d1)])) rfl (hb hby d2_1)
  refine Rest.via (fun t k => st1 t k) ?_
  show Rest p.tables e below s _ _ _ (T1.setTop (mkF m 4 #[.val (.ref d1)] [(.ref d0), (.ref d1)]))
  refine Rest.via (fun t k => Jvm.RoadKit.acmp (g := (mkF m 4 #[.val (.ref d1)] [(.ref d0), (.ref d1)])) X1 hx rfl rfl rfl (pc0 := 4) (pc' := 7) (same := false) rfl (hb hby d2_4) rfl (decide_eq_false fun q => (Ne.symm ne0_1) (Value.ref.inj q)) (by decide) (by decide) k) ?_
  show Rest p.tables e below s _ _ _ (T1.setTop (mkF m 7 #[.val (.ref d1)] []))
  refine Rest.via (fun t k => XS.aloadN X1.here hx rfl (hb hby d2_7) rfl rfl k) ?_
  show Rest p.tables e below s _ _ _ (T1.setTop (mkF m 8 #[.val (.ref d1)] [(.ref d1)]))
  obtain ⟨T2, X2, e2, st2⟩ := getS2 X1 hx hZ hown (host := "") (Or.inl (hw _ (List.mem_of_getElem? (i := 27) rfl))) Via.refl e1 S1 (g := (mkF m 8 #[.val (.ref d1)] [(.ref d1)])) rfl (hb hby d2_8)
  refine Rest.via (fun t k => st2 t k) ?_
  show Rest p.tables e below s _ _ _ (T2.setTop (mkF m 11 #[.val (.ref d1)] [(.ref d1), (.ref d1)]))
  refine Rest.via (fun t k => Jvm.RoadKit.acmp (g := (mkF m 11 #[.val (.ref d1)] [(.ref d1), (.ref d1)])) X2 hx rfl rfl rfl (pc0 := 11) (pc' := 14) (same := true) rfl (hb hby d2_11) rfl (decide_eq_true rfl) (by decide) (by decide) k) ?_
  show Rest p.tables e below s _ _ _ (T2.setTop (mkF m 14 #[.val (.ref d1)] []))
  refine Rest.via (fun t k => XS.iconst X2.here hx rfl (hb hby d2_14) k) ?_
  show Rest p.tables e below s _ _ _ (T2.setTop (mkF m 15 #[.val (.ref d1)] [(.int (1 : Int32))]))
  refine Rest.via (fun t k => XS.goto X2.here hx rfl (pc0 := 15) (pc' := 19) rfl (hb hby d2_15) (by decide) (by decide) k) ?_
  show Rest p.tables e below s _ _ _ (T2.setTop (mkF m 19 #[.val (.ref d1)] [(.int (1 : Int32))]))
  refine Rest.ret X2 (v := some (.int (nar .boolean (1 : Int32)))) (fun h => by rw [Bd.returns] at h; cases h) hlk (fun fs hr => retN X2 hx (t := .boolean) Bd.returns (by simp) (hb hby d2_19) hr) ?_ (by decide) (by decide)
  rw [e2]
  exact ⟨rfl, N0, rfl⟩
theorem d3_52 : decode prog_14_method_6_code 52 = .ok (.getstatic 3, 3) := by decide +kernel
theorem d3_55 : decode prog_14_method_6_code 55 = .ok (.goto 12, 3) := by decide +kernel
theorem ef_R1 (m : MethodId)  : entryFrame m #[(.ref d1)] 1 = mkF m 0 #[.val (.ref d1)] [] := by first | (simp [entryFrame, mkF, argsToLocals, Value.category, maxLocals]; done) | rfl
def QR1 (Z : State) (d0 : Addr) (d1 : Addr) (d2 : Addr) (d3 : Addr) (h0 : Heap) (n0 : Nat) (v : Option Value) (h : Heap) (L : List Loc) : Prop := v = some (.ref d0) ∧ Fr n0 L ∧ h = h0
set_option maxRecDepth 65536 in
set_option maxHeartbeats 40000000 in
theorem rmR1 (l : Launch) (Z : State) (aw : Array Value) (hw : ∀ d ∈ tables_1, d.before aw Z = true) (ws : List Jvm.Cond) (d0 : Addr) (d1 : Addr) (d2 : Addr) (d3 : Addr) (h0 : Heap) (n0 : Nat) (Z0 : n0 ≤ h0.size) (B : own_B Z h0 d0 d1 d2 d3) :
    MetFree l (⟨"com/example/reknit/reknit/DataClass", "partner", "()Lcom/example/reknit/reknit/DataClass;"⟩ : MethodName) (head1 (Jvm.Cond.code (⟨"com/example/reknit/reknit/DataClass", "partner", "()Lcom/example/reknit/reknit/DataClass;"⟩ : MethodName) prog_14_method_6_code 1 (some (.object "com/example/reknit/reknit/DataClass")) :: ws) ({ frames := 1, cells := 0, slots := 0, locals := 12 } : Room)) (fun a U => a = #[(.ref d1)] ∧ Z.Warmed39 U.vm ∧ U.heap = h0) (fun _ _ _ _ _ => True) (fun _ U o U' => ∃ v L, o = .returned v ∧ QR1 Z d0 d1 d2 d3 h0 n0 v U'.heap L ∧ FrameEnd U o U' L ({ frames := 1, cells := 0, slots := 0, locals := 12 } : Room).cells ({ frames := 1, cells := 0, slots := 0, locals := 12 } : Room).slots) := by
  refine MetFree.of_bodySF (plainFor_of_name pn_2) hisR ?_
  intro p e s m args below meth c s₁ Bd hml0 hP hK
  obtain ⟨rfl, hZ, hh⟩ := hP
  have hx := Bd.exec
  have hby := Bd.bytes
  have hml : c.maxLocals = 1 := hml0
  have hown : s.vm.findClass "com/example/reknit/reknit/DataClass" = some m.cls := findClass_of_methodNamed Bd.named
  have hnm := (name_of_methodNamed Bd.named Bd.method).1
  have hlk : meth.locks = false := BodyLoose.notSynchronized Bd
  have X0 : Stand p l e ({ frames := 1, cells := 0, slots := 0, locals := 12 } : Room) s m #[(.ref d1)] below meth c s₁ [] 0 0 := Stand.of_body Bd
  have eh0 : s₁.heap = h0 := by rw [← hh, Bd.state]; rfl
  have N0 := Fr.nil n0
  show Rest p.tables e below s (QR1 Z d0 d1 d2 d3 h0 n0) _ _ (s₁.setTop (entryFrame m #[(.ref d1)] 1))
  refine Rest.via (fun t k => castTop (ef_R1 m ) k) ?_
  have B0 := B
  obtain ⟨S0, E0, F0, S1, E1, F1, S2, E2, F2, S3, E3, F3, ne0_1, ne0_2, ne1_2, ne0_3, ne1_3, ne2_3⟩ := B0
  show Rest p.tables e below s _ _ _ (s₁.setTop (mkF m 0 #[.val (.ref d1)] []))
  refine Rest.via (fun t k => XS.aloadN X0.here hx rfl (hb hby d3_0) rfl rfl k) ?_
  show Rest p.tables e below s _ _ _ (s₁.setTop (mkF m 1 #[.val (.ref d1)] [(.ref d1)]))
  obtain ⟨cq1, kq1, q1a, q1b, q1c⟩ := isOf hZ eh0 E1
  obtain ⟨_, _, ⟨T1, L1, k1, n1⟩, -, X1, ⟨Lc1, hQ1, l1, y1, z1⟩, st1⟩ := X0.virtualBackUp hx (owner := "java/lang/Enum") (x := (⟨"com/example/reknit/reknit/DataClass", "ordinal", "()I"⟩ : MethodName)) (y := (⟨"java/lang/Enum", "ordinal", "()I"⟩ : MethodName)) hown (mvT hZ (hw _ (List.mem_of_getElem? (i := 18) rfl))) (mvT hZ (hw _ (List.mem_of_getElem? (i := 19) rfl))) (mvT hZ (hw _ (List.mem_of_getElem? (i := 20) rfl))) (by decide) (mvT hZ (hw _ (List.mem_of_getElem? (i := 22) rfl))) (mvT hZ (hw _ (List.mem_of_getElem? (i := 21) rfl))) (backOf (W := 0) (rmO l Z aw hw [] d1 (1 : Int32) h0 n0 (Nat.le_trans Z0 (Keep.refl h0 []).1) F1) hZ (hw _ (List.mem_of_getElem? (i := 24) rfl)) (hw _ (List.mem_of_getElem? (i := 23) rfl)) (by decide) (by decide)) q1a q1c (g := (mkF m 1 #[.val (.ref d1)] [(.ref d1)])) rfl (by rw [hml]; rfl) (Steps.refl _) (argsL := []) (rest := []) (lenOf pd_0 rfl) rfl (by show 2 * 0 + _ ≤ _; exact Nat.le_of_eq rfl) (hb hby d3_1) (fun _ _ => ⟨rfl, eh0, (by decide : 0 + 0 ≤ _), (by decide : 0 + 0 ≤ _)⟩)
  dsimp only [Pt.U, Pt.locs, Pt.cells, Pt.slots] at X1 l1 y1 z1 st1 hQ1
  subst l1 y1 z1
  obtain ⟨rfl, Nq1, e1⟩ := hQ1
  have N1 := Fr.app N0 Nq1
  refine Rest.via (fun t k => st1.trans k) ?_
  show Rest p.tables e below s _ _ _ (T1.setTop (mkF m 4 #[.val (.ref d1)] [(.int (1 : Int32))]))
  refine Rest.via (fun t k => XS.tswIn X1.here hx rfl (pc0 := 4) (pc' := 52) (o := 48) rfl (hb hby d3_4) rfl (by decide) (by decide) (by decide) (by decide) k) ?_
  show Rest p.tables e below s _ _ _ (T1.setTop (mkF m 52 #[.val (.ref d1)] []))
  obtain ⟨T2, X2, e2, st2⟩ := getS2 X1 hx hZ hown (host := "") (Or.inl (hw _ (List.mem_of_getElem? (i := 12) rfl))) Via.refl e1 S0 (g := (mkF m 52 #[.val (.ref d1)] [])) rfl (hb hby d3_52)
  refine Rest.via (fun t k => st2 t k) ?_
  show Rest p.tables e below s _ _ _ (T2.setTop (mkF m 55 #[.val (.ref d1)] [(.ref d0)]))
  refine Rest.via (fun t k => XS.goto X2.here hx rfl (pc0 := 55) (pc' := 67) rfl (hb hby d3_55) (by decide) (by decide) k) ?_
  show Rest p.tables e below s _ _ _ (T2.setTop (mkF m 67 #[.val (.ref d1)] [(.ref d0)]))
  refine Rest.ret X2 (v := some (.ref d0)) (fun h => by rw [Bd.returns] at h; cases h) hlk (fun fs hr => retOut X2 hx Bd.returns rfl (Or.inr (Or.inr (Or.inr (Or.inr ⟨rfl, rfl, rfl⟩)))) (hb hby d3_67) hr) ?_ (by decide) (by decide)
  rw [e2]
  exact ⟨rfl, N1, rfl⟩
theorem d1_17 : decode method_2_code 17 = .ok (.iload_n 0, 1) := by decide +kernel
theorem d1_18 : decode method_2_code 18 = .ok (.iconst 2, 1) := by decide +kernel
theorem d1_19 : decode method_2_code 19 = .ok (.if_icmp .ne 7, 3) := by decide +kernel
theorem d1_22 : decode method_2_code 22 = .ok (.getstatic 16, 3) := by decide +kernel
theorem d1_25 : decode method_2_code 25 = .ok (.areturn, 1) := by decide +kernel
theorem ef_P2 (m : MethodId)  : entryFrame m #[(.int (2 : Int32))] 1 = mkF m 0 #[.val (.int (2 : Int32))] [] := by first | (simp [entryFrame, mkF, argsToLocals, Value.category, maxLocals]; done) | rfl
def QP2 (Z : State) (d0 : Addr) (d1 : Addr) (d2 : Addr) (d3 : Addr) (h0 : Heap) (n0 : Nat) (v : Option Value) (h : Heap) (L : List Loc) : Prop := v = some (.ref d2) ∧ Fr n0 L ∧ h = h0
set_option maxRecDepth 65536 in
set_option maxHeartbeats 40000000 in
theorem rmP2 (l : Launch) (Z : State) (aw : Array Value) (hw : ∀ d ∈ tables_1, d.before aw Z = true) (ws : List Jvm.Cond) (d0 : Addr) (d1 : Addr) (d2 : Addr) (d3 : Addr) (h0 : Heap) (n0 : Nat) (Z0 : n0 ≤ h0.size) (B : own_B Z h0 d0 d1 d2 d3) :
    MetFree l (⟨"com/example/reknit/reknit/DataClassIsCriticalPinLaw", "pick", "(I)Lcom/example/reknit/reknit/DataClass;"⟩ : MethodName) (head1 (Jvm.Cond.code (⟨"com/example/reknit/reknit/DataClassIsCriticalPinLaw", "pick", "(I)Lcom/example/reknit/reknit/DataClass;"⟩ : MethodName) method_2_code 1 (some (.object "com/example/reknit/reknit/DataClass")) :: ws) ({ frames := 0, cells := 0, slots := 0, locals := 0 } : Room)) (fun a U => a = #[(.int (2 : Int32))] ∧ Z.Warmed39 U.vm ∧ U.heap = h0) (fun _ _ _ _ _ => True) (fun _ U o U' => ∃ v L, o = .returned v ∧ QP2 Z d0 d1 d2 d3 h0 n0 v U'.heap L ∧ FrameEnd U o U' L ({ frames := 0, cells := 0, slots := 0, locals := 0 } : Room).cells ({ frames := 0, cells := 0, slots := 0, locals := 0 } : Room).slots) := by
  refine MetFree.of_bodySF (plainFor_of_name pn_1) hisR ?_
  intro p e s m args below meth c s₁ Bd hml0 hP hK
  obtain ⟨rfl, hZ, hh⟩ := hP
  have hx := Bd.exec
  have hby := Bd.bytes
  have hml : c.maxLocals = 1 := hml0
  have hown : s.vm.findClass "com/example/reknit/reknit/DataClassIsCriticalPinLaw" = some m.cls := findClass_of_methodNamed Bd.named
  have hnm := (name_of_methodNamed Bd.named Bd.method).1
  have hlk : meth.locks = false := BodyLoose.notSynchronized Bd
  have X0 : Stand p l e ({ frames := 0, cells := 0, slots := 0, locals := 0 } : Room) s m #[(.int (2 : Int32))] below meth c s₁ [] 0 0 := Stand.of_body Bd
  have eh0 : s₁.heap = h0 := by rw [← hh, Bd.state]; rfl
  have N0 := Fr.nil n0
  show Rest p.tables e below s (QP2 Z d0 d1 d2 d3 h0 n0) _ _ (s₁.setTop (entryFrame m #[(.int (2 : Int32))] 1))
  refine Rest.via (fun t k => castTop (ef_P2 m ) k) ?_
  have B0 := B
  obtain ⟨S0, E0, F0, S1, E1, F1, S2, E2, F2, S3, E3, F3, ne0_1, ne0_2, ne1_2, ne0_3, ne1_3, ne2_3⟩ := B0
  show Rest p.tables e below s _ _ _ (s₁.setTop (mkF m 0 #[.val (.int (2 : Int32))] []))
  refine Rest.via (fun t k => XS.iloadN X0.here hx rfl (hb hby d1_0) rfl k) ?_
  show Rest p.tables e below s _ _ _ (s₁.setTop (mkF m 1 #[.val (.int (2 : Int32))] [(.int (2 : Int32))]))
  refine Rest.via (fun t k => XS.ifYes X0.here hx rfl (pc0 := 1) (pc' := 8) rfl (hb hby d1_1) rfl ((if0 _ _).trans (feq (by decide : ¬ ((2 : Int32) = (0 : Int32)))).2) (by decide) (by decide) k) ?_
  show Rest p.tables e below s _ _ _ (s₁.setTop (mkF m 8 #[.val (.int (2 : Int32))] []))
  refine Rest.via (fun t k => XS.iloadN X0.here hx rfl (hb hby d1_8) rfl k) ?_
  show Rest p.tables e below s _ _ _ (s₁.setTop (mkF m 9 #[.val (.int (2 : Int32))] [(.int (2 : Int32))]))
  refine Rest.via (fun t k => XS.iconst X0.here hx rfl (hb hby d1_9) k) ?_
  show Rest p.tables e below s _ _ _ (s₁.setTop (mkF m 10 #[.val (.int (2 : Int32))] [(.int (1 : Int32)), (.int (2 : Int32))]))
  refine Rest.via (fun t k => XS.icmpYes X0.here hx rfl (pc0 := 10) (pc' := 17) rfl (hb hby d1_10) rfl (feq (by decide : ¬ ((2 : Int32) = (1 : Int32)))).2 (by decide) (by decide) k) ?_
  show Rest p.tables e below s _ _ _ (s₁.setTop (mkF m 17 #[.val (.int (2 : Int32))] []))
  refine Rest.via (fun t k => XS.iloadN X0.here hx rfl (hb hby d1_17) rfl k) ?_
  show Rest p.tables e below s _ _ _ (s₁.setTop (mkF m 18 #[.val (.int (2 : Int32))] [(.int (2 : Int32))]))
  refine Rest.via (fun t k => XS.iconst X0.here hx rfl (hb hby d1_18) k) ?_
  show Rest p.tables e below s _ _ _ (s₁.setTop (mkF m 19 #[.val (.int (2 : Int32))] [(.int (2 : Int32)), (.int (2 : Int32))]))
  refine Rest.via (fun t k => XS.icmpNo X0.here hx rfl (hb hby d1_19) rfl (teq (by decide : (2 : Int32) = (2 : Int32))).2 k) ?_
  show Rest p.tables e below s _ _ _ (s₁.setTop (mkF m 22 #[.val (.int (2 : Int32))] []))
  obtain ⟨T1, X1, e1, st1⟩ := getS2 X0 hx hZ hown (host := "") (Or.inl (hw _ (List.mem_of_getElem? (i := 33) rfl))) Via.refl eh0 S2 (g := (mkF m 22 #[.val (.int (2 : Int32))] [])) rfl (hb hby d1_22)
  refine Rest.via (fun t k => st1 t k) ?_
  show Rest p.tables e below s _ _ _ (T1.setTop (mkF m 25 #[.val (.int (2 : Int32))] [(.ref d2)]))
  refine Rest.ret X1 (v := some (.ref d2)) (fun h => by rw [Bd.returns] at h; cases h) hlk (fun fs hr => retOut X1 hx Bd.returns rfl (Or.inr (Or.inr (Or.inr (Or.inr ⟨rfl, rfl, rfl⟩)))) (hb hby d1_25) hr) ?_ (by decide) (by decide)
  rw [e1]
  exact ⟨rfl, N0, rfl⟩
theorem d2_18 : decode prog_14_method_5_code 18 = .ok (.iconst 0, 1) := by decide +kernel
theorem ef_C2 (m : MethodId)  : entryFrame m #[(.ref d2)] 1 = mkF m 0 #[.val (.ref d2)] [] := by first | (simp [entryFrame, mkF, argsToLocals, Value.category, maxLocals]; done) | rfl
def QC2 (Z : State) (d0 : Addr) (d1 : Addr) (d2 : Addr) (d3 : Addr) (h0 : Heap) (n0 : Nat) (v : Option Value) (h : Heap) (L : List Loc) : Prop := v = some (.int (0 : Int32)) ∧ Fr n0 L ∧ h = h0
set_option maxRecDepth 65536 in
set_option maxHeartbeats 40000000 in
theorem rmC2 (l : Launch) (Z : State) (aw : Array Value) (hw : ∀ d ∈ tables_1, d.before aw Z = true) (ws : List Jvm.Cond) (d0 : Addr) (d1 : Addr) (d2 : Addr) (d3 : Addr) (h0 : Heap) (n0 : Nat) (Z0 : n0 ≤ h0.size) (B : own_B Z h0 d0 d1 d2 d3) :
    MetFree l (⟨"com/example/reknit/reknit/DataClass", "isCritical", "()Z"⟩ : MethodName) (head1 (Jvm.Cond.code (⟨"com/example/reknit/reknit/DataClass", "isCritical", "()Z"⟩ : MethodName) prog_14_method_5_code 1 (some .boolean) :: ws) ({ frames := 0, cells := 0, slots := 0, locals := 0 } : Room)) (fun a U => a = #[(.ref d2)] ∧ Z.Warmed39 U.vm ∧ U.heap = h0) (fun _ _ _ _ _ => True) (fun _ U o U' => ∃ v L, o = .returned v ∧ QC2 Z d0 d1 d2 d3 h0 n0 v U'.heap L ∧ FrameEnd U o U' L ({ frames := 0, cells := 0, slots := 0, locals := 0 } : Room).cells ({ frames := 0, cells := 0, slots := 0, locals := 0 } : Room).slots) := by
  refine MetFree.of_bodySF (plainFor_of_name pn_2) hisR ?_
  intro p e s m args below meth c s₁ Bd hml0 hP hK
  obtain ⟨rfl, hZ, hh⟩ := hP
  have hx := Bd.exec
  have hby := Bd.bytes
  have hml : c.maxLocals = 1 := hml0
  have hown : s.vm.findClass "com/example/reknit/reknit/DataClass" = some m.cls := findClass_of_methodNamed Bd.named
  have hnm := (name_of_methodNamed Bd.named Bd.method).1
  have hlk : meth.locks = false := BodyLoose.notSynchronized Bd
  have X0 : Stand p l e ({ frames := 0, cells := 0, slots := 0, locals := 0 } : Room) s m #[(.ref d2)] below meth c s₁ [] 0 0 := Stand.of_body Bd
  have eh0 : s₁.heap = h0 := by rw [← hh, Bd.state]; rfl
  have N0 := Fr.nil n0
  show Rest p.tables e below s (QC2 Z d0 d1 d2 d3 h0 n0) _ _ (s₁.setTop (entryFrame m #[(.ref d2)] 1))
  refine Rest.via (fun t k => castTop (ef_C2 m ) k) ?_
  have B0 := B
  obtain ⟨S0, E0, F0, S1, E1, F1, S2, E2, F2, S3, E3, F3, ne0_1, ne0_2, ne1_2, ne0_3, ne1_3, ne2_3⟩ := B0
  show Rest p.tables e below s _ _ _ (s₁.setTop (mkF m 0 #[.val (.ref d2)] []))
  refine Rest.via (fun t k => XS.aloadN X0.here hx rfl (hb hby d2_0) rfl rfl k) ?_
  show Rest p.tables e below s _ _ _ (s₁.setTop (mkF m 1 #[.val (.ref d2)] [(.ref d2)]))
  obtain ⟨T1, X1, e1, st1⟩ := getS2 X0 hx hZ hown (host := "") (Or.inl (hw _ (List.mem_of_getElem? (i := 12) rfl))) Via.refl eh0 S0 (g := (mkF m 1 #[.val (.ref d2)] [(.ref d2)])) rfl (hb hby d2_1)
  refine Rest.via (fun t k => st1 t k) ?_
  show Rest p.tables e below s _ _ _ (T1.setTop (mkF m 4 #[.val (.ref d2)] [(.ref d0), (.ref d2)]))
  refine Rest.via (fun t k => Jvm.RoadKit.acmp (g := (mkF m 4 #[.val (.ref d2)] [(.ref d0), (.ref d2)])) X1 hx rfl rfl rfl (pc0 := 4) (pc' := 7) (same := false) rfl (hb hby d2_4) rfl (decide_eq_false fun q => (Ne.symm ne0_2) (Value.ref.inj q)) (by decide) (by decide) k) ?_
  show Rest p.tables e below s _ _ _ (T1.setTop (mkF m 7 #[.val (.ref d2)] []))
  refine Rest.via (fun t k => XS.aloadN X1.here hx rfl (hb hby d2_7) rfl rfl k) ?_
  show Rest p.tables e below s _ _ _ (T1.setTop (mkF m 8 #[.val (.ref d2)] [(.ref d2)]))
  obtain ⟨T2, X2, e2, st2⟩ := getS2 X1 hx hZ hown (host := "") (Or.inl (hw _ (List.mem_of_getElem? (i := 27) rfl))) Via.refl e1 S1 (g := (mkF m 8 #[.val (.ref d2)] [(.ref d2)])) rfl (hb hby d2_8)
  refine Rest.via (fun t k => st2 t k) ?_
  show Rest p.tables e below s _ _ _ (T2.setTop (mkF m 11 #[.val (.ref d2)] [(.ref d1), (.ref d2)]))
  refine Rest.via (fun t k => Jvm.RoadKit.acmp (g := (mkF m 11 #[.val (.ref d2)] [(.ref d1), (.ref d2)])) X2 hx rfl rfl rfl (pc0 := 11) (pc' := 18) (same := false) rfl (hb hby d2_11) rfl (decide_eq_false fun q => (Ne.symm ne1_2) (Value.ref.inj q)) (by decide) (by decide) k) ?_
  show Rest p.tables e below s _ _ _ (T2.setTop (mkF m 18 #[.val (.ref d2)] []))
  refine Rest.via (fun t k => XS.iconst X2.here hx rfl (hb hby d2_18) k) ?_
  show Rest p.tables e below s _ _ _ (T2.setTop (mkF m 19 #[.val (.ref d2)] [(.int (0 : Int32))]))
  refine Rest.ret X2 (v := some (.int (nar .boolean (0 : Int32)))) (fun h => by rw [Bd.returns] at h; cases h) hlk (fun fs hr => retN X2 hx (t := .boolean) Bd.returns (by simp) (hb hby d2_19) hr) ?_ (by decide) (by decide)
  rw [e2]
  exact ⟨rfl, N0, rfl⟩
theorem d3_58 : decode prog_14_method_6_code 58 = .ok (.getstatic 13, 3) := by decide +kernel
theorem d3_61 : decode prog_14_method_6_code 61 = .ok (.goto 6, 3) := by decide +kernel
theorem ef_R2 (m : MethodId)  : entryFrame m #[(.ref d2)] 1 = mkF m 0 #[.val (.ref d2)] [] := by first | (simp [entryFrame, mkF, argsToLocals, Value.category, maxLocals]; done) | rfl
def QR2 (Z : State) (d0 : Addr) (d1 : Addr) (d2 : Addr) (d3 : Addr) (h0 : Heap) (n0 : Nat) (v : Option Value) (h : Heap) (L : List Loc) : Prop := v = some (.ref d3) ∧ Fr n0 L ∧ h = h0
set_option maxRecDepth 65536 in
set_option maxHeartbeats 40000000 in
theorem rmR2 (l : Launch) (Z : State) (aw : Array Value) (hw : ∀ d ∈ tables_1, d.before aw Z = true) (ws : List Jvm.Cond) (d0 : Addr) (d1 : Addr) (d2 : Addr) (d3 : Addr) (h0 : Heap) (n0 : Nat) (Z0 : n0 ≤ h0.size) (B : own_B Z h0 d0 d1 d2 d3) :
    MetFree l (⟨"com/example/reknit/reknit/DataClass", "partner", "()Lcom/example/reknit/reknit/DataClass;"⟩ : MethodName) (head1 (Jvm.Cond.code (⟨"com/example/reknit/reknit/DataClass", "partner", "()Lcom/example/reknit/reknit/DataClass;"⟩ : MethodName) prog_14_method_6_code 1 (some (.object "com/example/reknit/reknit/DataClass")) :: ws) ({ frames := 1, cells := 0, slots := 0, locals := 12 } : Room)) (fun a U => a = #[(.ref d2)] ∧ Z.Warmed39 U.vm ∧ U.heap = h0) (fun _ _ _ _ _ => True) (fun _ U o U' => ∃ v L, o = .returned v ∧ QR2 Z d0 d1 d2 d3 h0 n0 v U'.heap L ∧ FrameEnd U o U' L ({ frames := 1, cells := 0, slots := 0, locals := 12 } : Room).cells ({ frames := 1, cells := 0, slots := 0, locals := 12 } : Room).slots) := by
  refine MetFree.of_bodySF (plainFor_of_name pn_2) hisR ?_
  intro p e s m args below meth c s₁ Bd hml0 hP hK
  obtain ⟨rfl, hZ, hh⟩ := hP
  have hx := Bd.exec
  have hby := Bd.bytes
  have hml : c.maxLocals = 1 := hml0
  have hown : s.vm.findClass "com/example/reknit/reknit/DataClass" = some m.cls := findClass_of_methodNamed Bd.named
  have hnm := (name_of_methodNamed Bd.named Bd.method).1
  have hlk : meth.locks = false := BodyLoose.notSynchronized Bd
  have X0 : Stand p l e ({ frames := 1, cells := 0, slots := 0, locals := 12 } : Room) s m #[(.ref d2)] below meth c s₁ [] 0 0 := Stand.of_body Bd
  have eh0 : s₁.heap = h0 := by rw [← hh, Bd.state]; rfl
  have N0 := Fr.nil n0
  show Rest p.tables e below s (QR2 Z d0 d1 d2 d3 h0 n0) _ _ (s₁.setTop (entryFrame m #[(.ref d2)] 1))
  refine Rest.via (fun t k => castTop (ef_R2 m ) k) ?_
  have B0 := B
  obtain ⟨S0, E0, F0, S1, E1, F1, S2, E2, F2, S3, E3, F3, ne0_1, ne0_2, ne1_2, ne0_3, ne1_3, ne2_3⟩ := B0
  show Rest p.tables e below s _ _ _ (s₁.setTop (mkF m 0 #[.val (.ref d2)] []))
  refine Rest.via (fun t k => XS.aloadN X0.here hx rfl (hb hby d3_0) rfl rfl k) ?_
  show Rest p.tables e below s _ _ _ (s₁.setTop (mkF m 1 #[.val (.ref d2)] [(.ref d2)]))
  obtain ⟨cq1, kq1, q1a, q1b, q1c⟩ := isOf hZ eh0 E2
  obtain ⟨_, _, ⟨T1, L1, k1, n1⟩, -, X1, ⟨Lc1, hQ1, l1, y1, z1⟩, st1⟩ := X0.virtualBackUp hx (owner := "java/lang/Enum") (x := (⟨"com/example/reknit/reknit/DataClass", "ordinal", "()I"⟩ : MethodName)) (y := (⟨"java/lang/Enum", "ordinal", "()I"⟩ : MethodName)) hown (mvT hZ (hw _ (List.mem_of_getElem? (i := 18) rfl))) (mvT hZ (hw _ (List.mem_of_getElem? (i := 19) rfl))) (mvT hZ (hw _ (List.mem_of_getElem? (i := 20) rfl))) (by decide) (mvT hZ (hw _ (List.mem_of_getElem? (i := 22) rfl))) (mvT hZ (hw _ (List.mem_of_getElem? (i := 21) rfl))) (backOf (W := 0) (rmO l Z aw hw [] d2 (2 : Int32) h0 n0 (Nat.le_trans Z0 (Keep.refl h0 []).1) F2) hZ (hw _ (List.mem_of_getElem? (i := 24) rfl)) (hw _ (List.mem_of_getElem? (i := 23) rfl)) (by decide) (by decide)) q1a q1c (g := (mkF m 1 #[.val (.ref d2)] [(.ref d2)])) rfl (by rw [hml]; rfl) (Steps.refl _) (argsL := []) (rest := []) (lenOf pd_0 rfl) rfl (by show 2 * 0 + _ ≤ _; exact Nat.le_of_eq rfl) (hb hby d3_1) (fun _ _ => ⟨rfl, eh0, (by decide : 0 + 0 ≤ _), (by decide : 0 + 0 ≤ _)⟩)
  dsimp only [Pt.U, Pt.locs, Pt.cells, Pt.slots] at X1 l1 y1 z1 st1 hQ1
  subst l1 y1 z1
  obtain ⟨rfl, Nq1, e1⟩ := hQ1
  have N1 := Fr.app N0 Nq1
  refine Rest.via (fun t k => st1.trans k) ?_
  show Rest p.tables e below s _ _ _ (T1.setTop (mkF m 4 #[.val (.ref d2)] [(.int (2 : Int32))]))
  refine Rest.via (fun t k => XS.tswIn X1.here hx rfl (pc0 := 4) (pc' := 58) (o := 54) rfl (hb hby d3_4) rfl (by decide) (by decide) (by decide) (by decide) k) ?_
  show Rest p.tables e below s _ _ _ (T1.setTop (mkF m 58 #[.val (.ref d2)] []))
  obtain ⟨T2, X2, e2, st2⟩ := getS2 X1 hx hZ hown (host := "") (Or.inl (hw _ (List.mem_of_getElem? (i := 34) rfl))) Via.refl e1 S3 (g := (mkF m 58 #[.val (.ref d2)] [])) rfl (hb hby d3_58)
  refine Rest.via (fun t k => st2 t k) ?_
  show Rest p.tables e below s _ _ _ (T2.setTop (mkF m 61 #[.val (.ref d2)] [(.ref d3)]))
  refine Rest.via (fun t k => XS.goto X2.here hx rfl (pc0 := 61) (pc' := 67) rfl (hb hby d3_61) (by decide) (by decide) k) ?_
  show Rest p.tables e below s _ _ _ (T2.setTop (mkF m 67 #[.val (.ref d2)] [(.ref d3)]))
  refine Rest.ret X2 (v := some (.ref d3)) (fun h => by rw [Bd.returns] at h; cases h) hlk (fun fs hr => retOut X2 hx Bd.returns rfl (Or.inr (Or.inr (Or.inr (Or.inr ⟨rfl, rfl, rfl⟩)))) (hb hby d3_67) hr) ?_ (by decide) (by decide)
  rw [e2]
  exact ⟨rfl, N1, rfl⟩
theorem d1_26 : decode method_2_code 26 = .ok (.getstatic 19, 3) := by decide +kernel
theorem d1_29 : decode method_2_code 29 = .ok (.areturn, 1) := by decide +kernel
theorem ef_P3 (m : MethodId)  : entryFrame m #[(.int (3 : Int32))] 1 = mkF m 0 #[.val (.int (3 : Int32))] [] := by first | (simp [entryFrame, mkF, argsToLocals, Value.category, maxLocals]; done) | rfl
def QP3 (Z : State) (d0 : Addr) (d1 : Addr) (d2 : Addr) (d3 : Addr) (h0 : Heap) (n0 : Nat) (v : Option Value) (h : Heap) (L : List Loc) : Prop := v = some (.ref d3) ∧ Fr n0 L ∧ h = h0
set_option maxRecDepth 65536 in
set_option maxHeartbeats 40000000 in
theorem rmP3 (l : Launch) (Z : State) (aw : Array Value) (hw : ∀ d ∈ tables_1, d.before aw Z = true) (ws : List Jvm.Cond) (d0 : Addr) (d1 : Addr) (d2 : Addr) (d3 : Addr) (h0 : Heap) (n0 : Nat) (Z0 : n0 ≤ h0.size) (B : own_B Z h0 d0 d1 d2 d3) :
    MetFree l (⟨"com/example/reknit/reknit/DataClassIsCriticalPinLaw", "pick", "(I)Lcom/example/reknit/reknit/DataClass;"⟩ : MethodName) (head1 (Jvm.Cond.code (⟨"com/example/reknit/reknit/DataClassIsCriticalPinLaw", "pick", "(I)Lcom/example/reknit/reknit/DataClass;"⟩ : MethodName) method_2_code 1 (some (.object "com/example/reknit/reknit/DataClass")) :: ws) ({ frames := 0, cells := 0, slots := 0, locals := 0 } : Room)) (fun a U => a = #[(.int (3 : Int32))] ∧ Z.Warmed39 U.vm ∧ U.heap = h0) (fun _ _ _ _ _ => True) (fun _ U o U' => ∃ v L, o = .returned v ∧ QP3 Z d0 d1 d2 d3 h0 n0 v U'.heap L ∧ FrameEnd U o U' L ({ frames := 0, cells := 0, slots := 0, locals := 0 } : Room).cells ({ frames := 0, cells := 0, slots := 0, locals := 0 } : Room).slots) := by
  refine MetFree.of_bodySF (plainFor_of_name pn_1) hisR ?_
  intro p e s m args below meth c s₁ Bd hml0 hP hK
  obtain ⟨rfl, hZ, hh⟩ := hP
  have hx := Bd.exec
  have hby := Bd.bytes
  have hml : c.maxLocals = 1 := hml0
  have hown : s.vm.findClass "com/example/reknit/reknit/DataClassIsCriticalPinLaw" = some m.cls := findClass_of_methodNamed Bd.named
  have hnm := (name_of_methodNamed Bd.named Bd.method).1
  have hlk : meth.locks = false := BodyLoose.notSynchronized Bd
  have X0 : Stand p l e ({ frames := 0, cells := 0, slots := 0, locals := 0 } : Room) s m #[(.int (3 : Int32))] below meth c s₁ [] 0 0 := Stand.of_body Bd
  have eh0 : s₁.heap = h0 := by rw [← hh, Bd.state]; rfl
  have N0 := Fr.nil n0
  show Rest p.tables e below s (QP3 Z d0 d1 d2 d3 h0 n0) _ _ (s₁.setTop (entryFrame m #[(.int (3 : Int32))] 1))
  refine Rest.via (fun t k => castTop (ef_P3 m ) k) ?_
  have B0 := B
  obtain ⟨S0, E0, F0, S1, E1, F1, S2, E2, F2, S3, E3, F3, ne0_1, ne0_2, ne1_2, ne0_3, ne1_3, ne2_3⟩ := B0
  show Rest p.tables e below s _ _ _ (s₁.setTop (mkF m 0 #[.val (.int (3 : Int32))] []))
  refine Rest.via (fun t k => XS.iloadN X0.here hx rfl (hb hby d1_0) rfl k) ?_
  show Rest p.tables e below s _ _ _ (s₁.setTop (mkF m 1 #[.val (.int (3 : Int32))] [(.int (3 : Int32))]))
  refine Rest.via (fun t k => XS.ifYes X0.here hx rfl (pc0 := 1) (pc' := 8) rfl (hb hby d1_1) rfl ((if0 _ _).trans (feq (by decide : ¬ ((3 : Int32) = (0 : Int32)))).2) (by decide) (by decide) k) ?_
  show Rest p.tables e below s _ _ _ (s₁.setTop (mkF m 8 #[.val (.int (3 : Int32))] []))
  refine Rest.via (fun t k => XS.iloadN X0.here hx rfl (hb hby d1_8) rfl k) ?_
  show Rest p.tables e below s _ _ _ (s₁.setTop (mkF m 9 #[.val (.int (3 : Int32))] [(.int (3 : Int32))]))
  refine Rest.via (fun t k => XS.iconst X0.here hx rfl (hb hby d1_9) k) ?_
  show Rest p.tables e below s _ _ _ (s₁.setTop (mkF m 10 #[.val (.int (3 : Int32))] [(.int (1 : Int32)), (.int (3 : Int32))]))
  refine Rest.via (fun t k => XS.icmpYes X0.here hx rfl (pc0 := 10) (pc' := 17) rfl (hb hby d1_10) rfl (feq (by decide : ¬ ((3 : Int32) = (1 : Int32)))).2 (by decide) (by decide) k) ?_
  show Rest p.tables e below s _ _ _ (s₁.setTop (mkF m 17 #[.val (.int (3 : Int32))] []))
  refine Rest.via (fun t k => XS.iloadN X0.here hx rfl (hb hby d1_17) rfl k) ?_
  show Rest p.tables e below s _ _ _ (s₁.setTop (mkF m 18 #[.val (.int (3 : Int32))] [(.int (3 : Int32))]))
  refine Rest.via (fun t k => XS.iconst X0.here hx rfl (hb hby d1_18) k) ?_
  show Rest p.tables e below s _ _ _ (s₁.setTop (mkF m 19 #[.val (.int (3 : Int32))] [(.int (2 : Int32)), (.int (3 : Int32))]))
  refine Rest.via (fun t k => XS.icmpYes X0.here hx rfl (pc0 := 19) (pc' := 26) rfl (hb hby d1_19) rfl (feq (by decide : ¬ ((3 : Int32) = (2 : Int32)))).2 (by decide) (by decide) k) ?_
  show Rest p.tables e below s _ _ _ (s₁.setTop (mkF m 26 #[.val (.int (3 : Int32))] []))
  obtain ⟨T1, X1, e1, st1⟩ := getS2 X0 hx hZ hown (host := "") (Or.inl (hw _ (List.mem_of_getElem? (i := 29) rfl))) Via.refl eh0 S3 (g := (mkF m 26 #[.val (.int (3 : Int32))] [])) rfl (hb hby d1_26)
  refine Rest.via (fun t k => st1 t k) ?_
  show Rest p.tables e below s _ _ _ (T1.setTop (mkF m 29 #[.val (.int (3 : Int32))] [(.ref d3)]))
  refine Rest.ret X1 (v := some (.ref d3)) (fun h => by rw [Bd.returns] at h; cases h) hlk (fun fs hr => retOut X1 hx Bd.returns rfl (Or.inr (Or.inr (Or.inr (Or.inr ⟨rfl, rfl, rfl⟩)))) (hb hby d1_29) hr) ?_ (by decide) (by decide)
  rw [e1]
  exact ⟨rfl, N0, rfl⟩
theorem ef_C3 (m : MethodId)  : entryFrame m #[(.ref d3)] 1 = mkF m 0 #[.val (.ref d3)] [] := by first | (simp [entryFrame, mkF, argsToLocals, Value.category, maxLocals]; done) | rfl
def QC3 (Z : State) (d0 : Addr) (d1 : Addr) (d2 : Addr) (d3 : Addr) (h0 : Heap) (n0 : Nat) (v : Option Value) (h : Heap) (L : List Loc) : Prop := v = some (.int (0 : Int32)) ∧ Fr n0 L ∧ h = h0
set_option maxRecDepth 65536 in
set_option maxHeartbeats 40000000 in
theorem rmC3 (l : Launch) (Z : State) (aw : Array Value) (hw : ∀ d ∈ tables_1, d.before aw Z = true) (ws : List Jvm.Cond) (d0 : Addr) (d1 : Addr) (d2 : Addr) (d3 : Addr) (h0 : Heap) (n0 : Nat) (Z0 : n0 ≤ h0.size) (B : own_B Z h0 d0 d1 d2 d3) :
    MetFree l (⟨"com/example/reknit/reknit/DataClass", "isCritical", "()Z"⟩ : MethodName) (head1 (Jvm.Cond.code (⟨"com/example/reknit/reknit/DataClass", "isCritical", "()Z"⟩ : MethodName) prog_14_method_5_code 1 (some .boolean) :: ws) ({ frames := 0, cells := 0, slots := 0, locals := 0 } : Room)) (fun a U => a = #[(.ref d3)] ∧ Z.Warmed39 U.vm ∧ U.heap = h0) (fun _ _ _ _ _ => True) (fun _ U o U' => ∃ v L, o = .returned v ∧ QC3 Z d0 d1 d2 d3 h0 n0 v U'.heap L ∧ FrameEnd U o U' L ({ frames := 0, cells := 0, slots := 0, locals := 0 } : Room).cells ({ frames := 0, cells := 0, slots := 0, locals := 0 } : Room).slots) := by
  refine MetFree.of_bodySF (plainFor_of_name pn_2) hisR ?_
  intro p e s m args below meth c s₁ Bd hml0 hP hK
  obtain ⟨rfl, hZ, hh⟩ := hP
  have hx := Bd.exec
  have hby := Bd.bytes
  have hml : c.maxLocals = 1 := hml0
  have hown : s.vm.findClass "com/example/reknit/reknit/DataClass" = some m.cls := findClass_of_methodNamed Bd.named
  have hnm := (name_of_methodNamed Bd.named Bd.method).1
  have hlk : meth.locks = false := BodyLoose.notSynchronized Bd
  have X0 : Stand p l e ({ frames := 0, cells := 0, slots := 0, locals := 0 } : Room) s m #[(.ref d3)] below meth c s₁ [] 0 0 := Stand.of_body Bd
  have eh0 : s₁.heap = h0 := by rw [← hh, Bd.state]; rfl
  have N0 := Fr.nil n0
  show Rest p.tables e below s (QC3 Z d0 d1 d2 d3 h0 n0) _ _ (s₁.setTop (entryFrame m #[(.ref d3)] 1))
  refine Rest.via (fun t k => castTop (ef_C3 m ) k) ?_
  have B0 := B
  obtain ⟨S0, E0, F0, S1, E1, F1, S2, E2, F2, S3, E3, F3, ne0_1, ne0_2, ne1_2, ne0_3, ne1_3, ne2_3⟩ := B0
  show Rest p.tables e below s _ _ _ (s₁.setTop (mkF m 0 #[.val (.ref d3)] []))
  refine Rest.via (fun t k => XS.aloadN X0.here hx rfl (hb hby d2_0) rfl rfl k) ?_
  show Rest p.tables e below s _ _ _ (s₁.setTop (mkF m 1 #[.val (.ref d3)] [(.ref d3)]))
  obtain ⟨T1, X1, e1, st1⟩ := getS2 X0 hx hZ hown (host := "") (Or.inl (hw _ (List.mem_of_getElem? (i := 12) rfl))) Via.refl eh0 S0 (g := (mkF m 1 #[.val (.ref d3)] [(.ref d3)])) rfl (hb hby d2_1)
  refine Rest.via (fun t k => st1 t k) ?_
  show Rest p.tables e below s _ _ _ (T1.setTop (mkF m 4 #[.val (.ref d3)] [(.ref d0), (.ref d3)]))
  refine Rest.via (fun t k => Jvm.RoadKit.acmp (g := (mkF m 4 #[.val (.ref d3)] [(.ref d0), (.ref d3)])) X1 hx rfl rfl rfl (pc0 := 4) (pc' := 7) (same := false) rfl (hb hby d2_4) rfl (decide_eq_false fun q => (Ne.symm ne0_3) (Value.ref.inj q)) (by decide) (by decide) k) ?_
  show Rest p.tables e below s _ _ _ (T1.setTop (mkF m 7 #[.val (.ref d3)] []))
  refine Rest.via (fun t k => XS.aloadN X1.here hx rfl (hb hby d2_7) rfl rfl k) ?_
  show Rest p.tables e below s _ _ _ (T1.setTop (mkF m 8 #[.val (.ref d3)] [(.ref d3)]))
  obtain ⟨T2, X2, e2, st2⟩ := getS2 X1 hx hZ hown (host := "") (Or.inl (hw _ (List.mem_of_getElem? (i := 27) rfl))) Via.refl e1 S1 (g := (mkF m 8 #[.val (.ref d3)] [(.ref d3)])) rfl (hb hby d2_8)
  refine Rest.via (fun t k => st2 t k) ?_
  show Rest p.tables e below s _ _ _ (T2.setTop (mkF m 11 #[.val (.ref d3)] [(.ref d1), (.ref d3)]))
  refine Rest.via (fun t k => Jvm.RoadKit.acmp (g := (mkF m 11 #[.val (.ref d3)] [(.ref d1), (.ref d3)])) X2 hx rfl rfl rfl (pc0 := 11) (pc' := 18) (same := false) rfl (hb hby d2_11) rfl (decide_eq_false fun q => (Ne.symm ne1_3) (Value.ref.inj q)) (by decide) (by decide) k) ?_
  show Rest p.tables e below s _ _ _ (T2.setTop (mkF m 18 #[.val (.ref d3)] []))
  refine Rest.via (fun t k => XS.iconst X2.here hx rfl (hb hby d2_18) k) ?_
  show Rest p.tables e below s _ _ _ (T2.setTop (mkF m 19 #[.val (.ref d3)] [(.int (0 : Int32))]))
  refine Rest.ret X2 (v := some (.int (nar .boolean (0 : Int32)))) (fun h => by rw [Bd.returns] at h; cases h) hlk (fun fs hr => retN X2 hx (t := .boolean) Bd.returns (by simp) (hb hby d2_19) hr) ?_ (by decide) (by decide)
  rw [e2]
  exact ⟨rfl, N0, rfl⟩
theorem d3_64 : decode prog_14_method_6_code 64 = .ok (.getstatic 10, 3) := by decide +kernel
theorem ef_R3 (m : MethodId)  : entryFrame m #[(.ref d3)] 1 = mkF m 0 #[.val (.ref d3)] [] := by first | (simp [entryFrame, mkF, argsToLocals, Value.category, maxLocals]; done) | rfl
def QR3 (Z : State) (d0 : Addr) (d1 : Addr) (d2 : Addr) (d3 : Addr) (h0 : Heap) (n0 : Nat) (v : Option Value) (h : Heap) (L : List Loc) : Prop := v = some (.ref d2) ∧ Fr n0 L ∧ h = h0
set_option maxRecDepth 65536 in
set_option maxHeartbeats 40000000 in
theorem rmR3 (l : Launch) (Z : State) (aw : Array Value) (hw : ∀ d ∈ tables_1, d.before aw Z = true) (ws : List Jvm.Cond) (d0 : Addr) (d1 : Addr) (d2 : Addr) (d3 : Addr) (h0 : Heap) (n0 : Nat) (Z0 : n0 ≤ h0.size) (B : own_B Z h0 d0 d1 d2 d3) :
    MetFree l (⟨"com/example/reknit/reknit/DataClass", "partner", "()Lcom/example/reknit/reknit/DataClass;"⟩ : MethodName) (head1 (Jvm.Cond.code (⟨"com/example/reknit/reknit/DataClass", "partner", "()Lcom/example/reknit/reknit/DataClass;"⟩ : MethodName) prog_14_method_6_code 1 (some (.object "com/example/reknit/reknit/DataClass")) :: ws) ({ frames := 1, cells := 0, slots := 0, locals := 12 } : Room)) (fun a U => a = #[(.ref d3)] ∧ Z.Warmed39 U.vm ∧ U.heap = h0) (fun _ _ _ _ _ => True) (fun _ U o U' => ∃ v L, o = .returned v ∧ QR3 Z d0 d1 d2 d3 h0 n0 v U'.heap L ∧ FrameEnd U o U' L ({ frames := 1, cells := 0, slots := 0, locals := 12 } : Room).cells ({ frames := 1, cells := 0, slots := 0, locals := 12 } : Room).slots) := by
  refine MetFree.of_bodySF (plainFor_of_name pn_2) hisR ?_
  intro p e s m args below meth c s₁ Bd hml0 hP hK
  obtain ⟨rfl, hZ, hh⟩ := hP
  have hx := Bd.exec
  have hby := Bd.bytes
  have hml : c.maxLocals = 1 := hml0
  have hown : s.vm.findClass "com/example/reknit/reknit/DataClass" = some m.cls := findClass_of_methodNamed Bd.named
  have hnm := (name_of_methodNamed Bd.named Bd.method).1
  have hlk : meth.locks = false := BodyLoose.notSynchronized Bd
  have X0 : Stand p l e ({ frames := 1, cells := 0, slots := 0, locals := 12 } : Room) s m #[(.ref d3)] below meth c s₁ [] 0 0 := Stand.of_body Bd
  have eh0 : s₁.heap = h0 := by rw [← hh, Bd.state]; rfl
  have N0 := Fr.nil n0
  show Rest p.tables e below s (QR3 Z d0 d1 d2 d3 h0 n0) _ _ (s₁.setTop (entryFrame m #[(.ref d3)] 1))
  refine Rest.via (fun t k => castTop (ef_R3 m ) k) ?_
  have B0 := B
  obtain ⟨S0, E0, F0, S1, E1, F1, S2, E2, F2, S3, E3, F3, ne0_1, ne0_2, ne1_2, ne0_3, ne1_3, ne2_3⟩ := B0
  show Rest p.tables e below s _ _ _ (s₁.setTop (mkF m 0 #[.val (.ref d3)] []))
  refine Rest.via (fun t k => XS.aloadN X0.here hx rfl (hb hby d3_0) rfl rfl k) ?_
  show Rest p.tables e below s _ _ _ (s₁.setTop (mkF m 1 #[.val (.ref d3)] [(.ref d3)]))
  obtain ⟨cq1, kq1, q1a, q1b, q1c⟩ := isOf hZ eh0 E3
  obtain ⟨_, _, ⟨T1, L1, k1, n1⟩, -, X1, ⟨Lc1, hQ1, l1, y1, z1⟩, st1⟩ := X0.virtualBackUp hx (owner := "java/lang/Enum") (x := (⟨"com/example/reknit/reknit/DataClass", "ordinal", "()I"⟩ : MethodName)) (y := (⟨"java/lang/Enum", "ordinal", "()I"⟩ : MethodName)) hown (mvT hZ (hw _ (List.mem_of_getElem? (i := 18) rfl))) (mvT hZ (hw _ (List.mem_of_getElem? (i := 19) rfl))) (mvT hZ (hw _ (List.mem_of_getElem? (i := 20) rfl))) (by decide) (mvT hZ (hw _ (List.mem_of_getElem? (i := 22) rfl))) (mvT hZ (hw _ (List.mem_of_getElem? (i := 21) rfl))) (backOf (W := 0) (rmO l Z aw hw [] d3 (3 : Int32) h0 n0 (Nat.le_trans Z0 (Keep.refl h0 []).1) F3) hZ (hw _ (List.mem_of_getElem? (i := 24) rfl)) (hw _ (List.mem_of_getElem? (i := 23) rfl)) (by decide) (by decide)) q1a q1c (g := (mkF m 1 #[.val (.ref d3)] [(.ref d3)])) rfl (by rw [hml]; rfl) (Steps.refl _) (argsL := []) (rest := []) (lenOf pd_0 rfl) rfl (by show 2 * 0 + _ ≤ _; exact Nat.le_of_eq rfl) (hb hby d3_1) (fun _ _ => ⟨rfl, eh0, (by decide : 0 + 0 ≤ _), (by decide : 0 + 0 ≤ _)⟩)
  dsimp only [Pt.U, Pt.locs, Pt.cells, Pt.slots] at X1 l1 y1 z1 st1 hQ1
  subst l1 y1 z1
  obtain ⟨rfl, Nq1, e1⟩ := hQ1
  have N1 := Fr.app N0 Nq1
  refine Rest.via (fun t k => st1.trans k) ?_
  show Rest p.tables e below s _ _ _ (T1.setTop (mkF m 4 #[.val (.ref d3)] [(.int (3 : Int32))]))
  refine Rest.via (fun t k => XS.tswIn X1.here hx rfl (pc0 := 4) (pc' := 64) (o := 60) rfl (hb hby d3_4) rfl (by decide) (by decide) (by decide) (by decide) k) ?_
  show Rest p.tables e below s _ _ _ (T1.setTop (mkF m 64 #[.val (.ref d3)] []))
  obtain ⟨T2, X2, e2, st2⟩ := getS2 X1 hx hZ hown (host := "") (Or.inl (hw _ (List.mem_of_getElem? (i := 31) rfl))) Via.refl e1 S2 (g := (mkF m 64 #[.val (.ref d3)] [])) rfl (hb hby d3_64)
  refine Rest.via (fun t k => st2 t k) ?_
  show Rest p.tables e below s _ _ _ (T2.setTop (mkF m 67 #[.val (.ref d3)] [(.ref d2)]))
  refine Rest.ret X2 (v := some (.ref d2)) (fun h => by rw [Bd.returns] at h; cases h) hlk (fun fs hr => retOut X2 hx Bd.returns rfl (Or.inr (Or.inr (Or.inr (Or.inr ⟨rfl, rfl, rfl⟩)))) (hb hby d3_67) hr) ?_ (by decide) (by decide)
  rw [e2]
  exact ⟨rfl, N1, rfl⟩
theorem pd_1 : parseMethodDescriptor "(I)Lcom/example/reknit/reknit/DataClass;" = some ⟨[.int], some (.object "com/example/reknit/reknit/DataClass")⟩ := by decide +kernel
theorem pd_2 : parseMethodDescriptor "()Z" = some ⟨[], some .boolean⟩ := by decide +kernel
theorem pd_3 : parseMethodDescriptor "()Lcom/example/reknit/reknit/DataClass;" = some ⟨[], some (.object "com/example/reknit/reknit/DataClass")⟩ := by decide +kernel
theorem ef_0 (m : MethodId) (p0 : Int32) : entryFrame m #[(.int p0)] maxLocals = mkF m 0 #[.val (.int p0), .unset, .unset, .unset, .unset] [] := by first | (simp [entryFrame, mkF, argsToLocals, Value.category, maxLocals]; done) | rfl
def Q0 (Z : State) (p0 : Int32) (d0 : Addr) (d1 : Addr) (d2 : Addr) (d3 : Addr) (h0 : Heap) (n0 : Nat) (v : Option Value) (h : Heap) (L : List Loc) : Prop := v = some (.int 1) ∧ Fr n0 L
set_option maxRecDepth 65536 in
set_option maxHeartbeats 40000000 in
theorem rm0 (l : Launch) (Z : State) (aw : Array Value) (hw : ∀ d ∈ tables_1, d.before aw Z = true) (ws : List Jvm.Cond) (p0 : Int32) (d0 : Addr) (d1 : Addr) (d2 : Addr) (d3 : Addr) (h0 : Heap) (n0 : Nat) (Z0 : n0 ≤ h0.size) (B : own_B Z h0 d0 d1 d2 d3) :
    MetFree l x (head1 (Jvm.Cond.code x code maxLocals ret :: ws) room_1) (fun a U => a = #[(.int p0)] ∧ Z.Warmed39 U.vm ∧ U.heap = h0) (fun _ _ _ _ _ => True) (fun _ U o U' => ∃ v L, o = .returned v ∧ Q0 Z p0 d0 d1 d2 d3 h0 n0 v U'.heap L ∧ FrameEnd U o U' L 0 0) := by
  refine MetFree.of_bodySF (plainFor_of_name pn_1) hisR ?_
  intro p e s m args below meth c s₁ Bd hml0 hP hK
  obtain ⟨rfl, hZ, hh⟩ := hP
  have hx := Bd.exec
  have hby := Bd.bytes
  have hml : c.maxLocals = 5 := hml0
  have hown : s.vm.findClass "com/example/reknit/reknit/DataClassIsCriticalPinLaw" = some m.cls := findClass_of_methodNamed Bd.named
  have hnm := (name_of_methodNamed Bd.named Bd.method).1
  have hlk : meth.locks = false := BodyLoose.notSynchronized Bd
  have X0 : Stand p l e room_1 s m #[(.int p0)] below meth c s₁ [] 0 0 := Stand.of_body Bd
  have eh0 : s₁.heap = h0 := by rw [← hh, Bd.state]; rfl
  have N0 := Fr.nil n0
  show Rest p.tables e below s (Q0 Z p0 d0 d1 d2 d3 h0 n0) _ _ (s₁.setTop (entryFrame m #[(.int p0)] maxLocals))
  refine Rest.via (fun t k => castTop (ef_0 m p0) k) ?_
  have B0 := B
  obtain ⟨S0, E0, F0, S1, E1, F1, S2, E2, F2, S3, E3, F3, ne0_1, ne0_2, ne1_2, ne0_3, ne1_3, ne2_3⟩ := B0
  show Rest p.tables e below s _ _ _ (s₁.setTop (mkF m 0 #[.val (.int p0), .unset, .unset, .unset, .unset] []))
  refine Rest.via (fun t k => XS.iloadN X0.here hx rfl (hb hby at_0) rfl k) ?_
  show Rest p.tables e below s _ _ _ (s₁.setTop (mkF m 1 #[.val (.int p0), .unset, .unset, .unset, .unset] [(.int p0)]))
  refine Rest.via (fun t k => XS.iconst X0.here hx rfl (hb hby at_1) k) ?_
  show Rest p.tables e below s _ _ _ (s₁.setTop (mkF m 2 #[.val (.int p0), .unset, .unset, .unset, .unset] [(.int (3 : Int32)), (.int p0)]))
  refine Rest.via (fun t k => XS.iand X0.here hx rfl (hb hby at_2) rfl k) ?_
  show Rest p.tables e below s _ _ _ (s₁.setTop (mkF m 3 #[.val (.int p0), .unset, .unset, .unset, .unset] [(.int (p0 &&& (3 : Int32)))]))
  refine Rest.via (fun t k => XS.istoreN X0.here hx rfl (hb hby at_3) rfl (l' := #[.val (.int p0), .val (.int (p0 &&& (3 : Int32))), .unset, .unset, .unset]) rfl k) ?_
  show Rest p.tables e below s _ _ _ (s₁.setTop (mkF m 4 #[.val (.int p0), .val (.int (p0 &&& (3 : Int32))), .unset, .unset, .unset] []))
  obtain ⟨sv, hv_sv⟩ : ∃ z : Int32, z = (p0 &&& (3 : Int32)) := ⟨_, rfl⟩
  rw [← hv_sv]
  show Rest p.tables e below s _ _ _ (s₁.setTop (mkF m 4 #[.val (.int p0), .val (.int sv), .unset, .unset, .unset] []))
  obtain rfl | rfl | rfl | rfl : sv = 0 ∨ sv = 1 ∨ sv = 2 ∨ sv = 3 := by rw [hv_sv]; exact own_four _
  · show Rest p.tables e below s _ _ _ (s₁.setTop (mkF m 4 #[.val (.int p0), .val (.int (0 : Int32)), .unset, .unset, .unset] []))
    refine Rest.via (fun t k => XS.iloadN X0.here hx rfl (hb hby at_4) rfl k) ?_
    show Rest p.tables e below s _ _ _ (s₁.setTop (mkF m 5 #[.val (.int p0), .val (.int (0 : Int32)), .unset, .unset, .unset] [(.int (0 : Int32))]))
    obtain ⟨_, _, ⟨T1, L1, k1, n1⟩, -, X1, ⟨Lc1, hQ1, l1, y1, z1⟩, st1⟩ := Jvm.LawKit.callS X0 hx (y := (⟨"com/example/reknit/reknit/DataClassIsCriticalPinLaw", "pick", "(I)Lcom/example/reknit/reknit/DataClass;"⟩ : MethodName)) hown (mvT hZ (hw _ (List.mem_of_getElem? (i := 0) rfl))) (mvT hZ (hw _ (List.mem_of_getElem? (i := 1) rfl))) (mvT hZ (hw _ (List.mem_of_getElem? (i := 2) rfl))) (mvT hZ (hw _ (List.mem_of_getElem? (i := 3) rfl))) (by decide) (backOf (W := 0) (rmP0 l Z aw hw []  d0 d1 d2 d3 h0 n0 (Nat.le_trans Z0 (Keep.refl h0 []).1) B) hZ (hw _ (List.mem_of_getElem? (i := 3) rfl)) (hw _ (List.mem_of_getElem? (i := 2) rfl)) (by decide) (by decide)) (g := (mkF m 5 #[.val (.int p0), .val (.int (0 : Int32)), .unset, .unset, .unset] [(.int (0 : Int32))])) rfl (by rw [hml]; rfl) (argsL := [(.int (0 : Int32))]) (rest := []) (lenOf pd_1 rfl) rfl (by show 2 * 0 + _ ≤ _; exact Nat.le_of_eq rfl) (hb hby at_5) (fun _ _ => ⟨rfl, eh0, (by decide : 0 + 0 ≤ _), (by decide : 0 + 0 ≤ _)⟩)
    dsimp only [Pt.U, Pt.locs, Pt.cells, Pt.slots] at X1 l1 y1 z1 st1 hQ1
    subst l1 y1 z1
    obtain ⟨rfl, Nq1, e1⟩ := hQ1
    have N1 := Fr.app N0 Nq1
    refine Rest.via (fun t k => st1 t k) ?_
    show Rest p.tables e below s _ _ _ (T1.setTop (mkF m 8 #[.val (.int p0), .val (.int (0 : Int32)), .unset, .unset, .unset] [(.ref d0)]))
    refine Rest.via (fun t k => XS.astoreN X1.here hx rfl (hb hby at_8) rfl rfl (l' := #[.val (.int p0), .val (.int (0 : Int32)), .val (.ref d0), .unset, .unset]) rfl k) ?_
    show Rest p.tables e below s _ _ _ (T1.setTop (mkF m 9 #[.val (.int p0), .val (.int (0 : Int32)), .val (.ref d0), .unset, .unset] []))
    refine Rest.via (fun t k => XS.iloadN X1.here hx rfl (hb hby at_9) rfl k) ?_
    show Rest p.tables e below s _ _ _ (T1.setTop (mkF m 10 #[.val (.int p0), .val (.int (0 : Int32)), .val (.ref d0), .unset, .unset] [(.int (0 : Int32))]))
    refine Rest.via (fun t k => XS.iconst X1.here hx rfl (hb hby at_10) k) ?_
    show Rest p.tables e below s _ _ _ (T1.setTop (mkF m 11 #[.val (.int p0), .val (.int (0 : Int32)), .val (.ref d0), .unset, .unset] [(.int (2 : Int32)), (.int (0 : Int32))]))
    refine Rest.via (fun t k => XS.icmpNo X1.here hx rfl (hb hby at_11) rfl (tlt (by decide : (0 : Int32) < (2 : Int32))).2.1 k) ?_
    show Rest p.tables e below s _ _ _ (T1.setTop (mkF m 14 #[.val (.int p0), .val (.int (0 : Int32)), .val (.ref d0), .unset, .unset] []))
    refine Rest.via (fun t k => XS.iconst X1.here hx rfl (hb hby at_14) k) ?_
    show Rest p.tables e below s _ _ _ (T1.setTop (mkF m 15 #[.val (.int p0), .val (.int (0 : Int32)), .val (.ref d0), .unset, .unset] [(.int (1 : Int32))]))
    refine Rest.via (fun t k => XS.goto X1.here hx rfl (pc0 := 15) (pc' := 19) rfl (hb hby at_15) (by decide) (by decide) k) ?_
    show Rest p.tables e below s _ _ _ (T1.setTop (mkF m 19 #[.val (.int p0), .val (.int (0 : Int32)), .val (.ref d0), .unset, .unset] [(.int (1 : Int32))]))
    refine Rest.via (fun t k => XS.istoreN X1.here hx rfl (hb hby at_19) rfl (l' := #[.val (.int p0), .val (.int (0 : Int32)), .val (.ref d0), .val (.int (1 : Int32)), .unset]) rfl k) ?_
    show Rest p.tables e below s _ _ _ (T1.setTop (mkF m 20 #[.val (.int p0), .val (.int (0 : Int32)), .val (.ref d0), .val (.int (1 : Int32)), .unset] []))
    refine Rest.via (fun t k => XS.aloadN X1.here hx rfl (hb hby at_20) rfl rfl k) ?_
    show Rest p.tables e below s _ _ _ (T1.setTop (mkF m 21 #[.val (.int p0), .val (.int (0 : Int32)), .val (.ref d0), .val (.int (1 : Int32)), .unset] [(.ref d0)]))
    obtain ⟨cq2, kq2, q2a, q2b, q2c⟩ := isOf hZ e1 E0
    obtain ⟨_, _, ⟨T2, L2, k2, n2⟩, -, X2, ⟨Lc2, hQ2, l2, y2, z2⟩, st2⟩ := X1.virtualBack hx (y := (⟨"com/example/reknit/reknit/DataClass", "isCritical", "()Z"⟩ : MethodName)) (z := (⟨"com/example/reknit/reknit/DataClass", "isCritical", "()Z"⟩ : MethodName)) hown (mvT hZ (hw _ (List.mem_of_getElem? (i := 7) rfl))) (mvT hZ (hw _ (List.mem_of_getElem? (i := 8) rfl))) (notFace_of_selects (args := #[]) (mvT hZ (hw _ (List.mem_of_getElem? (i := 10) rfl)))) (mvT hZ (hw _ (List.mem_of_getElem? (i := 10) rfl))) (mvT hZ (hw _ (List.mem_of_getElem? (i := 9) rfl))) (by decide) (backOf (W := 0) (rmC0 l Z aw hw []  d0 d1 d2 d3 h0 n0 (Nat.le_trans Z0 (Keep.refl h0 []).1) B) hZ (hw _ (List.mem_of_getElem? (i := 11) rfl)) (hw _ (List.mem_of_getElem? (i := 5) rfl)) (by decide) (by decide)) q2a q2c (g := (mkF m 21 #[.val (.int p0), .val (.int (0 : Int32)), .val (.ref d0), .val (.int (1 : Int32)), .unset] [(.ref d0)])) rfl (by rw [hml]; rfl) (Steps.refl _) (argsL := []) (rest := []) (lenOf pd_2 rfl) rfl (by show 2 * 0 + _ ≤ _; exact Nat.le_of_eq rfl) (hb hby at_21) (fun _ _ => ⟨rfl, e1, (by decide : 0 + 0 ≤ _), (by decide : 0 + 0 ≤ _)⟩)
    dsimp only [Pt.U, Pt.locs, Pt.cells, Pt.slots] at X2 l2 y2 z2 st2 hQ2
    subst l2 y2 z2
    obtain ⟨rfl, Nq2, e2⟩ := hQ2
    have N2 := Fr.app N1 Nq2
    refine Rest.via (fun t k => st2.trans k) ?_
    show Rest p.tables e below s _ _ _ (T2.setTop (mkF m 24 #[.val (.int p0), .val (.int (0 : Int32)), .val (.ref d0), .val (.int (1 : Int32)), .unset] [(.int (1 : Int32))]))
    refine Rest.via (fun t k => XS.istore X2.here hx rfl (hb hby at_24) rfl (l' := #[.val (.int p0), .val (.int (0 : Int32)), .val (.ref d0), .val (.int (1 : Int32)), .val (.int (1 : Int32))]) rfl k) ?_
    show Rest p.tables e below s _ _ _ (T2.setTop (mkF m 26 #[.val (.int p0), .val (.int (0 : Int32)), .val (.ref d0), .val (.int (1 : Int32)), .val (.int (1 : Int32))] []))
    refine Rest.via (fun t k => XS.iload X2.here hx rfl (hb hby at_26) rfl k) ?_
    show Rest p.tables e below s _ _ _ (T2.setTop (mkF m 28 #[.val (.int p0), .val (.int (0 : Int32)), .val (.ref d0), .val (.int (1 : Int32)), .val (.int (1 : Int32))] [(.int (1 : Int32))]))
    refine Rest.via (fun t k => XS.iloadN X2.here hx rfl (hb hby at_28) rfl k) ?_
    show Rest p.tables e below s _ _ _ (T2.setTop (mkF m 29 #[.val (.int p0), .val (.int (0 : Int32)), .val (.ref d0), .val (.int (1 : Int32)), .val (.int (1 : Int32))] [(.int (1 : Int32)), (.int (1 : Int32))]))
    refine Rest.via (fun t k => XS.icmpYes X2.here hx rfl (pc0 := 29) (pc' := 34) rfl (hb hby at_29) rfl (teq (by decide : (1 : Int32) = (1 : Int32))).1 (by decide) (by decide) k) ?_
    show Rest p.tables e below s _ _ _ (T2.setTop (mkF m 34 #[.val (.int p0), .val (.int (0 : Int32)), .val (.ref d0), .val (.int (1 : Int32)), .val (.int (1 : Int32))] []))
    refine Rest.via (fun t k => XS.aloadN X2.here hx rfl (hb hby at_34) rfl rfl k) ?_
    show Rest p.tables e below s _ _ _ (T2.setTop (mkF m 35 #[.val (.int p0), .val (.int (0 : Int32)), .val (.ref d0), .val (.int (1 : Int32)), .val (.int (1 : Int32))] [(.ref d0)]))
    obtain ⟨cq3, kq3, q3a, q3b, q3c⟩ := isOf hZ e2 E0
    obtain ⟨_, _, ⟨T3, L3, k3, n3⟩, -, X3, ⟨Lc3, hQ3, l3, y3, z3⟩, st3⟩ := X2.virtualBack hx (y := (⟨"com/example/reknit/reknit/DataClass", "partner", "()Lcom/example/reknit/reknit/DataClass;"⟩ : MethodName)) (z := (⟨"com/example/reknit/reknit/DataClass", "partner", "()Lcom/example/reknit/reknit/DataClass;"⟩ : MethodName)) hown (mvT hZ (hw _ (List.mem_of_getElem? (i := 13) rfl))) (mvT hZ (hw _ (List.mem_of_getElem? (i := 14) rfl))) (notFace_of_selects (args := #[]) (mvT hZ (hw _ (List.mem_of_getElem? (i := 16) rfl)))) (mvT hZ (hw _ (List.mem_of_getElem? (i := 16) rfl))) (mvT hZ (hw _ (List.mem_of_getElem? (i := 15) rfl))) (by decide) (backOf (W := 0) (rmR0 l Z aw hw []  d0 d1 d2 d3 h0 n0 (Nat.le_trans Z0 (Keep.refl h0 []).1) B) hZ (hw _ (List.mem_of_getElem? (i := 17) rfl)) (hw _ (List.mem_of_getElem? (i := 5) rfl)) (by decide) (by decide)) q3a q3c (g := (mkF m 35 #[.val (.int p0), .val (.int (0 : Int32)), .val (.ref d0), .val (.int (1 : Int32)), .val (.int (1 : Int32))] [(.ref d0)])) rfl (by rw [hml]; rfl) (Steps.refl _) (argsL := []) (rest := []) (lenOf pd_3 rfl) rfl (by show 2 * 0 + _ ≤ _; exact Nat.le_of_eq rfl) (hb hby at_35) (fun _ _ => ⟨rfl, e2, (by decide : 0 + 0 ≤ _), (by decide : 0 + 0 ≤ _)⟩)
    dsimp only [Pt.U, Pt.locs, Pt.cells, Pt.slots] at X3 l3 y3 z3 st3 hQ3
    subst l3 y3 z3
    obtain ⟨rfl, Nq3, e3⟩ := hQ3
    have N3 := Fr.app N2 Nq3
    refine Rest.via (fun t k => st3.trans k) ?_
    show Rest p.tables e below s _ _ _ (T3.setTop (mkF m 38 #[.val (.int p0), .val (.int (0 : Int32)), .val (.ref d0), .val (.int (1 : Int32)), .val (.int (1 : Int32))] [(.ref d1)]))
    obtain ⟨cq4, kq4, q4a, q4b, q4c⟩ := isOf hZ e3 E1
    obtain ⟨_, _, ⟨T4, L4, k4, n4⟩, -, X4, ⟨Lc4, hQ4, l4, y4, z4⟩, st4⟩ := X3.virtualBack hx (y := (⟨"com/example/reknit/reknit/DataClass", "isCritical", "()Z"⟩ : MethodName)) (z := (⟨"com/example/reknit/reknit/DataClass", "isCritical", "()Z"⟩ : MethodName)) hown (mvT hZ (hw _ (List.mem_of_getElem? (i := 7) rfl))) (mvT hZ (hw _ (List.mem_of_getElem? (i := 8) rfl))) (notFace_of_selects (args := #[]) (mvT hZ (hw _ (List.mem_of_getElem? (i := 10) rfl)))) (mvT hZ (hw _ (List.mem_of_getElem? (i := 10) rfl))) (mvT hZ (hw _ (List.mem_of_getElem? (i := 9) rfl))) (by decide) (backOf (W := 0) (rmC1 l Z aw hw []  d0 d1 d2 d3 h0 n0 (Nat.le_trans Z0 (Keep.refl h0 []).1) B) hZ (hw _ (List.mem_of_getElem? (i := 11) rfl)) (hw _ (List.mem_of_getElem? (i := 5) rfl)) (by decide) (by decide)) q4a q4c (g := (mkF m 38 #[.val (.int p0), .val (.int (0 : Int32)), .val (.ref d0), .val (.int (1 : Int32)), .val (.int (1 : Int32))] [(.ref d1)])) rfl (by rw [hml]; rfl) (Steps.refl _) (argsL := []) (rest := []) (lenOf pd_2 rfl) rfl (by show 2 * 0 + _ ≤ _; exact Nat.le_of_eq rfl) (hb hby at_38) (fun _ _ => ⟨rfl, e3, (by decide : 0 + 0 ≤ _), (by decide : 0 + 0 ≤ _)⟩)
    dsimp only [Pt.U, Pt.locs, Pt.cells, Pt.slots] at X4 l4 y4 z4 st4 hQ4
    subst l4 y4 z4
    obtain ⟨rfl, Nq4, e4⟩ := hQ4
    have N4 := Fr.app N3 Nq4
    refine Rest.via (fun t k => st4.trans k) ?_
    show Rest p.tables e below s _ _ _ (T4.setTop (mkF m 41 #[.val (.int p0), .val (.int (0 : Int32)), .val (.ref d0), .val (.int (1 : Int32)), .val (.int (1 : Int32))] [(.int (1 : Int32))]))
    refine Rest.via (fun t k => XS.iload X4.here hx rfl (hb hby at_41) rfl k) ?_
    show Rest p.tables e below s _ _ _ (T4.setTop (mkF m 43 #[.val (.int p0), .val (.int (0 : Int32)), .val (.ref d0), .val (.int (1 : Int32)), .val (.int (1 : Int32))] [(.int (1 : Int32)), (.int (1 : Int32))]))
    refine Rest.via (fun t k => XS.icmpNo X4.here hx rfl (hb hby at_43) rfl (teq (by decide : (1 : Int32) = (1 : Int32))).2 k) ?_
    show Rest p.tables e below s _ _ _ (T4.setTop (mkF m 46 #[.val (.int p0), .val (.int (0 : Int32)), .val (.ref d0), .val (.int (1 : Int32)), .val (.int (1 : Int32))] []))
    refine Rest.via (fun t k => XS.iconst X4.here hx rfl (hb hby at_46) k) ?_
    show Rest p.tables e below s _ _ _ (T4.setTop (mkF m 47 #[.val (.int p0), .val (.int (0 : Int32)), .val (.ref d0), .val (.int (1 : Int32)), .val (.int (1 : Int32))] [(.int (1 : Int32))]))
    refine Rest.via (fun t k => XS.goto X4.here hx rfl (pc0 := 47) (pc' := 51) rfl (hb hby at_47) (by decide) (by decide) k) ?_
    show Rest p.tables e below s _ _ _ (T4.setTop (mkF m 51 #[.val (.int p0), .val (.int (0 : Int32)), .val (.ref d0), .val (.int (1 : Int32)), .val (.int (1 : Int32))] [(.int (1 : Int32))]))
    refine Rest.ret X4 (v := some (.int (nar .boolean (1 : Int32)))) (fun h => by rw [Bd.returns] at h; cases h) hlk (fun fs hr => retN X4 hx (t := .boolean) Bd.returns (by simp) (hb hby at_51) hr) ?_ (by decide) (by decide)
    rw [e4]
    exact ⟨rfl, N4⟩
  · show Rest p.tables e below s _ _ _ (s₁.setTop (mkF m 4 #[.val (.int p0), .val (.int (1 : Int32)), .unset, .unset, .unset] []))
    refine Rest.via (fun t k => XS.iloadN X0.here hx rfl (hb hby at_4) rfl k) ?_
    show Rest p.tables e below s _ _ _ (s₁.setTop (mkF m 5 #[.val (.int p0), .val (.int (1 : Int32)), .unset, .unset, .unset] [(.int (1 : Int32))]))
    obtain ⟨_, _, ⟨T5, L5, k5, n5⟩, -, X5, ⟨Lc5, hQ5, l5, y5, z5⟩, st5⟩ := Jvm.LawKit.callS X0 hx (y := (⟨"com/example/reknit/reknit/DataClassIsCriticalPinLaw", "pick", "(I)Lcom/example/reknit/reknit/DataClass;"⟩ : MethodName)) hown (mvT hZ (hw _ (List.mem_of_getElem? (i := 0) rfl))) (mvT hZ (hw _ (List.mem_of_getElem? (i := 1) rfl))) (mvT hZ (hw _ (List.mem_of_getElem? (i := 2) rfl))) (mvT hZ (hw _ (List.mem_of_getElem? (i := 3) rfl))) (by decide) (backOf (W := 0) (rmP1 l Z aw hw []  d0 d1 d2 d3 h0 n0 (Nat.le_trans Z0 (Keep.refl h0 []).1) B) hZ (hw _ (List.mem_of_getElem? (i := 3) rfl)) (hw _ (List.mem_of_getElem? (i := 2) rfl)) (by decide) (by decide)) (g := (mkF m 5 #[.val (.int p0), .val (.int (1 : Int32)), .unset, .unset, .unset] [(.int (1 : Int32))])) rfl (by rw [hml]; rfl) (argsL := [(.int (1 : Int32))]) (rest := []) (lenOf pd_1 rfl) rfl (by show 2 * 0 + _ ≤ _; exact Nat.le_of_eq rfl) (hb hby at_5) (fun _ _ => ⟨rfl, eh0, (by decide : 0 + 0 ≤ _), (by decide : 0 + 0 ≤ _)⟩)
    dsimp only [Pt.U, Pt.locs, Pt.cells, Pt.slots] at X5 l5 y5 z5 st5 hQ5
    subst l5 y5 z5
    obtain ⟨rfl, Nq5, e5⟩ := hQ5
    have N5 := Fr.app N0 Nq5
    refine Rest.via (fun t k => st5 t k) ?_
    show Rest p.tables e below s _ _ _ (T5.setTop (mkF m 8 #[.val (.int p0), .val (.int (1 : Int32)), .unset, .unset, .unset] [(.ref d1)]))
    refine Rest.via (fun t k => XS.astoreN X5.here hx rfl (hb hby at_8) rfl rfl (l' := #[.val (.int p0), .val (.int (1 : Int32)), .val (.ref d1), .unset, .unset]) rfl k) ?_
    show Rest p.tables e below s _ _ _ (T5.setTop (mkF m 9 #[.val (.int p0), .val (.int (1 : Int32)), .val (.ref d1), .unset, .unset] []))
    refine Rest.via (fun t k => XS.iloadN X5.here hx rfl (hb hby at_9) rfl k) ?_
    show Rest p.tables e below s _ _ _ (T5.setTop (mkF m 10 #[.val (.int p0), .val (.int (1 : Int32)), .val (.ref d1), .unset, .unset] [(.int (1 : Int32))]))
    refine Rest.via (fun t k => XS.iconst X5.here hx rfl (hb hby at_10) k) ?_
    show Rest p.tables e below s _ _ _ (T5.setTop (mkF m 11 #[.val (.int p0), .val (.int (1 : Int32)), .val (.ref d1), .unset, .unset] [(.int (2 : Int32)), (.int (1 : Int32))]))
    refine Rest.via (fun t k => XS.icmpNo X5.here hx rfl (hb hby at_11) rfl (tlt (by decide : (1 : Int32) < (2 : Int32))).2.1 k) ?_
    show Rest p.tables e below s _ _ _ (T5.setTop (mkF m 14 #[.val (.int p0), .val (.int (1 : Int32)), .val (.ref d1), .unset, .unset] []))
    refine Rest.via (fun t k => XS.iconst X5.here hx rfl (hb hby at_14) k) ?_
    show Rest p.tables e below s _ _ _ (T5.setTop (mkF m 15 #[.val (.int p0), .val (.int (1 : Int32)), .val (.ref d1), .unset, .unset] [(.int (1 : Int32))]))
    refine Rest.via (fun t k => XS.goto X5.here hx rfl (pc0 := 15) (pc' := 19) rfl (hb hby at_15) (by decide) (by decide) k) ?_
    show Rest p.tables e below s _ _ _ (T5.setTop (mkF m 19 #[.val (.int p0), .val (.int (1 : Int32)), .val (.ref d1), .unset, .unset] [(.int (1 : Int32))]))
    refine Rest.via (fun t k => XS.istoreN X5.here hx rfl (hb hby at_19) rfl (l' := #[.val (.int p0), .val (.int (1 : Int32)), .val (.ref d1), .val (.int (1 : Int32)), .unset]) rfl k) ?_
    show Rest p.tables e below s _ _ _ (T5.setTop (mkF m 20 #[.val (.int p0), .val (.int (1 : Int32)), .val (.ref d1), .val (.int (1 : Int32)), .unset] []))
    refine Rest.via (fun t k => XS.aloadN X5.here hx rfl (hb hby at_20) rfl rfl k) ?_
    show Rest p.tables e below s _ _ _ (T5.setTop (mkF m 21 #[.val (.int p0), .val (.int (1 : Int32)), .val (.ref d1), .val (.int (1 : Int32)), .unset] [(.ref d1)]))
    obtain ⟨cq6, kq6, q6a, q6b, q6c⟩ := isOf hZ e5 E1
    obtain ⟨_, _, ⟨T6, L6, k6, n6⟩, -, X6, ⟨Lc6, hQ6, l6, y6, z6⟩, st6⟩ := X5.virtualBack hx (y := (⟨"com/example/reknit/reknit/DataClass", "isCritical", "()Z"⟩ : MethodName)) (z := (⟨"com/example/reknit/reknit/DataClass", "isCritical", "()Z"⟩ : MethodName)) hown (mvT hZ (hw _ (List.mem_of_getElem? (i := 7) rfl))) (mvT hZ (hw _ (List.mem_of_getElem? (i := 8) rfl))) (notFace_of_selects (args := #[]) (mvT hZ (hw _ (List.mem_of_getElem? (i := 10) rfl)))) (mvT hZ (hw _ (List.mem_of_getElem? (i := 10) rfl))) (mvT hZ (hw _ (List.mem_of_getElem? (i := 9) rfl))) (by decide) (backOf (W := 0) (rmC1 l Z aw hw []  d0 d1 d2 d3 h0 n0 (Nat.le_trans Z0 (Keep.refl h0 []).1) B) hZ (hw _ (List.mem_of_getElem? (i := 11) rfl)) (hw _ (List.mem_of_getElem? (i := 5) rfl)) (by decide) (by decide)) q6a q6c (g := (mkF m 21 #[.val (.int p0), .val (.int (1 : Int32)), .val (.ref d1), .val (.int (1 : Int32)), .unset] [(.ref d1)])) rfl (by rw [hml]; rfl) (Steps.refl _) (argsL := []) (rest := []) (lenOf pd_2 rfl) rfl (by show 2 * 0 + _ ≤ _; exact Nat.le_of_eq rfl) (hb hby at_21) (fun _ _ => ⟨rfl, e5, (by decide : 0 + 0 ≤ _), (by decide : 0 + 0 ≤ _)⟩)
    dsimp only [Pt.U, Pt.locs, Pt.cells, Pt.slots] at X6 l6 y6 z6 st6 hQ6
    subst l6 y6 z6
    obtain ⟨rfl, Nq6, e6⟩ := hQ6
    have N6 := Fr.app N5 Nq6
    refine Rest.via (fun t k => st6.trans k) ?_
    show Rest p.tables e below s _ _ _ (T6.setTop (mkF m 24 #[.val (.int p0), .val (.int (1 : Int32)), .val (.ref d1), .val (.int (1 : Int32)), .unset] [(.int (1 : Int32))]))
    refine Rest.via (fun t k => XS.istore X6.here hx rfl (hb hby at_24) rfl (l' := #[.val (.int p0), .val (.int (1 : Int32)), .val (.ref d1), .val (.int (1 : Int32)), .val (.int (1 : Int32))]) rfl k) ?_
    show Rest p.tables e below s _ _ _ (T6.setTop (mkF m 26 #[.val (.int p0), .val (.int (1 : Int32)), .val (.ref d1), .val (.int (1 : Int32)), .val (.int (1 : Int32))] []))
    refine Rest.via (fun t k => XS.iload X6.here hx rfl (hb hby at_26) rfl k) ?_
    show Rest p.tables e below s _ _ _ (T6.setTop (mkF m 28 #[.val (.int p0), .val (.int (1 : Int32)), .val (.ref d1), .val (.int (1 : Int32)), .val (.int (1 : Int32))] [(.int (1 : Int32))]))
    refine Rest.via (fun t k => XS.iloadN X6.here hx rfl (hb hby at_28) rfl k) ?_
    show Rest p.tables e below s _ _ _ (T6.setTop (mkF m 29 #[.val (.int p0), .val (.int (1 : Int32)), .val (.ref d1), .val (.int (1 : Int32)), .val (.int (1 : Int32))] [(.int (1 : Int32)), (.int (1 : Int32))]))
    refine Rest.via (fun t k => XS.icmpYes X6.here hx rfl (pc0 := 29) (pc' := 34) rfl (hb hby at_29) rfl (teq (by decide : (1 : Int32) = (1 : Int32))).1 (by decide) (by decide) k) ?_
    show Rest p.tables e below s _ _ _ (T6.setTop (mkF m 34 #[.val (.int p0), .val (.int (1 : Int32)), .val (.ref d1), .val (.int (1 : Int32)), .val (.int (1 : Int32))] []))
    refine Rest.via (fun t k => XS.aloadN X6.here hx rfl (hb hby at_34) rfl rfl k) ?_
    show Rest p.tables e below s _ _ _ (T6.setTop (mkF m 35 #[.val (.int p0), .val (.int (1 : Int32)), .val (.ref d1), .val (.int (1 : Int32)), .val (.int (1 : Int32))] [(.ref d1)]))
    obtain ⟨cq7, kq7, q7a, q7b, q7c⟩ := isOf hZ e6 E1
    obtain ⟨_, _, ⟨T7, L7, k7, n7⟩, -, X7, ⟨Lc7, hQ7, l7, y7, z7⟩, st7⟩ := X6.virtualBack hx (y := (⟨"com/example/reknit/reknit/DataClass", "partner", "()Lcom/example/reknit/reknit/DataClass;"⟩ : MethodName)) (z := (⟨"com/example/reknit/reknit/DataClass", "partner", "()Lcom/example/reknit/reknit/DataClass;"⟩ : MethodName)) hown (mvT hZ (hw _ (List.mem_of_getElem? (i := 13) rfl))) (mvT hZ (hw _ (List.mem_of_getElem? (i := 14) rfl))) (notFace_of_selects (args := #[]) (mvT hZ (hw _ (List.mem_of_getElem? (i := 16) rfl)))) (mvT hZ (hw _ (List.mem_of_getElem? (i := 16) rfl))) (mvT hZ (hw _ (List.mem_of_getElem? (i := 15) rfl))) (by decide) (backOf (W := 0) (rmR1 l Z aw hw []  d0 d1 d2 d3 h0 n0 (Nat.le_trans Z0 (Keep.refl h0 []).1) B) hZ (hw _ (List.mem_of_getElem? (i := 17) rfl)) (hw _ (List.mem_of_getElem? (i := 5) rfl)) (by decide) (by decide)) q7a q7c (g := (mkF m 35 #[.val (.int p0), .val (.int (1 : Int32)), .val (.ref d1), .val (.int (1 : Int32)), .val (.int (1 : Int32))] [(.ref d1)])) rfl (by rw [hml]; rfl) (Steps.refl _) (argsL := []) (rest := []) (lenOf pd_3 rfl) rfl (by show 2 * 0 + _ ≤ _; exact Nat.le_of_eq rfl) (hb hby at_35) (fun _ _ => ⟨rfl, e6, (by decide : 0 + 0 ≤ _), (by decide : 0 + 0 ≤ _)⟩)
    dsimp only [Pt.U, Pt.locs, Pt.cells, Pt.slots] at X7 l7 y7 z7 st7 hQ7
    subst l7 y7 z7
    obtain ⟨rfl, Nq7, e7⟩ := hQ7
    have N7 := Fr.app N6 Nq7
    refine Rest.via (fun t k => st7.trans k) ?_
    show Rest p.tables e below s _ _ _ (T7.setTop (mkF m 38 #[.val (.int p0), .val (.int (1 : Int32)), .val (.ref d1), .val (.int (1 : Int32)), .val (.int (1 : Int32))] [(.ref d0)]))
    obtain ⟨cq8, kq8, q8a, q8b, q8c⟩ := isOf hZ e7 E0
    obtain ⟨_, _, ⟨T8, L8, k8, n8⟩, -, X8, ⟨Lc8, hQ8, l8, y8, z8⟩, st8⟩ := X7.virtualBack hx (y := (⟨"com/example/reknit/reknit/DataClass", "isCritical", "()Z"⟩ : MethodName)) (z := (⟨"com/example/reknit/reknit/DataClass", "isCritical", "()Z"⟩ : MethodName)) hown (mvT hZ (hw _ (List.mem_of_getElem? (i := 7) rfl))) (mvT hZ (hw _ (List.mem_of_getElem? (i := 8) rfl))) (notFace_of_selects (args := #[]) (mvT hZ (hw _ (List.mem_of_getElem? (i := 10) rfl)))) (mvT hZ (hw _ (List.mem_of_getElem? (i := 10) rfl))) (mvT hZ (hw _ (List.mem_of_getElem? (i := 9) rfl))) (by decide) (backOf (W := 0) (rmC0 l Z aw hw []  d0 d1 d2 d3 h0 n0 (Nat.le_trans Z0 (Keep.refl h0 []).1) B) hZ (hw _ (List.mem_of_getElem? (i := 11) rfl)) (hw _ (List.mem_of_getElem? (i := 5) rfl)) (by decide) (by decide)) q8a q8c (g := (mkF m 38 #[.val (.int p0), .val (.int (1 : Int32)), .val (.ref d1), .val (.int (1 : Int32)), .val (.int (1 : Int32))] [(.ref d0)])) rfl (by rw [hml]; rfl) (Steps.refl _) (argsL := []) (rest := []) (lenOf pd_2 rfl) rfl (by show 2 * 0 + _ ≤ _; exact Nat.le_of_eq rfl) (hb hby at_38) (fun _ _ => ⟨rfl, e7, (by decide : 0 + 0 ≤ _), (by decide : 0 + 0 ≤ _)⟩)
    dsimp only [Pt.U, Pt.locs, Pt.cells, Pt.slots] at X8 l8 y8 z8 st8 hQ8
    subst l8 y8 z8
    obtain ⟨rfl, Nq8, e8⟩ := hQ8
    have N8 := Fr.app N7 Nq8
    refine Rest.via (fun t k => st8.trans k) ?_
    show Rest p.tables e below s _ _ _ (T8.setTop (mkF m 41 #[.val (.int p0), .val (.int (1 : Int32)), .val (.ref d1), .val (.int (1 : Int32)), .val (.int (1 : Int32))] [(.int (1 : Int32))]))
    refine Rest.via (fun t k => XS.iload X8.here hx rfl (hb hby at_41) rfl k) ?_
    show Rest p.tables e below s _ _ _ (T8.setTop (mkF m 43 #[.val (.int p0), .val (.int (1 : Int32)), .val (.ref d1), .val (.int (1 : Int32)), .val (.int (1 : Int32))] [(.int (1 : Int32)), (.int (1 : Int32))]))
    refine Rest.via (fun t k => XS.icmpNo X8.here hx rfl (hb hby at_43) rfl (teq (by decide : (1 : Int32) = (1 : Int32))).2 k) ?_
    show Rest p.tables e below s _ _ _ (T8.setTop (mkF m 46 #[.val (.int p0), .val (.int (1 : Int32)), .val (.ref d1), .val (.int (1 : Int32)), .val (.int (1 : Int32))] []))
    refine Rest.via (fun t k => XS.iconst X8.here hx rfl (hb hby at_46) k) ?_
    show Rest p.tables e below s _ _ _ (T8.setTop (mkF m 47 #[.val (.int p0), .val (.int (1 : Int32)), .val (.ref d1), .val (.int (1 : Int32)), .val (.int (1 : Int32))] [(.int (1 : Int32))]))
    refine Rest.via (fun t k => XS.goto X8.here hx rfl (pc0 := 47) (pc' := 51) rfl (hb hby at_47) (by decide) (by decide) k) ?_
    show Rest p.tables e below s _ _ _ (T8.setTop (mkF m 51 #[.val (.int p0), .val (.int (1 : Int32)), .val (.ref d1), .val (.int (1 : Int32)), .val (.int (1 : Int32))] [(.int (1 : Int32))]))
    refine Rest.ret X8 (v := some (.int (nar .boolean (1 : Int32)))) (fun h => by rw [Bd.returns] at h; cases h) hlk (fun fs hr => retN X8 hx (t := .boolean) Bd.returns (by simp) (hb hby at_51) hr) ?_ (by decide) (by decide)
    rw [e8]
    exact ⟨rfl, N8⟩
  · show Rest p.tables e below s _ _ _ (s₁.setTop (mkF m 4 #[.val (.int p0), .val (.int (2 : Int32)), .unset, .unset, .unset] []))
    refine Rest.via (fun t k => XS.iloadN X0.here hx rfl (hb hby at_4) rfl k) ?_
    show Rest p.tables e below s _ _ _ (s₁.setTop (mkF m 5 #[.val (.int p0), .val (.int (2 : Int32)), .unset, .unset, .unset] [(.int (2 : Int32))]))
    obtain ⟨_, _, ⟨T9, L9, k9, n9⟩, -, X9, ⟨Lc9, hQ9, l9, y9, z9⟩, st9⟩ := Jvm.LawKit.callS X0 hx (y := (⟨"com/example/reknit/reknit/DataClassIsCriticalPinLaw", "pick", "(I)Lcom/example/reknit/reknit/DataClass;"⟩ : MethodName)) hown (mvT hZ (hw _ (List.mem_of_getElem? (i := 0) rfl))) (mvT hZ (hw _ (List.mem_of_getElem? (i := 1) rfl))) (mvT hZ (hw _ (List.mem_of_getElem? (i := 2) rfl))) (mvT hZ (hw _ (List.mem_of_getElem? (i := 3) rfl))) (by decide) (backOf (W := 0) (rmP2 l Z aw hw []  d0 d1 d2 d3 h0 n0 (Nat.le_trans Z0 (Keep.refl h0 []).1) B) hZ (hw _ (List.mem_of_getElem? (i := 3) rfl)) (hw _ (List.mem_of_getElem? (i := 2) rfl)) (by decide) (by decide)) (g := (mkF m 5 #[.val (.int p0), .val (.int (2 : Int32)), .unset, .unset, .unset] [(.int (2 : Int32))])) rfl (by rw [hml]; rfl) (argsL := [(.int (2 : Int32))]) (rest := []) (lenOf pd_1 rfl) rfl (by show 2 * 0 + _ ≤ _; exact Nat.le_of_eq rfl) (hb hby at_5) (fun _ _ => ⟨rfl, eh0, (by decide : 0 + 0 ≤ _), (by decide : 0 + 0 ≤ _)⟩)
    dsimp only [Pt.U, Pt.locs, Pt.cells, Pt.slots] at X9 l9 y9 z9 st9 hQ9
    subst l9 y9 z9
    obtain ⟨rfl, Nq9, e9⟩ := hQ9
    have N9 := Fr.app N0 Nq9
    refine Rest.via (fun t k => st9 t k) ?_
    show Rest p.tables e below s _ _ _ (T9.setTop (mkF m 8 #[.val (.int p0), .val (.int (2 : Int32)), .unset, .unset, .unset] [(.ref d2)]))
    refine Rest.via (fun t k => XS.astoreN X9.here hx rfl (hb hby at_8) rfl rfl (l' := #[.val (.int p0), .val (.int (2 : Int32)), .val (.ref d2), .unset, .unset]) rfl k) ?_
    show Rest p.tables e below s _ _ _ (T9.setTop (mkF m 9 #[.val (.int p0), .val (.int (2 : Int32)), .val (.ref d2), .unset, .unset] []))
    refine Rest.via (fun t k => XS.iloadN X9.here hx rfl (hb hby at_9) rfl k) ?_
    show Rest p.tables e below s _ _ _ (T9.setTop (mkF m 10 #[.val (.int p0), .val (.int (2 : Int32)), .val (.ref d2), .unset, .unset] [(.int (2 : Int32))]))
    refine Rest.via (fun t k => XS.iconst X9.here hx rfl (hb hby at_10) k) ?_
    show Rest p.tables e below s _ _ _ (T9.setTop (mkF m 11 #[.val (.int p0), .val (.int (2 : Int32)), .val (.ref d2), .unset, .unset] [(.int (2 : Int32)), (.int (2 : Int32))]))
    refine Rest.via (fun t k => XS.icmpYes X9.here hx rfl (pc0 := 11) (pc' := 18) rfl (hb hby at_11) rfl (flt (by decide : ¬ ((2 : Int32) < (2 : Int32)))).2.1 (by decide) (by decide) k) ?_
    show Rest p.tables e below s _ _ _ (T9.setTop (mkF m 18 #[.val (.int p0), .val (.int (2 : Int32)), .val (.ref d2), .unset, .unset] []))
    refine Rest.via (fun t k => XS.iconst X9.here hx rfl (hb hby at_18) k) ?_
    show Rest p.tables e below s _ _ _ (T9.setTop (mkF m 19 #[.val (.int p0), .val (.int (2 : Int32)), .val (.ref d2), .unset, .unset] [(.int (0 : Int32))]))
    refine Rest.via (fun t k => XS.istoreN X9.here hx rfl (hb hby at_19) rfl (l' := #[.val (.int p0), .val (.int (2 : Int32)), .val (.ref d2), .val (.int (0 : Int32)), .unset]) rfl k) ?_
    show Rest p.tables e below s _ _ _ (T9.setTop (mkF m 20 #[.val (.int p0), .val (.int (2 : Int32)), .val (.ref d2), .val (.int (0 : Int32)), .unset] []))
    refine Rest.via (fun t k => XS.aloadN X9.here hx rfl (hb hby at_20) rfl rfl k) ?_
    show Rest p.tables e below s _ _ _ (T9.setTop (mkF m 21 #[.val (.int p0), .val (.int (2 : Int32)), .val (.ref d2), .val (.int (0 : Int32)), .unset] [(.ref d2)]))
    obtain ⟨cq10, kq10, q10a, q10b, q10c⟩ := isOf hZ e9 E2
    obtain ⟨_, _, ⟨T10, L10, k10, n10⟩, -, X10, ⟨Lc10, hQ10, l10, y10, z10⟩, st10⟩ := X9.virtualBack hx (y := (⟨"com/example/reknit/reknit/DataClass", "isCritical", "()Z"⟩ : MethodName)) (z := (⟨"com/example/reknit/reknit/DataClass", "isCritical", "()Z"⟩ : MethodName)) hown (mvT hZ (hw _ (List.mem_of_getElem? (i := 7) rfl))) (mvT hZ (hw _ (List.mem_of_getElem? (i := 8) rfl))) (notFace_of_selects (args := #[]) (mvT hZ (hw _ (List.mem_of_getElem? (i := 10) rfl)))) (mvT hZ (hw _ (List.mem_of_getElem? (i := 10) rfl))) (mvT hZ (hw _ (List.mem_of_getElem? (i := 9) rfl))) (by decide) (backOf (W := 0) (rmC2 l Z aw hw []  d0 d1 d2 d3 h0 n0 (Nat.le_trans Z0 (Keep.refl h0 []).1) B) hZ (hw _ (List.mem_of_getElem? (i := 11) rfl)) (hw _ (List.mem_of_getElem? (i := 5) rfl)) (by decide) (by decide)) q10a q10c (g := (mkF m 21 #[.val (.int p0), .val (.int (2 : Int32)), .val (.ref d2), .val (.int (0 : Int32)), .unset] [(.ref d2)])) rfl (by rw [hml]; rfl) (Steps.refl _) (argsL := []) (rest := []) (lenOf pd_2 rfl) rfl (by show 2 * 0 + _ ≤ _; exact Nat.le_of_eq rfl) (hb hby at_21) (fun _ _ => ⟨rfl, e9, (by decide : 0 + 0 ≤ _), (by decide : 0 + 0 ≤ _)⟩)
    dsimp only [Pt.U, Pt.locs, Pt.cells, Pt.slots] at X10 l10 y10 z10 st10 hQ10
    subst l10 y10 z10
    obtain ⟨rfl, Nq10, e10⟩ := hQ10
    have N10 := Fr.app N9 Nq10
    refine Rest.via (fun t k => st10.trans k) ?_
    show Rest p.tables e below s _ _ _ (T10.setTop (mkF m 24 #[.val (.int p0), .val (.int (2 : Int32)), .val (.ref d2), .val (.int (0 : Int32)), .unset] [(.int (0 : Int32))]))
    refine Rest.via (fun t k => XS.istore X10.here hx rfl (hb hby at_24) rfl (l' := #[.val (.int p0), .val (.int (2 : Int32)), .val (.ref d2), .val (.int (0 : Int32)), .val (.int (0 : Int32))]) rfl k) ?_
    show Rest p.tables e below s _ _ _ (T10.setTop (mkF m 26 #[.val (.int p0), .val (.int (2 : Int32)), .val (.ref d2), .val (.int (0 : Int32)), .val (.int (0 : Int32))] []))
    refine Rest.via (fun t k => XS.iload X10.here hx rfl (hb hby at_26) rfl k) ?_
    show Rest p.tables e below s _ _ _ (T10.setTop (mkF m 28 #[.val (.int p0), .val (.int (2 : Int32)), .val (.ref d2), .val (.int (0 : Int32)), .val (.int (0 : Int32))] [(.int (0 : Int32))]))
    refine Rest.via (fun t k => XS.iloadN X10.here hx rfl (hb hby at_28) rfl k) ?_
    show Rest p.tables e below s _ _ _ (T10.setTop (mkF m 29 #[.val (.int p0), .val (.int (2 : Int32)), .val (.ref d2), .val (.int (0 : Int32)), .val (.int (0 : Int32))] [(.int (0 : Int32)), (.int (0 : Int32))]))
    refine Rest.via (fun t k => XS.icmpYes X10.here hx rfl (pc0 := 29) (pc' := 34) rfl (hb hby at_29) rfl (teq (by decide : (0 : Int32) = (0 : Int32))).1 (by decide) (by decide) k) ?_
    show Rest p.tables e below s _ _ _ (T10.setTop (mkF m 34 #[.val (.int p0), .val (.int (2 : Int32)), .val (.ref d2), .val (.int (0 : Int32)), .val (.int (0 : Int32))] []))
    refine Rest.via (fun t k => XS.aloadN X10.here hx rfl (hb hby at_34) rfl rfl k) ?_
    show Rest p.tables e below s _ _ _ (T10.setTop (mkF m 35 #[.val (.int p0), .val (.int (2 : Int32)), .val (.ref d2), .val (.int (0 : Int32)), .val (.int (0 : Int32))] [(.ref d2)]))
    obtain ⟨cq11, kq11, q11a, q11b, q11c⟩ := isOf hZ e10 E2
    obtain ⟨_, _, ⟨T11, L11, k11, n11⟩, -, X11, ⟨Lc11, hQ11, l11, y11, z11⟩, st11⟩ := X10.virtualBack hx (y := (⟨"com/example/reknit/reknit/DataClass", "partner", "()Lcom/example/reknit/reknit/DataClass;"⟩ : MethodName)) (z := (⟨"com/example/reknit/reknit/DataClass", "partner", "()Lcom/example/reknit/reknit/DataClass;"⟩ : MethodName)) hown (mvT hZ (hw _ (List.mem_of_getElem? (i := 13) rfl))) (mvT hZ (hw _ (List.mem_of_getElem? (i := 14) rfl))) (notFace_of_selects (args := #[]) (mvT hZ (hw _ (List.mem_of_getElem? (i := 16) rfl)))) (mvT hZ (hw _ (List.mem_of_getElem? (i := 16) rfl))) (mvT hZ (hw _ (List.mem_of_getElem? (i := 15) rfl))) (by decide) (backOf (W := 0) (rmR2 l Z aw hw []  d0 d1 d2 d3 h0 n0 (Nat.le_trans Z0 (Keep.refl h0 []).1) B) hZ (hw _ (List.mem_of_getElem? (i := 17) rfl)) (hw _ (List.mem_of_getElem? (i := 5) rfl)) (by decide) (by decide)) q11a q11c (g := (mkF m 35 #[.val (.int p0), .val (.int (2 : Int32)), .val (.ref d2), .val (.int (0 : Int32)), .val (.int (0 : Int32))] [(.ref d2)])) rfl (by rw [hml]; rfl) (Steps.refl _) (argsL := []) (rest := []) (lenOf pd_3 rfl) rfl (by show 2 * 0 + _ ≤ _; exact Nat.le_of_eq rfl) (hb hby at_35) (fun _ _ => ⟨rfl, e10, (by decide : 0 + 0 ≤ _), (by decide : 0 + 0 ≤ _)⟩)
    dsimp only [Pt.U, Pt.locs, Pt.cells, Pt.slots] at X11 l11 y11 z11 st11 hQ11
    subst l11 y11 z11
    obtain ⟨rfl, Nq11, e11⟩ := hQ11
    have N11 := Fr.app N10 Nq11
    refine Rest.via (fun t k => st11.trans k) ?_
    show Rest p.tables e below s _ _ _ (T11.setTop (mkF m 38 #[.val (.int p0), .val (.int (2 : Int32)), .val (.ref d2), .val (.int (0 : Int32)), .val (.int (0 : Int32))] [(.ref d3)]))
    obtain ⟨cq12, kq12, q12a, q12b, q12c⟩ := isOf hZ e11 E3
    obtain ⟨_, _, ⟨T12, L12, k12, n12⟩, -, X12, ⟨Lc12, hQ12, l12, y12, z12⟩, st12⟩ := X11.virtualBack hx (y := (⟨"com/example/reknit/reknit/DataClass", "isCritical", "()Z"⟩ : MethodName)) (z := (⟨"com/example/reknit/reknit/DataClass", "isCritical", "()Z"⟩ : MethodName)) hown (mvT hZ (hw _ (List.mem_of_getElem? (i := 7) rfl))) (mvT hZ (hw _ (List.mem_of_getElem? (i := 8) rfl))) (notFace_of_selects (args := #[]) (mvT hZ (hw _ (List.mem_of_getElem? (i := 10) rfl)))) (mvT hZ (hw _ (List.mem_of_getElem? (i := 10) rfl))) (mvT hZ (hw _ (List.mem_of_getElem? (i := 9) rfl))) (by decide) (backOf (W := 0) (rmC3 l Z aw hw []  d0 d1 d2 d3 h0 n0 (Nat.le_trans Z0 (Keep.refl h0 []).1) B) hZ (hw _ (List.mem_of_getElem? (i := 11) rfl)) (hw _ (List.mem_of_getElem? (i := 5) rfl)) (by decide) (by decide)) q12a q12c (g := (mkF m 38 #[.val (.int p0), .val (.int (2 : Int32)), .val (.ref d2), .val (.int (0 : Int32)), .val (.int (0 : Int32))] [(.ref d3)])) rfl (by rw [hml]; rfl) (Steps.refl _) (argsL := []) (rest := []) (lenOf pd_2 rfl) rfl (by show 2 * 0 + _ ≤ _; exact Nat.le_of_eq rfl) (hb hby at_38) (fun _ _ => ⟨rfl, e11, (by decide : 0 + 0 ≤ _), (by decide : 0 + 0 ≤ _)⟩)
    dsimp only [Pt.U, Pt.locs, Pt.cells, Pt.slots] at X12 l12 y12 z12 st12 hQ12
    subst l12 y12 z12
    obtain ⟨rfl, Nq12, e12⟩ := hQ12
    have N12 := Fr.app N11 Nq12
    refine Rest.via (fun t k => st12.trans k) ?_
    show Rest p.tables e below s _ _ _ (T12.setTop (mkF m 41 #[.val (.int p0), .val (.int (2 : Int32)), .val (.ref d2), .val (.int (0 : Int32)), .val (.int (0 : Int32))] [(.int (0 : Int32))]))
    refine Rest.via (fun t k => XS.iload X12.here hx rfl (hb hby at_41) rfl k) ?_
    show Rest p.tables e below s _ _ _ (T12.setTop (mkF m 43 #[.val (.int p0), .val (.int (2 : Int32)), .val (.ref d2), .val (.int (0 : Int32)), .val (.int (0 : Int32))] [(.int (0 : Int32)), (.int (0 : Int32))]))
    refine Rest.via (fun t k => XS.icmpNo X12.here hx rfl (hb hby at_43) rfl (teq (by decide : (0 : Int32) = (0 : Int32))).2 k) ?_
    show Rest p.tables e below s _ _ _ (T12.setTop (mkF m 46 #[.val (.int p0), .val (.int (2 : Int32)), .val (.ref d2), .val (.int (0 : Int32)), .val (.int (0 : Int32))] []))
    refine Rest.via (fun t k => XS.iconst X12.here hx rfl (hb hby at_46) k) ?_
    show Rest p.tables e below s _ _ _ (T12.setTop (mkF m 47 #[.val (.int p0), .val (.int (2 : Int32)), .val (.ref d2), .val (.int (0 : Int32)), .val (.int (0 : Int32))] [(.int (1 : Int32))]))
    refine Rest.via (fun t k => XS.goto X12.here hx rfl (pc0 := 47) (pc' := 51) rfl (hb hby at_47) (by decide) (by decide) k) ?_
    show Rest p.tables e below s _ _ _ (T12.setTop (mkF m 51 #[.val (.int p0), .val (.int (2 : Int32)), .val (.ref d2), .val (.int (0 : Int32)), .val (.int (0 : Int32))] [(.int (1 : Int32))]))
    refine Rest.ret X12 (v := some (.int (nar .boolean (1 : Int32)))) (fun h => by rw [Bd.returns] at h; cases h) hlk (fun fs hr => retN X12 hx (t := .boolean) Bd.returns (by simp) (hb hby at_51) hr) ?_ (by decide) (by decide)
    rw [e12]
    exact ⟨rfl, N12⟩
  · show Rest p.tables e below s _ _ _ (s₁.setTop (mkF m 4 #[.val (.int p0), .val (.int (3 : Int32)), .unset, .unset, .unset] []))
    refine Rest.via (fun t k => XS.iloadN X0.here hx rfl (hb hby at_4) rfl k) ?_
    show Rest p.tables e below s _ _ _ (s₁.setTop (mkF m 5 #[.val (.int p0), .val (.int (3 : Int32)), .unset, .unset, .unset] [(.int (3 : Int32))]))
    obtain ⟨_, _, ⟨T13, L13, k13, n13⟩, -, X13, ⟨Lc13, hQ13, l13, y13, z13⟩, st13⟩ := Jvm.LawKit.callS X0 hx (y := (⟨"com/example/reknit/reknit/DataClassIsCriticalPinLaw", "pick", "(I)Lcom/example/reknit/reknit/DataClass;"⟩ : MethodName)) hown (mvT hZ (hw _ (List.mem_of_getElem? (i := 0) rfl))) (mvT hZ (hw _ (List.mem_of_getElem? (i := 1) rfl))) (mvT hZ (hw _ (List.mem_of_getElem? (i := 2) rfl))) (mvT hZ (hw _ (List.mem_of_getElem? (i := 3) rfl))) (by decide) (backOf (W := 0) (rmP3 l Z aw hw []  d0 d1 d2 d3 h0 n0 (Nat.le_trans Z0 (Keep.refl h0 []).1) B) hZ (hw _ (List.mem_of_getElem? (i := 3) rfl)) (hw _ (List.mem_of_getElem? (i := 2) rfl)) (by decide) (by decide)) (g := (mkF m 5 #[.val (.int p0), .val (.int (3 : Int32)), .unset, .unset, .unset] [(.int (3 : Int32))])) rfl (by rw [hml]; rfl) (argsL := [(.int (3 : Int32))]) (rest := []) (lenOf pd_1 rfl) rfl (by show 2 * 0 + _ ≤ _; exact Nat.le_of_eq rfl) (hb hby at_5) (fun _ _ => ⟨rfl, eh0, (by decide : 0 + 0 ≤ _), (by decide : 0 + 0 ≤ _)⟩)
    dsimp only [Pt.U, Pt.locs, Pt.cells, Pt.slots] at X13 l13 y13 z13 st13 hQ13
    subst l13 y13 z13
    obtain ⟨rfl, Nq13, e13⟩ := hQ13
    have N13 := Fr.app N0 Nq13
    refine Rest.via (fun t k => st13 t k) ?_
    show Rest p.tables e below s _ _ _ (T13.setTop (mkF m 8 #[.val (.int p0), .val (.int (3 : Int32)), .unset, .unset, .unset] [(.ref d3)]))
    refine Rest.via (fun t k => XS.astoreN X13.here hx rfl (hb hby at_8) rfl rfl (l' := #[.val (.int p0), .val (.int (3 : Int32)), .val (.ref d3), .unset, .unset]) rfl k) ?_
    show Rest p.tables e below s _ _ _ (T13.setTop (mkF m 9 #[.val (.int p0), .val (.int (3 : Int32)), .val (.ref d3), .unset, .unset] []))
    refine Rest.via (fun t k => XS.iloadN X13.here hx rfl (hb hby at_9) rfl k) ?_
    show Rest p.tables e below s _ _ _ (T13.setTop (mkF m 10 #[.val (.int p0), .val (.int (3 : Int32)), .val (.ref d3), .unset, .unset] [(.int (3 : Int32))]))
    refine Rest.via (fun t k => XS.iconst X13.here hx rfl (hb hby at_10) k) ?_
    show Rest p.tables e below s _ _ _ (T13.setTop (mkF m 11 #[.val (.int p0), .val (.int (3 : Int32)), .val (.ref d3), .unset, .unset] [(.int (2 : Int32)), (.int (3 : Int32))]))
    refine Rest.via (fun t k => XS.icmpYes X13.here hx rfl (pc0 := 11) (pc' := 18) rfl (hb hby at_11) rfl (flt (by decide : ¬ ((3 : Int32) < (2 : Int32)))).2.1 (by decide) (by decide) k) ?_
    show Rest p.tables e below s _ _ _ (T13.setTop (mkF m 18 #[.val (.int p0), .val (.int (3 : Int32)), .val (.ref d3), .unset, .unset] []))
    refine Rest.via (fun t k => XS.iconst X13.here hx rfl (hb hby at_18) k) ?_
    show Rest p.tables e below s _ _ _ (T13.setTop (mkF m 19 #[.val (.int p0), .val (.int (3 : Int32)), .val (.ref d3), .unset, .unset] [(.int (0 : Int32))]))
    refine Rest.via (fun t k => XS.istoreN X13.here hx rfl (hb hby at_19) rfl (l' := #[.val (.int p0), .val (.int (3 : Int32)), .val (.ref d3), .val (.int (0 : Int32)), .unset]) rfl k) ?_
    show Rest p.tables e below s _ _ _ (T13.setTop (mkF m 20 #[.val (.int p0), .val (.int (3 : Int32)), .val (.ref d3), .val (.int (0 : Int32)), .unset] []))
    refine Rest.via (fun t k => XS.aloadN X13.here hx rfl (hb hby at_20) rfl rfl k) ?_
    show Rest p.tables e below s _ _ _ (T13.setTop (mkF m 21 #[.val (.int p0), .val (.int (3 : Int32)), .val (.ref d3), .val (.int (0 : Int32)), .unset] [(.ref d3)]))
    obtain ⟨cq14, kq14, q14a, q14b, q14c⟩ := isOf hZ e13 E3
    obtain ⟨_, _, ⟨T14, L14, k14, n14⟩, -, X14, ⟨Lc14, hQ14, l14, y14, z14⟩, st14⟩ := X13.virtualBack hx (y := (⟨"com/example/reknit/reknit/DataClass", "isCritical", "()Z"⟩ : MethodName)) (z := (⟨"com/example/reknit/reknit/DataClass", "isCritical", "()Z"⟩ : MethodName)) hown (mvT hZ (hw _ (List.mem_of_getElem? (i := 7) rfl))) (mvT hZ (hw _ (List.mem_of_getElem? (i := 8) rfl))) (notFace_of_selects (args := #[]) (mvT hZ (hw _ (List.mem_of_getElem? (i := 10) rfl)))) (mvT hZ (hw _ (List.mem_of_getElem? (i := 10) rfl))) (mvT hZ (hw _ (List.mem_of_getElem? (i := 9) rfl))) (by decide) (backOf (W := 0) (rmC3 l Z aw hw []  d0 d1 d2 d3 h0 n0 (Nat.le_trans Z0 (Keep.refl h0 []).1) B) hZ (hw _ (List.mem_of_getElem? (i := 11) rfl)) (hw _ (List.mem_of_getElem? (i := 5) rfl)) (by decide) (by decide)) q14a q14c (g := (mkF m 21 #[.val (.int p0), .val (.int (3 : Int32)), .val (.ref d3), .val (.int (0 : Int32)), .unset] [(.ref d3)])) rfl (by rw [hml]; rfl) (Steps.refl _) (argsL := []) (rest := []) (lenOf pd_2 rfl) rfl (by show 2 * 0 + _ ≤ _; exact Nat.le_of_eq rfl) (hb hby at_21) (fun _ _ => ⟨rfl, e13, (by decide : 0 + 0 ≤ _), (by decide : 0 + 0 ≤ _)⟩)
    dsimp only [Pt.U, Pt.locs, Pt.cells, Pt.slots] at X14 l14 y14 z14 st14 hQ14
    subst l14 y14 z14
    obtain ⟨rfl, Nq14, e14⟩ := hQ14
    have N14 := Fr.app N13 Nq14
    refine Rest.via (fun t k => st14.trans k) ?_
    show Rest p.tables e below s _ _ _ (T14.setTop (mkF m 24 #[.val (.int p0), .val (.int (3 : Int32)), .val (.ref d3), .val (.int (0 : Int32)), .unset] [(.int (0 : Int32))]))
    refine Rest.via (fun t k => XS.istore X14.here hx rfl (hb hby at_24) rfl (l' := #[.val (.int p0), .val (.int (3 : Int32)), .val (.ref d3), .val (.int (0 : Int32)), .val (.int (0 : Int32))]) rfl k) ?_
    show Rest p.tables e below s _ _ _ (T14.setTop (mkF m 26 #[.val (.int p0), .val (.int (3 : Int32)), .val (.ref d3), .val (.int (0 : Int32)), .val (.int (0 : Int32))] []))
    refine Rest.via (fun t k => XS.iload X14.here hx rfl (hb hby at_26) rfl k) ?_
    show Rest p.tables e below s _ _ _ (T14.setTop (mkF m 28 #[.val (.int p0), .val (.int (3 : Int32)), .val (.ref d3), .val (.int (0 : Int32)), .val (.int (0 : Int32))] [(.int (0 : Int32))]))
    refine Rest.via (fun t k => XS.iloadN X14.here hx rfl (hb hby at_28) rfl k) ?_
    show Rest p.tables e below s _ _ _ (T14.setTop (mkF m 29 #[.val (.int p0), .val (.int (3 : Int32)), .val (.ref d3), .val (.int (0 : Int32)), .val (.int (0 : Int32))] [(.int (0 : Int32)), (.int (0 : Int32))]))
    refine Rest.via (fun t k => XS.icmpYes X14.here hx rfl (pc0 := 29) (pc' := 34) rfl (hb hby at_29) rfl (teq (by decide : (0 : Int32) = (0 : Int32))).1 (by decide) (by decide) k) ?_
    show Rest p.tables e below s _ _ _ (T14.setTop (mkF m 34 #[.val (.int p0), .val (.int (3 : Int32)), .val (.ref d3), .val (.int (0 : Int32)), .val (.int (0 : Int32))] []))
    refine Rest.via (fun t k => XS.aloadN X14.here hx rfl (hb hby at_34) rfl rfl k) ?_
    show Rest p.tables e below s _ _ _ (T14.setTop (mkF m 35 #[.val (.int p0), .val (.int (3 : Int32)), .val (.ref d3), .val (.int (0 : Int32)), .val (.int (0 : Int32))] [(.ref d3)]))
    obtain ⟨cq15, kq15, q15a, q15b, q15c⟩ := isOf hZ e14 E3
    obtain ⟨_, _, ⟨T15, L15, k15, n15⟩, -, X15, ⟨Lc15, hQ15, l15, y15, z15⟩, st15⟩ := X14.virtualBack hx (y := (⟨"com/example/reknit/reknit/DataClass", "partner", "()Lcom/example/reknit/reknit/DataClass;"⟩ : MethodName)) (z := (⟨"com/example/reknit/reknit/DataClass", "partner", "()Lcom/example/reknit/reknit/DataClass;"⟩ : MethodName)) hown (mvT hZ (hw _ (List.mem_of_getElem? (i := 13) rfl))) (mvT hZ (hw _ (List.mem_of_getElem? (i := 14) rfl))) (notFace_of_selects (args := #[]) (mvT hZ (hw _ (List.mem_of_getElem? (i := 16) rfl)))) (mvT hZ (hw _ (List.mem_of_getElem? (i := 16) rfl))) (mvT hZ (hw _ (List.mem_of_getElem? (i := 15) rfl))) (by decide) (backOf (W := 0) (rmR3 l Z aw hw []  d0 d1 d2 d3 h0 n0 (Nat.le_trans Z0 (Keep.refl h0 []).1) B) hZ (hw _ (List.mem_of_getElem? (i := 17) rfl)) (hw _ (List.mem_of_getElem? (i := 5) rfl)) (by decide) (by decide)) q15a q15c (g := (mkF m 35 #[.val (.int p0), .val (.int (3 : Int32)), .val (.ref d3), .val (.int (0 : Int32)), .val (.int (0 : Int32))] [(.ref d3)])) rfl (by rw [hml]; rfl) (Steps.refl _) (argsL := []) (rest := []) (lenOf pd_3 rfl) rfl (by show 2 * 0 + _ ≤ _; exact Nat.le_of_eq rfl) (hb hby at_35) (fun _ _ => ⟨rfl, e14, (by decide : 0 + 0 ≤ _), (by decide : 0 + 0 ≤ _)⟩)
    dsimp only [Pt.U, Pt.locs, Pt.cells, Pt.slots] at X15 l15 y15 z15 st15 hQ15
    subst l15 y15 z15
    obtain ⟨rfl, Nq15, e15⟩ := hQ15
    have N15 := Fr.app N14 Nq15
    refine Rest.via (fun t k => st15.trans k) ?_
    show Rest p.tables e below s _ _ _ (T15.setTop (mkF m 38 #[.val (.int p0), .val (.int (3 : Int32)), .val (.ref d3), .val (.int (0 : Int32)), .val (.int (0 : Int32))] [(.ref d2)]))
    obtain ⟨cq16, kq16, q16a, q16b, q16c⟩ := isOf hZ e15 E2
    obtain ⟨_, _, ⟨T16, L16, k16, n16⟩, -, X16, ⟨Lc16, hQ16, l16, y16, z16⟩, st16⟩ := X15.virtualBack hx (y := (⟨"com/example/reknit/reknit/DataClass", "isCritical", "()Z"⟩ : MethodName)) (z := (⟨"com/example/reknit/reknit/DataClass", "isCritical", "()Z"⟩ : MethodName)) hown (mvT hZ (hw _ (List.mem_of_getElem? (i := 7) rfl))) (mvT hZ (hw _ (List.mem_of_getElem? (i := 8) rfl))) (notFace_of_selects (args := #[]) (mvT hZ (hw _ (List.mem_of_getElem? (i := 10) rfl)))) (mvT hZ (hw _ (List.mem_of_getElem? (i := 10) rfl))) (mvT hZ (hw _ (List.mem_of_getElem? (i := 9) rfl))) (by decide) (backOf (W := 0) (rmC2 l Z aw hw []  d0 d1 d2 d3 h0 n0 (Nat.le_trans Z0 (Keep.refl h0 []).1) B) hZ (hw _ (List.mem_of_getElem? (i := 11) rfl)) (hw _ (List.mem_of_getElem? (i := 5) rfl)) (by decide) (by decide)) q16a q16c (g := (mkF m 38 #[.val (.int p0), .val (.int (3 : Int32)), .val (.ref d3), .val (.int (0 : Int32)), .val (.int (0 : Int32))] [(.ref d2)])) rfl (by rw [hml]; rfl) (Steps.refl _) (argsL := []) (rest := []) (lenOf pd_2 rfl) rfl (by show 2 * 0 + _ ≤ _; exact Nat.le_of_eq rfl) (hb hby at_38) (fun _ _ => ⟨rfl, e15, (by decide : 0 + 0 ≤ _), (by decide : 0 + 0 ≤ _)⟩)
    dsimp only [Pt.U, Pt.locs, Pt.cells, Pt.slots] at X16 l16 y16 z16 st16 hQ16
    subst l16 y16 z16
    obtain ⟨rfl, Nq16, e16⟩ := hQ16
    have N16 := Fr.app N15 Nq16
    refine Rest.via (fun t k => st16.trans k) ?_
    show Rest p.tables e below s _ _ _ (T16.setTop (mkF m 41 #[.val (.int p0), .val (.int (3 : Int32)), .val (.ref d3), .val (.int (0 : Int32)), .val (.int (0 : Int32))] [(.int (0 : Int32))]))
    refine Rest.via (fun t k => XS.iload X16.here hx rfl (hb hby at_41) rfl k) ?_
    show Rest p.tables e below s _ _ _ (T16.setTop (mkF m 43 #[.val (.int p0), .val (.int (3 : Int32)), .val (.ref d3), .val (.int (0 : Int32)), .val (.int (0 : Int32))] [(.int (0 : Int32)), (.int (0 : Int32))]))
    refine Rest.via (fun t k => XS.icmpNo X16.here hx rfl (hb hby at_43) rfl (teq (by decide : (0 : Int32) = (0 : Int32))).2 k) ?_
    show Rest p.tables e below s _ _ _ (T16.setTop (mkF m 46 #[.val (.int p0), .val (.int (3 : Int32)), .val (.ref d3), .val (.int (0 : Int32)), .val (.int (0 : Int32))] []))
    refine Rest.via (fun t k => XS.iconst X16.here hx rfl (hb hby at_46) k) ?_
    show Rest p.tables e below s _ _ _ (T16.setTop (mkF m 47 #[.val (.int p0), .val (.int (3 : Int32)), .val (.ref d3), .val (.int (0 : Int32)), .val (.int (0 : Int32))] [(.int (1 : Int32))]))
    refine Rest.via (fun t k => XS.goto X16.here hx rfl (pc0 := 47) (pc' := 51) rfl (hb hby at_47) (by decide) (by decide) k) ?_
    show Rest p.tables e below s _ _ _ (T16.setTop (mkF m 51 #[.val (.int p0), .val (.int (3 : Int32)), .val (.ref d3), .val (.int (0 : Int32)), .val (.int (0 : Int32))] [(.int (1 : Int32))]))
    refine Rest.ret X16 (v := some (.int (nar .boolean (1 : Int32)))) (fun h => by rw [Bd.returns] at h; cases h) hlk (fun fs hr => retN X16 hx (t := .boolean) Bd.returns (by simp) (hb hby at_51) hr) ?_ (by decide) (by decide)
    rw [e16]
    exact ⟨rfl, N16⟩
set_option maxRecDepth 65536 in
set_option maxHeartbeats 40000000 in
theorem comes_1 {Post : Tables → Env → Array Value → State → Outcome → State → Prop} (hpost : ∀ tb e args s v u, (limb_1_1.after args s (.returned v) u = true ∧ limb_1_2.after args s (.returned v) u = true ∧ True) → FrameEnd s (.returned v) u (Jvm.fieldLocs frame_1_writes args s ++ Jvm.arrayLocs frame_1_arrays args s ++ Jvm.staticLocs frame_1_statics s) 0 0 → Post tb e args s (.returned v) u) :
    ArmFor flags0 classFile x code maxLocals ret World_1 tables_1 room_1 Calls_1 rest_1 Pre_1 Post := by
  intro l hfl _ _ p e ha hc hk s m args below hf hA hF happ hP
  obtain ⟨hcalls, hrest, hpre⟩ := hP
  obtain ⟨-, -, -, hnamed, -, -, -, hat⟩ := (Spec.applies_iff hf).mp happ
  obtain ⟨hg, hn⟩ := and_e (Cond.before_iff.mp (show (Jvm.Cond.and given_1 narrow_1).before args s = true from hpre))
  obtain ⟨hcnt, hg0⟩ := and_e hg
  have ha0 := hg0
  obtain ⟨w0, rfl⟩ : ∃ w0 : Value, args = #[w0] := by
    have hs : args.size = 1 := by simpa [Cond.value, given_1] using hcnt
    obtain ⟨L⟩ := args
    match L, hs with
    | [w0], _ => exact ⟨w0, rfl⟩
  have hw := fun d (hd : d ∈ tables_1) => atoms_spec (ws := Jvm.Cond.code x code maxLocals ret :: tables_1) hat d (List.mem_cons_of_mem _ hd)
  have hfit : Fit s := fun {y c} hc i hi => by
    obtain ⟨ha, rfl⟩ := Array.getElem?_eq_some_iff.mp hc
    have q := List.all_eq_true.mp ((Array.all_eq_true_iff_forall_mem.mp hF) _ (Array.getElem_mem ha)) i (List.mem_range.mpr hi)
    simpa [Array.getElem?_eq_getElem hi] using q
  obtain ⟨i0, ei0⟩ := is_v ha0
  obtain rfl : w0 = (.int i0) := Option.some.inj ei0
  obtain ⟨hn0, hr0⟩ := and_e hn
  obtain ⟨hn1, hr1⟩ := and_e hr0
  obtain ⟨hn2, hr2⟩ := and_e hr1
  obtain ⟨hn3, hr3⟩ := and_e hr2
  obtain ⟨hn4, hr4⟩ := and_e hr3
  obtain ⟨hn5, hr5⟩ := and_e hr4
  obtain ⟨hn6, hr6⟩ := and_e hr5
  have hn7 := hr6
  obtain ⟨d0, ed0⟩ := exa_v hn0
  have E0 := Exa.start ed0 hn0
  have S0 : Sta s s.heap "com/example/reknit/reknit/DataClass" "CRITICAL_HIGH" "Lcom/example/reknit/reknit/DataClass;" (.ref d0) := Sta.start ed0 (Or.inr ⟨(hw _ (List.mem_of_getElem? (i := 5) rfl)), (hw _ (List.mem_of_getElem? (i := 6) rfl))⟩)
  have F0 := own_eqfld ed0 hn1
  obtain ⟨d1, ed1⟩ := exa_v hn2
  have E1 := Exa.start ed1 hn2
  have S1 : Sta s s.heap "com/example/reknit/reknit/DataClass" "CRITICAL_LOW" "Lcom/example/reknit/reknit/DataClass;" (.ref d1) := Sta.start ed1 (Or.inr ⟨(hw _ (List.mem_of_getElem? (i := 5) rfl)), (hw _ (List.mem_of_getElem? (i := 28) rfl))⟩)
  have F1 := own_eqfld ed1 hn3
  obtain ⟨d2, ed2⟩ := exa_v hn6
  have E2 := Exa.start ed2 hn6
  have S2 : Sta s s.heap "com/example/reknit/reknit/DataClass" "GENERAL_HIGH" "Lcom/example/reknit/reknit/DataClass;" (.ref d2) := Sta.start ed2 (Or.inr ⟨(hw _ (List.mem_of_getElem? (i := 5) rfl)), (hw _ (List.mem_of_getElem? (i := 32) rfl))⟩)
  have F2 := own_eqfld ed2 hn7
  obtain ⟨d3, ed3⟩ := exa_v hn4
  have E3 := Exa.start ed3 hn4
  have S3 : Sta s s.heap "com/example/reknit/reknit/DataClass" "GENERAL_LOW" "Lcom/example/reknit/reknit/DataClass;" (.ref d3) := Sta.start ed3 (Or.inr ⟨(hw _ (List.mem_of_getElem? (i := 5) rfl)), (hw _ (List.mem_of_getElem? (i := 30) rfl))⟩)
  have F3 := own_eqfld ed3 hn5
  have ne0_1 : d0 ≠ d1 := Fld.ne F0 F1 (by decide)
  have ne0_2 : d0 ≠ d2 := Fld.ne F0 F2 (by decide)
  have ne1_2 : d1 ≠ d2 := Fld.ne F1 F2 (by decide)
  have ne0_3 : d0 ≠ d3 := Fld.ne F0 F3 (by decide)
  have ne1_3 : d1 ≠ d3 := Fld.ne F1 F3 (by decide)
  have ne2_3 : d2 ≠ d3 := Fld.ne F2 F3 (by decide)
  have B : own_B s s.heap d0 d1 d2 d3 := ⟨S0, E0, F0, S1, E1, F1, S2, E2, F2, S3, E3, F3, ne0_1, ne0_2, ne1_2, ne0_3, ne1_3, ne2_3⟩
  obtain ⟨n, o, h1, h2, h3, _, L, rfl, ⟨rfl, N⟩, hq⟩ := rm0 l s _ hw tables_1 i0 d0 d1 d2 d3 s.heap s.heap.size (Nat.le_refl _) B p e ha hc hk s m _ below hf ((Spec.applies_iff_loose hf).mp happ).1 ⟨rfl, State.Warmed39.refl s, rfl⟩ trivial
  refine ⟨n, _, h1, h2, h3, hpost _ _ _ _ _ _ ⟨Cond.after_iff.mpr rfl, Cond.after_iff.mpr (eq_i res_at (Term.int_eval (1)) rfl), trivial⟩ ⟨hq.1, hq.2.1, (hq.2.2.sift fun y hy => Or.inr (N y hy)).mono (by decide) (by decide)⟩⟩
theorem main_1_1 : Claimed_1_1 := comes_1 fun _ _ _ _ _ _ h hF => ⟨h.1, hF⟩
theorem main_1_2 : Claimed_1_2 := comes_1 fun _ _ _ _ _ _ h hF => ⟨h.2.1, hF⟩
end Jvm.Pilot.@@N@@
namespace Jvm.Pilot.@@N@@
open Jvm Jvm.ClassFile Sem Op Lib Jvm.Free Jvm.Stand Jvm.Pilot.@@N@@.Jvm.D
/-! MADE BY PROGRAM (witnessworld.py) out of the Statement's table words and the real class files: 12 classes; the members and pool entries that the words name. The judged class is class 1, her method 2. -/
namespace start1
open Jvm.ClassFile
def u (s : String) : CpInfo := .utf8 (stringToUtf16 s)
/-- a pool by its gaps: so many unusable entries, then the entry; so many at the end -/
def gap : Nat → List CpInfo → List CpInfo
  | 0, r => r
  | n + 1, r => .unusable :: gap n r
def poolList (es : List (Nat × CpInfo)) (last : Nat) : List CpInfo := es.foldr (fun e r => gap e.1 (e.2 :: r)) (gap last [])
def pool (es : List (Nat × CpInfo)) (last : Nat) : Array CpInfo := ⟨poolList es last⟩
def fileOf (pool : Array CpInfo) (this : Nat) (attrs : Array Attribute := #[]) (ms : Array MethodInfo := #[]) (fl : Nat := 33) (sup : Nat := 0) (ifs : Array Nat := #[]) (fds : Array FieldInfo := #[]) : ClassFile where
  minorVersion := 0
  majorVersion := 65
  constantPool := pool
  accessFlags := fl
  thisClass := this
  superClass := sup
  interfaces := ifs
  fields := fds
  methods := ms
  attributes := attrs
def plain (name : String) (sup : Option ClassId) : Class where
  name := name
  kind := .ordinary
  loader := none
  accessFlags := 33
  super := sup
  interfaces := #[]
  cf := none
  fields := #[]
  methods := #[]
  instanceTypes := #[]
  staticTypes := #[]
  resolved := #[]
  callSites := []
  init := .initialized
  statics := none
  mirror := none

def pool0 : Array CpInfo := pool [(5, u "<init>"), (0, u "()V"), (1, .class_ 10), (1, u "java/lang/Object")] 113

def k0m0 : Method := { name := "<init>", desc := "()V", sig := { parameters := [], returnType := none }, accessFlags := 1, code := none }
/-- java/lang/Object -/
def k0 : Class := { plain "java/lang/Object" none with
  accessFlags := 33
  interfaces := #[]
  cf := some (fileOf pool0 8 #[] #[{ accessFlags := 1, nameIndex := 5, descriptorIndex := 6, attributes := #[] }] 33 0 #[] #[])
  fields := #[]
  methods := #[k0m0]
  instanceTypes := #[]
  staticTypes := #[]
  resolved := Array.replicate 124 none
  statics := none }

def pool1 : Array CpInfo := pool [(2, .class_ 4), (1, u "java/lang/Object"), (0, u "<init>"), (0, u "()V"), (0, .fieldref 8 9), (0, .class_ 10), (0, .nameAndType 11 12), (0, u "com/example/reknit/reknit/DataClass"), (0, u "CRITICAL_HIGH"), (0, u "Lcom/example/reknit/reknit/DataClass;"), (0, .fieldref 8 14), (0, .nameAndType 15 12), (0, u "CRITICAL_LOW"), (0, .fieldref 8 17), (0, .nameAndType 18 12), (0, u "GENERAL_HIGH"), (0, .fieldref 8 20), (0, .nameAndType 21 12), (0, u "GENERAL_LOW"), (0, .methodref 23 24), (0, .class_ 25), (0, .nameAndType 26 27), (0, u "com/example/reknit/reknit/DataClassIsCriticalPinLaw"), (0, u "pick"), (0, u "(I)Lcom/example/reknit/reknit/DataClass;"), (0, .methodref 8 29), (0, .nameAndType 30 31), (0, u "isCritical"), (0, u "()Z"), (0, .methodref 8 33), (0, .nameAndType 34 35), (0, u "partner"), (0, u "()Lcom/example/reknit/reknit/DataClass;"), (3, u "law"), (0, u "(I)Z")] 2

def k1m0 : Method := { name := "<init>", desc := "()V", sig := { parameters := [], returnType := none }, accessFlags := 2, code := none }
def k1c1 : Code := { maxStack := 2, maxLocals := 1, code := method_2_code, exceptionTable := #[], attributes := #[] }
def k1m1 : Method := { name := "pick", desc := "(I)Lcom/example/reknit/reknit/DataClass;", sig := { parameters := [.int], returnType := some (.object "com/example/reknit/reknit/DataClass") }, accessFlags := 10, code := some k1c1 }
def k1c2 : Code := { maxStack := 2, maxLocals := 5, code := code, exceptionTable := #[], attributes := #[] }
def k1m2 : Method := { name := "law", desc := "(I)Z", sig := { parameters := [.int], returnType := some .boolean }, accessFlags := 9, code := some k1c2 }
/-- com/example/reknit/reknit/DataClassIsCriticalPinLaw -/
def k1 : Class := { plain "com/example/reknit/reknit/DataClassIsCriticalPinLaw" (some 0) with
  accessFlags := 49
  interfaces := #[]
  cf := some (fileOf pool1 23 #[] #[{ accessFlags := 2, nameIndex := 5, descriptorIndex := 6, attributes := #[] }, { accessFlags := 10, nameIndex := 26, descriptorIndex := 27, attributes := #[] }, { accessFlags := 9, nameIndex := 39, descriptorIndex := 40, attributes := #[] }] 49 2 #[] #[])
  fields := #[]
  methods := #[k1m0, k1m1, k1m2]
  instanceTypes := #[]
  staticTypes := #[]
  resolved := Array.replicate 43 none
  statics := none }

def pool2 : Array CpInfo := pool [(1, .class_ 2), (0, u "java/lang/constant/Constable"), (0, .class_ 4), (0, u "java/lang/Object")] 6

/-- java/lang/constant/Constable -/
def k2 : Class := { plain "java/lang/constant/Constable" (some 0) with
  accessFlags := 1537
  interfaces := #[]
  cf := some (fileOf pool2 1 #[] #[] 1537 3 #[] #[])
  fields := #[]
  methods := #[]
  instanceTypes := #[]
  staticTypes := #[]
  resolved := Array.replicate 11 none
  statics := none }

def pool3 : Array CpInfo := pool [(1, .class_ 2), (0, u "java/lang/Comparable"), (0, .class_ 4), (0, u "java/lang/Object")] 7

/-- java/lang/Comparable -/
def k3 : Class := { plain "java/lang/Comparable" (some 0) with
  accessFlags := 1537
  interfaces := #[]
  cf := some (fileOf pool3 1 #[] #[] 1537 3 #[] #[])
  fields := #[]
  methods := #[]
  instanceTypes := #[]
  staticTypes := #[]
  resolved := Array.replicate 12 none
  statics := none }

def pool4 : Array CpInfo := pool [(1, .class_ 2), (0, u "java/io/Serializable"), (0, .class_ 4), (0, u "java/lang/Object")] 2

/-- java/io/Serializable -/
def k4 : Class := { plain "java/io/Serializable" (some 0) with
  accessFlags := 1537
  interfaces := #[]
  cf := some (fileOf pool4 1 #[] #[] 1537 3 #[] #[])
  fields := #[]
  methods := #[]
  instanceTypes := #[]
  staticTypes := #[]
  resolved := Array.replicate 7 none
  statics := none }

def pool5 : Array CpInfo := pool [(2, .class_ 4), (1, u "java/lang/Enum"), (0, u "name"), (0, u "Ljava/lang/String;"), (0, .fieldref 2 8), (0, .nameAndType 9 10), (0, u "ordinal"), (0, u "I"), (1, .class_ 14), (1, u "java/lang/Object"), (4, u "hash"), (86, .class_ 108), (1, u "java/lang/Enum$EnumDesc"), (2, .class_ 112), (0, u "java/lang/constant/Constable"), (0, .class_ 114), (0, u "java/lang/Comparable"), (0, .class_ 116), (0, u "java/io/Serializable"), (9, u "()I")] 77

def k5c0 : Code := { maxStack := 1, maxLocals := 1, code := jdk_37_method_2_code, exceptionTable := #[], attributes := #[] }
def k5m0 : Method := { name := "ordinal", desc := "()I", sig := { parameters := [], returnType := some .int }, accessFlags := 17, code := some k5c0 }
/-- java/lang/Enum -/
def k5 : Class := { plain "java/lang/Enum" (some 0) with
  accessFlags := 1057
  interfaces := #[2, 3, 4]
  cf := some (fileOf pool5 2 #[.nestMembers #[106]] #[{ accessFlags := 17, nameIndex := 9, descriptorIndex := 126, attributes := #[] }] 1057 12 #[111, 113, 115] #[{ accessFlags := 18, nameIndex := 5, descriptorIndex := 6, attributes := #[] }, { accessFlags := 18, nameIndex := 9, descriptorIndex := 10, attributes := #[] }, { accessFlags := 2, nameIndex := 19, descriptorIndex := 10, attributes := #[] }])
  fields := #[{ name := "name", type := (.object "java/lang/String"), accessFlags := 18, slot := 0, constantValue := 0 }, { name := "ordinal", type := .int, accessFlags := 18, slot := 1, constantValue := 0 }, { name := "hash", type := .int, accessFlags := 2, slot := 2, constantValue := 0 }]
  methods := #[k5m0]
  instanceTypes := #[(.object "java/lang/String"), .int, .int]
  staticTypes := #[]
  resolved := Array.replicate 204 none
  statics := none }

def pool6 : Array CpInfo := pool [(1, .class_ 2), (0, u "com/example/reknit/reknit/DataClass"), (0, .fieldref 1 4), (0, .nameAndType 5 6), (0, u "CRITICAL_HIGH"), (0, u "Lcom/example/reknit/reknit/DataClass;"), (0, .fieldref 1 8), (0, .nameAndType 9 6), (0, u "CRITICAL_LOW"), (0, .fieldref 1 11), (0, .nameAndType 12 6), (0, u "GENERAL_HIGH"), (0, .fieldref 1 14), (0, .nameAndType 15 6), (0, u "GENERAL_LOW"), (2, u "$VALUES"), (0, u "[Lcom/example/reknit/reknit/DataClass;"), (6, .class_ 28), (1, u "java/lang/Enum"), (25, .methodref 1 55), (0, .nameAndType 56 57), (0, u "ordinal"), (0, u "()I"), (8, u "()Z"), (2, u "partner"), (0, u "()Lcom/example/reknit/reknit/DataClass;"), (31, u "isCritical")] 23

def k6c0 : Code := { maxStack := 2, maxLocals := 1, code := prog_14_method_5_code, exceptionTable := #[], attributes := #[] }
def k6m0 : Method := { name := "isCritical", desc := "()Z", sig := { parameters := [], returnType := some .boolean }, accessFlags := 0, code := some k6c0 }
def k6c1 : Code := { maxStack := 4, maxLocals := 1, code := prog_14_method_6_code, exceptionTable := #[], attributes := #[] }
def k6m1 : Method := { name := "partner", desc := "()Lcom/example/reknit/reknit/DataClass;", sig := { parameters := [], returnType := some (.object "com/example/reknit/reknit/DataClass") }, accessFlags := 0, code := some k6c1 }
/-- com/example/reknit/reknit/DataClass -/
def k6 : Class := { plain "com/example/reknit/reknit/DataClass" (some 5) with
  accessFlags := 16432
  interfaces := #[]
  cf := some (fileOf pool6 1 #[] #[{ accessFlags := 0, nameIndex := 102, descriptorIndex := 66, attributes := #[] }, { accessFlags := 0, nameIndex := 69, descriptorIndex := 70, attributes := #[] }] 16432 26 #[] #[{ accessFlags := 16409, nameIndex := 5, descriptorIndex := 6, attributes := #[] }, { accessFlags := 16409, nameIndex := 9, descriptorIndex := 6, attributes := #[] }, { accessFlags := 16409, nameIndex := 12, descriptorIndex := 6, attributes := #[] }, { accessFlags := 16409, nameIndex := 15, descriptorIndex := 6, attributes := #[] }, { accessFlags := 4122, nameIndex := 18, descriptorIndex := 19, attributes := #[] }])
  fields := #[{ name := "CRITICAL_HIGH", type := (.object "com/example/reknit/reknit/DataClass"), accessFlags := 16409, slot := 0, constantValue := 0 }, { name := "CRITICAL_LOW", type := (.object "com/example/reknit/reknit/DataClass"), accessFlags := 16409, slot := 1, constantValue := 0 }, { name := "GENERAL_HIGH", type := (.object "com/example/reknit/reknit/DataClass"), accessFlags := 16409, slot := 2, constantValue := 0 }, { name := "GENERAL_LOW", type := (.object "com/example/reknit/reknit/DataClass"), accessFlags := 16409, slot := 3, constantValue := 0 }, { name := "$VALUES", type := (.array (.object "com/example/reknit/reknit/DataClass")), accessFlags := 4122, slot := 4, constantValue := 0 }]
  methods := #[k6m0, k6m1]
  instanceTypes := #[(.object "java/lang/String"), .int, .int]
  staticTypes := #[(.object "com/example/reknit/reknit/DataClass"), (.object "com/example/reknit/reknit/DataClass"), (.object "com/example/reknit/reknit/DataClass"), (.object "com/example/reknit/reknit/DataClass"), (.array (.object "com/example/reknit/reknit/DataClass"))]
  resolved := Array.replicate 126 none
  statics := some 0 }

def pool7 : Array CpInfo := pool [(1, u "java/lang/Cloneable"), (0, .class_ 1), (0, u "java/lang/Object"), (0, .class_ 3)] 3

/-- java/lang/Cloneable -/
def k7 : Class := { plain "java/lang/Cloneable" (some 0) with
  accessFlags := 1537
  interfaces := #[]
  cf := some (fileOf pool7 2 #[] #[] 1537 4 #[] #[])
  fields := #[]
  methods := #[]
  instanceTypes := #[]
  staticTypes := #[]
  resolved := Array.replicate 8 none
  statics := none }

/-- the primitive byte -/
def k8 : Class := { plain "byte" none with kind := .primitive 'B', accessFlags := 0x411 }
/-- [B -/
def k9 : Class := { plain "[B" (some 0) with kind := .array 8 .byte, interfaces := #[7, 4], accessFlags := 1041 }

/-- the primitive int -/
def k10 : Class := { plain "int" none with kind := .primitive 'I', accessFlags := 0x411 }
/-- [I -/
def k11 : Class := { plain "[I" (some 0) with kind := .array 10 .int, interfaces := #[7, 4], accessFlags := 1041 }

def heap : Heap := #[{ cls := 6, slots := #[.ref 1, .ref 2, .ref 3, .ref 4, .null], vm := .statics 6 },
  { cls := 6, slots := #[.null, .int 0, .int 0], vm := .none },
  { cls := 6, slots := #[.null, .int 1, .int 0], vm := .none },
  { cls := 6, slots := #[.null, .int 2, .int 0], vm := .none },
  { cls := 6, slots := #[.null, .int 3, .int 0], vm := .none }]
def classes : Array Class := #[k0, k1, k2, k3, k4, k5, k6, k7, k8, k9, k10, k11]
def interned : List (Array UInt16 × Addr) := []
def slotsUsed : Nat := 17
def theMethod : MethodId := ⟨1, 2⟩
def args0 : Array Value := #[.int 5]
def aboutOver (below : List Frame) : State where
  vm := { classes := classes, interned := interned.toArray }
  heap := heap
  slotsUsed := slotsUsed
  threads := #[{ frames := .invoking theMethod args0 :: below }]
def below0 : List Frame := [.native { method := ⟨0, 0⟩, args := #[] }]
def about1 : State := aboutOver below0
def p0 : Program := .bare "" "" ""
def e0 : Env := launch0.env 0 0 0
theorem w_frames : about1.frames = Frame.invoking theMethod args0 :: below0 := rfl
set_option maxRecDepth 65536 in
theorem w_args : argsFit about1.vm theMethod args0 = true := by decide +kernel
set_option maxRecDepth 65536 in
theorem w_heap : heapFits about1 = true := by decide +kernel
set_option maxRecDepth 65536 in
theorem w_runnable : about1.curStatus? = some .runnable := by decide +kernel
set_option maxRecDepth 65536 in
theorem w_alone : about1.alone = true := by decide +kernel
set_option maxRecDepth 65536 in
theorem w_named : about1.methodNamed? x = some theMethod := by decide +kernel
set_option maxRecDepth 65536 in
theorem w_hears : about1.hears theMethod below0 = true := by decide +kernel
set_option maxRecDepth 65536 in
theorem w_ripe : about1.ripe theMethod args0 below0 = true := by decide +kernel
theorem w_running : about1.status = .running := rfl
set_option maxRecDepth 65536 in
theorem w_room : about1.hasRoom e0.platform room_1 = true :=
  launch0.hasRoom_least _ room_1 (by decide +kernel) (by decide +kernel) (by decide +kernel) (by decide +kernel) (by decide +kernel) (by decide +kernel)
theorem allAtoms_all (ts : List Jvm.Cond) (a : Array Jvm.Value) (st : Jvm.State) : (allAtoms ts).before a st = ts.all (fun c => c.before a st) := by
  induction ts with
  | nil => rfl
  | cons c t ih =>
    show (Jvm.Cond.and c (allAtoms t)).before a st = _
    rw [Jvm.Cond.before_and, ih, List.all_cons]
def words1 : List Jvm.Cond := Jvm.Cond.code x code maxLocals ret :: tables_1
/-- a 'code' word, met by the world's own term for the bytes: nothing is compared byte by byte -/
theorem code_word {y : MethodName} {bytes : ByteArray} {mx : Nat} {rt : Option FieldType} {a : Array Value} {s : State} {m : MethodId} {meth : Method} {c : Code} (h1 : s.methodNamed? y = some m) (h2 : s.vm.method? m = some meth) (h3 : meth.code = some c) (h4 : c.code = bytes)
    (h5 : (c.maxLocals == mx && c.exceptionTable.isEmpty && decide (c.maxStack ≤ mostOperands) && decide (meth.sig.returnType = rt) && !meth.locks && decide (parseMethodDescriptor y.desc = some meth.sig)) = true) : (Jvm.Cond.code y bytes mx rt).before a s = true := by
  simp only [Bool.and_eq_true, beq_iff_eq, Bool.not_eq_true', decide_eq_true_eq] at h5
  obtain ⟨⟨⟨⟨⟨g1, g2⟩, g3⟩, g4⟩, g5⟩, g6⟩ := h5
  simp [Cond.before, Cond.holds, Cond.value, h1, h2, h3, h4, g1, g2, g3, g4, g5, g6]
def isCode : Jvm.Cond → Bool
  | .code _ _ _ _ => true
  | _ => false
theorem all_split {L : List Jvm.Cond} {P : Jvm.Cond → Bool} (h1 : L.all (fun c => isCode c || P c) = true) (h2 : ∀ c ∈ L.filter isCode, P c = true) : L.all P = true := by
  refine List.all_eq_true.mpr fun c hc => ?_
  have h := List.all_eq_true.mp h1 c hc
  rcases Bool.eq_false_or_eq_true (isCode c) with hi | hi
  · exact h2 c (List.mem_filter.mpr ⟨hc, hi⟩)
  · simpa [hi] using h
set_option maxRecDepth 65536 in
theorem w_c0 : (Jvm.Cond.code x code maxLocals ret).before args0 about1 = true := code_word (m := ⟨1, 2⟩) (meth := k1m2) (c := k1c2) (by decide +kernel) rfl rfl rfl (by decide +kernel)
set_option maxRecDepth 65536 in
theorem w_c1 : (Jvm.Cond.code ({ cls := "com/example/reknit/reknit/DataClassIsCriticalPinLaw", name := "pick", desc := "(I)Lcom/example/reknit/reknit/DataClass;" } : Jvm.MethodName) method_2_code (1 : Nat) (Option.some (Jvm.ClassFile.FieldType.object "com/example/reknit/reknit/DataClass"))).before args0 about1 = true := code_word (m := ⟨1, 1⟩) (meth := k1m1) (c := k1c1) (by decide +kernel) rfl rfl rfl (by decide +kernel)
set_option maxRecDepth 65536 in
theorem w_c2 : (Jvm.Cond.code ({ cls := "com/example/reknit/reknit/DataClass", name := "isCritical", desc := "()Z" } : Jvm.MethodName) prog_14_method_5_code (1 : Nat) (Option.some Jvm.ClassFile.FieldType.boolean)).before args0 about1 = true := code_word (m := ⟨6, 0⟩) (meth := k6m0) (c := k6c0) (by decide +kernel) rfl rfl rfl (by decide +kernel)
set_option maxRecDepth 65536 in
theorem w_c3 : (Jvm.Cond.code ({ cls := "com/example/reknit/reknit/DataClass", name := "partner", desc := "()Lcom/example/reknit/reknit/DataClass;" } : Jvm.MethodName) prog_14_method_6_code (1 : Nat) (Option.some (Jvm.ClassFile.FieldType.object "com/example/reknit/reknit/DataClass"))).before args0 about1 = true := code_word (m := ⟨6, 1⟩) (meth := k6m1) (c := k6c1) (by decide +kernel) rfl rfl rfl (by decide +kernel)
set_option maxRecDepth 65536 in
theorem w_c4 : (Jvm.Cond.code ({ cls := "java/lang/Enum", name := "ordinal", desc := "()I" } : Jvm.MethodName) jdk_37_method_2_code (1 : Nat) (Option.some Jvm.ClassFile.FieldType.int)).before args0 about1 = true := code_word (m := ⟨5, 0⟩) (meth := k5m0) (c := k5c0) (by decide +kernel) rfl rfl rfl (by decide +kernel)
def codes1 : List Jvm.Cond := [Jvm.Cond.code x code maxLocals ret, Jvm.Cond.code ({ cls := "com/example/reknit/reknit/DataClassIsCriticalPinLaw", name := "pick", desc := "(I)Lcom/example/reknit/reknit/DataClass;" } : Jvm.MethodName) method_2_code (1 : Nat) (Option.some (Jvm.ClassFile.FieldType.object "com/example/reknit/reknit/DataClass")), Jvm.Cond.code ({ cls := "com/example/reknit/reknit/DataClass", name := "isCritical", desc := "()Z" } : Jvm.MethodName) prog_14_method_5_code (1 : Nat) (Option.some Jvm.ClassFile.FieldType.boolean), Jvm.Cond.code ({ cls := "com/example/reknit/reknit/DataClass", name := "partner", desc := "()Lcom/example/reknit/reknit/DataClass;" } : Jvm.MethodName) prog_14_method_6_code (1 : Nat) (Option.some (Jvm.ClassFile.FieldType.object "com/example/reknit/reknit/DataClass")), Jvm.Cond.code ({ cls := "java/lang/Enum", name := "ordinal", desc := "()I" } : Jvm.MethodName) jdk_37_method_2_code (1 : Nat) (Option.some Jvm.ClassFile.FieldType.int)]
set_option maxRecDepth 65536 in
theorem codes_eq : words1.filter isCode = codes1 := rfl
theorem w_codes : ∀ c ∈ words1.filter isCode, c.before args0 about1 = true := by
  rw [codes_eq]
  intro c hc
  simp only [codes1, List.mem_cons, List.not_mem_nil, or_false] at hc
  rcases hc with rfl | rfl | rfl | rfl | rfl
  · exact w_c0
  · exact w_c1
  · exact w_c2
  · exact w_c3
  · exact w_c4
set_option maxRecDepth 65536 in
theorem w_t1 : (words1.take 24).all (fun c => isCode c || c.before args0 about1) = true := by decide +kernel
set_option maxRecDepth 65536 in
theorem w_t2 : (words1.drop 24).all (fun c => isCode c || c.before args0 about1) = true := by decide +kernel
theorem w_tables : (allAtoms (Jvm.Cond.code x code maxLocals ret :: tables_1)).before args0 about1 = true := by
  rw [allAtoms_all]
  show words1.all (fun c => c.before args0 about1) = true
  refine all_split ?_ w_codes
  rw [← List.take_append_drop 24 words1, List.all_append, w_t1, w_t2]
  rfl
set_option maxRecDepth 65536 in
theorem w_case : (Jvm.Cond.and given_1 narrow_1).before args0 about1 = true := by decide +kernel
theorem w_applies : (headSpec (Jvm.Cond.code x code maxLocals ret :: tables_1) room_1).applies x e0.platform about1 = true :=
  (Spec.applies_iff w_frames).mpr ⟨w_running, w_runnable, w_alone, w_named, w_hears, w_ripe, w_room, w_tables⟩
theorem atStart : AtStart classFile x code maxLocals ret World_1 tables_1 room_1 Calls_1 rest_1 Pre_1 launch0 p0 e0 about1 theMethod args0 below0 :=
  ⟨lists_1, trivial, launch0.admits_env _ _ _, launch0.least_env, fairChoices_fair.cas, fairChoices_fair.clock, w_frames, w_args, w_heap, w_applies, trivial, trivial, w_case⟩
end start1
theorem witness_1 : WitnessClaimed_1 := ⟨start1.p0, start1.e0, start1.about1, start1.theMethod, start1.args0, start1.below0, start1.atStart⟩
end Jvm.Pilot.@@N@@
