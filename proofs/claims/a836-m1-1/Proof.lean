import JvmDerived
import JvmDerived.Pilot.@@N@@Statement
import JvmDerived.Pilot.@@N@@Code
set_option linter.unusedVariables false
set_option linter.unusedSimpArgs false
namespace Jvm.Pilot.@@N@@
open Jvm Jvm.ClassFile Sem Op Lib Jvm.Free Jvm.Stand Jvm.LawKit Jvm.RoadKit Bundle Jvm.Pilot.@@N@@.Jvm.D
/-- from S the method comes to its end, and what it leaves answers Q -/
def Rest (tb : Tables) (e : Env) (below : List Frame) (s : State) (Q : Option Value → Heap → List Loc → Prop) (k n : Nat) (S : State) : Prop :=
  ∃ t o, Steps tb e below S t ∧ t.status = .running ∧ Ended t below o ∧ ∃ v L, o = .returned v ∧ Q v t.heap L ∧ FrameEnd s o t L k n
theorem Rest.via {tb : Tables} {e : Env} {below : List Frame} {s : State} {Q : Option Value → Heap → List Loc → Prop} {k n : Nat} {S S' : State} (h : ∀ t, Steps tb e below S' t → Steps tb e below S t) (r : Rest tb e below s Q k n S') : Rest tb e below s Q k n S := by
  obtain ⟨t, o, h1, h2⟩ := r; exact ⟨t, o, h t h1, h2⟩
theorem Rest.ret {p : Program} {l : Launch} {e : Env} {R : Room} {s : State} {m : MethodId} {args : Array Value} {below : List Frame} {meth : Method} {c : Code} {T : State} {locs : List Loc} {cells slots : Nat} {Q : Option Value → Heap → List Loc → Prop} {k n : Nat} {S : State} {v : Option Value}
    (X : Stand p l e R s m args below meth c T locs cells slots) (hv : meth.sig.returnType = none → v = none) (hlocks : meth.locks = false)
    (st : ∀ fs, (∀ (f : JFrame) (acts : List Action), f.method = m → f.locked = none → f.entered = [] → (doReturn e (T.setTop f) acts v).1 = T.setFrames fs) → Steps p.tables e below S (T.setFrames fs))
    (hq : Q v T.heap locs) (hk : cells ≤ k) (hn : slots ≤ n) : Rest p.tables e below s Q k n S := by
  obtain ⟨fs, hr, hrun, hended, hW, hsame⟩ := X.leave (v := v) hv hlocks
  exact ⟨_, _, st fs hr, hrun, hended, _, _, rfl, hq, ⟨_, rfl⟩, hW, hsame.mono hk hn⟩
theorem own_eqfld {args : Array Value} {s : State} {t : Term} {C n d : String} {a : Addr} {k : Int32} (ht : t.eval args s none [] s = some (.ref a)) (h : (Jvm.Cond.eq (.field t C n d) (.int k)).value args s none s [] = some true) : Fld s s.heap a C n d (.int k) := by
  obtain ⟨x, y, e1, e2, k1, k2⟩ := cmp_v (Or.inl h)
  cases (Option.some.inj (e2.symm.trans (Term.int_eval k)) : y = .int k)
  obtain ⟨z, rfl⟩ := k2
  have hz : z = k := gotT (Cond.eq_ints e1 (Term.int_eval k)) h
  subst hz
  exact Fld.start (by rw [← fld_at ht]; exact e1)
def own_B (Z : State) (h : Heap) (d0 d1 d2 d3 d4 d5 : Addr) : Prop := Sta Z h "com/example/zapros/zapros/model/Operator" "EQUAL" "Lcom/example/zapros/zapros/model/Operator;" (.ref d0) ∧ Exa Z h d0 "com/example/zapros/zapros/model/Operator" ∧ Fld Z h d0 "java/lang/Enum" "ordinal" "I" (.int (0 : Int32)) ∧ Sta Z h "com/example/zapros/zapros/model/Operator" "GREATER" "Lcom/example/zapros/zapros/model/Operator;" (.ref d1) ∧ Exa Z h d1 "com/example/zapros/zapros/model/Operator" ∧ Fld Z h d1 "java/lang/Enum" "ordinal" "I" (.int (1 : Int32)) ∧ Sta Z h "com/example/zapros/zapros/model/Operator" "GREATER_OR_EQUAL" "Lcom/example/zapros/zapros/model/Operator;" (.ref d2) ∧ Exa Z h d2 "com/example/zapros/zapros/model/Operator" ∧ Fld Z h d2 "java/lang/Enum" "ordinal" "I" (.int (2 : Int32)) ∧ Sta Z h "com/example/zapros/zapros/model/Operator" "LESS" "Lcom/example/zapros/zapros/model/Operator;" (.ref d3) ∧ Exa Z h d3 "com/example/zapros/zapros/model/Operator" ∧ Fld Z h d3 "java/lang/Enum" "ordinal" "I" (.int (3 : Int32)) ∧ Sta Z h "com/example/zapros/zapros/model/Operator" "LESS_OR_EQUAL" "Lcom/example/zapros/zapros/model/Operator;" (.ref d4) ∧ Exa Z h d4 "com/example/zapros/zapros/model/Operator" ∧ Fld Z h d4 "java/lang/Enum" "ordinal" "I" (.int (4 : Int32)) ∧ Sta Z h "com/example/zapros/zapros/model/Operator" "IN" "Lcom/example/zapros/zapros/model/Operator;" (.ref d5) ∧ Exa Z h d5 "com/example/zapros/zapros/model/Operator" ∧ Fld Z h d5 "java/lang/Enum" "ordinal" "I" (.int (5 : Int32)) ∧ d0 ≠ d1 ∧ d0 ≠ d2 ∧ d1 ≠ d2 ∧ d0 ≠ d3 ∧ d1 ≠ d3 ∧ d2 ≠ d3 ∧ d0 ≠ d4 ∧ d1 ≠ d4 ∧ d2 ≠ d4 ∧ d3 ≠ d4 ∧ d0 ≠ d5 ∧ d1 ≠ d5 ∧ d2 ≠ d5 ∧ d3 ≠ d5 ∧ d4 ≠ d5
theorem own_elem {s : State} {args : Array Value} {t : Term} {v : Addr} {cl : Cell} {j c : Int32} (ev : t.eval args s none [] s = some (.ref v)) (hc : s.heap[v]? = some cl) (h : (Jvm.Cond.eq (.elem t (.int j)) (.int c)).value args s none s [] = some true) : cl.slots[j.toNatClampNeg]? = some (.int c) := by
  obtain ⟨x, y, e1, e2, k1, k2⟩ := cmp_v (Or.inl h)
  cases (Option.some.inj (e2.symm.trans (Term.int_eval c)) : y = .int c)
  obtain ⟨z, rfl⟩ := k2
  have hz : z = c := gotT (Cond.eq_ints e1 (Term.int_eval c)) h
  subst hz
  exact (elem_in e1 ev (Term.int_eval j) hc).2
theorem own_len {s : State} {args : Array Value} {t : Term} {v : Addr} {cl : Cell} {ty : FieldType} {n : Int32} (ev : t.eval args s none [] s = some (.ref v)) (A : Arr s s.heap v cl ty) (h : (Jvm.Cond.eq (.length t) (.int n)).value args s none s [] = some true) : cl.slots.size < 2 ^ 31 ∧ cl.slots.size.toInt32 = n := by
  have hat : s.arrayAt? v = some cl := Arr.fin (Vm.Alike.refl _) A
  obtain ⟨x, y, f1, f2, j1, j2⟩ := cmp_v (Or.inl h)
  obtain ⟨b, cell, g1, g2, g3, g4⟩ := Jvm.Lib.length_spec f1
  cases ev.symm.trans g1
  cases hat.symm.trans g2
  subst g4
  exact ⟨g3, gotT (Cond.eq_ints f1 (Term.int_eval n)) h⟩
def own_ch (c : Int32) : Int32 := nar .char ((c &&& (255 : Int32)).toUInt32.toUInt16.toUInt32.toInt32)
def own_cc (c : Int32) : Int32 := nar .char (own_ch c)
theorem d9_0 : decode jdk_41_method_11_code 0 = .ok (.iload_n 0, 1) := by decide +kernel
theorem d9_1 : decode jdk_41_method_11_code 1 = .ok (.ifCond .lt 8, 3) := by decide +kernel
theorem d9_4 : decode jdk_41_method_11_code 4 = .ok (.iload_n 0, 1) := by decide +kernel
theorem d9_5 : decode jdk_41_method_11_code 5 = .ok (.iload_n 1, 1) := by decide +kernel
theorem d9_6 : decode jdk_41_method_11_code 6 = .ok (.if_icmp .lt 10, 3) := by decide +kernel
theorem d9_16 : decode jdk_41_method_11_code 16 = .ok (.iload_n 0, 1) := by decide +kernel
theorem d9_17 : decode jdk_41_method_11_code 17 = .ok (.ireturn, 1) := by decide +kernel
theorem pn_0 : plainName "jdk/internal/util/Preconditions" = true := by first | (simp [plainName, overriddenIn]; done) | decide +kernel
theorem ef_PCn (m : MethodId) (p0 : Int32) (p1 : Int32) : entryFrame m #[(.int p0), (.int p1), .null] 3 = mkF m 0 #[.val (.int p0), .val (.int p1), .val .null] [] := by first | (simp [entryFrame, mkF, argsToLocals, Value.category, maxLocals]; done) | rfl
def QPCn (Z : State) (p0 : Int32) (p1 : Int32) (h0 : Heap) (n0 : Nat) (v : Option Value) (h : Heap) (L : List Loc) : Prop := v = some (.int p0) ∧ Fr n0 L ∧ h = h0
set_option maxRecDepth 65536 in
set_option maxHeartbeats 40000000 in
theorem rmPCn (l : Launch) (Z : State) (aw : Array Value) (hw : ∀ d ∈ tables_1, d.before aw Z = true) (ws : List Jvm.Cond) (p0 : Int32) (p1 : Int32) (h0 : Heap) (n0 : Nat) (Z0 : n0 ≤ h0.size) (h1 : ¬ (p0 < (0 : Int32))) (h2 : p0 < p1) :
    MetFree l (⟨"jdk/internal/util/Preconditions", "checkIndex", "(IILjava/util/function/BiFunction;)I"⟩ : MethodName) (head1 (Jvm.Cond.code (⟨"jdk/internal/util/Preconditions", "checkIndex", "(IILjava/util/function/BiFunction;)I"⟩ : MethodName) jdk_41_method_11_code 3 (some .int) :: ws) ({ frames := 0, cells := 0, slots := 0, locals := 0 } : Room)) (fun a U => a = #[(.int p0), (.int p1), .null] ∧ Z.Warmed39 U.vm ∧ U.heap = h0) (fun _ _ _ _ _ => True) (fun _ U o U' => ∃ v L, o = .returned v ∧ QPCn Z p0 p1 h0 n0 v U'.heap L ∧ FrameEnd U o U' L ({ frames := 0, cells := 0, slots := 0, locals := 0 } : Room).cells ({ frames := 0, cells := 0, slots := 0, locals := 0 } : Room).slots) := by
  refine MetFree.of_bodySF (plainFor_of_name pn_0) hisR ?_
  intro p e s m args below meth c s₁ Bd hml0 hP hK
  obtain ⟨rfl, hZ, hh⟩ := hP
  have hx := Bd.exec
  have hby := Bd.bytes
  have hml : c.maxLocals = 3 := hml0
  have hown : s.vm.findClass "jdk/internal/util/Preconditions" = some m.cls := findClass_of_methodNamed Bd.named
  have hnm := (name_of_methodNamed Bd.named Bd.method).1
  have hlk : meth.locks = false := BodyLoose.notSynchronized Bd
  have X0 : Stand p l e ({ frames := 0, cells := 0, slots := 0, locals := 0 } : Room) s m #[(.int p0), (.int p1), .null] below meth c s₁ [] 0 0 := Stand.of_body Bd
  have eh0 : s₁.heap = h0 := by rw [← hh, Bd.state]; rfl
  have N0 := Fr.nil n0
  show Rest p.tables e below s (QPCn Z p0 p1 h0 n0) _ _ (s₁.setTop (entryFrame m #[(.int p0), (.int p1), .null] 3))
  refine Rest.via (fun t k => castTop (ef_PCn m p0 p1) k) ?_
  show Rest p.tables e below s _ _ _ (s₁.setTop (mkF m 0 #[.val (.int p0), .val (.int p1), .val .null] []))
  refine Rest.via (fun t k => XS.iloadN X0.here hx rfl (hb hby d9_0) rfl k) ?_
  show Rest p.tables e below s _ _ _ (s₁.setTop (mkF m 1 #[.val (.int p0), .val (.int p1), .val .null] [(.int p0)]))
  refine Rest.via (fun t k => XS.ifNo X0.here hx rfl (hb hby d9_1) rfl ((if0 _ _).trans (flt (h1 : ¬ (p0 < (0 : Int32)))).1) k) ?_
  show Rest p.tables e below s _ _ _ (s₁.setTop (mkF m 4 #[.val (.int p0), .val (.int p1), .val .null] []))
  refine Rest.via (fun t k => XS.iloadN X0.here hx rfl (hb hby d9_4) rfl k) ?_
  show Rest p.tables e below s _ _ _ (s₁.setTop (mkF m 5 #[.val (.int p0), .val (.int p1), .val .null] [(.int p0)]))
  refine Rest.via (fun t k => XS.iloadN X0.here hx rfl (hb hby d9_5) rfl k) ?_
  show Rest p.tables e below s _ _ _ (s₁.setTop (mkF m 6 #[.val (.int p0), .val (.int p1), .val .null] [(.int p1), (.int p0)]))
  refine Rest.via (fun t k => XS.icmpYes X0.here hx rfl (pc0 := 6) (pc' := 16) rfl (hb hby d9_6) rfl (tlt (h2 : p0 < p1)).1 (by decide) (by decide) k) ?_
  show Rest p.tables e below s _ _ _ (s₁.setTop (mkF m 16 #[.val (.int p0), .val (.int p1), .val .null] []))
  refine Rest.via (fun t k => XS.iloadN X0.here hx rfl (hb hby d9_16) rfl k) ?_
  show Rest p.tables e below s _ _ _ (s₁.setTop (mkF m 17 #[.val (.int p0), .val (.int p1), .val .null] [(.int p0)]))
  refine Rest.ret X0 (v := some (.int p0)) (fun h => by rw [Bd.returns] at h; cases h) hlk (fun fs hr => retOut X0 hx Bd.returns rfl (Or.inl ⟨rfl, Or.inl rfl, _, rfl⟩) (hb hby d9_17) hr) ?_ (by decide) (by decide)
  rw [eh0]
  exact ⟨rfl, N0, rfl⟩
theorem ef_PCr (m : MethodId) (p0 : Int32) (p1 : Int32) (a2 : Addr) : entryFrame m #[(.int p0), (.int p1), (.ref a2)] 3 = mkF m 0 #[.val (.int p0), .val (.int p1), .val (.ref a2)] [] := by first | (simp [entryFrame, mkF, argsToLocals, Value.category, maxLocals]; done) | rfl
def QPCr (Z : State) (p0 : Int32) (p1 : Int32) (a2 : Addr) (h0 : Heap) (n0 : Nat) (v : Option Value) (h : Heap) (L : List Loc) : Prop := v = some (.int p0) ∧ Fr n0 L ∧ h = h0
set_option maxRecDepth 65536 in
set_option maxHeartbeats 40000000 in
theorem rmPCr (l : Launch) (Z : State) (aw : Array Value) (hw : ∀ d ∈ tables_1, d.before aw Z = true) (ws : List Jvm.Cond) (p0 : Int32) (p1 : Int32) (a2 : Addr) (h0 : Heap) (n0 : Nat) (Z0 : n0 ≤ h0.size) (h1 : ¬ (p0 < (0 : Int32))) (h2 : p0 < p1) :
    MetFree l (⟨"jdk/internal/util/Preconditions", "checkIndex", "(IILjava/util/function/BiFunction;)I"⟩ : MethodName) (head1 (Jvm.Cond.code (⟨"jdk/internal/util/Preconditions", "checkIndex", "(IILjava/util/function/BiFunction;)I"⟩ : MethodName) jdk_41_method_11_code 3 (some .int) :: ws) ({ frames := 0, cells := 0, slots := 0, locals := 0 } : Room)) (fun a U => a = #[(.int p0), (.int p1), (.ref a2)] ∧ Z.Warmed39 U.vm ∧ U.heap = h0) (fun _ _ _ _ _ => True) (fun _ U o U' => ∃ v L, o = .returned v ∧ QPCr Z p0 p1 a2 h0 n0 v U'.heap L ∧ FrameEnd U o U' L ({ frames := 0, cells := 0, slots := 0, locals := 0 } : Room).cells ({ frames := 0, cells := 0, slots := 0, locals := 0 } : Room).slots) := by
  refine MetFree.of_bodySF (plainFor_of_name pn_0) hisR ?_
  intro p e s m args below meth c s₁ Bd hml0 hP hK
  obtain ⟨rfl, hZ, hh⟩ := hP
  have hx := Bd.exec
  have hby := Bd.bytes
  have hml : c.maxLocals = 3 := hml0
  have hown : s.vm.findClass "jdk/internal/util/Preconditions" = some m.cls := findClass_of_methodNamed Bd.named
  have hnm := (name_of_methodNamed Bd.named Bd.method).1
  have hlk : meth.locks = false := BodyLoose.notSynchronized Bd
  have X0 : Stand p l e ({ frames := 0, cells := 0, slots := 0, locals := 0 } : Room) s m #[(.int p0), (.int p1), (.ref a2)] below meth c s₁ [] 0 0 := Stand.of_body Bd
  have eh0 : s₁.heap = h0 := by rw [← hh, Bd.state]; rfl
  have N0 := Fr.nil n0
  show Rest p.tables e below s (QPCr Z p0 p1 a2 h0 n0) _ _ (s₁.setTop (entryFrame m #[(.int p0), (.int p1), (.ref a2)] 3))
  refine Rest.via (fun t k => castTop (ef_PCr m p0 p1 a2) k) ?_
  show Rest p.tables e below s _ _ _ (s₁.setTop (mkF m 0 #[.val (.int p0), .val (.int p1), .val (.ref a2)] []))
  refine Rest.via (fun t k => XS.iloadN X0.here hx rfl (hb hby d9_0) rfl k) ?_
  show Rest p.tables e below s _ _ _ (s₁.setTop (mkF m 1 #[.val (.int p0), .val (.int p1), .val (.ref a2)] [(.int p0)]))
  refine Rest.via (fun t k => XS.ifNo X0.here hx rfl (hb hby d9_1) rfl ((if0 _ _).trans (flt (h1 : ¬ (p0 < (0 : Int32)))).1) k) ?_
  show Rest p.tables e below s _ _ _ (s₁.setTop (mkF m 4 #[.val (.int p0), .val (.int p1), .val (.ref a2)] []))
  refine Rest.via (fun t k => XS.iloadN X0.here hx rfl (hb hby d9_4) rfl k) ?_
  show Rest p.tables e below s _ _ _ (s₁.setTop (mkF m 5 #[.val (.int p0), .val (.int p1), .val (.ref a2)] [(.int p0)]))
  refine Rest.via (fun t k => XS.iloadN X0.here hx rfl (hb hby d9_5) rfl k) ?_
  show Rest p.tables e below s _ _ _ (s₁.setTop (mkF m 6 #[.val (.int p0), .val (.int p1), .val (.ref a2)] [(.int p1), (.int p0)]))
  refine Rest.via (fun t k => XS.icmpYes X0.here hx rfl (pc0 := 6) (pc' := 16) rfl (hb hby d9_6) rfl (tlt (h2 : p0 < p1)).1 (by decide) (by decide) k) ?_
  show Rest p.tables e below s _ _ _ (s₁.setTop (mkF m 16 #[.val (.int p0), .val (.int p1), .val (.ref a2)] []))
  refine Rest.via (fun t k => XS.iloadN X0.here hx rfl (hb hby d9_16) rfl k) ?_
  show Rest p.tables e below s _ _ _ (s₁.setTop (mkF m 17 #[.val (.int p0), .val (.int p1), .val (.ref a2)] [(.int p0)]))
  refine Rest.ret X0 (v := some (.int p0)) (fun h => by rw [Bd.returns] at h; cases h) hlk (fun fs hr => retOut X0 hx Bd.returns rfl (Or.inl ⟨rfl, Or.inl rfl, _, rfl⟩) (hb hby d9_17) hr) ?_ (by decide) (by decide)
  rw [eh0]
  exact ⟨rfl, N0, rfl⟩
theorem pd_0 : parseMethodDescriptor "(IILjava/util/function/BiFunction;)I" = some ⟨[.int, .int, (.object "java/util/function/BiFunction")], some .int⟩ := by decide +kernel
theorem d8_0 : decode jdk_42_method_155_code 0 = .ok (.iload_n 0, 1) := by decide +kernel
theorem d8_1 : decode jdk_42_method_155_code 1 = .ok (.iload_n 1, 1) := by decide +kernel
theorem d8_2 : decode jdk_42_method_155_code 2 = .ok (.getstatic 1053, 3) := by decide +kernel
theorem d8_5 : decode jdk_42_method_155_code 5 = .ok (.invokestatic 1059, 3) := by decide +kernel
theorem d8_8 : decode jdk_42_method_155_code 8 = .ok (.pop, 1) := by decide +kernel
theorem d8_9 : decode jdk_42_method_155_code 9 = .ok (.return_, 1) := by decide +kernel
theorem pn_1 : plainName "java/lang/String" = true := by first | (simp [plainName, overriddenIn]; done) | decide +kernel
theorem ef_SCn (m : MethodId) (p0 : Int32) (p1 : Int32) : entryFrame m #[(.int p0), (.int p1)] 2 = mkF m 0 #[.val (.int p0), .val (.int p1)] [] := by first | (simp [entryFrame, mkF, argsToLocals, Value.category, maxLocals]; done) | rfl
def QSCn (Z : State) (p0 : Int32) (p1 : Int32) (h0 : Heap) (n0 : Nat) (v : Option Value) (h : Heap) (L : List Loc) : Prop := v = none ∧ Fr n0 L ∧ h = h0
set_option maxRecDepth 65536 in
set_option maxHeartbeats 40000000 in
theorem rmSCn (l : Launch) (Z : State) (aw : Array Value) (hw : ∀ d ∈ tables_1, d.before aw Z = true) (ws : List Jvm.Cond) (p0 : Int32) (p1 : Int32) (h0 : Heap) (n0 : Nat) (Z0 : n0 ≤ h0.size) (h1 : ¬ (p0 < (0 : Int32))) (h2 : p0 < p1) (Sf : Sta Z h0 "jdk/internal/util/Preconditions" "SIOOBE_FORMATTER" "Ljava/util/function/BiFunction;" .null) :
    MetFree l (⟨"java/lang/String", "checkIndex", "(II)V"⟩ : MethodName) (head1 (Jvm.Cond.code (⟨"java/lang/String", "checkIndex", "(II)V"⟩ : MethodName) jdk_42_method_155_code 2 none :: ws) ({ frames := 1, cells := 0, slots := 0, locals := 14 } : Room)) (fun a U => a = #[(.int p0), (.int p1)] ∧ Z.Warmed39 U.vm ∧ U.heap = h0) (fun _ _ _ _ _ => True) (fun _ U o U' => ∃ v L, o = .returned v ∧ QSCn Z p0 p1 h0 n0 v U'.heap L ∧ FrameEnd U o U' L ({ frames := 1, cells := 0, slots := 0, locals := 14 } : Room).cells ({ frames := 1, cells := 0, slots := 0, locals := 14 } : Room).slots) := by
  refine MetFree.of_bodySF (plainFor_of_name pn_1) hisR ?_
  intro p e s m args below meth c s₁ Bd hml0 hP hK
  obtain ⟨rfl, hZ, hh⟩ := hP
  have hx := Bd.exec
  have hby := Bd.bytes
  have hml : c.maxLocals = 2 := hml0
  have hown : s.vm.findClass "java/lang/String" = some m.cls := findClass_of_methodNamed Bd.named
  have hnm := (name_of_methodNamed Bd.named Bd.method).1
  have hlk : meth.locks = false := BodyLoose.notSynchronized Bd
  have X0 : Stand p l e ({ frames := 1, cells := 0, slots := 0, locals := 14 } : Room) s m #[(.int p0), (.int p1)] below meth c s₁ [] 0 0 := Stand.of_body Bd
  have eh0 : s₁.heap = h0 := by rw [← hh, Bd.state]; rfl
  have N0 := Fr.nil n0
  show Rest p.tables e below s (QSCn Z p0 p1 h0 n0) _ _ (s₁.setTop (entryFrame m #[(.int p0), (.int p1)] 2))
  refine Rest.via (fun t k => castTop (ef_SCn m p0 p1) k) ?_
  show Rest p.tables e below s _ _ _ (s₁.setTop (mkF m 0 #[.val (.int p0), .val (.int p1)] []))
  refine Rest.via (fun t k => XS.iloadN X0.here hx rfl (hb hby d8_0) rfl k) ?_
  show Rest p.tables e below s _ _ _ (s₁.setTop (mkF m 1 #[.val (.int p0), .val (.int p1)] [(.int p0)]))
  refine Rest.via (fun t k => XS.iloadN X0.here hx rfl (hb hby d8_1) rfl k) ?_
  show Rest p.tables e below s _ _ _ (s₁.setTop (mkF m 2 #[.val (.int p0), .val (.int p1)] [(.int p1), (.int p0)]))
  obtain ⟨T1, X1, e1, st1⟩ := getS2 X0 hx hZ hown (host := "") (Or.inl (hw _ (List.mem_of_getElem? (i := 49) rfl))) Via.refl eh0 Sf (g := (mkF m 2 #[.val (.int p0), .val (.int p1)] [(.int p1), (.int p0)])) rfl (hb hby d8_2)
  refine Rest.via (fun t k => st1 t k) ?_
  show Rest p.tables e below s _ _ _ (T1.setTop (mkF m 5 #[.val (.int p0), .val (.int p1)] [.null, (.int p1), (.int p0)]))
  obtain ⟨_, _, ⟨T2, L2, k2, n2⟩, -, X2, ⟨Lc2, hQ2, l2, y2, z2⟩, st2⟩ := Jvm.LawKit.callS X1 hx (y := (⟨"jdk/internal/util/Preconditions", "checkIndex", "(IILjava/util/function/BiFunction;)I"⟩ : MethodName)) hown (mvT hZ (hw _ (List.mem_of_getElem? (i := 51) rfl))) (mvT hZ (hw _ (List.mem_of_getElem? (i := 52) rfl))) (mvT hZ (hw _ (List.mem_of_getElem? (i := 50) rfl))) (mvT hZ (hw _ (List.mem_of_getElem? (i := 53) rfl))) (by decide) (backOf (W := 0) (rmPCn l Z aw hw [] p0 p1  h0 n0 (Nat.le_trans Z0 (Keep.refl h0 []).1) h1 h2) hZ (hw _ (List.mem_of_getElem? (i := 53) rfl)) (hw _ (List.mem_of_getElem? (i := 50) rfl)) (by decide) (by decide)) (g := (mkF m 5 #[.val (.int p0), .val (.int p1)] [.null, (.int p1), (.int p0)])) rfl (by rw [hml]; rfl) (argsL := [(.int p0), (.int p1), .null]) (rest := []) (lenOf pd_0 rfl) rfl (by show 2 * 0 + _ ≤ _; exact Nat.le_of_eq rfl) (hb hby d8_5) (fun _ _ => ⟨rfl, e1, (by decide : 0 + 0 ≤ _), (by decide : 0 + 0 ≤ _)⟩)
  dsimp only [Pt.U, Pt.locs, Pt.cells, Pt.slots] at X2 l2 y2 z2 st2 hQ2
  subst l2 y2 z2
  obtain ⟨rfl, Nq2, e2⟩ := hQ2
  have N2 := Fr.app N0 Nq2
  refine Rest.via (fun t k => st2 t k) ?_
  show Rest p.tables e below s _ _ _ (T2.setTop (mkF m 8 #[.val (.int p0), .val (.int p1)] [(.int p0)]))
  refine Rest.via (fun t k => XS.pop X2.here hx rfl (hb hby d8_8) rfl rfl k) ?_
  show Rest p.tables e below s _ _ _ (T2.setTop (mkF m 9 #[.val (.int p0), .val (.int p1)] []))
  refine Rest.ret X2 (v := none) (fun _ => rfl) hlk (fun fs hr => X2.returnOut hx Bd.returns (hb hby d8_9) hr) ?_ (by decide) (by decide)
  rw [e2]
  exact ⟨rfl, N2, rfl⟩
theorem ef_SCr (m : MethodId) (p0 : Int32) (p1 : Int32) : entryFrame m #[(.int p0), (.int p1)] 2 = mkF m 0 #[.val (.int p0), .val (.int p1)] [] := by first | (simp [entryFrame, mkF, argsToLocals, Value.category, maxLocals]; done) | rfl
def QSCr (Z : State) (p0 : Int32) (p1 : Int32) (fa : Addr) (h0 : Heap) (n0 : Nat) (v : Option Value) (h : Heap) (L : List Loc) : Prop := v = none ∧ Fr n0 L ∧ h = h0
set_option maxRecDepth 65536 in
set_option maxHeartbeats 40000000 in
theorem rmSCr (l : Launch) (Z : State) (aw : Array Value) (hw : ∀ d ∈ tables_1, d.before aw Z = true) (ws : List Jvm.Cond) (p0 : Int32) (p1 : Int32) (fa : Addr) (h0 : Heap) (n0 : Nat) (Z0 : n0 ≤ h0.size) (h1 : ¬ (p0 < (0 : Int32))) (h2 : p0 < p1) (Sf : Sta Z h0 "jdk/internal/util/Preconditions" "SIOOBE_FORMATTER" "Ljava/util/function/BiFunction;" (.ref fa)) :
    MetFree l (⟨"java/lang/String", "checkIndex", "(II)V"⟩ : MethodName) (head1 (Jvm.Cond.code (⟨"java/lang/String", "checkIndex", "(II)V"⟩ : MethodName) jdk_42_method_155_code 2 none :: ws) ({ frames := 1, cells := 0, slots := 0, locals := 14 } : Room)) (fun a U => a = #[(.int p0), (.int p1)] ∧ Z.Warmed39 U.vm ∧ U.heap = h0) (fun _ _ _ _ _ => True) (fun _ U o U' => ∃ v L, o = .returned v ∧ QSCr Z p0 p1 fa h0 n0 v U'.heap L ∧ FrameEnd U o U' L ({ frames := 1, cells := 0, slots := 0, locals := 14 } : Room).cells ({ frames := 1, cells := 0, slots := 0, locals := 14 } : Room).slots) := by
  refine MetFree.of_bodySF (plainFor_of_name pn_1) hisR ?_
  intro p e s m args below meth c s₁ Bd hml0 hP hK
  obtain ⟨rfl, hZ, hh⟩ := hP
  have hx := Bd.exec
  have hby := Bd.bytes
  have hml : c.maxLocals = 2 := hml0
  have hown : s.vm.findClass "java/lang/String" = some m.cls := findClass_of_methodNamed Bd.named
  have hnm := (name_of_methodNamed Bd.named Bd.method).1
  have hlk : meth.locks = false := BodyLoose.notSynchronized Bd
  have X0 : Stand p l e ({ frames := 1, cells := 0, slots := 0, locals := 14 } : Room) s m #[(.int p0), (.int p1)] below meth c s₁ [] 0 0 := Stand.of_body Bd
  have eh0 : s₁.heap = h0 := by rw [← hh, Bd.state]; rfl
  have N0 := Fr.nil n0
  show Rest p.tables e below s (QSCr Z p0 p1 fa h0 n0) _ _ (s₁.setTop (entryFrame m #[(.int p0), (.int p1)] 2))
  refine Rest.via (fun t k => castTop (ef_SCr m p0 p1) k) ?_
  show Rest p.tables e below s _ _ _ (s₁.setTop (mkF m 0 #[.val (.int p0), .val (.int p1)] []))
  refine Rest.via (fun t k => XS.iloadN X0.here hx rfl (hb hby d8_0) rfl k) ?_
  show Rest p.tables e below s _ _ _ (s₁.setTop (mkF m 1 #[.val (.int p0), .val (.int p1)] [(.int p0)]))
  refine Rest.via (fun t k => XS.iloadN X0.here hx rfl (hb hby d8_1) rfl k) ?_
  show Rest p.tables e below s _ _ _ (s₁.setTop (mkF m 2 #[.val (.int p0), .val (.int p1)] [(.int p1), (.int p0)]))
  obtain ⟨T1, X1, e1, st1⟩ := getS2 X0 hx hZ hown (host := "") (Or.inl (hw _ (List.mem_of_getElem? (i := 49) rfl))) Via.refl eh0 Sf (g := (mkF m 2 #[.val (.int p0), .val (.int p1)] [(.int p1), (.int p0)])) rfl (hb hby d8_2)
  refine Rest.via (fun t k => st1 t k) ?_
  show Rest p.tables e below s _ _ _ (T1.setTop (mkF m 5 #[.val (.int p0), .val (.int p1)] [(.ref fa), (.int p1), (.int p0)]))
  obtain ⟨_, _, ⟨T2, L2, k2, n2⟩, -, X2, ⟨Lc2, hQ2, l2, y2, z2⟩, st2⟩ := Jvm.LawKit.callS X1 hx (y := (⟨"jdk/internal/util/Preconditions", "checkIndex", "(IILjava/util/function/BiFunction;)I"⟩ : MethodName)) hown (mvT hZ (hw _ (List.mem_of_getElem? (i := 51) rfl))) (mvT hZ (hw _ (List.mem_of_getElem? (i := 52) rfl))) (mvT hZ (hw _ (List.mem_of_getElem? (i := 50) rfl))) (mvT hZ (hw _ (List.mem_of_getElem? (i := 53) rfl))) (by decide) (backOf (W := 0) (rmPCr l Z aw hw [] p0 p1 fa  h0 n0 (Nat.le_trans Z0 (Keep.refl h0 []).1) h1 h2) hZ (hw _ (List.mem_of_getElem? (i := 53) rfl)) (hw _ (List.mem_of_getElem? (i := 50) rfl)) (by decide) (by decide)) (g := (mkF m 5 #[.val (.int p0), .val (.int p1)] [(.ref fa), (.int p1), (.int p0)])) rfl (by rw [hml]; rfl) (argsL := [(.int p0), (.int p1), (.ref fa)]) (rest := []) (lenOf pd_0 rfl) rfl (by show 2 * 0 + _ ≤ _; exact Nat.le_of_eq rfl) (hb hby d8_5) (fun _ _ => ⟨rfl, e1, (by decide : 0 + 0 ≤ _), (by decide : 0 + 0 ≤ _)⟩)
  dsimp only [Pt.U, Pt.locs, Pt.cells, Pt.slots] at X2 l2 y2 z2 st2 hQ2
  subst l2 y2 z2
  obtain ⟨rfl, Nq2, e2⟩ := hQ2
  have N2 := Fr.app N0 Nq2
  refine Rest.via (fun t k => st2 t k) ?_
  show Rest p.tables e below s _ _ _ (T2.setTop (mkF m 8 #[.val (.int p0), .val (.int p1)] [(.int p0)]))
  refine Rest.via (fun t k => XS.pop X2.here hx rfl (hb hby d8_8) rfl rfl k) ?_
  show Rest p.tables e below s _ _ _ (T2.setTop (mkF m 9 #[.val (.int p0), .val (.int p1)] []))
  refine Rest.ret X2 (v := none) (fun _ => rfl) hlk (fun fs hr => X2.returnOut hx Bd.returns (hb hby d8_9) hr) ?_ (by decide) (by decide)
  rw [e2]
  exact ⟨rfl, N2, rfl⟩
def QSC (Z : State) (p0 p1 : Int32) (fm : Value) (h0 : Heap) (n0 : Nat) (v : Option Value) (h : Heap) (L : List Loc) : Prop := v = none ∧ Fr n0 L ∧ h = h0
theorem rmSC (l : Launch) (Z : State) (aw : Array Value) (hw : ∀ d ∈ tables_1, d.before aw Z = true) (ws : List Jvm.Cond) (p0 p1 : Int32) (fm : Value) (h0 : Heap) (n0 : Nat) (Z0 : n0 ≤ h0.size) (h1 : ¬ (p0 < (0 : Int32))) (h2 : p0 < p1) (hf : fm.isRef = true) (Sf : Sta Z h0 "jdk/internal/util/Preconditions" "SIOOBE_FORMATTER" "Ljava/util/function/BiFunction;" fm) :
    MetFree l (⟨"java/lang/String", "checkIndex", "(II)V"⟩ : MethodName) (head1 (Jvm.Cond.code (⟨"java/lang/String", "checkIndex", "(II)V"⟩ : MethodName) jdk_42_method_155_code 2 none :: ws) ({ frames := 1, cells := 0, slots := 0, locals := 14 } : Room)) (fun a U => a = #[(.int p0), (.int p1)] ∧ Z.Warmed39 U.vm ∧ U.heap = h0) (fun _ _ _ _ _ => True) (fun _ U o U' => ∃ v L, o = .returned v ∧ QSC Z p0 p1 fm h0 n0 v U'.heap L ∧ FrameEnd U o U' L ({ frames := 1, cells := 0, slots := 0, locals := 14 } : Room).cells ({ frames := 1, cells := 0, slots := 0, locals := 14 } : Room).slots) := by
  rcases ref_cases hf with rfl | ⟨fa, rfl⟩
  · exact rmSCn l Z aw hw ws p0 p1 h0 n0 Z0 h1 h2 Sf
  · exact rmSCr l Z aw hw ws p0 p1 fa h0 n0 Z0 h1 h2 Sf
theorem pd_1 : parseMethodDescriptor "(II)V" = some ⟨[.int, .int], none⟩ := by decide +kernel
theorem d7_0 : decode jdk_43_method_2_code 0 = .ok (.iload_n 1, 1) := by decide +kernel
theorem d7_1 : decode jdk_43_method_2_code 1 = .ok (.aload_n 0, 1) := by decide +kernel
theorem d7_2 : decode jdk_43_method_2_code 2 = .ok (.arraylength, 1) := by decide +kernel
theorem d7_3 : decode jdk_43_method_2_code 3 = .ok (.invokestatic 9, 3) := by decide +kernel
theorem d7_6 : decode jdk_43_method_2_code 6 = .ok (.aload_n 0, 1) := by decide +kernel
theorem d7_7 : decode jdk_43_method_2_code 7 = .ok (.iload_n 1, 1) := by decide +kernel
theorem d7_8 : decode jdk_43_method_2_code 8 = .ok (.baload, 1) := by decide +kernel
theorem d7_9 : decode jdk_43_method_2_code 9 = .ok (.sipush 255, 3) := by decide +kernel
theorem d7_12 : decode jdk_43_method_2_code 12 = .ok (.iand, 1) := by decide +kernel
theorem d7_13 : decode jdk_43_method_2_code 13 = .ok (.i2c, 1) := by decide +kernel
theorem d7_14 : decode jdk_43_method_2_code 14 = .ok (.ireturn, 1) := by decide +kernel
theorem pn_2 : plainName "java/lang/StringLatin1" = true := by first | (simp [plainName, overriddenIn]; done) | decide +kernel
theorem ef_LC (m : MethodId) (a0 : Addr) : entryFrame m #[(.ref a0), (.int (0 : Int32))] 2 = mkF m 0 #[.val (.ref a0), .val (.int (0 : Int32))] [] := by first | (simp [entryFrame, mkF, argsToLocals, Value.category, maxLocals]; done) | rfl
def QLC (Z : State) (a0 : Addr) (k : ClassId) (n : Int32) (c0 : Int32) (vs : List Value) (fm : Value) (h0 : Heap) (n0 : Nat) (v : Option Value) (h : Heap) (L : List Loc) : Prop := v = some (.int (own_ch c0)) ∧ Fr n0 L ∧ h = h0
set_option maxRecDepth 65536 in
set_option maxHeartbeats 40000000 in
theorem rmLC (l : Launch) (Z : State) (aw : Array Value) (hw : ∀ d ∈ tables_1, d.before aw Z = true) (ws : List Jvm.Cond) (a0 : Addr) (k : ClassId) (n : Int32) (c0 : Int32) (vs : List Value) (fm : Value) (h0 : Heap) (n0 : Nat) (Z0 : n0 ≤ h0.size) (V0 : Arv Z h0 a0 k .byte n ((.int c0) :: vs) (.int (0 : Int32))) (hn : (0 : Int32) < n) (hf : fm.isRef = true) (Sf : Sta Z h0 "jdk/internal/util/Preconditions" "SIOOBE_FORMATTER" "Ljava/util/function/BiFunction;" fm) :
    MetFree l (⟨"java/lang/StringLatin1", "charAt", "([BI)C"⟩ : MethodName) (head1 (Jvm.Cond.code (⟨"java/lang/StringLatin1", "charAt", "([BI)C"⟩ : MethodName) jdk_43_method_2_code 2 (some .char) :: ws) ({ frames := 2, cells := 0, slots := 0, locals := 27 } : Room)) (fun a U => a = #[(.ref a0), (.int (0 : Int32))] ∧ Z.Warmed39 U.vm ∧ U.heap = h0) (fun _ _ _ _ _ => True) (fun _ U o U' => ∃ v L, o = .returned v ∧ QLC Z a0 k n c0 vs fm h0 n0 v U'.heap L ∧ FrameEnd U o U' L ({ frames := 2, cells := 0, slots := 0, locals := 27 } : Room).cells ({ frames := 2, cells := 0, slots := 0, locals := 27 } : Room).slots) := by
  refine MetFree.of_bodySF (plainFor_of_name pn_2) hisR ?_
  intro p e s m args below meth c s₁ Bd hml0 hP hK
  obtain ⟨rfl, hZ, hh⟩ := hP
  have hx := Bd.exec
  have hby := Bd.bytes
  have hml : c.maxLocals = 2 := hml0
  have hown : s.vm.findClass "java/lang/StringLatin1" = some m.cls := findClass_of_methodNamed Bd.named
  have hnm := (name_of_methodNamed Bd.named Bd.method).1
  have hlk : meth.locks = false := BodyLoose.notSynchronized Bd
  have X0 : Stand p l e ({ frames := 2, cells := 0, slots := 0, locals := 27 } : Room) s m #[(.ref a0), (.int (0 : Int32))] below meth c s₁ [] 0 0 := Stand.of_body Bd
  have eh0 : s₁.heap = h0 := by rw [← hh, Bd.state]; rfl
  have N0 := Fr.nil n0
  show Rest p.tables e below s (QLC Z a0 k n c0 vs fm h0 n0) _ _ (s₁.setTop (entryFrame m #[(.ref a0), (.int (0 : Int32))] 2))
  refine Rest.via (fun t k => castTop (ef_LC m a0) k) ?_
  show Rest p.tables e below s _ _ _ (s₁.setTop (mkF m 0 #[.val (.ref a0), .val (.int (0 : Int32))] []))
  refine Rest.via (fun t k => XS.iloadN X0.here hx rfl (hb hby d7_0) rfl k) ?_
  show Rest p.tables e below s _ _ _ (s₁.setTop (mkF m 1 #[.val (.ref a0), .val (.int (0 : Int32))] [(.int (0 : Int32))]))
  refine Rest.via (fun t k => XS.aloadN X0.here hx rfl (hb hby d7_1) rfl rfl k) ?_
  show Rest p.tables e below s _ _ _ (s₁.setTop (mkF m 2 #[.val (.ref a0), .val (.int (0 : Int32))] [(.ref a0), (.int (0 : Int32))]))
  obtain ⟨cl1, Ar1, -, S1, P1, -, -⟩ := id V0
  refine Rest.via (fun t k => X0.arraylength hx (by rw [eh0]; exact Ar1.1) (State.isArrayOf_alike hZ.alike Ar1.2.1) (g := (mkF m 2 #[.val (.ref a0), .val (.int (0 : Int32))] [(.ref a0), (.int (0 : Int32))])) rfl rfl (hb hby d7_2) t k) ?_
  rw [len_of S1 P1]
  show Rest p.tables e below s _ _ _ (s₁.setTop (mkF m 3 #[.val (.ref a0), .val (.int (0 : Int32))] [(.int n), (.int (0 : Int32))]))
  obtain ⟨_, _, ⟨T2, L2, k2, n2⟩, -, X2, ⟨Lc2, hQ2, l2, y2, z2⟩, st2⟩ := Jvm.LawKit.callS X0 hx (y := (⟨"java/lang/String", "checkIndex", "(II)V"⟩ : MethodName)) hown (mvT hZ (hw _ (List.mem_of_getElem? (i := 46) rfl))) (mvT hZ (hw _ (List.mem_of_getElem? (i := 47) rfl))) (mvT hZ (hw _ (List.mem_of_getElem? (i := 25) rfl))) (mvT hZ (hw _ (List.mem_of_getElem? (i := 48) rfl))) (by decide) (backOf (W := 0) (rmSC l Z aw hw [] (0 : Int32) n fm h0 n0 (Nat.le_trans Z0 (Keep.refl h0 []).1) (by decide) hn hf Sf) hZ (hw _ (List.mem_of_getElem? (i := 48) rfl)) (hw _ (List.mem_of_getElem? (i := 25) rfl)) (by decide) (by decide)) (g := (mkF m 3 #[.val (.ref a0), .val (.int (0 : Int32))] [(.int n), (.int (0 : Int32))])) rfl (by rw [hml]; rfl) (argsL := [(.int (0 : Int32)), (.int n)]) (rest := []) (lenOf pd_1 rfl) rfl (by show 2 * 0 + _ ≤ _; exact Nat.le_of_eq rfl) (hb hby d7_3) (fun _ _ => ⟨rfl, eh0, (by decide : 0 + 0 ≤ _), (by decide : 0 + 0 ≤ _)⟩)
  dsimp only [Pt.U, Pt.locs, Pt.cells, Pt.slots] at X2 l2 y2 z2 st2 hQ2
  subst l2 y2 z2
  obtain ⟨rfl, Nq2, e2⟩ := hQ2
  have N2 := Fr.app N0 Nq2
  refine Rest.via (fun t k => st2 t k) ?_
  show Rest p.tables e below s _ _ _ (T2.setTop (mkF m 6 #[.val (.ref a0), .val (.int (0 : Int32))] []))
  refine Rest.via (fun t k => XS.aloadN X2.here hx rfl (hb hby d7_6) rfl rfl k) ?_
  show Rest p.tables e below s _ _ _ (T2.setTop (mkF m 7 #[.val (.ref a0), .val (.int (0 : Int32))] [(.ref a0)]))
  refine Rest.via (fun t k => XS.iloadN X2.here hx rfl (hb hby d7_7) rfl k) ?_
  show Rest p.tables e below s _ _ _ (T2.setTop (mkF m 8 #[.val (.ref a0), .val (.int (0 : Int32))] [(.int (0 : Int32)), (.ref a0)]))
  obtain ⟨cl3, Ar3, qa3, Sa3, Pa3, Ha3, Ga3⟩ := id V0
  have hin3 := inb_of (j := (0 : Int32)) Sa3 ⟨by decide, hn⟩
  have hat3 : cl3.slots[((0 : Int32)).toNatClampNeg]? = some (.int c0) := Has.at Ha3 hin3 rfl
  refine Rest.via (fun t k => X2.baloadBytes hx (j := (0 : Int32)) (v := (.int c0)) (by rw [e2]; exact Ar3.1) (State.isArrayOf_alike hZ.alike Ar3.2.1) Ar3.2.2 hin3 hat3 (g := (mkF m 8 #[.val (.ref a0), .val (.int (0 : Int32))] [(.int (0 : Int32)), (.ref a0)])) rfl rfl (hb hby d7_8) t k) ?_
  show Rest p.tables e below s _ _ _ (T2.setTop (mkF m 9 #[.val (.ref a0), .val (.int (0 : Int32))] [(.int c0)]))
  refine Rest.via (fun t k => XS.sipush X2.here hx rfl (hb hby d7_9) k) ?_
  show Rest p.tables e below s _ _ _ (T2.setTop (mkF m 12 #[.val (.ref a0), .val (.int (0 : Int32))] [(.int (255 : Int32)), (.int c0)]))
  refine Rest.via (fun t k => XS.iand X2.here hx rfl (hb hby d7_12) rfl k) ?_
  show Rest p.tables e below s _ _ _ (T2.setTop (mkF m 13 #[.val (.ref a0), .val (.int (0 : Int32))] [(.int (c0 &&& (255 : Int32)))]))
  refine Rest.via (fun t k => XS.i2c X2.here hx rfl (hb hby d7_13) rfl k) ?_
  show Rest p.tables e below s _ _ _ (T2.setTop (mkF m 14 #[.val (.ref a0), .val (.int (0 : Int32))] [(.int ((c0 &&& (255 : Int32)).toUInt32.toUInt16.toUInt32.toInt32))]))
  refine Rest.ret X2 (v := some (.int (nar .char ((c0 &&& (255 : Int32)).toUInt32.toUInt16.toUInt32.toInt32)))) (fun h => by rw [Bd.returns] at h; cases h) hlk (fun fs hr => retN X2 hx (t := .char) Bd.returns (by simp) (hb hby d7_14) hr) ?_ (by decide) (by decide)
  rw [e2]
  exact ⟨rfl, N2, rfl⟩
theorem d6_0 : decode jdk_42_method_154_code 0 = .ok (.getstatic 38, 3) := by decide +kernel
theorem d6_3 : decode jdk_42_method_154_code 3 = .ok (.ifCond .eq 14, 3) := by decide +kernel
theorem d6_6 : decode jdk_42_method_154_code 6 = .ok (.aload_n 0, 1) := by decide +kernel
theorem d6_7 : decode jdk_42_method_154_code 7 = .ok (.getfield 15, 3) := by decide +kernel
theorem d6_10 : decode jdk_42_method_154_code 10 = .ok (.ifCond .ne 7, 3) := by decide +kernel
theorem d6_13 : decode jdk_42_method_154_code 13 = .ok (.iconst 1, 1) := by decide +kernel
theorem d6_14 : decode jdk_42_method_154_code 14 = .ok (.goto 4, 3) := by decide +kernel
theorem d6_18 : decode jdk_42_method_154_code 18 = .ok (.ireturn, 1) := by decide +kernel
theorem ef_IL (m : MethodId) (a0 : Addr) : entryFrame m #[(.ref a0)] 1 = mkF m 0 #[.val (.ref a0)] [] := by first | (simp [entryFrame, mkF, argsToLocals, Value.category, maxLocals]; done) | rfl
def QIL (Z : State) (a0 : Addr) (ic : Int32) (h0 : Heap) (n0 : Nat) (v : Option Value) (h : Heap) (L : List Loc) : Prop := v = some (.int (1 : Int32)) ∧ Fr n0 L ∧ h = h0
set_option maxRecDepth 65536 in
set_option maxHeartbeats 40000000 in
theorem rmIL (l : Launch) (Z : State) (aw : Array Value) (hw : ∀ d ∈ tables_1, d.before aw Z = true) (ws : List Jvm.Cond) (a0 : Addr) (ic : Int32) (h0 : Heap) (n0 : Nat) (Z0 : n0 ≤ h0.size) (Sc : Sta Z h0 "java/lang/String" "COMPACT_STRINGS" "Z" (.int ic)) (hic : ¬ (ic = (0 : Int32))) (Fc : Fld Z h0 a0 "java/lang/String" "coder" "B" (.int (0 : Int32))) :
    MetFree l (⟨"java/lang/String", "isLatin1", "()Z"⟩ : MethodName) (head1 (Jvm.Cond.code (⟨"java/lang/String", "isLatin1", "()Z"⟩ : MethodName) jdk_42_method_154_code 1 (some .boolean) :: ws) ({ frames := 0, cells := 0, slots := 0, locals := 0 } : Room)) (fun a U => a = #[(.ref a0)] ∧ Z.Warmed39 U.vm ∧ U.heap = h0) (fun _ _ _ _ _ => True) (fun _ U o U' => ∃ v L, o = .returned v ∧ QIL Z a0 ic h0 n0 v U'.heap L ∧ FrameEnd U o U' L ({ frames := 0, cells := 0, slots := 0, locals := 0 } : Room).cells ({ frames := 0, cells := 0, slots := 0, locals := 0 } : Room).slots) := by
  refine MetFree.of_bodySF (plainFor_of_name pn_1) hisR ?_
  intro p e s m args below meth c s₁ Bd hml0 hP hK
  obtain ⟨rfl, hZ, hh⟩ := hP
  have hx := Bd.exec
  have hby := Bd.bytes
  have hml : c.maxLocals = 1 := hml0
  have hown : s.vm.findClass "java/lang/String" = some m.cls := findClass_of_methodNamed Bd.named
  have hnm := (name_of_methodNamed Bd.named Bd.method).1
  have hlk : meth.locks = false := BodyLoose.notSynchronized Bd
  have X0 : Stand p l e ({ frames := 0, cells := 0, slots := 0, locals := 0 } : Room) s m #[(.ref a0)] below meth c s₁ [] 0 0 := Stand.of_body Bd
  have eh0 : s₁.heap = h0 := by rw [← hh, Bd.state]; rfl
  have N0 := Fr.nil n0
  show Rest p.tables e below s (QIL Z a0 ic h0 n0) _ _ (s₁.setTop (entryFrame m #[(.ref a0)] 1))
  refine Rest.via (fun t k => castTop (ef_IL m a0) k) ?_
  show Rest p.tables e below s _ _ _ (s₁.setTop (mkF m 0 #[.val (.ref a0)] []))
  obtain ⟨T1, X1, e1, st1⟩ := getS2 X0 hx hZ hown (host := "") (Or.inl (hw _ (List.mem_of_getElem? (i := 39) rfl))) Via.refl eh0 Sc (g := (mkF m 0 #[.val (.ref a0)] [])) rfl (hb hby d6_0)
  refine Rest.via (fun t k => st1 t k) ?_
  show Rest p.tables e below s _ _ _ (T1.setTop (mkF m 3 #[.val (.ref a0)] [(.int ic)]))
  refine Rest.via (fun t k => XS.ifNo X1.here hx rfl (hb hby d6_3) rfl ((if0 _ _).trans (feq (hic : ¬ (ic = (0 : Int32)))).1) k) ?_
  show Rest p.tables e below s _ _ _ (T1.setTop (mkF m 6 #[.val (.ref a0)] []))
  refine Rest.via (fun t k => XS.aloadN X1.here hx rfl (hb hby d6_6) rfl rfl k) ?_
  show Rest p.tables e below s _ _ _ (T1.setTop (mkF m 7 #[.val (.ref a0)] [(.ref a0)]))
  obtain ⟨T2, X2, e2, st2⟩ := getF X1 hx hZ hown (host := "") (Or.inl (hw _ (List.mem_of_getElem? (i := 40) rfl))) Via.refl e1 Fc (g := (mkF m 7 #[.val (.ref a0)] [(.ref a0)])) rfl rfl (hb hby d6_7)
  refine Rest.via (fun t k => st2 t k) ?_
  show Rest p.tables e below s _ _ _ (T2.setTop (mkF m 10 #[.val (.ref a0)] [(.int (0 : Int32))]))
  refine Rest.via (fun t k => XS.ifNo X2.here hx rfl (hb hby d6_10) rfl ((if0 _ _).trans (teq (by decide : (0 : Int32) = (0 : Int32))).2) k) ?_
  show Rest p.tables e below s _ _ _ (T2.setTop (mkF m 13 #[.val (.ref a0)] []))
  refine Rest.via (fun t k => XS.iconst X2.here hx rfl (hb hby d6_13) k) ?_
  show Rest p.tables e below s _ _ _ (T2.setTop (mkF m 14 #[.val (.ref a0)] [(.int (1 : Int32))]))
  refine Rest.via (fun t k => XS.goto X2.here hx rfl (pc0 := 14) (pc' := 18) rfl (hb hby d6_14) (by decide) (by decide) k) ?_
  show Rest p.tables e below s _ _ _ (T2.setTop (mkF m 18 #[.val (.ref a0)] [(.int (1 : Int32))]))
  refine Rest.ret X2 (v := some (.int (nar .boolean (1 : Int32)))) (fun h => by rw [Bd.returns] at h; cases h) hlk (fun fs hr => retN X2 hx (t := .boolean) Bd.returns (by simp) (hb hby d6_18) hr) ?_ (by decide) (by decide)
  rw [e2]
  exact ⟨rfl, N0, rfl⟩
theorem pd_2 : parseMethodDescriptor "()Z" = some ⟨[], some .boolean⟩ := by decide +kernel
theorem pd_3 : parseMethodDescriptor "([BI)C" = some ⟨[(.array .byte), .int], some .char⟩ := by decide +kernel
theorem d5_0 : decode jdk_42_method_56_code 0 = .ok (.aload_n 0, 1) := by decide +kernel
theorem d5_1 : decode jdk_42_method_56_code 1 = .ok (.invokevirtual 492, 3) := by decide +kernel
theorem d5_4 : decode jdk_42_method_56_code 4 = .ok (.ifCond .eq 12, 3) := by decide +kernel
theorem d5_7 : decode jdk_42_method_56_code 7 = .ok (.aload_n 0, 1) := by decide +kernel
theorem d5_8 : decode jdk_42_method_56_code 8 = .ok (.getfield 9, 3) := by decide +kernel
theorem d5_11 : decode jdk_42_method_56_code 11 = .ok (.iload_n 1, 1) := by decide +kernel
theorem d5_12 : decode jdk_42_method_56_code 12 = .ok (.invokestatic 495, 3) := by decide +kernel
theorem d5_15 : decode jdk_42_method_56_code 15 = .ok (.ireturn, 1) := by decide +kernel
theorem ef_CA (m : MethodId) (a0 : Addr) : entryFrame m #[(.ref a0), (.int (0 : Int32))] 2 = mkF m 0 #[.val (.ref a0), .val (.int (0 : Int32))] [] := by first | (simp [entryFrame, mkF, argsToLocals, Value.category, maxLocals]; done) | rfl
def QCA (Z : State) (a0 : Addr) (va : Addr) (k : ClassId) (n : Int32) (c0 : Int32) (vs : List Value) (fm : Value) (ic : Int32) (h0 : Heap) (n0 : Nat) (v : Option Value) (h : Heap) (L : List Loc) : Prop := v = some (.int (own_cc c0)) ∧ Fr n0 L ∧ h = h0
set_option maxRecDepth 65536 in
set_option maxHeartbeats 40000000 in
theorem rmCA (l : Launch) (Z : State) (aw : Array Value) (hw : ∀ d ∈ tables_1, d.before aw Z = true) (ws : List Jvm.Cond) (a0 : Addr) (va : Addr) (k : ClassId) (n : Int32) (c0 : Int32) (vs : List Value) (fm : Value) (ic : Int32) (h0 : Heap) (n0 : Nat) (Z0 : n0 ≤ h0.size) (E0 : Exa Z h0 a0 "java/lang/String") (Fv : Fld Z h0 a0 "java/lang/String" "value" "[B" (.ref va)) (Fc : Fld Z h0 a0 "java/lang/String" "coder" "B" (.int (0 : Int32))) (V0 : Arv Z h0 va k .byte n ((.int c0) :: vs) (.int (0 : Int32))) (hn : (0 : Int32) < n) (hf : fm.isRef = true) (Sf : Sta Z h0 "jdk/internal/util/Preconditions" "SIOOBE_FORMATTER" "Ljava/util/function/BiFunction;" fm) (Sc : Sta Z h0 "java/lang/String" "COMPACT_STRINGS" "Z" (.int ic)) (hic : ¬ (ic = (0 : Int32))) :
    MetFree l (⟨"java/lang/String", "charAt", "(I)C"⟩ : MethodName) (head1 (Jvm.Cond.code (⟨"java/lang/String", "charAt", "(I)C"⟩ : MethodName) jdk_42_method_56_code 2 (some .char) :: ws) ({ frames := 3, cells := 0, slots := 0, locals := 40 } : Room)) (fun a U => a = #[(.ref a0), (.int (0 : Int32))] ∧ Z.Warmed39 U.vm ∧ U.heap = h0) (fun _ _ _ _ _ => True) (fun _ U o U' => ∃ v L, o = .returned v ∧ QCA Z a0 va k n c0 vs fm ic h0 n0 v U'.heap L ∧ FrameEnd U o U' L ({ frames := 3, cells := 0, slots := 0, locals := 40 } : Room).cells ({ frames := 3, cells := 0, slots := 0, locals := 40 } : Room).slots) := by
  refine MetFree.of_bodySF (plainFor_of_name pn_1) hisR ?_
  intro p e s m args below meth c s₁ Bd hml0 hP hK
  obtain ⟨rfl, hZ, hh⟩ := hP
  have hx := Bd.exec
  have hby := Bd.bytes
  have hml : c.maxLocals = 2 := hml0
  have hown : s.vm.findClass "java/lang/String" = some m.cls := findClass_of_methodNamed Bd.named
  have hnm := (name_of_methodNamed Bd.named Bd.method).1
  have hlk : meth.locks = false := BodyLoose.notSynchronized Bd
  have X0 : Stand p l e ({ frames := 3, cells := 0, slots := 0, locals := 40 } : Room) s m #[(.ref a0), (.int (0 : Int32))] below meth c s₁ [] 0 0 := Stand.of_body Bd
  have eh0 : s₁.heap = h0 := by rw [← hh, Bd.state]; rfl
  have N0 := Fr.nil n0
  show Rest p.tables e below s (QCA Z a0 va k n c0 vs fm ic h0 n0) _ _ (s₁.setTop (entryFrame m #[(.ref a0), (.int (0 : Int32))] 2))
  refine Rest.via (fun t k => castTop (ef_CA m a0) k) ?_
  show Rest p.tables e below s _ _ _ (s₁.setTop (mkF m 0 #[.val (.ref a0), .val (.int (0 : Int32))] []))
  refine Rest.via (fun t k => XS.aloadN X0.here hx rfl (hb hby d5_0) rfl rfl k) ?_
  show Rest p.tables e below s _ _ _ (s₁.setTop (mkF m 1 #[.val (.ref a0), .val (.int (0 : Int32))] [(.ref a0)]))
  obtain ⟨cq1, kq1, q1a, q1b, q1c⟩ := isOf hZ eh0 E0
  obtain ⟨_, _, ⟨T1, L1, k1, n1⟩, -, X1, ⟨Lc1, hQ1, l1, y1, z1⟩, st1⟩ := X0.virtualBack hx (y := (⟨"java/lang/String", "isLatin1", "()Z"⟩ : MethodName)) (z := (⟨"java/lang/String", "isLatin1", "()Z"⟩ : MethodName)) hown (mvT hZ (hw _ (List.mem_of_getElem? (i := 34) rfl))) (mvT hZ (hw _ (List.mem_of_getElem? (i := 35) rfl))) (notFace_of_selects (args := #[]) (mvT hZ (hw _ (List.mem_of_getElem? (i := 37) rfl)))) (mvT hZ (hw _ (List.mem_of_getElem? (i := 37) rfl))) (mvT hZ (hw _ (List.mem_of_getElem? (i := 36) rfl))) (by decide) (backOf (W := 0) (rmIL l Z aw hw [] a0 ic h0 n0 (Nat.le_trans Z0 (Keep.refl h0 []).1) Sc hic Fc) hZ (hw _ (List.mem_of_getElem? (i := 38) rfl)) (hw _ (List.mem_of_getElem? (i := 25) rfl)) (by decide) (by decide)) q1a q1c (g := (mkF m 1 #[.val (.ref a0), .val (.int (0 : Int32))] [(.ref a0)])) rfl (by rw [hml]; rfl) (Steps.refl _) (argsL := []) (rest := []) (lenOf pd_2 rfl) rfl (by show 2 * 0 + _ ≤ _; exact Nat.le_of_eq rfl) (hb hby d5_1) (fun _ _ => ⟨rfl, eh0, (by decide : 0 + 0 ≤ _), (by decide : 0 + 0 ≤ _)⟩)
  dsimp only [Pt.U, Pt.locs, Pt.cells, Pt.slots] at X1 l1 y1 z1 st1 hQ1
  subst l1 y1 z1
  obtain ⟨rfl, Nq1, e1⟩ := hQ1
  have N1 := Fr.app N0 Nq1
  refine Rest.via (fun t k => st1.trans k) ?_
  show Rest p.tables e below s _ _ _ (T1.setTop (mkF m 4 #[.val (.ref a0), .val (.int (0 : Int32))] [(.int (1 : Int32))]))
  refine Rest.via (fun t k => XS.ifNo X1.here hx rfl (hb hby d5_4) rfl ((if0 _ _).trans (feq (by decide : ¬ ((1 : Int32) = (0 : Int32)))).1) k) ?_
  show Rest p.tables e below s _ _ _ (T1.setTop (mkF m 7 #[.val (.ref a0), .val (.int (0 : Int32))] []))
  refine Rest.via (fun t k => XS.aloadN X1.here hx rfl (hb hby d5_7) rfl rfl k) ?_
  show Rest p.tables e below s _ _ _ (T1.setTop (mkF m 8 #[.val (.ref a0), .val (.int (0 : Int32))] [(.ref a0)]))
  obtain ⟨T2, X2, e2, st2⟩ := getF X1 hx hZ hown (host := "") (Or.inl (hw _ (List.mem_of_getElem? (i := 27) rfl))) Via.refl e1 Fv (g := (mkF m 8 #[.val (.ref a0), .val (.int (0 : Int32))] [(.ref a0)])) rfl rfl (hb hby d5_8)
  refine Rest.via (fun t k => st2 t k) ?_
  show Rest p.tables e below s _ _ _ (T2.setTop (mkF m 11 #[.val (.ref a0), .val (.int (0 : Int32))] [(.ref va)]))
  refine Rest.via (fun t k => XS.iloadN X2.here hx rfl (hb hby d5_11) rfl k) ?_
  show Rest p.tables e below s _ _ _ (T2.setTop (mkF m 12 #[.val (.ref a0), .val (.int (0 : Int32))] [(.int (0 : Int32)), (.ref va)]))
  obtain ⟨_, _, ⟨T3, L3, k3, n3⟩, -, X3, ⟨Lc3, hQ3, l3, y3, z3⟩, st3⟩ := Jvm.LawKit.callS X2 hx (y := (⟨"java/lang/StringLatin1", "charAt", "([BI)C"⟩ : MethodName)) hown (mvT hZ (hw _ (List.mem_of_getElem? (i := 42) rfl))) (mvT hZ (hw _ (List.mem_of_getElem? (i := 43) rfl))) (mvT hZ (hw _ (List.mem_of_getElem? (i := 44) rfl))) (mvT hZ (hw _ (List.mem_of_getElem? (i := 45) rfl))) (by decide) (backOf (W := 0) (rmLC l Z aw hw [] va k n c0 vs fm h0 n0 (Nat.le_trans Z0 (Keep.refl h0 []).1) V0 hn hf Sf) hZ (hw _ (List.mem_of_getElem? (i := 45) rfl)) (hw _ (List.mem_of_getElem? (i := 44) rfl)) (by decide) (by decide)) (g := (mkF m 12 #[.val (.ref a0), .val (.int (0 : Int32))] [(.int (0 : Int32)), (.ref va)])) rfl (by rw [hml]; rfl) (argsL := [(.ref va), (.int (0 : Int32))]) (rest := []) (lenOf pd_3 rfl) rfl (by show 2 * 0 + _ ≤ _; exact Nat.le_of_eq rfl) (hb hby d5_12) (fun _ _ => ⟨rfl, e2, (by decide : 0 + 0 ≤ _), (by decide : 0 + 0 ≤ _)⟩)
  dsimp only [Pt.U, Pt.locs, Pt.cells, Pt.slots] at X3 l3 y3 z3 st3 hQ3
  subst l3 y3 z3
  obtain ⟨rfl, Nq3, e3⟩ := hQ3
  have N3 := Fr.app N1 Nq3
  refine Rest.via (fun t k => st3 t k) ?_
  show Rest p.tables e below s _ _ _ (T3.setTop (mkF m 15 #[.val (.ref a0), .val (.int (0 : Int32))] [(.int (own_ch c0))]))
  refine Rest.ret X3 (v := some (.int (nar .char (own_ch c0)))) (fun h => by rw [Bd.returns] at h; cases h) hlk (fun fs hr => retN X3 hx (t := .char) Bd.returns (by simp) (hb hby d5_15) hr) ?_ (by decide) (by decide)
  rw [e3]
  exact ⟨rfl, N3, rfl⟩
theorem d4_0 : decode jdk_42_method_55_code 0 = .ok (.aload_n 0, 1) := by decide +kernel
theorem d4_1 : decode jdk_42_method_55_code 1 = .ok (.getfield 9, 3) := by decide +kernel
theorem d4_4 : decode jdk_42_method_55_code 4 = .ok (.arraylength, 1) := by decide +kernel
theorem d4_5 : decode jdk_42_method_55_code 5 = .ok (.ifCond .ne 7, 3) := by decide +kernel
theorem d4_12 : decode jdk_42_method_55_code 12 = .ok (.iconst 0, 1) := by decide +kernel
theorem d4_13 : decode jdk_42_method_55_code 13 = .ok (.ireturn, 1) := by decide +kernel
theorem ef_EM (m : MethodId) (a0 : Addr) : entryFrame m #[(.ref a0)] 1 = mkF m 0 #[.val (.ref a0)] [] := by first | (simp [entryFrame, mkF, argsToLocals, Value.category, maxLocals]; done) | rfl
def QEM (Z : State) (a0 : Addr) (va : Addr) (k : ClassId) (n : Int32) (c0 : Int32) (vs : List Value) (h0 : Heap) (n0 : Nat) (v : Option Value) (h : Heap) (L : List Loc) : Prop := v = some (.int (0 : Int32)) ∧ Fr n0 L ∧ h = h0
set_option maxRecDepth 65536 in
set_option maxHeartbeats 40000000 in
theorem rmEM (l : Launch) (Z : State) (aw : Array Value) (hw : ∀ d ∈ tables_1, d.before aw Z = true) (ws : List Jvm.Cond) (a0 : Addr) (va : Addr) (k : ClassId) (n : Int32) (c0 : Int32) (vs : List Value) (h0 : Heap) (n0 : Nat) (Z0 : n0 ≤ h0.size) (E0 : Exa Z h0 a0 "java/lang/String") (Fv : Fld Z h0 a0 "java/lang/String" "value" "[B" (.ref va)) (Fc : Fld Z h0 a0 "java/lang/String" "coder" "B" (.int (0 : Int32))) (V0 : Arv Z h0 va k .byte n ((.int c0) :: vs) (.int (0 : Int32))) (hn : (0 : Int32) < n) :
    MetFree l (⟨"java/lang/String", "isEmpty", "()Z"⟩ : MethodName) (head1 (Jvm.Cond.code (⟨"java/lang/String", "isEmpty", "()Z"⟩ : MethodName) jdk_42_method_55_code 1 (some .boolean) :: ws) ({ frames := 0, cells := 0, slots := 0, locals := 0 } : Room)) (fun a U => a = #[(.ref a0)] ∧ Z.Warmed39 U.vm ∧ U.heap = h0) (fun _ _ _ _ _ => True) (fun _ U o U' => ∃ v L, o = .returned v ∧ QEM Z a0 va k n c0 vs h0 n0 v U'.heap L ∧ FrameEnd U o U' L ({ frames := 0, cells := 0, slots := 0, locals := 0 } : Room).cells ({ frames := 0, cells := 0, slots := 0, locals := 0 } : Room).slots) := by
  refine MetFree.of_bodySF (plainFor_of_name pn_1) hisR ?_
  intro p e s m args below meth c s₁ Bd hml0 hP hK
  obtain ⟨rfl, hZ, hh⟩ := hP
  have hx := Bd.exec
  have hby := Bd.bytes
  have hml : c.maxLocals = 1 := hml0
  have hown : s.vm.findClass "java/lang/String" = some m.cls := findClass_of_methodNamed Bd.named
  have hnm := (name_of_methodNamed Bd.named Bd.method).1
  have hlk : meth.locks = false := BodyLoose.notSynchronized Bd
  have X0 : Stand p l e ({ frames := 0, cells := 0, slots := 0, locals := 0 } : Room) s m #[(.ref a0)] below meth c s₁ [] 0 0 := Stand.of_body Bd
  have eh0 : s₁.heap = h0 := by rw [← hh, Bd.state]; rfl
  have N0 := Fr.nil n0
  show Rest p.tables e below s (QEM Z a0 va k n c0 vs h0 n0) _ _ (s₁.setTop (entryFrame m #[(.ref a0)] 1))
  refine Rest.via (fun t k => castTop (ef_EM m a0) k) ?_
  show Rest p.tables e below s _ _ _ (s₁.setTop (mkF m 0 #[.val (.ref a0)] []))
  refine Rest.via (fun t k => XS.aloadN X0.here hx rfl (hb hby d4_0) rfl rfl k) ?_
  show Rest p.tables e below s _ _ _ (s₁.setTop (mkF m 1 #[.val (.ref a0)] [(.ref a0)]))
  obtain ⟨T1, X1, e1, st1⟩ := getF X0 hx hZ hown (host := "") (Or.inl (hw _ (List.mem_of_getElem? (i := 27) rfl))) Via.refl eh0 Fv (g := (mkF m 1 #[.val (.ref a0)] [(.ref a0)])) rfl rfl (hb hby d4_1)
  refine Rest.via (fun t k => st1 t k) ?_
  show Rest p.tables e below s _ _ _ (T1.setTop (mkF m 4 #[.val (.ref a0)] [(.ref va)]))
  obtain ⟨cl2, Ar2, -, S2, P2, -, -⟩ := id V0
  refine Rest.via (fun t k => X1.arraylength hx (by rw [e1]; exact Ar2.1) (State.isArrayOf_alike hZ.alike Ar2.2.1) (g := (mkF m 4 #[.val (.ref a0)] [(.ref va)])) rfl rfl (hb hby d4_4) t k) ?_
  rw [len_of S2 P2]
  show Rest p.tables e below s _ _ _ (T1.setTop (mkF m 5 #[.val (.ref a0)] [(.int n)]))
  refine Rest.via (fun t k => XS.ifYes X1.here hx rfl (pc0 := 5) (pc' := 12) rfl (hb hby d4_5) rfl ((if0 _ _).trans (feq (fun q => by subst q; exact absurd hn (by decide) : ¬ (n = (0 : Int32)))).2) (by decide) (by decide) k) ?_
  show Rest p.tables e below s _ _ _ (T1.setTop (mkF m 12 #[.val (.ref a0)] []))
  refine Rest.via (fun t k => XS.iconst X1.here hx rfl (hb hby d4_12) k) ?_
  show Rest p.tables e below s _ _ _ (T1.setTop (mkF m 13 #[.val (.ref a0)] [(.int (0 : Int32))]))
  refine Rest.ret X1 (v := some (.int (nar .boolean (0 : Int32)))) (fun h => by rw [Bd.returns] at h; cases h) hlk (fun fs hr => retN X1 hx (t := .boolean) Bd.returns (by simp) (hb hby d4_13) hr) ?_ (by decide) (by decide)
  rw [e1]
  exact ⟨rfl, N0, rfl⟩
def own_S (Z : State) (h : Heap) (d : Addr) (n c0 : Int32) : Prop := ∃ (t va : Addr) (k : ClassId) (vs : List Value), Fld Z h d "com/example/zapros/zapros/model/Operator" "mSymbol" "Ljava/lang/String;" (.ref t) ∧ Exa Z h t "java/lang/String" ∧ Fld Z h t "java/lang/String" "value" "[B" (.ref va) ∧ Fld Z h t "java/lang/String" "coder" "B" (.int (0 : Int32)) ∧ Arv Z h va k .byte n ((.int c0) :: vs) (.int (0 : Int32))
theorem own_six (x : Int32) : ((x &&& (2147483647 : Int32)) % (6 : Int32)) = 0 ∨ ((x &&& (2147483647 : Int32)) % (6 : Int32)) = 1 ∨ ((x &&& (2147483647 : Int32)) % (6 : Int32)) = 2 ∨ ((x &&& (2147483647 : Int32)) % (6 : Int32)) = 3 ∨ ((x &&& (2147483647 : Int32)) % (6 : Int32)) = 4 ∨ ((x &&& (2147483647 : Int32)) % (6 : Int32)) = 5 := by
  have e := c_mask x 2147483647 31 (by decide) (by decide)
  have h1 := Int.emod_nonneg x.toInt (b := ((2 ^ 31 : Nat) : Int)) (by decide)
  have h2 := (c_irem (x &&& (2147483647 : Int32)) (6 : Int32) 6 (by decide)).1 (by omega)
  have e0 : (0 : Int32).toInt = 0 := by decide
  have e1 : (1 : Int32).toInt = 1 := by decide
  have e2 : (2 : Int32).toInt = 2 := by decide
  have e3 : (3 : Int32).toInt = 3 := by decide
  have e4 : (4 : Int32).toInt = 4 := by decide
  have e5 : (5 : Int32).toInt = 5 := by decide
  simp only [← Int32.toInt_inj, e0, e1, e2, e3, e4, e5]
  omega
theorem d1_0 : decode method_2_code 0 = .ok (.iload_n 0, 1) := by decide +kernel
theorem d1_1 : decode method_2_code 1 = .ok (.ifCond .ne 7, 3) := by decide +kernel
theorem d1_4 : decode method_2_code 4 = .ok (.getstatic 7, 3) := by decide +kernel
theorem d1_7 : decode method_2_code 7 = .ok (.areturn, 1) := by decide +kernel
theorem pn_3 : plainName "com/example/zapros/zapros/model/OperatorOrdersPinLaw" = true := by first | (simp [plainName, overriddenIn]; done) | decide +kernel
theorem ef_P0 (m : MethodId)  : entryFrame m #[(.int (0 : Int32))] 1 = mkF m 0 #[.val (.int (0 : Int32))] [] := by first | (simp [entryFrame, mkF, argsToLocals, Value.category, maxLocals]; done) | rfl
def QP0 (Z : State) (d0 : Addr) (d1 : Addr) (d2 : Addr) (d3 : Addr) (d4 : Addr) (d5 : Addr) (h0 : Heap) (n0 : Nat) (v : Option Value) (h : Heap) (L : List Loc) : Prop := v = some (.ref d0) ∧ Fr n0 L ∧ h = h0
set_option maxRecDepth 65536 in
set_option maxHeartbeats 40000000 in
theorem rmP0 (l : Launch) (Z : State) (aw : Array Value) (hw : ∀ d ∈ tables_1, d.before aw Z = true) (ws : List Jvm.Cond) (d0 : Addr) (d1 : Addr) (d2 : Addr) (d3 : Addr) (d4 : Addr) (d5 : Addr) (h0 : Heap) (n0 : Nat) (Z0 : n0 ≤ h0.size) (B : own_B Z h0 d0 d1 d2 d3 d4 d5) :
    MetFree l (⟨"com/example/zapros/zapros/model/OperatorOrdersPinLaw", "pick", "(I)Lcom/example/zapros/zapros/model/Operator;"⟩ : MethodName) (head1 (Jvm.Cond.code (⟨"com/example/zapros/zapros/model/OperatorOrdersPinLaw", "pick", "(I)Lcom/example/zapros/zapros/model/Operator;"⟩ : MethodName) method_2_code 1 (some (.object "com/example/zapros/zapros/model/Operator")) :: ws) ({ frames := 0, cells := 0, slots := 0, locals := 0 } : Room)) (fun a U => a = #[(.int (0 : Int32))] ∧ Z.Warmed39 U.vm ∧ U.heap = h0) (fun _ _ _ _ _ => True) (fun _ U o U' => ∃ v L, o = .returned v ∧ QP0 Z d0 d1 d2 d3 d4 d5 h0 n0 v U'.heap L ∧ FrameEnd U o U' L ({ frames := 0, cells := 0, slots := 0, locals := 0 } : Room).cells ({ frames := 0, cells := 0, slots := 0, locals := 0 } : Room).slots) := by
  refine MetFree.of_bodySF (plainFor_of_name pn_3) hisR ?_
  intro p e s m args below meth c s₁ Bd hml0 hP hK
  obtain ⟨rfl, hZ, hh⟩ := hP
  have hx := Bd.exec
  have hby := Bd.bytes
  have hml : c.maxLocals = 1 := hml0
  have hown : s.vm.findClass "com/example/zapros/zapros/model/OperatorOrdersPinLaw" = some m.cls := findClass_of_methodNamed Bd.named
  have hnm := (name_of_methodNamed Bd.named Bd.method).1
  have hlk : meth.locks = false := BodyLoose.notSynchronized Bd
  have X0 : Stand p l e ({ frames := 0, cells := 0, slots := 0, locals := 0 } : Room) s m #[(.int (0 : Int32))] below meth c s₁ [] 0 0 := Stand.of_body Bd
  have eh0 : s₁.heap = h0 := by rw [← hh, Bd.state]; rfl
  have N0 := Fr.nil n0
  show Rest p.tables e below s (QP0 Z d0 d1 d2 d3 d4 d5 h0 n0) _ _ (s₁.setTop (entryFrame m #[(.int (0 : Int32))] 1))
  refine Rest.via (fun t k => castTop (ef_P0 m ) k) ?_
  have B0 := B
  obtain ⟨S0, E0, F0, S1, E1, F1, S2, E2, F2, S3, E3, F3, S4, E4, F4, S5, E5, F5, ne0_1, ne0_2, ne1_2, ne0_3, ne1_3, ne2_3, ne0_4, ne1_4, ne2_4, ne3_4, ne0_5, ne1_5, ne2_5, ne3_5, ne4_5⟩ := B0
  show Rest p.tables e below s _ _ _ (s₁.setTop (mkF m 0 #[.val (.int (0 : Int32))] []))
  refine Rest.via (fun t k => XS.iloadN X0.here hx rfl (hb hby d1_0) rfl k) ?_
  show Rest p.tables e below s _ _ _ (s₁.setTop (mkF m 1 #[.val (.int (0 : Int32))] [(.int (0 : Int32))]))
  refine Rest.via (fun t k => XS.ifNo X0.here hx rfl (hb hby d1_1) rfl ((if0 _ _).trans (teq (by decide : (0 : Int32) = (0 : Int32))).2) k) ?_
  show Rest p.tables e below s _ _ _ (s₁.setTop (mkF m 4 #[.val (.int (0 : Int32))] []))
  obtain ⟨T1, X1, e1, st1⟩ := getS2 X0 hx hZ hown (host := "") (Or.inl (hw _ (List.mem_of_getElem? (i := 5) rfl))) Via.refl eh0 S0 (g := (mkF m 4 #[.val (.int (0 : Int32))] [])) rfl (hb hby d1_4)
  refine Rest.via (fun t k => st1 t k) ?_
  show Rest p.tables e below s _ _ _ (T1.setTop (mkF m 7 #[.val (.int (0 : Int32))] [(.ref d0)]))
  refine Rest.ret X1 (v := some (.ref d0)) (fun h => by rw [Bd.returns] at h; cases h) hlk (fun fs hr => retOut X1 hx Bd.returns rfl (Or.inr (Or.inr (Or.inr (Or.inr ⟨rfl, rfl, rfl⟩)))) (hb hby d1_7) hr) ?_ (by decide) (by decide)
  rw [e1]
  exact ⟨rfl, N0, rfl⟩
theorem d2_0 : decode prog_9_method_5_code 0 = .ok (.aload_n 0, 1) := by decide +kernel
theorem d2_1 : decode prog_9_method_5_code 1 = .ok (.getstatic 3, 3) := by decide +kernel
theorem d2_4 : decode prog_9_method_5_code 4 = .ok (.if_acmp .eq 14, 3) := by decide +kernel
theorem d2_18 : decode prog_9_method_5_code 18 = .ok (.iconst 0, 1) := by decide +kernel
theorem d2_19 : decode prog_9_method_5_code 19 = .ok (.ireturn, 1) := by decide +kernel
theorem pn_4 : plainName "com/example/zapros/zapros/model/Operator" = true := by first | (simp [plainName, overriddenIn]; done) | decide +kernel
theorem ef_O0 (m : MethodId)  : entryFrame m #[(.ref d0)] 1 = mkF m 0 #[.val (.ref d0)] [] := by first | (simp [entryFrame, mkF, argsToLocals, Value.category, maxLocals]; done) | rfl
def QO0 (Z : State) (d0 : Addr) (d1 : Addr) (d2 : Addr) (d3 : Addr) (d4 : Addr) (d5 : Addr) (h0 : Heap) (n0 : Nat) (v : Option Value) (h : Heap) (L : List Loc) : Prop := v = some (.int (0 : Int32)) ∧ Fr n0 L ∧ h = h0
set_option maxRecDepth 65536 in
set_option maxHeartbeats 40000000 in
theorem rmO0 (l : Launch) (Z : State) (aw : Array Value) (hw : ∀ d ∈ tables_1, d.before aw Z = true) (ws : List Jvm.Cond) (d0 : Addr) (d1 : Addr) (d2 : Addr) (d3 : Addr) (d4 : Addr) (d5 : Addr) (h0 : Heap) (n0 : Nat) (Z0 : n0 ≤ h0.size) (B : own_B Z h0 d0 d1 d2 d3 d4 d5) :
    MetFree l (⟨"com/example/zapros/zapros/model/Operator", "orders", "()Z"⟩ : MethodName) (head1 (Jvm.Cond.code (⟨"com/example/zapros/zapros/model/Operator", "orders", "()Z"⟩ : MethodName) prog_9_method_5_code 1 (some .boolean) :: ws) ({ frames := 0, cells := 0, slots := 0, locals := 0 } : Room)) (fun a U => a = #[(.ref d0)] ∧ Z.Warmed39 U.vm ∧ U.heap = h0) (fun _ _ _ _ _ => True) (fun _ U o U' => ∃ v L, o = .returned v ∧ QO0 Z d0 d1 d2 d3 d4 d5 h0 n0 v U'.heap L ∧ FrameEnd U o U' L ({ frames := 0, cells := 0, slots := 0, locals := 0 } : Room).cells ({ frames := 0, cells := 0, slots := 0, locals := 0 } : Room).slots) := by
  refine MetFree.of_bodySF (plainFor_of_name pn_4) hisR ?_
  intro p e s m args below meth c s₁ Bd hml0 hP hK
  obtain ⟨rfl, hZ, hh⟩ := hP
  have hx := Bd.exec
  have hby := Bd.bytes
  have hml : c.maxLocals = 1 := hml0
  have hown : s.vm.findClass "com/example/zapros/zapros/model/Operator" = some m.cls := findClass_of_methodNamed Bd.named
  have hnm := (name_of_methodNamed Bd.named Bd.method).1
  have hlk : meth.locks = false := BodyLoose.notSynchronized Bd
  have X0 : Stand p l e ({ frames := 0, cells := 0, slots := 0, locals := 0 } : Room) s m #[(.ref d0)] below meth c s₁ [] 0 0 := Stand.of_body Bd
  have eh0 : s₁.heap = h0 := by rw [← hh, Bd.state]; rfl
  have N0 := Fr.nil n0
  show Rest p.tables e below s (QO0 Z d0 d1 d2 d3 d4 d5 h0 n0) _ _ (s₁.setTop (entryFrame m #[(.ref d0)] 1))
  refine Rest.via (fun t k => castTop (ef_O0 m ) k) ?_
  have B0 := B
  obtain ⟨S0, E0, F0, S1, E1, F1, S2, E2, F2, S3, E3, F3, S4, E4, F4, S5, E5, F5, ne0_1, ne0_2, ne1_2, ne0_3, ne1_3, ne2_3, ne0_4, ne1_4, ne2_4, ne3_4, ne0_5, ne1_5, ne2_5, ne3_5, ne4_5⟩ := B0
  show Rest p.tables e below s _ _ _ (s₁.setTop (mkF m 0 #[.val (.ref d0)] []))
  refine Rest.via (fun t k => XS.aloadN X0.here hx rfl (hb hby d2_0) rfl rfl k) ?_
  show Rest p.tables e below s _ _ _ (s₁.setTop (mkF m 1 #[.val (.ref d0)] [(.ref d0)]))
  obtain ⟨T1, X1, e1, st1⟩ := getS2 X0 hx hZ hown (host := "") (Or.inl (hw _ (List.mem_of_getElem? (i := 13) rfl))) Via.refl eh0 S0 (g := (mkF m 1 #[.val (.ref d0)] [(.ref d0)])) rfl (hb hby d2_1)
  refine Rest.via (fun t k => st1 t k) ?_
  show Rest p.tables e below s _ _ _ (T1.setTop (mkF m 4 #[.val (.ref d0)] [(.ref d0), (.ref d0)]))
  refine Rest.via (fun t k => Jvm.RoadKit.acmp (g := (mkF m 4 #[.val (.ref d0)] [(.ref d0), (.ref d0)])) X1 hx rfl rfl rfl (pc0 := 4) (pc' := 18) (same := true) rfl (hb hby d2_4) rfl (decide_eq_true rfl) (by decide) (by decide) k) ?_
  show Rest p.tables e below s _ _ _ (T1.setTop (mkF m 18 #[.val (.ref d0)] []))
  refine Rest.via (fun t k => XS.iconst X1.here hx rfl (hb hby d2_18) k) ?_
  show Rest p.tables e below s _ _ _ (T1.setTop (mkF m 19 #[.val (.ref d0)] [(.int (0 : Int32))]))
  refine Rest.ret X1 (v := some (.int (nar .boolean (0 : Int32)))) (fun h => by rw [Bd.returns] at h; cases h) hlk (fun fs hr => retN X1 hx (t := .boolean) Bd.returns (by simp) (hb hby d2_19) hr) ?_ (by decide) (by decide)
  rw [e1]
  exact ⟨rfl, N0, rfl⟩
theorem d1_8 : decode method_2_code 8 = .ok (.iload_n 0, 1) := by decide +kernel
theorem d1_9 : decode method_2_code 9 = .ok (.iconst 1, 1) := by decide +kernel
theorem d1_10 : decode method_2_code 10 = .ok (.if_icmp .ne 7, 3) := by decide +kernel
theorem d1_13 : decode method_2_code 13 = .ok (.getstatic 13, 3) := by decide +kernel
theorem d1_16 : decode method_2_code 16 = .ok (.areturn, 1) := by decide +kernel
theorem ef_P1 (m : MethodId)  : entryFrame m #[(.int (1 : Int32))] 1 = mkF m 0 #[.val (.int (1 : Int32))] [] := by first | (simp [entryFrame, mkF, argsToLocals, Value.category, maxLocals]; done) | rfl
def QP1 (Z : State) (d0 : Addr) (d1 : Addr) (d2 : Addr) (d3 : Addr) (d4 : Addr) (d5 : Addr) (h0 : Heap) (n0 : Nat) (v : Option Value) (h : Heap) (L : List Loc) : Prop := v = some (.ref d1) ∧ Fr n0 L ∧ h = h0
set_option maxRecDepth 65536 in
set_option maxHeartbeats 40000000 in
theorem rmP1 (l : Launch) (Z : State) (aw : Array Value) (hw : ∀ d ∈ tables_1, d.before aw Z = true) (ws : List Jvm.Cond) (d0 : Addr) (d1 : Addr) (d2 : Addr) (d3 : Addr) (d4 : Addr) (d5 : Addr) (h0 : Heap) (n0 : Nat) (Z0 : n0 ≤ h0.size) (B : own_B Z h0 d0 d1 d2 d3 d4 d5) :
    MetFree l (⟨"com/example/zapros/zapros/model/OperatorOrdersPinLaw", "pick", "(I)Lcom/example/zapros/zapros/model/Operator;"⟩ : MethodName) (head1 (Jvm.Cond.code (⟨"com/example/zapros/zapros/model/OperatorOrdersPinLaw", "pick", "(I)Lcom/example/zapros/zapros/model/Operator;"⟩ : MethodName) method_2_code 1 (some (.object "com/example/zapros/zapros/model/Operator")) :: ws) ({ frames := 0, cells := 0, slots := 0, locals := 0 } : Room)) (fun a U => a = #[(.int (1 : Int32))] ∧ Z.Warmed39 U.vm ∧ U.heap = h0) (fun _ _ _ _ _ => True) (fun _ U o U' => ∃ v L, o = .returned v ∧ QP1 Z d0 d1 d2 d3 d4 d5 h0 n0 v U'.heap L ∧ FrameEnd U o U' L ({ frames := 0, cells := 0, slots := 0, locals := 0 } : Room).cells ({ frames := 0, cells := 0, slots := 0, locals := 0 } : Room).slots) := by
  refine MetFree.of_bodySF (plainFor_of_name pn_3) hisR ?_
  intro p e s m args below meth c s₁ Bd hml0 hP hK
  obtain ⟨rfl, hZ, hh⟩ := hP
  have hx := Bd.exec
  have hby := Bd.bytes
  have hml : c.maxLocals = 1 := hml0
  have hown : s.vm.findClass "com/example/zapros/zapros/model/OperatorOrdersPinLaw" = some m.cls := findClass_of_methodNamed Bd.named
  have hnm := (name_of_methodNamed Bd.named Bd.method).1
  have hlk : meth.locks = false := BodyLoose.notSynchronized Bd
  have X0 : Stand p l e ({ frames := 0, cells := 0, slots := 0, locals := 0 } : Room) s m #[(.int (1 : Int32))] below meth c s₁ [] 0 0 := Stand.of_body Bd
  have eh0 : s₁.heap = h0 := by rw [← hh, Bd.state]; rfl
  have N0 := Fr.nil n0
  show Rest p.tables e below s (QP1 Z d0 d1 d2 d3 d4 d5 h0 n0) _ _ (s₁.setTop (entryFrame m #[(.int (1 : Int32))] 1))
  refine Rest.via (fun t k => castTop (ef_P1 m ) k) ?_
  have B0 := B
  obtain ⟨S0, E0, F0, S1, E1, F1, S2, E2, F2, S3, E3, F3, S4, E4, F4, S5, E5, F5, ne0_1, ne0_2, ne1_2, ne0_3, ne1_3, ne2_3, ne0_4, ne1_4, ne2_4, ne3_4, ne0_5, ne1_5, ne2_5, ne3_5, ne4_5⟩ := B0
  show Rest p.tables e below s _ _ _ (s₁.setTop (mkF m 0 #[.val (.int (1 : Int32))] []))
  refine Rest.via (fun t k => XS.iloadN X0.here hx rfl (hb hby d1_0) rfl k) ?_
  show Rest p.tables e below s _ _ _ (s₁.setTop (mkF m 1 #[.val (.int (1 : Int32))] [(.int (1 : Int32))]))
  refine Rest.via (fun t k => XS.ifYes X0.here hx rfl (pc0 := 1) (pc' := 8) rfl (hb hby d1_1) rfl ((if0 _ _).trans (feq (by decide : ¬ ((1 : Int32) = (0 : Int32)))).2) (by decide) (by decide) k) ?_
  show Rest p.tables e below s _ _ _ (s₁.setTop (mkF m 8 #[.val (.int (1 : Int32))] []))
  refine Rest.via (fun t k => XS.iloadN X0.here hx rfl (hb hby d1_8) rfl k) ?_
  show Rest p.tables e below s _ _ _ (s₁.setTop (mkF m 9 #[.val (.int (1 : Int32))] [(.int (1 : Int32))]))
  refine Rest.via (fun t k => XS.iconst X0.here hx rfl (hb hby d1_9) k) ?_
  show Rest p.tables e below s _ _ _ (s₁.setTop (mkF m 10 #[.val (.int (1 : Int32))] [(.int (1 : Int32)), (.int (1 : Int32))]))
  refine Rest.via (fun t k => XS.icmpNo X0.here hx rfl (hb hby d1_10) rfl (teq (by decide : (1 : Int32) = (1 : Int32))).2 k) ?_
  show Rest p.tables e below s _ _ _ (s₁.setTop (mkF m 13 #[.val (.int (1 : Int32))] []))
  obtain ⟨T1, X1, e1, st1⟩ := getS2 X0 hx hZ hown (host := "") (Or.inl (hw _ (List.mem_of_getElem? (i := 60) rfl))) Via.refl eh0 S1 (g := (mkF m 13 #[.val (.int (1 : Int32))] [])) rfl (hb hby d1_13)
  refine Rest.via (fun t k => st1 t k) ?_
  show Rest p.tables e below s _ _ _ (T1.setTop (mkF m 16 #[.val (.int (1 : Int32))] [(.ref d1)]))
  refine Rest.ret X1 (v := some (.ref d1)) (fun h => by rw [Bd.returns] at h; cases h) hlk (fun fs hr => retOut X1 hx Bd.returns rfl (Or.inr (Or.inr (Or.inr (Or.inr ⟨rfl, rfl, rfl⟩)))) (hb hby d1_16) hr) ?_ (by decide) (by decide)
  rw [e1]
  exact ⟨rfl, N0, rfl⟩
theorem d2_7 : decode prog_9_method_5_code 7 = .ok (.aload_n 0, 1) := by decide +kernel
theorem d2_8 : decode prog_9_method_5_code 8 = .ok (.getstatic 19, 3) := by decide +kernel
theorem d2_11 : decode prog_9_method_5_code 11 = .ok (.if_acmp .eq 7, 3) := by decide +kernel
theorem d2_14 : decode prog_9_method_5_code 14 = .ok (.iconst 1, 1) := by decide +kernel
theorem d2_15 : decode prog_9_method_5_code 15 = .ok (.goto 4, 3) := by decide +kernel
theorem ef_O1 (m : MethodId)  : entryFrame m #[(.ref d1)] 1 = mkF m 0 #[.val (.ref d1)] [] := by first | (simp [entryFrame, mkF, argsToLocals, Value.category, maxLocals]; done) | rfl
def QO1 (Z : State) (d0 : Addr) (d1 : Addr) (d2 : Addr) (d3 : Addr) (d4 : Addr) (d5 : Addr) (h0 : Heap) (n0 : Nat) (v : Option Value) (h : Heap) (L : List Loc) : Prop := v = some (.int (1 : Int32)) ∧ Fr n0 L ∧ h = h0
set_option maxRecDepth 65536 in
set_option maxHeartbeats 40000000 in
theorem rmO1 (l : Launch) (Z : State) (aw : Array Value) (hw : ∀ d ∈ tables_1, d.before aw Z = true) (ws : List Jvm.Cond) (d0 : Addr) (d1 : Addr) (d2 : Addr) (d3 : Addr) (d4 : Addr) (d5 : Addr) (h0 : Heap) (n0 : Nat) (Z0 : n0 ≤ h0.size) (B : own_B Z h0 d0 d1 d2 d3 d4 d5) :
    MetFree l (⟨"com/example/zapros/zapros/model/Operator", "orders", "()Z"⟩ : MethodName) (head1 (Jvm.Cond.code (⟨"com/example/zapros/zapros/model/Operator", "orders", "()Z"⟩ : MethodName) prog_9_method_5_code 1 (some .boolean) :: ws) ({ frames := 0, cells := 0, slots := 0, locals := 0 } : Room)) (fun a U => a = #[(.ref d1)] ∧ Z.Warmed39 U.vm ∧ U.heap = h0) (fun _ _ _ _ _ => True) (fun _ U o U' => ∃ v L, o = .returned v ∧ QO1 Z d0 d1 d2 d3 d4 d5 h0 n0 v U'.heap L ∧ FrameEnd U o U' L ({ frames := 0, cells := 0, slots := 0, locals := 0 } : Room).cells ({ frames := 0, cells := 0, slots := 0, locals := 0 } : Room).slots) := by
  refine MetFree.of_bodySF (plainFor_of_name pn_4) hisR ?_
  intro p e s m args below meth c s₁ Bd hml0 hP hK
  obtain ⟨rfl, hZ, hh⟩ := hP
  have hx := Bd.exec
  have hby := Bd.bytes
  have hml : c.maxLocals = 1 := hml0
  have hown : s.vm.findClass "com/example/zapros/zapros/model/Operator" = some m.cls := findClass_of_methodNamed Bd.named
  have hnm := (name_of_methodNamed Bd.named Bd.method).1
  have hlk : meth.locks = false := BodyLoose.notSynchronized Bd
  have X0 : Stand p l e ({ frames := 0, cells := 0, slots := 0, locals := 0 } : Room) s m #[(.ref d1)] below meth c s₁ [] 0 0 := Stand.of_body Bd
  have eh0 : s₁.heap = h0 := by rw [← hh, Bd.state]; rfl
  have N0 := Fr.nil n0
  show Rest p.tables e below s (QO1 Z d0 d1 d2 d3 d4 d5 h0 n0) _ _ (s₁.setTop (entryFrame m #[(.ref d1)] 1))
  refine Rest.via (fun t k => castTop (ef_O1 m ) k) ?_
  have B0 := B
  obtain ⟨S0, E0, F0, S1, E1, F1, S2, E2, F2, S3, E3, F3, S4, E4, F4, S5, E5, F5, ne0_1, ne0_2, ne1_2, ne0_3, ne1_3, ne2_3, ne0_4, ne1_4, ne2_4, ne3_4, ne0_5, ne1_5, ne2_5, ne3_5, ne4_5⟩ := B0
  show Rest p.tables e below s _ _ _ (s₁.setTop (mkF m 0 #[.val (.ref d1)] []))
  refine Rest.via (fun t k => XS.aloadN X0.here hx rfl (hb hby d2_0) rfl rfl k) ?_
  show Rest p.tables e below s _ _ _ (s₁.setTop (mkF m 1 #[.val (.ref d1)] [(.ref d1)]))
  obtain ⟨T1, X1, e1, st1⟩ := getS2 X0 hx hZ hown (host := "") (Or.inl (hw _ (List.mem_of_getElem? (i := 13) rfl))) Via.refl eh0 S0 (g := (mkF m 1 #[.val (.ref d1)] [(.ref d1)])) rfl (hb hby d2_1)
  refine Rest.via (fun t k => st1 t k) ?_
  show Rest p.tables e below s _ _ _ (T1.setTop (mkF m 4 #[.val (.ref d1)] [(.ref d0), (.ref d1)]))
  refine Rest.via (fun t k => Jvm.RoadKit.acmp (g := (mkF m 4 #[.val (.ref d1)] [(.ref d0), (.ref d1)])) X1 hx rfl rfl rfl (pc0 := 4) (pc' := 7) (same := false) rfl (hb hby d2_4) rfl (decide_eq_false fun q => (Ne.symm ne0_1) (Value.ref.inj q)) (by decide) (by decide) k) ?_
  show Rest p.tables e below s _ _ _ (T1.setTop (mkF m 7 #[.val (.ref d1)] []))
  refine Rest.via (fun t k => XS.aloadN X1.here hx rfl (hb hby d2_7) rfl rfl k) ?_
  show Rest p.tables e below s _ _ _ (T1.setTop (mkF m 8 #[.val (.ref d1)] [(.ref d1)]))
  obtain ⟨T2, X2, e2, st2⟩ := getS2 X1 hx hZ hown (host := "") (Or.inl (hw _ (List.mem_of_getElem? (i := 56) rfl))) Via.refl e1 S5 (g := (mkF m 8 #[.val (.ref d1)] [(.ref d1)])) rfl (hb hby d2_8)
  refine Rest.via (fun t k => st2 t k) ?_
  show Rest p.tables e below s _ _ _ (T2.setTop (mkF m 11 #[.val (.ref d1)] [(.ref d5), (.ref d1)]))
  refine Rest.via (fun t k => Jvm.RoadKit.acmp (g := (mkF m 11 #[.val (.ref d1)] [(.ref d5), (.ref d1)])) X2 hx rfl rfl rfl (pc0 := 11) (pc' := 14) (same := false) rfl (hb hby d2_11) rfl (decide_eq_false fun q => ne1_5 (Value.ref.inj q)) (by decide) (by decide) k) ?_
  show Rest p.tables e below s _ _ _ (T2.setTop (mkF m 14 #[.val (.ref d1)] []))
  refine Rest.via (fun t k => XS.iconst X2.here hx rfl (hb hby d2_14) k) ?_
  show Rest p.tables e below s _ _ _ (T2.setTop (mkF m 15 #[.val (.ref d1)] [(.int (1 : Int32))]))
  refine Rest.via (fun t k => XS.goto X2.here hx rfl (pc0 := 15) (pc' := 19) rfl (hb hby d2_15) (by decide) (by decide) k) ?_
  show Rest p.tables e below s _ _ _ (T2.setTop (mkF m 19 #[.val (.ref d1)] [(.int (1 : Int32))]))
  refine Rest.ret X2 (v := some (.int (nar .boolean (1 : Int32)))) (fun h => by rw [Bd.returns] at h; cases h) hlk (fun fs hr => retN X2 hx (t := .boolean) Bd.returns (by simp) (hb hby d2_19) hr) ?_ (by decide) (by decide)
  rw [e2]
  exact ⟨rfl, N0, rfl⟩
theorem d1_17 : decode method_2_code 17 = .ok (.iload_n 0, 1) := by decide +kernel
theorem d1_18 : decode method_2_code 18 = .ok (.iconst 2, 1) := by decide +kernel
theorem d1_19 : decode method_2_code 19 = .ok (.if_icmp .ne 7, 3) := by decide +kernel
theorem d1_22 : decode method_2_code 22 = .ok (.getstatic 16, 3) := by decide +kernel
theorem d1_25 : decode method_2_code 25 = .ok (.areturn, 1) := by decide +kernel
theorem ef_P2 (m : MethodId)  : entryFrame m #[(.int (2 : Int32))] 1 = mkF m 0 #[.val (.int (2 : Int32))] [] := by first | (simp [entryFrame, mkF, argsToLocals, Value.category, maxLocals]; done) | rfl
def QP2 (Z : State) (d0 : Addr) (d1 : Addr) (d2 : Addr) (d3 : Addr) (d4 : Addr) (d5 : Addr) (h0 : Heap) (n0 : Nat) (v : Option Value) (h : Heap) (L : List Loc) : Prop := v = some (.ref d2) ∧ Fr n0 L ∧ h = h0
set_option maxRecDepth 65536 in
set_option maxHeartbeats 40000000 in
theorem rmP2 (l : Launch) (Z : State) (aw : Array Value) (hw : ∀ d ∈ tables_1, d.before aw Z = true) (ws : List Jvm.Cond) (d0 : Addr) (d1 : Addr) (d2 : Addr) (d3 : Addr) (d4 : Addr) (d5 : Addr) (h0 : Heap) (n0 : Nat) (Z0 : n0 ≤ h0.size) (B : own_B Z h0 d0 d1 d2 d3 d4 d5) :
    MetFree l (⟨"com/example/zapros/zapros/model/OperatorOrdersPinLaw", "pick", "(I)Lcom/example/zapros/zapros/model/Operator;"⟩ : MethodName) (head1 (Jvm.Cond.code (⟨"com/example/zapros/zapros/model/OperatorOrdersPinLaw", "pick", "(I)Lcom/example/zapros/zapros/model/Operator;"⟩ : MethodName) method_2_code 1 (some (.object "com/example/zapros/zapros/model/Operator")) :: ws) ({ frames := 0, cells := 0, slots := 0, locals := 0 } : Room)) (fun a U => a = #[(.int (2 : Int32))] ∧ Z.Warmed39 U.vm ∧ U.heap = h0) (fun _ _ _ _ _ => True) (fun _ U o U' => ∃ v L, o = .returned v ∧ QP2 Z d0 d1 d2 d3 d4 d5 h0 n0 v U'.heap L ∧ FrameEnd U o U' L ({ frames := 0, cells := 0, slots := 0, locals := 0 } : Room).cells ({ frames := 0, cells := 0, slots := 0, locals := 0 } : Room).slots) := by
  refine MetFree.of_bodySF (plainFor_of_name pn_3) hisR ?_
  intro p e s m args below meth c s₁ Bd hml0 hP hK
  obtain ⟨rfl, hZ, hh⟩ := hP
  have hx := Bd.exec
  have hby := Bd.bytes
  have hml : c.maxLocals = 1 := hml0
  have hown : s.vm.findClass "com/example/zapros/zapros/model/OperatorOrdersPinLaw" = some m.cls := findClass_of_methodNamed Bd.named
  have hnm := (name_of_methodNamed Bd.named Bd.method).1
  have hlk : meth.locks = false := BodyLoose.notSynchronized Bd
  have X0 : Stand p l e ({ frames := 0, cells := 0, slots := 0, locals := 0 } : Room) s m #[(.int (2 : Int32))] below meth c s₁ [] 0 0 := Stand.of_body Bd
  have eh0 : s₁.heap = h0 := by rw [← hh, Bd.state]; rfl
  have N0 := Fr.nil n0
  show Rest p.tables e below s (QP2 Z d0 d1 d2 d3 d4 d5 h0 n0) _ _ (s₁.setTop (entryFrame m #[(.int (2 : Int32))] 1))
  refine Rest.via (fun t k => castTop (ef_P2 m ) k) ?_
  have B0 := B
  obtain ⟨S0, E0, F0, S1, E1, F1, S2, E2, F2, S3, E3, F3, S4, E4, F4, S5, E5, F5, ne0_1, ne0_2, ne1_2, ne0_3, ne1_3, ne2_3, ne0_4, ne1_4, ne2_4, ne3_4, ne0_5, ne1_5, ne2_5, ne3_5, ne4_5⟩ := B0
  show Rest p.tables e below s _ _ _ (s₁.setTop (mkF m 0 #[.val (.int (2 : Int32))] []))
  refine Rest.via (fun t k => XS.iloadN X0.here hx rfl (hb hby d1_0) rfl k) ?_
  show Rest p.tables e below s _ _ _ (s₁.setTop (mkF m 1 #[.val (.int (2 : Int32))] [(.int (2 : Int32))]))
  refine Rest.via (fun t k => XS.ifYes X0.here hx rfl (pc0 := 1) (pc' := 8) rfl (hb hby d1_1) rfl ((if0 _ _).trans (feq (by decide : ¬ ((2 : Int32) = (0 : Int32)))).2) (by decide) (by decide) k) ?_
  show Rest p.tables e below s _ _ _ (s₁.setTop (mkF m 8 #[.val (.int (2 : Int32))] []))
  refine Rest.via (fun t k => XS.iloadN X0.here hx rfl (hb hby d1_8) rfl k) ?_
  show Rest p.tables e below s _ _ _ (s₁.setTop (mkF m 9 #[.val (.int (2 : Int32))] [(.int (2 : Int32))]))
  refine Rest.via (fun t k => XS.iconst X0.here hx rfl (hb hby d1_9) k) ?_
  show Rest p.tables e below s _ _ _ (s₁.setTop (mkF m 10 #[.val (.int (2 : Int32))] [(.int (1 : Int32)), (.int (2 : Int32))]))
  refine Rest.via (fun t k => XS.icmpYes X0.here hx rfl (pc0 := 10) (pc' := 17) rfl (hb hby d1_10) rfl (feq (by decide : ¬ ((2 : Int32) = (1 : Int32)))).2 (by decide) (by decide) k) ?_
  show Rest p.tables e below s _ _ _ (s₁.setTop (mkF m 17 #[.val (.int (2 : Int32))] []))
  refine Rest.via (fun t k => XS.iloadN X0.here hx rfl (hb hby d1_17) rfl k) ?_
  show Rest p.tables e below s _ _ _ (s₁.setTop (mkF m 18 #[.val (.int (2 : Int32))] [(.int (2 : Int32))]))
  refine Rest.via (fun t k => XS.iconst X0.here hx rfl (hb hby d1_18) k) ?_
  show Rest p.tables e below s _ _ _ (s₁.setTop (mkF m 19 #[.val (.int (2 : Int32))] [(.int (2 : Int32)), (.int (2 : Int32))]))
  refine Rest.via (fun t k => XS.icmpNo X0.here hx rfl (hb hby d1_19) rfl (teq (by decide : (2 : Int32) = (2 : Int32))).2 k) ?_
  show Rest p.tables e below s _ _ _ (s₁.setTop (mkF m 22 #[.val (.int (2 : Int32))] []))
  obtain ⟨T1, X1, e1, st1⟩ := getS2 X0 hx hZ hown (host := "") (Or.inl (hw _ (List.mem_of_getElem? (i := 58) rfl))) Via.refl eh0 S2 (g := (mkF m 22 #[.val (.int (2 : Int32))] [])) rfl (hb hby d1_22)
  refine Rest.via (fun t k => st1 t k) ?_
  show Rest p.tables e below s _ _ _ (T1.setTop (mkF m 25 #[.val (.int (2 : Int32))] [(.ref d2)]))
  refine Rest.ret X1 (v := some (.ref d2)) (fun h => by rw [Bd.returns] at h; cases h) hlk (fun fs hr => retOut X1 hx Bd.returns rfl (Or.inr (Or.inr (Or.inr (Or.inr ⟨rfl, rfl, rfl⟩)))) (hb hby d1_25) hr) ?_ (by decide) (by decide)
  rw [e1]
  exact ⟨rfl, N0, rfl⟩
theorem ef_O2 (m : MethodId)  : entryFrame m #[(.ref d2)] 1 = mkF m 0 #[.val (.ref d2)] [] := by first | (simp [entryFrame, mkF, argsToLocals, Value.category, maxLocals]; done) | rfl
def QO2 (Z : State) (d0 : Addr) (d1 : Addr) (d2 : Addr) (d3 : Addr) (d4 : Addr) (d5 : Addr) (h0 : Heap) (n0 : Nat) (v : Option Value) (h : Heap) (L : List Loc) : Prop := v = some (.int (1 : Int32)) ∧ Fr n0 L ∧ h = h0
set_option maxRecDepth 65536 in
set_option maxHeartbeats 40000000 in
theorem rmO2 (l : Launch) (Z : State) (aw : Array Value) (hw : ∀ d ∈ tables_1, d.before aw Z = true) (ws : List Jvm.Cond) (d0 : Addr) (d1 : Addr) (d2 : Addr) (d3 : Addr) (d4 : Addr) (d5 : Addr) (h0 : Heap) (n0 : Nat) (Z0 : n0 ≤ h0.size) (B : own_B Z h0 d0 d1 d2 d3 d4 d5) :
    MetFree l (⟨"com/example/zapros/zapros/model/Operator", "orders", "()Z"⟩ : MethodName) (head1 (Jvm.Cond.code (⟨"com/example/zapros/zapros/model/Operator", "orders", "()Z"⟩ : MethodName) prog_9_method_5_code 1 (some .boolean) :: ws) ({ frames := 0, cells := 0, slots := 0, locals := 0 } : Room)) (fun a U => a = #[(.ref d2)] ∧ Z.Warmed39 U.vm ∧ U.heap = h0) (fun _ _ _ _ _ => True) (fun _ U o U' => ∃ v L, o = .returned v ∧ QO2 Z d0 d1 d2 d3 d4 d5 h0 n0 v U'.heap L ∧ FrameEnd U o U' L ({ frames := 0, cells := 0, slots := 0, locals := 0 } : Room).cells ({ frames := 0, cells := 0, slots := 0, locals := 0 } : Room).slots) := by
  refine MetFree.of_bodySF (plainFor_of_name pn_4) hisR ?_
  intro p e s m args below meth c s₁ Bd hml0 hP hK
  obtain ⟨rfl, hZ, hh⟩ := hP
  have hx := Bd.exec
  have hby := Bd.bytes
  have hml : c.maxLocals = 1 := hml0
  have hown : s.vm.findClass "com/example/zapros/zapros/model/Operator" = some m.cls := findClass_of_methodNamed Bd.named
  have hnm := (name_of_methodNamed Bd.named Bd.method).1
  have hlk : meth.locks = false := BodyLoose.notSynchronized Bd
  have X0 : Stand p l e ({ frames := 0, cells := 0, slots := 0, locals := 0 } : Room) s m #[(.ref d2)] below meth c s₁ [] 0 0 := Stand.of_body Bd
  have eh0 : s₁.heap = h0 := by rw [← hh, Bd.state]; rfl
  have N0 := Fr.nil n0
  show Rest p.tables e below s (QO2 Z d0 d1 d2 d3 d4 d5 h0 n0) _ _ (s₁.setTop (entryFrame m #[(.ref d2)] 1))
  refine Rest.via (fun t k => castTop (ef_O2 m ) k) ?_
  have B0 := B
  obtain ⟨S0, E0, F0, S1, E1, F1, S2, E2, F2, S3, E3, F3, S4, E4, F4, S5, E5, F5, ne0_1, ne0_2, ne1_2, ne0_3, ne1_3, ne2_3, ne0_4, ne1_4, ne2_4, ne3_4, ne0_5, ne1_5, ne2_5, ne3_5, ne4_5⟩ := B0
  show Rest p.tables e below s _ _ _ (s₁.setTop (mkF m 0 #[.val (.ref d2)] []))
  refine Rest.via (fun t k => XS.aloadN X0.here hx rfl (hb hby d2_0) rfl rfl k) ?_
  show Rest p.tables e below s _ _ _ (s₁.setTop (mkF m 1 #[.val (.ref d2)] [(.ref d2)]))
  obtain ⟨T1, X1, e1, st1⟩ := getS2 X0 hx hZ hown (host := "") (Or.inl (hw _ (List.mem_of_getElem? (i := 13) rfl))) Via.refl eh0 S0 (g := (mkF m 1 #[.val (.ref d2)] [(.ref d2)])) rfl (hb hby d2_1)
  refine Rest.via (fun t k => st1 t k) ?_
  show Rest p.tables e below s _ _ _ (T1.setTop (mkF m 4 #[.val (.ref d2)] [(.ref d0), (.ref d2)]))
  refine Rest.via (fun t k => Jvm.RoadKit.acmp (g := (mkF m 4 #[.val (.ref d2)] [(.ref d0), (.ref d2)])) X1 hx rfl rfl rfl (pc0 := 4) (pc' := 7) (same := false) rfl (hb hby d2_4) rfl (decide_eq_false fun q => (Ne.symm ne0_2) (Value.ref.inj q)) (by decide) (by decide) k) ?_
  show Rest p.tables e below s _ _ _ (T1.setTop (mkF m 7 #[.val (.ref d2)] []))
  refine Rest.via (fun t k => XS.aloadN X1.here hx rfl (hb hby d2_7) rfl rfl k) ?_
  show Rest p.tables e below s _ _ _ (T1.setTop (mkF m 8 #[.val (.ref d2)] [(.ref d2)]))
  obtain ⟨T2, X2, e2, st2⟩ := getS2 X1 hx hZ hown (host := "") (Or.inl (hw _ (List.mem_of_getElem? (i := 56) rfl))) Via.refl e1 S5 (g := (mkF m 8 #[.val (.ref d2)] [(.ref d2)])) rfl (hb hby d2_8)
  refine Rest.via (fun t k => st2 t k) ?_
  show Rest p.tables e below s _ _ _ (T2.setTop (mkF m 11 #[.val (.ref d2)] [(.ref d5), (.ref d2)]))
  refine Rest.via (fun t k => Jvm.RoadKit.acmp (g := (mkF m 11 #[.val (.ref d2)] [(.ref d5), (.ref d2)])) X2 hx rfl rfl rfl (pc0 := 11) (pc' := 14) (same := false) rfl (hb hby d2_11) rfl (decide_eq_false fun q => ne2_5 (Value.ref.inj q)) (by decide) (by decide) k) ?_
  show Rest p.tables e below s _ _ _ (T2.setTop (mkF m 14 #[.val (.ref d2)] []))
  refine Rest.via (fun t k => XS.iconst X2.here hx rfl (hb hby d2_14) k) ?_
  show Rest p.tables e below s _ _ _ (T2.setTop (mkF m 15 #[.val (.ref d2)] [(.int (1 : Int32))]))
  refine Rest.via (fun t k => XS.goto X2.here hx rfl (pc0 := 15) (pc' := 19) rfl (hb hby d2_15) (by decide) (by decide) k) ?_
  show Rest p.tables e below s _ _ _ (T2.setTop (mkF m 19 #[.val (.ref d2)] [(.int (1 : Int32))]))
  refine Rest.ret X2 (v := some (.int (nar .boolean (1 : Int32)))) (fun h => by rw [Bd.returns] at h; cases h) hlk (fun fs hr => retN X2 hx (t := .boolean) Bd.returns (by simp) (hb hby d2_19) hr) ?_ (by decide) (by decide)
  rw [e2]
  exact ⟨rfl, N0, rfl⟩
theorem d1_26 : decode method_2_code 26 = .ok (.iload_n 0, 1) := by decide +kernel
theorem d1_27 : decode method_2_code 27 = .ok (.iconst 3, 1) := by decide +kernel
theorem d1_28 : decode method_2_code 28 = .ok (.if_icmp .ne 7, 3) := by decide +kernel
theorem d1_31 : decode method_2_code 31 = .ok (.getstatic 19, 3) := by decide +kernel
theorem d1_34 : decode method_2_code 34 = .ok (.areturn, 1) := by decide +kernel
theorem ef_P3 (m : MethodId)  : entryFrame m #[(.int (3 : Int32))] 1 = mkF m 0 #[.val (.int (3 : Int32))] [] := by first | (simp [entryFrame, mkF, argsToLocals, Value.category, maxLocals]; done) | rfl
def QP3 (Z : State) (d0 : Addr) (d1 : Addr) (d2 : Addr) (d3 : Addr) (d4 : Addr) (d5 : Addr) (h0 : Heap) (n0 : Nat) (v : Option Value) (h : Heap) (L : List Loc) : Prop := v = some (.ref d3) ∧ Fr n0 L ∧ h = h0
set_option maxRecDepth 65536 in
set_option maxHeartbeats 40000000 in
theorem rmP3 (l : Launch) (Z : State) (aw : Array Value) (hw : ∀ d ∈ tables_1, d.before aw Z = true) (ws : List Jvm.Cond) (d0 : Addr) (d1 : Addr) (d2 : Addr) (d3 : Addr) (d4 : Addr) (d5 : Addr) (h0 : Heap) (n0 : Nat) (Z0 : n0 ≤ h0.size) (B : own_B Z h0 d0 d1 d2 d3 d4 d5) :
    MetFree l (⟨"com/example/zapros/zapros/model/OperatorOrdersPinLaw", "pick", "(I)Lcom/example/zapros/zapros/model/Operator;"⟩ : MethodName) (head1 (Jvm.Cond.code (⟨"com/example/zapros/zapros/model/OperatorOrdersPinLaw", "pick", "(I)Lcom/example/zapros/zapros/model/Operator;"⟩ : MethodName) method_2_code 1 (some (.object "com/example/zapros/zapros/model/Operator")) :: ws) ({ frames := 0, cells := 0, slots := 0, locals := 0 } : Room)) (fun a U => a = #[(.int (3 : Int32))] ∧ Z.Warmed39 U.vm ∧ U.heap = h0) (fun _ _ _ _ _ => True) (fun _ U o U' => ∃ v L, o = .returned v ∧ QP3 Z d0 d1 d2 d3 d4 d5 h0 n0 v U'.heap L ∧ FrameEnd U o U' L ({ frames := 0, cells := 0, slots := 0, locals := 0 } : Room).cells ({ frames := 0, cells := 0, slots := 0, locals := 0 } : Room).slots) := by
  refine MetFree.of_bodySF (plainFor_of_name pn_3) hisR ?_
  intro p e s m args below meth c s₁ Bd hml0 hP hK
  obtain ⟨rfl, hZ, hh⟩ := hP
  have hx := Bd.exec
  have hby := Bd.bytes
  have hml : c.maxLocals = 1 := hml0
  have hown : s.vm.findClass "com/example/zapros/zapros/model/OperatorOrdersPinLaw" = some m.cls := findClass_of_methodNamed Bd.named
  have hnm := (name_of_methodNamed Bd.named Bd.method).1
  have hlk : meth.locks = false := BodyLoose.notSynchronized Bd
  have X0 : Stand p l e ({ frames := 0, cells := 0, slots := 0, locals := 0 } : Room) s m #[(.int (3 : Int32))] below meth c s₁ [] 0 0 := Stand.of_body Bd
  have eh0 : s₁.heap = h0 := by rw [← hh, Bd.state]; rfl
  have N0 := Fr.nil n0
  show Rest p.tables e below s (QP3 Z d0 d1 d2 d3 d4 d5 h0 n0) _ _ (s₁.setTop (entryFrame m #[(.int (3 : Int32))] 1))
  refine Rest.via (fun t k => castTop (ef_P3 m ) k) ?_
  have B0 := B
  obtain ⟨S0, E0, F0, S1, E1, F1, S2, E2, F2, S3, E3, F3, S4, E4, F4, S5, E5, F5, ne0_1, ne0_2, ne1_2, ne0_3, ne1_3, ne2_3, ne0_4, ne1_4, ne2_4, ne3_4, ne0_5, ne1_5, ne2_5, ne3_5, ne4_5⟩ := B0
  show Rest p.tables e below s _ _ _ (s₁.setTop (mkF m 0 #[.val (.int (3 : Int32))] []))
  refine Rest.via (fun t k => XS.iloadN X0.here hx rfl (hb hby d1_0) rfl k) ?_
  show Rest p.tables e below s _ _ _ (s₁.setTop (mkF m 1 #[.val (.int (3 : Int32))] [(.int (3 : Int32))]))
  refine Rest.via (fun t k => XS.ifYes X0.here hx rfl (pc0 := 1) (pc' := 8) rfl (hb hby d1_1) rfl ((if0 _ _).trans (feq (by decide : ¬ ((3 : Int32) = (0 : Int32)))).2) (by decide) (by decide) k) ?_
  show Rest p.tables e below s _ _ _ (s₁.setTop (mkF m 8 #[.val (.int (3 : Int32))] []))
  refine Rest.via (fun t k => XS.iloadN X0.here hx rfl (hb hby d1_8) rfl k) ?_
  show Rest p.tables e below s _ _ _ (s₁.setTop (mkF m 9 #[.val (.int (3 : Int32))] [(.int (3 : Int32))]))
  refine Rest.via (fun t k => XS.iconst X0.here hx rfl (hb hby d1_9) k) ?_
  show Rest p.tables e below s _ _ _ (s₁.setTop (mkF m 10 #[.val (.int (3 : Int32))] [(.int (1 : Int32)), (.int (3 : Int32))]))
  refine Rest.via (fun t k => XS.icmpYes X0.here hx rfl (pc0 := 10) (pc' := 17) rfl (hb hby d1_10) rfl (feq (by decide : ¬ ((3 : Int32) = (1 : Int32)))).2 (by decide) (by decide) k) ?_
  show Rest p.tables e below s _ _ _ (s₁.setTop (mkF m 17 #[.val (.int (3 : Int32))] []))
  refine Rest.via (fun t k => XS.iloadN X0.here hx rfl (hb hby d1_17) rfl k) ?_
  show Rest p.tables e below s _ _ _ (s₁.setTop (mkF m 18 #[.val (.int (3 : Int32))] [(.int (3 : Int32))]))
  refine Rest.via (fun t k => XS.iconst X0.here hx rfl (hb hby d1_18) k) ?_
  show Rest p.tables e below s _ _ _ (s₁.setTop (mkF m 19 #[.val (.int (3 : Int32))] [(.int (2 : Int32)), (.int (3 : Int32))]))
  refine Rest.via (fun t k => XS.icmpYes X0.here hx rfl (pc0 := 19) (pc' := 26) rfl (hb hby d1_19) rfl (feq (by decide : ¬ ((3 : Int32) = (2 : Int32)))).2 (by decide) (by decide) k) ?_
  show Rest p.tables e below s _ _ _ (s₁.setTop (mkF m 26 #[.val (.int (3 : Int32))] []))
  refine Rest.via (fun t k => XS.iloadN X0.here hx rfl (hb hby d1_26) rfl k) ?_
  show Rest p.tables e below s _ _ _ (s₁.setTop (mkF m 27 #[.val (.int (3 : Int32))] [(.int (3 : Int32))]))
  refine Rest.via (fun t k => XS.iconst X0.here hx rfl (hb hby d1_27) k) ?_
  show Rest p.tables e below s _ _ _ (s₁.setTop (mkF m 28 #[.val (.int (3 : Int32))] [(.int (3 : Int32)), (.int (3 : Int32))]))
  refine Rest.via (fun t k => XS.icmpNo X0.here hx rfl (hb hby d1_28) rfl (teq (by decide : (3 : Int32) = (3 : Int32))).2 k) ?_
  show Rest p.tables e below s _ _ _ (s₁.setTop (mkF m 31 #[.val (.int (3 : Int32))] []))
  obtain ⟨T1, X1, e1, st1⟩ := getS2 X0 hx hZ hown (host := "") (Or.inl (hw _ (List.mem_of_getElem? (i := 54) rfl))) Via.refl eh0 S3 (g := (mkF m 31 #[.val (.int (3 : Int32))] [])) rfl (hb hby d1_31)
  refine Rest.via (fun t k => st1 t k) ?_
  show Rest p.tables e below s _ _ _ (T1.setTop (mkF m 34 #[.val (.int (3 : Int32))] [(.ref d3)]))
  refine Rest.ret X1 (v := some (.ref d3)) (fun h => by rw [Bd.returns] at h; cases h) hlk (fun fs hr => retOut X1 hx Bd.returns rfl (Or.inr (Or.inr (Or.inr (Or.inr ⟨rfl, rfl, rfl⟩)))) (hb hby d1_34) hr) ?_ (by decide) (by decide)
  rw [e1]
  exact ⟨rfl, N0, rfl⟩
theorem ef_O3 (m : MethodId)  : entryFrame m #[(.ref d3)] 1 = mkF m 0 #[.val (.ref d3)] [] := by first | (simp [entryFrame, mkF, argsToLocals, Value.category, maxLocals]; done) | rfl
def QO3 (Z : State) (d0 : Addr) (d1 : Addr) (d2 : Addr) (d3 : Addr) (d4 : Addr) (d5 : Addr) (h0 : Heap) (n0 : Nat) (v : Option Value) (h : Heap) (L : List Loc) : Prop := v = some (.int (1 : Int32)) ∧ Fr n0 L ∧ h = h0
set_option maxRecDepth 65536 in
set_option maxHeartbeats 40000000 in
theorem rmO3 (l : Launch) (Z : State) (aw : Array Value) (hw : ∀ d ∈ tables_1, d.before aw Z = true) (ws : List Jvm.Cond) (d0 : Addr) (d1 : Addr) (d2 : Addr) (d3 : Addr) (d4 : Addr) (d5 : Addr) (h0 : Heap) (n0 : Nat) (Z0 : n0 ≤ h0.size) (B : own_B Z h0 d0 d1 d2 d3 d4 d5) :
    MetFree l (⟨"com/example/zapros/zapros/model/Operator", "orders", "()Z"⟩ : MethodName) (head1 (Jvm.Cond.code (⟨"com/example/zapros/zapros/model/Operator", "orders", "()Z"⟩ : MethodName) prog_9_method_5_code 1 (some .boolean) :: ws) ({ frames := 0, cells := 0, slots := 0, locals := 0 } : Room)) (fun a U => a = #[(.ref d3)] ∧ Z.Warmed39 U.vm ∧ U.heap = h0) (fun _ _ _ _ _ => True) (fun _ U o U' => ∃ v L, o = .returned v ∧ QO3 Z d0 d1 d2 d3 d4 d5 h0 n0 v U'.heap L ∧ FrameEnd U o U' L ({ frames := 0, cells := 0, slots := 0, locals := 0 } : Room).cells ({ frames := 0, cells := 0, slots := 0, locals := 0 } : Room).slots) := by
  refine MetFree.of_bodySF (plainFor_of_name pn_4) hisR ?_
  intro p e s m args below meth c s₁ Bd hml0 hP hK
  obtain ⟨rfl, hZ, hh⟩ := hP
  have hx := Bd.exec
  have hby := Bd.bytes
  have hml : c.maxLocals = 1 := hml0
  have hown : s.vm.findClass "com/example/zapros/zapros/model/Operator" = some m.cls := findClass_of_methodNamed Bd.named
  have hnm := (name_of_methodNamed Bd.named Bd.method).1
  have hlk : meth.locks = false := BodyLoose.notSynchronized Bd
  have X0 : Stand p l e ({ frames := 0, cells := 0, slots := 0, locals := 0 } : Room) s m #[(.ref d3)] below meth c s₁ [] 0 0 := Stand.of_body Bd
  have eh0 : s₁.heap = h0 := by rw [← hh, Bd.state]; rfl
  have N0 := Fr.nil n0
  show Rest p.tables e below s (QO3 Z d0 d1 d2 d3 d4 d5 h0 n0) _ _ (s₁.setTop (entryFrame m #[(.ref d3)] 1))
  refine Rest.via (fun t k => castTop (ef_O3 m ) k) ?_
  have B0 := B
  obtain ⟨S0, E0, F0, S1, E1, F1, S2, E2, F2, S3, E3, F3, S4, E4, F4, S5, E5, F5, ne0_1, ne0_2, ne1_2, ne0_3, ne1_3, ne2_3, ne0_4, ne1_4, ne2_4, ne3_4, ne0_5, ne1_5, ne2_5, ne3_5, ne4_5⟩ := B0
  show Rest p.tables e below s _ _ _ (s₁.setTop (mkF m 0 #[.val (.ref d3)] []))
  refine Rest.via (fun t k => XS.aloadN X0.here hx rfl (hb hby d2_0) rfl rfl k) ?_
  show Rest p.tables e below s _ _ _ (s₁.setTop (mkF m 1 #[.val (.ref d3)] [(.ref d3)]))
  obtain ⟨T1, X1, e1, st1⟩ := getS2 X0 hx hZ hown (host := "") (Or.inl (hw _ (List.mem_of_getElem? (i := 13) rfl))) Via.refl eh0 S0 (g := (mkF m 1 #[.val (.ref d3)] [(.ref d3)])) rfl (hb hby d2_1)
  refine Rest.via (fun t k => st1 t k) ?_
  show Rest p.tables e below s _ _ _ (T1.setTop (mkF m 4 #[.val (.ref d3)] [(.ref d0), (.ref d3)]))
  refine Rest.via (fun t k => Jvm.RoadKit.acmp (g := (mkF m 4 #[.val (.ref d3)] [(.ref d0), (.ref d3)])) X1 hx rfl rfl rfl (pc0 := 4) (pc' := 7) (same := false) rfl (hb hby d2_4) rfl (decide_eq_false fun q => (Ne.symm ne0_3) (Value.ref.inj q)) (by decide) (by decide) k) ?_
  show Rest p.tables e below s _ _ _ (T1.setTop (mkF m 7 #[.val (.ref d3)] []))
  refine Rest.via (fun t k => XS.aloadN X1.here hx rfl (hb hby d2_7) rfl rfl k) ?_
  show Rest p.tables e below s _ _ _ (T1.setTop (mkF m 8 #[.val (.ref d3)] [(.ref d3)]))
  obtain ⟨T2, X2, e2, st2⟩ := getS2 X1 hx hZ hown (host := "") (Or.inl (hw _ (List.mem_of_getElem? (i := 56) rfl))) Via.refl e1 S5 (g := (mkF m 8 #[.val (.ref d3)] [(.ref d3)])) rfl (hb hby d2_8)
  refine Rest.via (fun t k => st2 t k) ?_
  show Rest p.tables e below s _ _ _ (T2.setTop (mkF m 11 #[.val (.ref d3)] [(.ref d5), (.ref d3)]))
  refine Rest.via (fun t k => Jvm.RoadKit.acmp (g := (mkF m 11 #[.val (.ref d3)] [(.ref d5), (.ref d3)])) X2 hx rfl rfl rfl (pc0 := 11) (pc' := 14) (same := false) rfl (hb hby d2_11) rfl (decide_eq_false fun q => ne3_5 (Value.ref.inj q)) (by decide) (by decide) k) ?_
  show Rest p.tables e below s _ _ _ (T2.setTop (mkF m 14 #[.val (.ref d3)] []))
  refine Rest.via (fun t k => XS.iconst X2.here hx rfl (hb hby d2_14) k) ?_
  show Rest p.tables e below s _ _ _ (T2.setTop (mkF m 15 #[.val (.ref d3)] [(.int (1 : Int32))]))
  refine Rest.via (fun t k => XS.goto X2.here hx rfl (pc0 := 15) (pc' := 19) rfl (hb hby d2_15) (by decide) (by decide) k) ?_
  show Rest p.tables e below s _ _ _ (T2.setTop (mkF m 19 #[.val (.ref d3)] [(.int (1 : Int32))]))
  refine Rest.ret X2 (v := some (.int (nar .boolean (1 : Int32)))) (fun h => by rw [Bd.returns] at h; cases h) hlk (fun fs hr => retN X2 hx (t := .boolean) Bd.returns (by simp) (hb hby d2_19) hr) ?_ (by decide) (by decide)
  rw [e2]
  exact ⟨rfl, N0, rfl⟩
theorem d1_35 : decode method_2_code 35 = .ok (.iload_n 0, 1) := by decide +kernel
theorem d1_36 : decode method_2_code 36 = .ok (.iconst 4, 1) := by decide +kernel
theorem d1_37 : decode method_2_code 37 = .ok (.if_icmp .ne 7, 3) := by decide +kernel
theorem d1_40 : decode method_2_code 40 = .ok (.getstatic 22, 3) := by decide +kernel
theorem d1_43 : decode method_2_code 43 = .ok (.areturn, 1) := by decide +kernel
theorem ef_P4 (m : MethodId)  : entryFrame m #[(.int (4 : Int32))] 1 = mkF m 0 #[.val (.int (4 : Int32))] [] := by first | (simp [entryFrame, mkF, argsToLocals, Value.category, maxLocals]; done) | rfl
def QP4 (Z : State) (d0 : Addr) (d1 : Addr) (d2 : Addr) (d3 : Addr) (d4 : Addr) (d5 : Addr) (h0 : Heap) (n0 : Nat) (v : Option Value) (h : Heap) (L : List Loc) : Prop := v = some (.ref d4) ∧ Fr n0 L ∧ h = h0
set_option maxRecDepth 65536 in
set_option maxHeartbeats 40000000 in
theorem rmP4 (l : Launch) (Z : State) (aw : Array Value) (hw : ∀ d ∈ tables_1, d.before aw Z = true) (ws : List Jvm.Cond) (d0 : Addr) (d1 : Addr) (d2 : Addr) (d3 : Addr) (d4 : Addr) (d5 : Addr) (h0 : Heap) (n0 : Nat) (Z0 : n0 ≤ h0.size) (B : own_B Z h0 d0 d1 d2 d3 d4 d5) :
    MetFree l (⟨"com/example/zapros/zapros/model/OperatorOrdersPinLaw", "pick", "(I)Lcom/example/zapros/zapros/model/Operator;"⟩ : MethodName) (head1 (Jvm.Cond.code (⟨"com/example/zapros/zapros/model/OperatorOrdersPinLaw", "pick", "(I)Lcom/example/zapros/zapros/model/Operator;"⟩ : MethodName) method_2_code 1 (some (.object "com/example/zapros/zapros/model/Operator")) :: ws) ({ frames := 0, cells := 0, slots := 0, locals := 0 } : Room)) (fun a U => a = #[(.int (4 : Int32))] ∧ Z.Warmed39 U.vm ∧ U.heap = h0) (fun _ _ _ _ _ => True) (fun _ U o U' => ∃ v L, o = .returned v ∧ QP4 Z d0 d1 d2 d3 d4 d5 h0 n0 v U'.heap L ∧ FrameEnd U o U' L ({ frames := 0, cells := 0, slots := 0, locals := 0 } : Room).cells ({ frames := 0, cells := 0, slots := 0, locals := 0 } : Room).slots) := by
  refine MetFree.of_bodySF (plainFor_of_name pn_3) hisR ?_
  intro p e s m args below meth c s₁ Bd hml0 hP hK
  obtain ⟨rfl, hZ, hh⟩ := hP
  have hx := Bd.exec
  have hby := Bd.bytes
  have hml : c.maxLocals = 1 := hml0
  have hown : s.vm.findClass "com/example/zapros/zapros/model/OperatorOrdersPinLaw" = some m.cls := findClass_of_methodNamed Bd.named
  have hnm := (name_of_methodNamed Bd.named Bd.method).1
  have hlk : meth.locks = false := BodyLoose.notSynchronized Bd
  have X0 : Stand p l e ({ frames := 0, cells := 0, slots := 0, locals := 0 } : Room) s m #[(.int (4 : Int32))] below meth c s₁ [] 0 0 := Stand.of_body Bd
  have eh0 : s₁.heap = h0 := by rw [← hh, Bd.state]; rfl
  have N0 := Fr.nil n0
  show Rest p.tables e below s (QP4 Z d0 d1 d2 d3 d4 d5 h0 n0) _ _ (s₁.setTop (entryFrame m #[(.int (4 : Int32))] 1))
  refine Rest.via (fun t k => castTop (ef_P4 m ) k) ?_
  have B0 := B
  obtain ⟨S0, E0, F0, S1, E1, F1, S2, E2, F2, S3, E3, F3, S4, E4, F4, S5, E5, F5, ne0_1, ne0_2, ne1_2, ne0_3, ne1_3, ne2_3, ne0_4, ne1_4, ne2_4, ne3_4, ne0_5, ne1_5, ne2_5, ne3_5, ne4_5⟩ := B0
  show Rest p.tables e below s _ _ _ (s₁.setTop (mkF m 0 #[.val (.int (4 : Int32))] []))
  refine Rest.via (fun t k => XS.iloadN X0.here hx rfl (hb hby d1_0) rfl k) ?_
  show Rest p.tables e below s _ _ _ (s₁.setTop (mkF m 1 #[.val (.int (4 : Int32))] [(.int (4 : Int32))]))
  refine Rest.via (fun t k => XS.ifYes X0.here hx rfl (pc0 := 1) (pc' := 8) rfl (hb hby d1_1) rfl ((if0 _ _).trans (feq (by decide : ¬ ((4 : Int32) = (0 : Int32)))).2) (by decide) (by decide) k) ?_
  show Rest p.tables e below s _ _ _ (s₁.setTop (mkF m 8 #[.val (.int (4 : Int32))] []))
  refine Rest.via (fun t k => XS.iloadN X0.here hx rfl (hb hby d1_8) rfl k) ?_
  show Rest p.tables e below s _ _ _ (s₁.setTop (mkF m 9 #[.val (.int (4 : Int32))] [(.int (4 : Int32))]))
  refine Rest.via (fun t k => XS.iconst X0.here hx rfl (hb hby d1_9) k) ?_
  show Rest p.tables e below s _ _ _ (s₁.setTop (mkF m 10 #[.val (.int (4 : Int32))] [(.int (1 : Int32)), (.int (4 : Int32))]))
  refine Rest.via (fun t k => XS.icmpYes X0.here hx rfl (pc0 := 10) (pc' := 17) rfl (hb hby d1_10) rfl (feq (by decide : ¬ ((4 : Int32) = (1 : Int32)))).2 (by decide) (by decide) k) ?_
  show Rest p.tables e below s _ _ _ (s₁.setTop (mkF m 17 #[.val (.int (4 : Int32))] []))
  refine Rest.via (fun t k => XS.iloadN X0.here hx rfl (hb hby d1_17) rfl k) ?_
  show Rest p.tables e below s _ _ _ (s₁.setTop (mkF m 18 #[.val (.int (4 : Int32))] [(.int (4 : Int32))]))
  refine Rest.via (fun t k => XS.iconst X0.here hx rfl (hb hby d1_18) k) ?_
  show Rest p.tables e below s _ _ _ (s₁.setTop (mkF m 19 #[.val (.int (4 : Int32))] [(.int (2 : Int32)), (.int (4 : Int32))]))
  refine Rest.via (fun t k => XS.icmpYes X0.here hx rfl (pc0 := 19) (pc' := 26) rfl (hb hby d1_19) rfl (feq (by decide : ¬ ((4 : Int32) = (2 : Int32)))).2 (by decide) (by decide) k) ?_
  show Rest p.tables e below s _ _ _ (s₁.setTop (mkF m 26 #[.val (.int (4 : Int32))] []))
  refine Rest.via (fun t k => XS.iloadN X0.here hx rfl (hb hby d1_26) rfl k) ?_
  show Rest p.tables e below s _ _ _ (s₁.setTop (mkF m 27 #[.val (.int (4 : Int32))] [(.int (4 : Int32))]))
  refine Rest.via (fun t k => XS.iconst X0.here hx rfl (hb hby d1_27) k) ?_
  show Rest p.tables e below s _ _ _ (s₁.setTop (mkF m 28 #[.val (.int (4 : Int32))] [(.int (3 : Int32)), (.int (4 : Int32))]))
  refine Rest.via (fun t k => XS.icmpYes X0.here hx rfl (pc0 := 28) (pc' := 35) rfl (hb hby d1_28) rfl (feq (by decide : ¬ ((4 : Int32) = (3 : Int32)))).2 (by decide) (by decide) k) ?_
  show Rest p.tables e below s _ _ _ (s₁.setTop (mkF m 35 #[.val (.int (4 : Int32))] []))
  refine Rest.via (fun t k => XS.iloadN X0.here hx rfl (hb hby d1_35) rfl k) ?_
  show Rest p.tables e below s _ _ _ (s₁.setTop (mkF m 36 #[.val (.int (4 : Int32))] [(.int (4 : Int32))]))
  refine Rest.via (fun t k => XS.iconst X0.here hx rfl (hb hby d1_36) k) ?_
  show Rest p.tables e below s _ _ _ (s₁.setTop (mkF m 37 #[.val (.int (4 : Int32))] [(.int (4 : Int32)), (.int (4 : Int32))]))
  refine Rest.via (fun t k => XS.icmpNo X0.here hx rfl (hb hby d1_37) rfl (teq (by decide : (4 : Int32) = (4 : Int32))).2 k) ?_
  show Rest p.tables e below s _ _ _ (s₁.setTop (mkF m 40 #[.val (.int (4 : Int32))] []))
  obtain ⟨T1, X1, e1, st1⟩ := getS2 X0 hx hZ hown (host := "") (Or.inl (hw _ (List.mem_of_getElem? (i := 63) rfl))) Via.refl eh0 S4 (g := (mkF m 40 #[.val (.int (4 : Int32))] [])) rfl (hb hby d1_40)
  refine Rest.via (fun t k => st1 t k) ?_
  show Rest p.tables e below s _ _ _ (T1.setTop (mkF m 43 #[.val (.int (4 : Int32))] [(.ref d4)]))
  refine Rest.ret X1 (v := some (.ref d4)) (fun h => by rw [Bd.returns] at h; cases h) hlk (fun fs hr => retOut X1 hx Bd.returns rfl (Or.inr (Or.inr (Or.inr (Or.inr ⟨rfl, rfl, rfl⟩)))) (hb hby d1_43) hr) ?_ (by decide) (by decide)
  rw [e1]
  exact ⟨rfl, N0, rfl⟩
theorem ef_O4 (m : MethodId)  : entryFrame m #[(.ref d4)] 1 = mkF m 0 #[.val (.ref d4)] [] := by first | (simp [entryFrame, mkF, argsToLocals, Value.category, maxLocals]; done) | rfl
def QO4 (Z : State) (d0 : Addr) (d1 : Addr) (d2 : Addr) (d3 : Addr) (d4 : Addr) (d5 : Addr) (h0 : Heap) (n0 : Nat) (v : Option Value) (h : Heap) (L : List Loc) : Prop := v = some (.int (1 : Int32)) ∧ Fr n0 L ∧ h = h0
set_option maxRecDepth 65536 in
set_option maxHeartbeats 40000000 in
theorem rmO4 (l : Launch) (Z : State) (aw : Array Value) (hw : ∀ d ∈ tables_1, d.before aw Z = true) (ws : List Jvm.Cond) (d0 : Addr) (d1 : Addr) (d2 : Addr) (d3 : Addr) (d4 : Addr) (d5 : Addr) (h0 : Heap) (n0 : Nat) (Z0 : n0 ≤ h0.size) (B : own_B Z h0 d0 d1 d2 d3 d4 d5) :
    MetFree l (⟨"com/example/zapros/zapros/model/Operator", "orders", "()Z"⟩ : MethodName) (head1 (Jvm.Cond.code (⟨"com/example/zapros/zapros/model/Operator", "orders", "()Z"⟩ : MethodName) prog_9_method_5_code 1 (some .boolean) :: ws) ({ frames := 0, cells := 0, slots := 0, locals := 0 } : Room)) (fun a U => a = #[(.ref d4)] ∧ Z.Warmed39 U.vm ∧ U.heap = h0) (fun _ _ _ _ _ => True) (fun _ U o U' => ∃ v L, o = .returned v ∧ QO4 Z d0 d1 d2 d3 d4 d5 h0 n0 v U'.heap L ∧ FrameEnd U o U' L ({ frames := 0, cells := 0, slots := 0, locals := 0 } : Room).cells ({ frames := 0, cells := 0, slots := 0, locals := 0 } : Room).slots) := by
  refine MetFree.of_bodySF (plainFor_of_name pn_4) hisR ?_
  intro p e s m args below meth c s₁ Bd hml0 hP hK
  obtain ⟨rfl, hZ, hh⟩ := hP
  have hx := Bd.exec
  have hby := Bd.bytes
  have hml : c.maxLocals = 1 := hml0
  have hown : s.vm.findClass "com/example/zapros/zapros/model/Operator" = some m.cls := findClass_of_methodNamed Bd.named
  have hnm := (name_of_methodNamed Bd.named Bd.method).1
  have hlk : meth.locks = false := BodyLoose.notSynchronized Bd
  have X0 : Stand p l e ({ frames := 0, cells := 0, slots := 0, locals := 0 } : Room) s m #[(.ref d4)] below meth c s₁ [] 0 0 := Stand.of_body Bd
  have eh0 : s₁.heap = h0 := by rw [← hh, Bd.state]; rfl
  have N0 := Fr.nil n0
  show Rest p.tables e below s (QO4 Z d0 d1 d2 d3 d4 d5 h0 n0) _ _ (s₁.setTop (entryFrame m #[(.ref d4)] 1))
  refine Rest.via (fun t k => castTop (ef_O4 m ) k) ?_
  have B0 := B
  obtain ⟨S0, E0, F0, S1, E1, F1, S2, E2, F2, S3, E3, F3, S4, E4, F4, S5, E5, F5, ne0_1, ne0_2, ne1_2, ne0_3, ne1_3, ne2_3, ne0_4, ne1_4, ne2_4, ne3_4, ne0_5, ne1_5, ne2_5, ne3_5, ne4_5⟩ := B0
  show Rest p.tables e below s _ _ _ (s₁.setTop (mkF m 0 #[.val (.ref d4)] []))
  refine Rest.via (fun t k => XS.aloadN X0.here hx rfl (hb hby d2_0) rfl rfl k) ?_
  show Rest p.tables e below s _ _ _ (s₁.setTop (mkF m 1 #[.val (.ref d4)] [(.ref d4)]))
  obtain ⟨T1, X1, e1, st1⟩ := getS2 X0 hx hZ hown (host := "") (Or.inl (hw _ (List.mem_of_getElem? (i := 13) rfl))) Via.refl eh0 S0 (g := (mkF m 1 #[.val (.ref d4)] [(.ref d4)])) rfl (hb hby d2_1)
  refine Rest.via (fun t k => st1 t k) ?_
  show Rest p.tables e below s _ _ _ (T1.setTop (mkF m 4 #[.val (.ref d4)] [(.ref d0), (.ref d4)]))
  refine Rest.via (fun t k => Jvm.RoadKit.acmp (g := (mkF m 4 #[.val (.ref d4)] [(.ref d0), (.ref d4)])) X1 hx rfl rfl rfl (pc0 := 4) (pc' := 7) (same := false) rfl (hb hby d2_4) rfl (decide_eq_false fun q => (Ne.symm ne0_4) (Value.ref.inj q)) (by decide) (by decide) k) ?_
  show Rest p.tables e below s _ _ _ (T1.setTop (mkF m 7 #[.val (.ref d4)] []))
  refine Rest.via (fun t k => XS.aloadN X1.here hx rfl (hb hby d2_7) rfl rfl k) ?_
  show Rest p.tables e below s _ _ _ (T1.setTop (mkF m 8 #[.val (.ref d4)] [(.ref d4)]))
  obtain ⟨T2, X2, e2, st2⟩ := getS2 X1 hx hZ hown (host := "") (Or.inl (hw _ (List.mem_of_getElem? (i := 56) rfl))) Via.refl e1 S5 (g := (mkF m 8 #[.val (.ref d4)] [(.ref d4)])) rfl (hb hby d2_8)
  refine Rest.via (fun t k => st2 t k) ?_
  show Rest p.tables e below s _ _ _ (T2.setTop (mkF m 11 #[.val (.ref d4)] [(.ref d5), (.ref d4)]))
  refine Rest.via (fun t k => Jvm.RoadKit.acmp (g := (mkF m 11 #[.val (.ref d4)] [(.ref d5), (.ref d4)])) X2 hx rfl rfl rfl (pc0 := 11) (pc' := 14) (same := false) rfl (hb hby d2_11) rfl (decide_eq_false fun q => ne4_5 (Value.ref.inj q)) (by decide) (by decide) k) ?_
  show Rest p.tables e below s _ _ _ (T2.setTop (mkF m 14 #[.val (.ref d4)] []))
  refine Rest.via (fun t k => XS.iconst X2.here hx rfl (hb hby d2_14) k) ?_
  show Rest p.tables e below s _ _ _ (T2.setTop (mkF m 15 #[.val (.ref d4)] [(.int (1 : Int32))]))
  refine Rest.via (fun t k => XS.goto X2.here hx rfl (pc0 := 15) (pc' := 19) rfl (hb hby d2_15) (by decide) (by decide) k) ?_
  show Rest p.tables e below s _ _ _ (T2.setTop (mkF m 19 #[.val (.ref d4)] [(.int (1 : Int32))]))
  refine Rest.ret X2 (v := some (.int (nar .boolean (1 : Int32)))) (fun h => by rw [Bd.returns] at h; cases h) hlk (fun fs hr => retN X2 hx (t := .boolean) Bd.returns (by simp) (hb hby d2_19) hr) ?_ (by decide) (by decide)
  rw [e2]
  exact ⟨rfl, N0, rfl⟩
theorem d1_44 : decode method_2_code 44 = .ok (.getstatic 25, 3) := by decide +kernel
theorem d1_47 : decode method_2_code 47 = .ok (.areturn, 1) := by decide +kernel
theorem ef_P5 (m : MethodId)  : entryFrame m #[(.int (5 : Int32))] 1 = mkF m 0 #[.val (.int (5 : Int32))] [] := by first | (simp [entryFrame, mkF, argsToLocals, Value.category, maxLocals]; done) | rfl
def QP5 (Z : State) (d0 : Addr) (d1 : Addr) (d2 : Addr) (d3 : Addr) (d4 : Addr) (d5 : Addr) (h0 : Heap) (n0 : Nat) (v : Option Value) (h : Heap) (L : List Loc) : Prop := v = some (.ref d5) ∧ Fr n0 L ∧ h = h0
set_option maxRecDepth 65536 in
set_option maxHeartbeats 40000000 in
theorem rmP5 (l : Launch) (Z : State) (aw : Array Value) (hw : ∀ d ∈ tables_1, d.before aw Z = true) (ws : List Jvm.Cond) (d0 : Addr) (d1 : Addr) (d2 : Addr) (d3 : Addr) (d4 : Addr) (d5 : Addr) (h0 : Heap) (n0 : Nat) (Z0 : n0 ≤ h0.size) (B : own_B Z h0 d0 d1 d2 d3 d4 d5) :
    MetFree l (⟨"com/example/zapros/zapros/model/OperatorOrdersPinLaw", "pick", "(I)Lcom/example/zapros/zapros/model/Operator;"⟩ : MethodName) (head1 (Jvm.Cond.code (⟨"com/example/zapros/zapros/model/OperatorOrdersPinLaw", "pick", "(I)Lcom/example/zapros/zapros/model/Operator;"⟩ : MethodName) method_2_code 1 (some (.object "com/example/zapros/zapros/model/Operator")) :: ws) ({ frames := 0, cells := 0, slots := 0, locals := 0 } : Room)) (fun a U => a = #[(.int (5 : Int32))] ∧ Z.Warmed39 U.vm ∧ U.heap = h0) (fun _ _ _ _ _ => True) (fun _ U o U' => ∃ v L, o = .returned v ∧ QP5 Z d0 d1 d2 d3 d4 d5 h0 n0 v U'.heap L ∧ FrameEnd U o U' L ({ frames := 0, cells := 0, slots := 0, locals := 0 } : Room).cells ({ frames := 0, cells := 0, slots := 0, locals := 0 } : Room).slots) := by
  refine MetFree.of_bodySF (plainFor_of_name pn_3) hisR ?_
  intro p e s m args below meth c s₁ Bd hml0 hP hK
  obtain ⟨rfl, hZ, hh⟩ := hP
  have hx := Bd.exec
  have hby := Bd.bytes
  have hml : c.maxLocals = 1 := hml0
  have hown : s.vm.findClass "com/example/zapros/zapros/model/OperatorOrdersPinLaw" = some m.cls := findClass_of_methodNamed Bd.named
  have hnm := (name_of_methodNamed Bd.named Bd.method).1
  have hlk : meth.locks = false := BodyLoose.notSynchronized Bd
  have X0 : Stand p l e ({ frames := 0, cells := 0, slots := 0, locals := 0 } : Room) s m #[(.int (5 : Int32))] below meth c s₁ [] 0 0 := Stand.of_body Bd
  have eh0 : s₁.heap = h0 := by rw [← hh, Bd.state]; rfl
  have N0 := Fr.nil n0
  show Rest p.tables e below s (QP5 Z d0 d1 d2 d3 d4 d5 h0 n0) _ _ (s₁.setTop (entryFrame m #[(.int (5 : Int32))] 1))
  refine Rest.via (fun t k => castTop (ef_P5 m ) k) ?_
  have B0 := B
  obtain ⟨S0, E0, F0, S1, E1, F1, S2, E2, F2, S3, E3, F3, S4, E4, F4, S5, E5, F5, ne0_1, ne0_2, ne1_2, ne0_3, ne1_3, ne2_3, ne0_4, ne1_4, ne2_4, ne3_4, ne0_5, ne1_5, ne2_5, ne3_5, ne4_5⟩ := B0
  show Rest p.tables e below s _ _ _ (s₁.setTop (mkF m 0 #[.val (.int (5 : Int32))] []))
  refine Rest.via (fun t k => XS.iloadN X0.here hx rfl (hb hby d1_0) rfl k) ?_
  show Rest p.tables e below s _ _ _ (s₁.setTop (mkF m 1 #[.val (.int (5 : Int32))] [(.int (5 : Int32))]))
  refine Rest.via (fun t k => XS.ifYes X0.here hx rfl (pc0 := 1) (pc' := 8) rfl (hb hby d1_1) rfl ((if0 _ _).trans (feq (by decide : ¬ ((5 : Int32) = (0 : Int32)))).2) (by decide) (by decide) k) ?_
  show Rest p.tables e below s _ _ _ (s₁.setTop (mkF m 8 #[.val (.int (5 : Int32))] []))
  refine Rest.via (fun t k => XS.iloadN X0.here hx rfl (hb hby d1_8) rfl k) ?_
  show Rest p.tables e below s _ _ _ (s₁.setTop (mkF m 9 #[.val (.int (5 : Int32))] [(.int (5 : Int32))]))
  refine Rest.via (fun t k => XS.iconst X0.here hx rfl (hb hby d1_9) k) ?_
  show Rest p.tables e below s _ _ _ (s₁.setTop (mkF m 10 #[.val (.int (5 : Int32))] [(.int (1 : Int32)), (.int (5 : Int32))]))
  refine Rest.via (fun t k => XS.icmpYes X0.here hx rfl (pc0 := 10) (pc' := 17) rfl (hb hby d1_10) rfl (feq (by decide : ¬ ((5 : Int32) = (1 : Int32)))).2 (by decide) (by decide) k) ?_
  show Rest p.tables e below s _ _ _ (s₁.setTop (mkF m 17 #[.val (.int (5 : Int32))] []))
  refine Rest.via (fun t k => XS.iloadN X0.here hx rfl (hb hby d1_17) rfl k) ?_
  show Rest p.tables e below s _ _ _ (s₁.setTop (mkF m 18 #[.val (.int (5 : Int32))] [(.int (5 : Int32))]))
  refine Rest.via (fun t k => XS.iconst X0.here hx rfl (hb hby d1_18) k) ?_
  show Rest p.tables e below s _ _ _ (s₁.setTop (mkF m 19 #[.val (.int (5 : Int32))] [(.int (2 : Int32)), (.int (5 : Int32))]))
  refine Rest.via (fun t k => XS.icmpYes X0.here hx rfl (pc0 := 19) (pc' := 26) rfl (hb hby d1_19) rfl (feq (by decide : ¬ ((5 : Int32) = (2 : Int32)))).2 (by decide) (by decide) k) ?_
  show Rest p.tables e below s _ _ _ (s₁.setTop (mkF m 26 #[.val (.int (5 : Int32))] []))
  refine Rest.via (fun t k => XS.iloadN X0.here hx rfl (hb hby d1_26) rfl k) ?_
  show Rest p.tables e below s _ _ _ (s₁.setTop (mkF m 27 #[.val (.int (5 : Int32))] [(.int (5 : Int32))]))
  refine Rest.via (fun t k => XS.iconst X0.here hx rfl (hb hby d1_27) k) ?_
  show Rest p.tables e below s _ _ _ (s₁.setTop (mkF m 28 #[.val (.int (5 : Int32))] [(.int (3 : Int32)), (.int (5 : Int32))]))
  refine Rest.via (fun t k => XS.icmpYes X0.here hx rfl (pc0 := 28) (pc' := 35) rfl (hb hby d1_28) rfl (feq (by decide : ¬ ((5 : Int32) = (3 : Int32)))).2 (by decide) (by decide) k) ?_
  show Rest p.tables e below s _ _ _ (s₁.setTop (mkF m 35 #[.val (.int (5 : Int32))] []))
  refine Rest.via (fun t k => XS.iloadN X0.here hx rfl (hb hby d1_35) rfl k) ?_
  show Rest p.tables e below s _ _ _ (s₁.setTop (mkF m 36 #[.val (.int (5 : Int32))] [(.int (5 : Int32))]))
  refine Rest.via (fun t k => XS.iconst X0.here hx rfl (hb hby d1_36) k) ?_
  show Rest p.tables e below s _ _ _ (s₁.setTop (mkF m 37 #[.val (.int (5 : Int32))] [(.int (4 : Int32)), (.int (5 : Int32))]))
  refine Rest.via (fun t k => XS.icmpYes X0.here hx rfl (pc0 := 37) (pc' := 44) rfl (hb hby d1_37) rfl (feq (by decide : ¬ ((5 : Int32) = (4 : Int32)))).2 (by decide) (by decide) k) ?_
  show Rest p.tables e below s _ _ _ (s₁.setTop (mkF m 44 #[.val (.int (5 : Int32))] []))
  obtain ⟨T1, X1, e1, st1⟩ := getS2 X0 hx hZ hown (host := "") (Or.inl (hw _ (List.mem_of_getElem? (i := 62) rfl))) Via.refl eh0 S5 (g := (mkF m 44 #[.val (.int (5 : Int32))] [])) rfl (hb hby d1_44)
  refine Rest.via (fun t k => st1 t k) ?_
  show Rest p.tables e below s _ _ _ (T1.setTop (mkF m 47 #[.val (.int (5 : Int32))] [(.ref d5)]))
  refine Rest.ret X1 (v := some (.ref d5)) (fun h => by rw [Bd.returns] at h; cases h) hlk (fun fs hr => retOut X1 hx Bd.returns rfl (Or.inr (Or.inr (Or.inr (Or.inr ⟨rfl, rfl, rfl⟩)))) (hb hby d1_47) hr) ?_ (by decide) (by decide)
  rw [e1]
  exact ⟨rfl, N0, rfl⟩
theorem ef_O5 (m : MethodId)  : entryFrame m #[(.ref d5)] 1 = mkF m 0 #[.val (.ref d5)] [] := by first | (simp [entryFrame, mkF, argsToLocals, Value.category, maxLocals]; done) | rfl
def QO5 (Z : State) (d0 : Addr) (d1 : Addr) (d2 : Addr) (d3 : Addr) (d4 : Addr) (d5 : Addr) (h0 : Heap) (n0 : Nat) (v : Option Value) (h : Heap) (L : List Loc) : Prop := v = some (.int (0 : Int32)) ∧ Fr n0 L ∧ h = h0
set_option maxRecDepth 65536 in
set_option maxHeartbeats 40000000 in
theorem rmO5 (l : Launch) (Z : State) (aw : Array Value) (hw : ∀ d ∈ tables_1, d.before aw Z = true) (ws : List Jvm.Cond) (d0 : Addr) (d1 : Addr) (d2 : Addr) (d3 : Addr) (d4 : Addr) (d5 : Addr) (h0 : Heap) (n0 : Nat) (Z0 : n0 ≤ h0.size) (B : own_B Z h0 d0 d1 d2 d3 d4 d5) :
    MetFree l (⟨"com/example/zapros/zapros/model/Operator", "orders", "()Z"⟩ : MethodName) (head1 (Jvm.Cond.code (⟨"com/example/zapros/zapros/model/Operator", "orders", "()Z"⟩ : MethodName) prog_9_method_5_code 1 (some .boolean) :: ws) ({ frames := 0, cells := 0, slots := 0, locals := 0 } : Room)) (fun a U => a = #[(.ref d5)] ∧ Z.Warmed39 U.vm ∧ U.heap = h0) (fun _ _ _ _ _ => True) (fun _ U o U' => ∃ v L, o = .returned v ∧ QO5 Z d0 d1 d2 d3 d4 d5 h0 n0 v U'.heap L ∧ FrameEnd U o U' L ({ frames := 0, cells := 0, slots := 0, locals := 0 } : Room).cells ({ frames := 0, cells := 0, slots := 0, locals := 0 } : Room).slots) := by
  refine MetFree.of_bodySF (plainFor_of_name pn_4) hisR ?_
  intro p e s m args below meth c s₁ Bd hml0 hP hK
  obtain ⟨rfl, hZ, hh⟩ := hP
  have hx := Bd.exec
  have hby := Bd.bytes
  have hml : c.maxLocals = 1 := hml0
  have hown : s.vm.findClass "com/example/zapros/zapros/model/Operator" = some m.cls := findClass_of_methodNamed Bd.named
  have hnm := (name_of_methodNamed Bd.named Bd.method).1
  have hlk : meth.locks = false := BodyLoose.notSynchronized Bd
  have X0 : Stand p l e ({ frames := 0, cells := 0, slots := 0, locals := 0 } : Room) s m #[(.ref d5)] below meth c s₁ [] 0 0 := Stand.of_body Bd
  have eh0 : s₁.heap = h0 := by rw [← hh, Bd.state]; rfl
  have N0 := Fr.nil n0
  show Rest p.tables e below s (QO5 Z d0 d1 d2 d3 d4 d5 h0 n0) _ _ (s₁.setTop (entryFrame m #[(.ref d5)] 1))
  refine Rest.via (fun t k => castTop (ef_O5 m ) k) ?_
  have B0 := B
  obtain ⟨S0, E0, F0, S1, E1, F1, S2, E2, F2, S3, E3, F3, S4, E4, F4, S5, E5, F5, ne0_1, ne0_2, ne1_2, ne0_3, ne1_3, ne2_3, ne0_4, ne1_4, ne2_4, ne3_4, ne0_5, ne1_5, ne2_5, ne3_5, ne4_5⟩ := B0
  show Rest p.tables e below s _ _ _ (s₁.setTop (mkF m 0 #[.val (.ref d5)] []))
  refine Rest.via (fun t k => XS.aloadN X0.here hx rfl (hb hby d2_0) rfl rfl k) ?_
  show Rest p.tables e below s _ _ _ (s₁.setTop (mkF m 1 #[.val (.ref d5)] [(.ref d5)]))
  obtain ⟨T1, X1, e1, st1⟩ := getS2 X0 hx hZ hown (host := "") (Or.inl (hw _ (List.mem_of_getElem? (i := 13) rfl))) Via.refl eh0 S0 (g := (mkF m 1 #[.val (.ref d5)] [(.ref d5)])) rfl (hb hby d2_1)
  refine Rest.via (fun t k => st1 t k) ?_
  show Rest p.tables e below s _ _ _ (T1.setTop (mkF m 4 #[.val (.ref d5)] [(.ref d0), (.ref d5)]))
  refine Rest.via (fun t k => Jvm.RoadKit.acmp (g := (mkF m 4 #[.val (.ref d5)] [(.ref d0), (.ref d5)])) X1 hx rfl rfl rfl (pc0 := 4) (pc' := 7) (same := false) rfl (hb hby d2_4) rfl (decide_eq_false fun q => (Ne.symm ne0_5) (Value.ref.inj q)) (by decide) (by decide) k) ?_
  show Rest p.tables e below s _ _ _ (T1.setTop (mkF m 7 #[.val (.ref d5)] []))
  refine Rest.via (fun t k => XS.aloadN X1.here hx rfl (hb hby d2_7) rfl rfl k) ?_
  show Rest p.tables e below s _ _ _ (T1.setTop (mkF m 8 #[.val (.ref d5)] [(.ref d5)]))
  obtain ⟨T2, X2, e2, st2⟩ := getS2 X1 hx hZ hown (host := "") (Or.inl (hw _ (List.mem_of_getElem? (i := 56) rfl))) Via.refl e1 S5 (g := (mkF m 8 #[.val (.ref d5)] [(.ref d5)])) rfl (hb hby d2_8)
  refine Rest.via (fun t k => st2 t k) ?_
  show Rest p.tables e below s _ _ _ (T2.setTop (mkF m 11 #[.val (.ref d5)] [(.ref d5), (.ref d5)]))
  refine Rest.via (fun t k => Jvm.RoadKit.acmp (g := (mkF m 11 #[.val (.ref d5)] [(.ref d5), (.ref d5)])) X2 hx rfl rfl rfl (pc0 := 11) (pc' := 18) (same := true) rfl (hb hby d2_11) rfl (decide_eq_true rfl) (by decide) (by decide) k) ?_
  show Rest p.tables e below s _ _ _ (T2.setTop (mkF m 18 #[.val (.ref d5)] []))
  refine Rest.via (fun t k => XS.iconst X2.here hx rfl (hb hby d2_18) k) ?_
  show Rest p.tables e below s _ _ _ (T2.setTop (mkF m 19 #[.val (.ref d5)] [(.int (0 : Int32))]))
  refine Rest.ret X2 (v := some (.int (nar .boolean (0 : Int32)))) (fun h => by rw [Bd.returns] at h; cases h) hlk (fun fs hr => retN X2 hx (t := .boolean) Bd.returns (by simp) (hb hby d2_19) hr) ?_ (by decide) (by decide)
  rw [e2]
  exact ⟨rfl, N0, rfl⟩
theorem d3_0 : decode prog_9_method_4_code 0 = .ok (.aload_n 0, 1) := by decide +kernel
theorem d3_1 : decode prog_9_method_4_code 1 = .ok (.getfield 41, 3) := by decide +kernel
theorem d3_4 : decode prog_9_method_4_code 4 = .ok (.areturn, 1) := by decide +kernel
theorem ef_SY (m : MethodId) (a0 : Addr) : entryFrame m #[(.ref a0)] 1 = mkF m 0 #[.val (.ref a0)] [] := by first | (simp [entryFrame, mkF, argsToLocals, Value.category, maxLocals]; done) | rfl
def QSY (Z : State) (a0 : Addr) (tt : Addr) (h0 : Heap) (n0 : Nat) (v : Option Value) (h : Heap) (L : List Loc) : Prop := v = some (.ref tt) ∧ Fr n0 L ∧ h = h0
set_option maxRecDepth 65536 in
set_option maxHeartbeats 40000000 in
theorem rmSY (l : Launch) (Z : State) (aw : Array Value) (hw : ∀ d ∈ tables_1, d.before aw Z = true) (ws : List Jvm.Cond) (a0 : Addr) (tt : Addr) (h0 : Heap) (n0 : Nat) (Z0 : n0 ≤ h0.size) (Fm : Fld Z h0 a0 "com/example/zapros/zapros/model/Operator" "mSymbol" "Ljava/lang/String;" (.ref tt)) :
    MetFree l (⟨"com/example/zapros/zapros/model/Operator", "symbol", "()Ljava/lang/String;"⟩ : MethodName) (head1 (Jvm.Cond.code (⟨"com/example/zapros/zapros/model/Operator", "symbol", "()Ljava/lang/String;"⟩ : MethodName) prog_9_method_4_code 1 (some (.object "java/lang/String")) :: ws) ({ frames := 0, cells := 0, slots := 0, locals := 0 } : Room)) (fun a U => a = #[(.ref a0)] ∧ Z.Warmed39 U.vm ∧ U.heap = h0) (fun _ _ _ _ _ => True) (fun _ U o U' => ∃ v L, o = .returned v ∧ QSY Z a0 tt h0 n0 v U'.heap L ∧ FrameEnd U o U' L ({ frames := 0, cells := 0, slots := 0, locals := 0 } : Room).cells ({ frames := 0, cells := 0, slots := 0, locals := 0 } : Room).slots) := by
  refine MetFree.of_bodySF (plainFor_of_name pn_4) hisR ?_
  intro p e s m args below meth c s₁ Bd hml0 hP hK
  obtain ⟨rfl, hZ, hh⟩ := hP
  have hx := Bd.exec
  have hby := Bd.bytes
  have hml : c.maxLocals = 1 := hml0
  have hown : s.vm.findClass "com/example/zapros/zapros/model/Operator" = some m.cls := findClass_of_methodNamed Bd.named
  have hnm := (name_of_methodNamed Bd.named Bd.method).1
  have hlk : meth.locks = false := BodyLoose.notSynchronized Bd
  have X0 : Stand p l e ({ frames := 0, cells := 0, slots := 0, locals := 0 } : Room) s m #[(.ref a0)] below meth c s₁ [] 0 0 := Stand.of_body Bd
  have eh0 : s₁.heap = h0 := by rw [← hh, Bd.state]; rfl
  have N0 := Fr.nil n0
  show Rest p.tables e below s (QSY Z a0 tt h0 n0) _ _ (s₁.setTop (entryFrame m #[(.ref a0)] 1))
  refine Rest.via (fun t k => castTop (ef_SY m a0) k) ?_
  show Rest p.tables e below s _ _ _ (s₁.setTop (mkF m 0 #[.val (.ref a0)] []))
  refine Rest.via (fun t k => XS.aloadN X0.here hx rfl (hb hby d3_0) rfl rfl k) ?_
  show Rest p.tables e below s _ _ _ (s₁.setTop (mkF m 1 #[.val (.ref a0)] [(.ref a0)]))
  obtain ⟨T1, X1, e1, st1⟩ := getF X0 hx hZ hown (host := "") (Or.inl (hw _ (List.mem_of_getElem? (i := 19) rfl))) Via.refl eh0 Fm (g := (mkF m 1 #[.val (.ref a0)] [(.ref a0)])) rfl rfl (hb hby d3_1)
  refine Rest.via (fun t k => st1 t k) ?_
  show Rest p.tables e below s _ _ _ (T1.setTop (mkF m 4 #[.val (.ref a0)] [(.ref tt)]))
  refine Rest.ret X1 (v := some (.ref tt)) (fun h => by rw [Bd.returns] at h; cases h) hlk (fun fs hr => retOut X1 hx Bd.returns rfl (Or.inr (Or.inr (Or.inr (Or.inr ⟨rfl, rfl, rfl⟩)))) (hb hby d3_4) hr) ?_ (by decide) (by decide)
  rw [e1]
  exact ⟨rfl, N0, rfl⟩
theorem pd_4 : parseMethodDescriptor "(I)Lcom/example/zapros/zapros/model/Operator;" = some ⟨[.int], some (.object "com/example/zapros/zapros/model/Operator")⟩ := by decide +kernel
theorem pd_5 : parseMethodDescriptor "()Ljava/lang/String;" = some ⟨[], some (.object "java/lang/String")⟩ := by decide +kernel
theorem pd_6 : parseMethodDescriptor "(I)C" = some ⟨[.int], some .char⟩ := by decide +kernel
theorem ef_0 (m : MethodId) (p0 : Int32) : entryFrame m #[(.int p0)] maxLocals = mkF m 0 #[.val (.int p0), .unset, .unset, .unset, .unset, .unset, .unset, .unset] [] := by first | (simp [entryFrame, mkF, argsToLocals, Value.category, maxLocals]; done) | rfl
def Q0 (Z : State) (p0 : Int32) (d0 : Addr) (d1 : Addr) (d2 : Addr) (d3 : Addr) (d4 : Addr) (d5 : Addr) (fm : Value) (ic : Int32) (h0 : Heap) (n0 : Nat) (v : Option Value) (h : Heap) (L : List Loc) : Prop := v = some (.int 1) ∧ Fr n0 L
set_option maxRecDepth 65536 in
set_option maxHeartbeats 40000000 in
theorem rm0 (l : Launch) (Z : State) (aw : Array Value) (hw : ∀ d ∈ tables_1, d.before aw Z = true) (ws : List Jvm.Cond) (p0 : Int32) (d0 : Addr) (d1 : Addr) (d2 : Addr) (d3 : Addr) (d4 : Addr) (d5 : Addr) (fm : Value) (ic : Int32) (h0 : Heap) (n0 : Nat) (Z0 : n0 ≤ h0.size) (B : own_B Z h0 d0 d1 d2 d3 d4 d5) (SS0 : own_S Z h0 d0 (1 : Int32) (61 : Int32)) (SS1 : own_S Z h0 d1 (1 : Int32) (62 : Int32)) (SS2 : own_S Z h0 d2 (2 : Int32) (62 : Int32)) (SS3 : own_S Z h0 d3 (1 : Int32) (60 : Int32)) (SS4 : own_S Z h0 d4 (2 : Int32) (60 : Int32)) (SS5 : own_S Z h0 d5 (2 : Int32) (105 : Int32)) (hf : fm.isRef = true) (Sf : Sta Z h0 "jdk/internal/util/Preconditions" "SIOOBE_FORMATTER" "Ljava/util/function/BiFunction;" fm) (Sc : Sta Z h0 "java/lang/String" "COMPACT_STRINGS" "Z" (.int ic)) (hic : ¬ (ic = (0 : Int32))) :
    MetFree l x (head1 (Jvm.Cond.code x code maxLocals ret :: ws) room_1) (fun a U => a = #[(.int p0)] ∧ Z.Warmed39 U.vm ∧ U.heap = h0) (fun _ _ _ _ _ => True) (fun _ U o U' => ∃ v L, o = .returned v ∧ Q0 Z p0 d0 d1 d2 d3 d4 d5 fm ic h0 n0 v U'.heap L ∧ FrameEnd U o U' L 0 0) := by
  refine MetFree.of_bodySF (plainFor_of_name pn_3) hisR ?_
  intro p e s m args below meth c s₁ Bd hml0 hP hK
  obtain ⟨rfl, hZ, hh⟩ := hP
  have hx := Bd.exec
  have hby := Bd.bytes
  have hml : c.maxLocals = 8 := hml0
  have hown : s.vm.findClass "com/example/zapros/zapros/model/OperatorOrdersPinLaw" = some m.cls := findClass_of_methodNamed Bd.named
  have hnm := (name_of_methodNamed Bd.named Bd.method).1
  have hlk : meth.locks = false := BodyLoose.notSynchronized Bd
  have X0 : Stand p l e room_1 s m #[(.int p0)] below meth c s₁ [] 0 0 := Stand.of_body Bd
  have eh0 : s₁.heap = h0 := by rw [← hh, Bd.state]; rfl
  have N0 := Fr.nil n0
  show Rest p.tables e below s (Q0 Z p0 d0 d1 d2 d3 d4 d5 fm ic h0 n0) _ _ (s₁.setTop (entryFrame m #[(.int p0)] maxLocals))
  refine Rest.via (fun t k => castTop (ef_0 m p0) k) ?_
  have B0 := B
  obtain ⟨S0, E0, F0, S1, E1, F1, S2, E2, F2, S3, E3, F3, S4, E4, F4, S5, E5, F5, ne0_1, ne0_2, ne1_2, ne0_3, ne1_3, ne2_3, ne0_4, ne1_4, ne2_4, ne3_4, ne0_5, ne1_5, ne2_5, ne3_5, ne4_5⟩ := B0
  show Rest p.tables e below s _ _ _ (s₁.setTop (mkF m 0 #[.val (.int p0), .unset, .unset, .unset, .unset, .unset, .unset, .unset] []))
  refine Rest.via (fun t k => XS.iloadN X0.here hx rfl (hb hby at_0) rfl k) ?_
  show Rest p.tables e below s _ _ _ (s₁.setTop (mkF m 1 #[.val (.int p0), .unset, .unset, .unset, .unset, .unset, .unset, .unset] [(.int p0)]))
  refine Rest.via (fun t k => X0.ldcInt hx hown (mvT hZ (hw _ (List.mem_of_getElem? (i := 0) rfl))) (g := (mkF m 1 #[.val (.int p0), .unset, .unset, .unset, .unset, .unset, .unset, .unset] [(.int p0)])) rfl (hb hby at_1) t k) ?_
  show Rest p.tables e below s _ _ _ (s₁.setTop (mkF m 3 #[.val (.int p0), .unset, .unset, .unset, .unset, .unset, .unset, .unset] [(.int (2147483647 : Int32)), (.int p0)]))
  refine Rest.via (fun t k => XS.iand X0.here hx rfl (hb hby at_3) rfl k) ?_
  show Rest p.tables e below s _ _ _ (s₁.setTop (mkF m 4 #[.val (.int p0), .unset, .unset, .unset, .unset, .unset, .unset, .unset] [(.int (p0 &&& (2147483647 : Int32)))]))
  refine Rest.via (fun t k => XS.bipush X0.here hx rfl (hb hby at_4) k) ?_
  show Rest p.tables e below s _ _ _ (s₁.setTop (mkF m 6 #[.val (.int p0), .unset, .unset, .unset, .unset, .unset, .unset, .unset] [(.int (6 : Int32)), (.int (p0 &&& (2147483647 : Int32)))]))
  refine Rest.via (fun t k => iremM X0 hx rfl (hb hby at_6) rfl (by decide) k) ?_
  show Rest p.tables e below s _ _ _ (s₁.setTop (mkF m 7 #[.val (.int p0), .unset, .unset, .unset, .unset, .unset, .unset, .unset] [(.int ((p0 &&& (2147483647 : Int32)) % (6 : Int32)))]))
  refine Rest.via (fun t k => XS.istoreN X0.here hx rfl (hb hby at_7) rfl (l' := #[.val (.int p0), .val (.int ((p0 &&& (2147483647 : Int32)) % (6 : Int32))), .unset, .unset, .unset, .unset, .unset, .unset]) rfl k) ?_
  show Rest p.tables e below s _ _ _ (s₁.setTop (mkF m 8 #[.val (.int p0), .val (.int ((p0 &&& (2147483647 : Int32)) % (6 : Int32))), .unset, .unset, .unset, .unset, .unset, .unset] []))
  obtain ⟨kv, hv_kv⟩ : ∃ z : Int32, z = ((p0 &&& (2147483647 : Int32)) % (6 : Int32)) := ⟨_, rfl⟩
  rw [← hv_kv]
  show Rest p.tables e below s _ _ _ (s₁.setTop (mkF m 8 #[.val (.int p0), .val (.int kv), .unset, .unset, .unset, .unset, .unset, .unset] []))
  obtain rfl | rfl | rfl | rfl | rfl | rfl : kv = 0 ∨ kv = 1 ∨ kv = 2 ∨ kv = 3 ∨ kv = 4 ∨ kv = 5 := by rw [hv_kv]; exact own_six _
  · obtain ⟨tt, va, kk, vs, Fm, Et, Fv, Fc, Vv⟩ := SS0
    show Rest p.tables e below s _ _ _ (s₁.setTop (mkF m 8 #[.val (.int p0), .val (.int (0 : Int32)), .unset, .unset, .unset, .unset, .unset, .unset] []))
    refine Rest.via (fun t k => XS.iloadN X0.here hx rfl (hb hby at_8) rfl k) ?_
    show Rest p.tables e below s _ _ _ (s₁.setTop (mkF m 9 #[.val (.int p0), .val (.int (0 : Int32)), .unset, .unset, .unset, .unset, .unset, .unset] [(.int (0 : Int32))]))
    obtain ⟨_, _, ⟨T1, L1, k1, n1⟩, -, X1, ⟨Lc1, hQ1, l1, y1, z1⟩, st1⟩ := Jvm.LawKit.callS X0 hx (y := (⟨"com/example/zapros/zapros/model/OperatorOrdersPinLaw", "pick", "(I)Lcom/example/zapros/zapros/model/Operator;"⟩ : MethodName)) hown (mvT hZ (hw _ (List.mem_of_getElem? (i := 1) rfl))) (mvT hZ (hw _ (List.mem_of_getElem? (i := 2) rfl))) (mvT hZ (hw _ (List.mem_of_getElem? (i := 3) rfl))) (mvT hZ (hw _ (List.mem_of_getElem? (i := 4) rfl))) (by decide) (backOf (W := 0) (rmP0 l Z aw hw []  d0 d1 d2 d3 d4 d5 h0 n0 (Nat.le_trans Z0 (Keep.refl h0 []).1) B) hZ (hw _ (List.mem_of_getElem? (i := 4) rfl)) (hw _ (List.mem_of_getElem? (i := 3) rfl)) (by decide) (by decide)) (g := (mkF m 9 #[.val (.int p0), .val (.int (0 : Int32)), .unset, .unset, .unset, .unset, .unset, .unset] [(.int (0 : Int32))])) rfl (by rw [hml]; rfl) (argsL := [(.int (0 : Int32))]) (rest := []) (lenOf pd_4 rfl) rfl (by show 2 * 0 + _ ≤ _; exact Nat.le_of_eq rfl) (hb hby at_9) (fun _ _ => ⟨rfl, eh0, (by decide : 0 + 0 ≤ _), (by decide : 0 + 0 ≤ _)⟩)
    dsimp only [Pt.U, Pt.locs, Pt.cells, Pt.slots] at X1 l1 y1 z1 st1 hQ1
    subst l1 y1 z1
    obtain ⟨rfl, Nq1, e1⟩ := hQ1
    have N1 := Fr.app N0 Nq1
    refine Rest.via (fun t k => st1 t k) ?_
    show Rest p.tables e below s _ _ _ (T1.setTop (mkF m 12 #[.val (.int p0), .val (.int (0 : Int32)), .unset, .unset, .unset, .unset, .unset, .unset] [(.ref d0)]))
    refine Rest.via (fun t k => XS.astoreN X1.here hx rfl (hb hby at_12) rfl rfl (l' := #[.val (.int p0), .val (.int (0 : Int32)), .val (.ref d0), .unset, .unset, .unset, .unset, .unset]) rfl k) ?_
    show Rest p.tables e below s _ _ _ (T1.setTop (mkF m 13 #[.val (.int p0), .val (.int (0 : Int32)), .val (.ref d0), .unset, .unset, .unset, .unset, .unset] []))
    refine Rest.via (fun t k => XS.iloadN X1.here hx rfl (hb hby at_13) rfl k) ?_
    show Rest p.tables e below s _ _ _ (T1.setTop (mkF m 14 #[.val (.int p0), .val (.int (0 : Int32)), .val (.ref d0), .unset, .unset, .unset, .unset, .unset] [(.int (0 : Int32))]))
    refine Rest.via (fun t k => XS.iconst X1.here hx rfl (hb hby at_14) k) ?_
    show Rest p.tables e below s _ _ _ (T1.setTop (mkF m 15 #[.val (.int p0), .val (.int (0 : Int32)), .val (.ref d0), .unset, .unset, .unset, .unset, .unset] [(.int (1 : Int32)), (.int (0 : Int32))]))
    refine Rest.via (fun t k => XS.icmpYes X1.here hx rfl (pc0 := 15) (pc' := 27) rfl (hb hby at_15) rfl (tlt (by decide : (0 : Int32) < (1 : Int32))).1 (by decide) (by decide) k) ?_
    show Rest p.tables e below s _ _ _ (T1.setTop (mkF m 27 #[.val (.int p0), .val (.int (0 : Int32)), .val (.ref d0), .unset, .unset, .unset, .unset, .unset] []))
    refine Rest.via (fun t k => XS.iconst X1.here hx rfl (hb hby at_27) k) ?_
    show Rest p.tables e below s _ _ _ (T1.setTop (mkF m 28 #[.val (.int p0), .val (.int (0 : Int32)), .val (.ref d0), .unset, .unset, .unset, .unset, .unset] [(.int (0 : Int32))]))
    refine Rest.via (fun t k => XS.istoreN X1.here hx rfl (hb hby at_28) rfl (l' := #[.val (.int p0), .val (.int (0 : Int32)), .val (.ref d0), .val (.int (0 : Int32)), .unset, .unset, .unset, .unset]) rfl k) ?_
    show Rest p.tables e below s _ _ _ (T1.setTop (mkF m 29 #[.val (.int p0), .val (.int (0 : Int32)), .val (.ref d0), .val (.int (0 : Int32)), .unset, .unset, .unset, .unset] []))
    refine Rest.via (fun t k => XS.aloadN X1.here hx rfl (hb hby at_29) rfl rfl k) ?_
    show Rest p.tables e below s _ _ _ (T1.setTop (mkF m 30 #[.val (.int p0), .val (.int (0 : Int32)), .val (.ref d0), .val (.int (0 : Int32)), .unset, .unset, .unset, .unset] [(.ref d0)]))
    obtain ⟨cq2, kq2, q2a, q2b, q2c⟩ := isOf hZ e1 E0
    obtain ⟨_, _, ⟨T2, L2, k2, n2⟩, -, X2, ⟨Lc2, hQ2, l2, y2, z2⟩, st2⟩ := X1.virtualBack hx (y := (⟨"com/example/zapros/zapros/model/Operator", "orders", "()Z"⟩ : MethodName)) (z := (⟨"com/example/zapros/zapros/model/Operator", "orders", "()Z"⟩ : MethodName)) hown (mvT hZ (hw _ (List.mem_of_getElem? (i := 8) rfl))) (mvT hZ (hw _ (List.mem_of_getElem? (i := 9) rfl))) (notFace_of_selects (args := #[]) (mvT hZ (hw _ (List.mem_of_getElem? (i := 11) rfl)))) (mvT hZ (hw _ (List.mem_of_getElem? (i := 11) rfl))) (mvT hZ (hw _ (List.mem_of_getElem? (i := 10) rfl))) (by decide) (backOf (W := 0) (rmO0 l Z aw hw []  d0 d1 d2 d3 d4 d5 h0 n0 (Nat.le_trans Z0 (Keep.refl h0 []).1) B) hZ (hw _ (List.mem_of_getElem? (i := 12) rfl)) (hw _ (List.mem_of_getElem? (i := 6) rfl)) (by decide) (by decide)) q2a q2c (g := (mkF m 30 #[.val (.int p0), .val (.int (0 : Int32)), .val (.ref d0), .val (.int (0 : Int32)), .unset, .unset, .unset, .unset] [(.ref d0)])) rfl (by rw [hml]; rfl) (Steps.refl _) (argsL := []) (rest := []) (lenOf pd_2 rfl) rfl (by show 2 * 0 + _ ≤ _; exact Nat.le_of_eq rfl) (hb hby at_30) (fun _ _ => ⟨rfl, e1, (by decide : 0 + 0 ≤ _), (by decide : 0 + 0 ≤ _)⟩)
    dsimp only [Pt.U, Pt.locs, Pt.cells, Pt.slots] at X2 l2 y2 z2 st2 hQ2
    subst l2 y2 z2
    obtain ⟨rfl, Nq2, e2⟩ := hQ2
    have N2 := Fr.app N1 Nq2
    refine Rest.via (fun t k => st2.trans k) ?_
    show Rest p.tables e below s _ _ _ (T2.setTop (mkF m 33 #[.val (.int p0), .val (.int (0 : Int32)), .val (.ref d0), .val (.int (0 : Int32)), .unset, .unset, .unset, .unset] [(.int (0 : Int32))]))
    refine Rest.via (fun t k => XS.istore X2.here hx rfl (hb hby at_33) rfl (l' := #[.val (.int p0), .val (.int (0 : Int32)), .val (.ref d0), .val (.int (0 : Int32)), .val (.int (0 : Int32)), .unset, .unset, .unset]) rfl k) ?_
    show Rest p.tables e below s _ _ _ (T2.setTop (mkF m 35 #[.val (.int p0), .val (.int (0 : Int32)), .val (.ref d0), .val (.int (0 : Int32)), .val (.int (0 : Int32)), .unset, .unset, .unset] []))
    refine Rest.via (fun t k => XS.aloadN X2.here hx rfl (hb hby at_35) rfl rfl k) ?_
    show Rest p.tables e below s _ _ _ (T2.setTop (mkF m 36 #[.val (.int p0), .val (.int (0 : Int32)), .val (.ref d0), .val (.int (0 : Int32)), .val (.int (0 : Int32)), .unset, .unset, .unset] [(.ref d0)]))
    obtain ⟨cq3, kq3, q3a, q3b, q3c⟩ := isOf hZ e2 E0
    obtain ⟨_, _, ⟨T3, L3, k3, n3⟩, -, X3, ⟨Lc3, hQ3, l3, y3, z3⟩, st3⟩ := X2.virtualBack hx (y := (⟨"com/example/zapros/zapros/model/Operator", "symbol", "()Ljava/lang/String;"⟩ : MethodName)) (z := (⟨"com/example/zapros/zapros/model/Operator", "symbol", "()Ljava/lang/String;"⟩ : MethodName)) hown (mvT hZ (hw _ (List.mem_of_getElem? (i := 14) rfl))) (mvT hZ (hw _ (List.mem_of_getElem? (i := 15) rfl))) (notFace_of_selects (args := #[]) (mvT hZ (hw _ (List.mem_of_getElem? (i := 17) rfl)))) (mvT hZ (hw _ (List.mem_of_getElem? (i := 17) rfl))) (mvT hZ (hw _ (List.mem_of_getElem? (i := 16) rfl))) (by decide) (backOf (W := 0) (rmSY l Z aw hw [] d0 tt h0 n0 (Nat.le_trans Z0 (Keep.refl h0 []).1) Fm) hZ (hw _ (List.mem_of_getElem? (i := 18) rfl)) (hw _ (List.mem_of_getElem? (i := 6) rfl)) (by decide) (by decide)) q3a q3c (g := (mkF m 36 #[.val (.int p0), .val (.int (0 : Int32)), .val (.ref d0), .val (.int (0 : Int32)), .val (.int (0 : Int32)), .unset, .unset, .unset] [(.ref d0)])) rfl (by rw [hml]; rfl) (Steps.refl _) (argsL := []) (rest := []) (lenOf pd_5 rfl) rfl (by show 2 * 0 + _ ≤ _; exact Nat.le_of_eq rfl) (hb hby at_36) (fun _ _ => ⟨rfl, e2, (by decide : 0 + 0 ≤ _), (by decide : 0 + 0 ≤ _)⟩)
    dsimp only [Pt.U, Pt.locs, Pt.cells, Pt.slots] at X3 l3 y3 z3 st3 hQ3
    subst l3 y3 z3
    obtain ⟨rfl, Nq3, e3⟩ := hQ3
    have N3 := Fr.app N2 Nq3
    refine Rest.via (fun t k => st3.trans k) ?_
    show Rest p.tables e below s _ _ _ (T3.setTop (mkF m 39 #[.val (.int p0), .val (.int (0 : Int32)), .val (.ref d0), .val (.int (0 : Int32)), .val (.int (0 : Int32)), .unset, .unset, .unset] [(.ref tt)]))
    refine Rest.via (fun t k => XS.astore X3.here hx rfl (hb hby at_39) rfl rfl (l' := #[.val (.int p0), .val (.int (0 : Int32)), .val (.ref d0), .val (.int (0 : Int32)), .val (.int (0 : Int32)), .val (.ref tt), .unset, .unset]) rfl k) ?_
    show Rest p.tables e below s _ _ _ (T3.setTop (mkF m 41 #[.val (.int p0), .val (.int (0 : Int32)), .val (.ref d0), .val (.int (0 : Int32)), .val (.int (0 : Int32)), .val (.ref tt), .unset, .unset] []))
    refine Rest.via (fun t k => XS.aload X3.here hx rfl (hb hby at_41) rfl rfl k) ?_
    show Rest p.tables e below s _ _ _ (T3.setTop (mkF m 43 #[.val (.int p0), .val (.int (0 : Int32)), .val (.ref d0), .val (.int (0 : Int32)), .val (.int (0 : Int32)), .val (.ref tt), .unset, .unset] [(.ref tt)]))
    obtain ⟨cq4, kq4, q4a, q4b, q4c⟩ := isOf hZ e3 Et
    obtain ⟨_, _, ⟨T4, L4, k4, n4⟩, -, X4, ⟨Lc4, hQ4, l4, y4, z4⟩, st4⟩ := X3.virtualBack hx (y := (⟨"java/lang/String", "isEmpty", "()Z"⟩ : MethodName)) (z := (⟨"java/lang/String", "isEmpty", "()Z"⟩ : MethodName)) hown (mvT hZ (hw _ (List.mem_of_getElem? (i := 21) rfl))) (mvT hZ (hw _ (List.mem_of_getElem? (i := 22) rfl))) (notFace_of_selects (args := #[]) (mvT hZ (hw _ (List.mem_of_getElem? (i := 24) rfl)))) (mvT hZ (hw _ (List.mem_of_getElem? (i := 24) rfl))) (mvT hZ (hw _ (List.mem_of_getElem? (i := 23) rfl))) (by decide) (backOf (W := 0) (rmEM l Z aw hw [] tt va kk (1 : Int32) (61 : Int32) vs h0 n0 (Nat.le_trans Z0 (Keep.refl h0 []).1) Et Fv Fc Vv (by decide)) hZ (hw _ (List.mem_of_getElem? (i := 26) rfl)) (hw _ (List.mem_of_getElem? (i := 25) rfl)) (by decide) (by decide)) q4a q4c (g := (mkF m 43 #[.val (.int p0), .val (.int (0 : Int32)), .val (.ref d0), .val (.int (0 : Int32)), .val (.int (0 : Int32)), .val (.ref tt), .unset, .unset] [(.ref tt)])) rfl (by rw [hml]; rfl) (Steps.refl _) (argsL := []) (rest := []) (lenOf pd_2 rfl) rfl (by show 2 * 0 + _ ≤ _; exact Nat.le_of_eq rfl) (hb hby at_43) (fun _ _ => ⟨rfl, e3, (by decide : 0 + 0 ≤ _), (by decide : 0 + 0 ≤ _)⟩)
    dsimp only [Pt.U, Pt.locs, Pt.cells, Pt.slots] at X4 l4 y4 z4 st4 hQ4
    subst l4 y4 z4
    obtain ⟨rfl, Nq4, e4⟩ := hQ4
    have N4 := Fr.app N3 Nq4
    refine Rest.via (fun t k => st4.trans k) ?_
    show Rest p.tables e below s _ _ _ (T4.setTop (mkF m 46 #[.val (.int p0), .val (.int (0 : Int32)), .val (.ref d0), .val (.int (0 : Int32)), .val (.int (0 : Int32)), .val (.ref tt), .unset, .unset] [(.int (0 : Int32))]))
    refine Rest.via (fun t k => XS.ifYes X4.here hx rfl (pc0 := 46) (pc' := 51) rfl (hb hby at_46) rfl ((if0 _ _).trans (teq (by decide : (0 : Int32) = (0 : Int32))).1) (by decide) (by decide) k) ?_
    show Rest p.tables e below s _ _ _ (T4.setTop (mkF m 51 #[.val (.int p0), .val (.int (0 : Int32)), .val (.ref d0), .val (.int (0 : Int32)), .val (.int (0 : Int32)), .val (.ref tt), .unset, .unset] []))
    refine Rest.via (fun t k => XS.aload X4.here hx rfl (hb hby at_51) rfl rfl k) ?_
    show Rest p.tables e below s _ _ _ (T4.setTop (mkF m 53 #[.val (.int p0), .val (.int (0 : Int32)), .val (.ref d0), .val (.int (0 : Int32)), .val (.int (0 : Int32)), .val (.ref tt), .unset, .unset] [(.ref tt)]))
    refine Rest.via (fun t k => XS.iconst X4.here hx rfl (hb hby at_53) k) ?_
    show Rest p.tables e below s _ _ _ (T4.setTop (mkF m 54 #[.val (.int p0), .val (.int (0 : Int32)), .val (.ref d0), .val (.int (0 : Int32)), .val (.int (0 : Int32)), .val (.ref tt), .unset, .unset] [(.int (0 : Int32)), (.ref tt)]))
    obtain ⟨cq5, kq5, q5a, q5b, q5c⟩ := isOf hZ e4 Et
    obtain ⟨_, _, ⟨T5, L5, k5, n5⟩, -, X5, ⟨Lc5, hQ5, l5, y5, z5⟩, st5⟩ := X4.virtualBack hx (y := (⟨"java/lang/String", "charAt", "(I)C"⟩ : MethodName)) (z := (⟨"java/lang/String", "charAt", "(I)C"⟩ : MethodName)) hown (mvT hZ (hw _ (List.mem_of_getElem? (i := 29) rfl))) (mvT hZ (hw _ (List.mem_of_getElem? (i := 30) rfl))) (notFace_of_selects (args := #[]) (mvT hZ (hw _ (List.mem_of_getElem? (i := 32) rfl)))) (mvT hZ (hw _ (List.mem_of_getElem? (i := 32) rfl))) (mvT hZ (hw _ (List.mem_of_getElem? (i := 31) rfl))) (by decide) (backOf (W := 0) (rmCA l Z aw hw [] tt va kk (1 : Int32) (61 : Int32) vs fm ic h0 n0 (Nat.le_trans Z0 (Keep.refl h0 []).1) Et Fv Fc Vv (by decide) hf Sf Sc hic) hZ (hw _ (List.mem_of_getElem? (i := 33) rfl)) (hw _ (List.mem_of_getElem? (i := 25) rfl)) (by decide) (by decide)) q5a q5c (g := (mkF m 54 #[.val (.int p0), .val (.int (0 : Int32)), .val (.ref d0), .val (.int (0 : Int32)), .val (.int (0 : Int32)), .val (.ref tt), .unset, .unset] [(.int (0 : Int32)), (.ref tt)])) rfl (by rw [hml]; rfl) (Steps.refl _) (argsL := [(.int (0 : Int32))]) (rest := []) (lenOf pd_6 rfl) rfl (by show 2 * 0 + _ ≤ _; exact Nat.le_of_eq rfl) (hb hby at_54) (fun _ _ => ⟨rfl, e4, (by decide : 0 + 0 ≤ _), (by decide : 0 + 0 ≤ _)⟩)
    dsimp only [Pt.U, Pt.locs, Pt.cells, Pt.slots] at X5 l5 y5 z5 st5 hQ5
    subst l5 y5 z5
    obtain ⟨rfl, Nq5, e5⟩ := hQ5
    have N5 := Fr.app N4 Nq5
    refine Rest.via (fun t k => st5.trans k) ?_
    show Rest p.tables e below s _ _ _ (T5.setTop (mkF m 57 #[.val (.int p0), .val (.int (0 : Int32)), .val (.ref d0), .val (.int (0 : Int32)), .val (.int (0 : Int32)), .val (.ref tt), .unset, .unset] [(.int (own_cc (61 : Int32)))]))
    rw [(by decide : own_cc (61 : Int32) = (61 : Int32))]
    show Rest p.tables e below s _ _ _ (T5.setTop (mkF m 57 #[.val (.int p0), .val (.int (0 : Int32)), .val (.ref d0), .val (.int (0 : Int32)), .val (.int (0 : Int32)), .val (.ref tt), .unset, .unset] [(.int (61 : Int32))]))
    refine Rest.via (fun t k => XS.istore X5.here hx rfl (hb hby at_57) rfl (l' := #[.val (.int p0), .val (.int (0 : Int32)), .val (.ref d0), .val (.int (0 : Int32)), .val (.int (0 : Int32)), .val (.ref tt), .val (.int (61 : Int32)), .unset]) rfl k) ?_
    show Rest p.tables e below s _ _ _ (T5.setTop (mkF m 59 #[.val (.int p0), .val (.int (0 : Int32)), .val (.ref d0), .val (.int (0 : Int32)), .val (.int (0 : Int32)), .val (.ref tt), .val (.int (61 : Int32)), .unset] []))
    refine Rest.via (fun t k => XS.iload X5.here hx rfl (hb hby at_59) rfl k) ?_
    show Rest p.tables e below s _ _ _ (T5.setTop (mkF m 61 #[.val (.int p0), .val (.int (0 : Int32)), .val (.ref d0), .val (.int (0 : Int32)), .val (.int (0 : Int32)), .val (.ref tt), .val (.int (61 : Int32)), .unset] [(.int (61 : Int32))]))
    refine Rest.via (fun t k => XS.bipush X5.here hx rfl (hb hby at_61) k) ?_
    show Rest p.tables e below s _ _ _ (T5.setTop (mkF m 63 #[.val (.int p0), .val (.int (0 : Int32)), .val (.ref d0), .val (.int (0 : Int32)), .val (.int (0 : Int32)), .val (.ref tt), .val (.int (61 : Int32)), .unset] [(.int (60 : Int32)), (.int (61 : Int32))]))
    refine Rest.via (fun t k => XS.icmpNo X5.here hx rfl (hb hby at_63) rfl (feq (by decide : ¬ ((61 : Int32) = (60 : Int32)))).1 k) ?_
    show Rest p.tables e below s _ _ _ (T5.setTop (mkF m 66 #[.val (.int p0), .val (.int (0 : Int32)), .val (.ref d0), .val (.int (0 : Int32)), .val (.int (0 : Int32)), .val (.ref tt), .val (.int (61 : Int32)), .unset] []))
    refine Rest.via (fun t k => XS.iload X5.here hx rfl (hb hby at_66) rfl k) ?_
    show Rest p.tables e below s _ _ _ (T5.setTop (mkF m 68 #[.val (.int p0), .val (.int (0 : Int32)), .val (.ref d0), .val (.int (0 : Int32)), .val (.int (0 : Int32)), .val (.ref tt), .val (.int (61 : Int32)), .unset] [(.int (61 : Int32))]))
    refine Rest.via (fun t k => XS.bipush X5.here hx rfl (hb hby at_68) k) ?_
    show Rest p.tables e below s _ _ _ (T5.setTop (mkF m 70 #[.val (.int p0), .val (.int (0 : Int32)), .val (.ref d0), .val (.int (0 : Int32)), .val (.int (0 : Int32)), .val (.ref tt), .val (.int (61 : Int32)), .unset] [(.int (62 : Int32)), (.int (61 : Int32))]))
    refine Rest.via (fun t k => XS.icmpYes X5.here hx rfl (pc0 := 70) (pc' := 77) rfl (hb hby at_70) rfl (feq (by decide : ¬ ((61 : Int32) = (62 : Int32)))).2 (by decide) (by decide) k) ?_
    show Rest p.tables e below s _ _ _ (T5.setTop (mkF m 77 #[.val (.int p0), .val (.int (0 : Int32)), .val (.ref d0), .val (.int (0 : Int32)), .val (.int (0 : Int32)), .val (.ref tt), .val (.int (61 : Int32)), .unset] []))
    refine Rest.via (fun t k => XS.iconst X5.here hx rfl (hb hby at_77) k) ?_
    show Rest p.tables e below s _ _ _ (T5.setTop (mkF m 78 #[.val (.int p0), .val (.int (0 : Int32)), .val (.ref d0), .val (.int (0 : Int32)), .val (.int (0 : Int32)), .val (.ref tt), .val (.int (61 : Int32)), .unset] [(.int (0 : Int32))]))
    refine Rest.via (fun t k => XS.istore X5.here hx rfl (hb hby at_78) rfl (l' := #[.val (.int p0), .val (.int (0 : Int32)), .val (.ref d0), .val (.int (0 : Int32)), .val (.int (0 : Int32)), .val (.ref tt), .val (.int (61 : Int32)), .val (.int (0 : Int32))]) rfl k) ?_
    show Rest p.tables e below s _ _ _ (T5.setTop (mkF m 80 #[.val (.int p0), .val (.int (0 : Int32)), .val (.ref d0), .val (.int (0 : Int32)), .val (.int (0 : Int32)), .val (.ref tt), .val (.int (61 : Int32)), .val (.int (0 : Int32))] []))
    refine Rest.via (fun t k => XS.iload X5.here hx rfl (hb hby at_80) rfl k) ?_
    show Rest p.tables e below s _ _ _ (T5.setTop (mkF m 82 #[.val (.int p0), .val (.int (0 : Int32)), .val (.ref d0), .val (.int (0 : Int32)), .val (.int (0 : Int32)), .val (.ref tt), .val (.int (61 : Int32)), .val (.int (0 : Int32))] [(.int (0 : Int32))]))
    refine Rest.via (fun t k => XS.iloadN X5.here hx rfl (hb hby at_82) rfl k) ?_
    show Rest p.tables e below s _ _ _ (T5.setTop (mkF m 83 #[.val (.int p0), .val (.int (0 : Int32)), .val (.ref d0), .val (.int (0 : Int32)), .val (.int (0 : Int32)), .val (.ref tt), .val (.int (61 : Int32)), .val (.int (0 : Int32))] [(.int (0 : Int32)), (.int (0 : Int32))]))
    refine Rest.via (fun t k => XS.icmpNo X5.here hx rfl (hb hby at_83) rfl (teq (by decide : (0 : Int32) = (0 : Int32))).2 k) ?_
    show Rest p.tables e below s _ _ _ (T5.setTop (mkF m 86 #[.val (.int p0), .val (.int (0 : Int32)), .val (.ref d0), .val (.int (0 : Int32)), .val (.int (0 : Int32)), .val (.ref tt), .val (.int (61 : Int32)), .val (.int (0 : Int32))] []))
    refine Rest.via (fun t k => XS.iloadN X5.here hx rfl (hb hby at_86) rfl k) ?_
    show Rest p.tables e below s _ _ _ (T5.setTop (mkF m 87 #[.val (.int p0), .val (.int (0 : Int32)), .val (.ref d0), .val (.int (0 : Int32)), .val (.int (0 : Int32)), .val (.ref tt), .val (.int (61 : Int32)), .val (.int (0 : Int32))] [(.int (0 : Int32))]))
    refine Rest.via (fun t k => XS.iload X5.here hx rfl (hb hby at_87) rfl k) ?_
    show Rest p.tables e below s _ _ _ (T5.setTop (mkF m 89 #[.val (.int p0), .val (.int (0 : Int32)), .val (.ref d0), .val (.int (0 : Int32)), .val (.int (0 : Int32)), .val (.ref tt), .val (.int (61 : Int32)), .val (.int (0 : Int32))] [(.int (0 : Int32)), (.int (0 : Int32))]))
    refine Rest.via (fun t k => XS.icmpNo X5.here hx rfl (hb hby at_89) rfl (teq (by decide : (0 : Int32) = (0 : Int32))).2 k) ?_
    show Rest p.tables e below s _ _ _ (T5.setTop (mkF m 92 #[.val (.int p0), .val (.int (0 : Int32)), .val (.ref d0), .val (.int (0 : Int32)), .val (.int (0 : Int32)), .val (.ref tt), .val (.int (61 : Int32)), .val (.int (0 : Int32))] []))
    refine Rest.via (fun t k => XS.iconst X5.here hx rfl (hb hby at_92) k) ?_
    show Rest p.tables e below s _ _ _ (T5.setTop (mkF m 93 #[.val (.int p0), .val (.int (0 : Int32)), .val (.ref d0), .val (.int (0 : Int32)), .val (.int (0 : Int32)), .val (.ref tt), .val (.int (61 : Int32)), .val (.int (0 : Int32))] [(.int (1 : Int32))]))
    refine Rest.via (fun t k => XS.goto X5.here hx rfl (pc0 := 93) (pc' := 97) rfl (hb hby at_93) (by decide) (by decide) k) ?_
    show Rest p.tables e below s _ _ _ (T5.setTop (mkF m 97 #[.val (.int p0), .val (.int (0 : Int32)), .val (.ref d0), .val (.int (0 : Int32)), .val (.int (0 : Int32)), .val (.ref tt), .val (.int (61 : Int32)), .val (.int (0 : Int32))] [(.int (1 : Int32))]))
    refine Rest.ret X5 (v := some (.int (nar .boolean (1 : Int32)))) (fun h => by rw [Bd.returns] at h; cases h) hlk (fun fs hr => retN X5 hx (t := .boolean) Bd.returns (by simp) (hb hby at_97) hr) ?_ (by decide) (by decide)
    rw [e5]
    exact ⟨rfl, N5⟩
  · obtain ⟨tt, va, kk, vs, Fm, Et, Fv, Fc, Vv⟩ := SS1
    show Rest p.tables e below s _ _ _ (s₁.setTop (mkF m 8 #[.val (.int p0), .val (.int (1 : Int32)), .unset, .unset, .unset, .unset, .unset, .unset] []))
    refine Rest.via (fun t k => XS.iloadN X0.here hx rfl (hb hby at_8) rfl k) ?_
    show Rest p.tables e below s _ _ _ (s₁.setTop (mkF m 9 #[.val (.int p0), .val (.int (1 : Int32)), .unset, .unset, .unset, .unset, .unset, .unset] [(.int (1 : Int32))]))
    obtain ⟨_, _, ⟨T6, L6, k6, n6⟩, -, X6, ⟨Lc6, hQ6, l6, y6, z6⟩, st6⟩ := Jvm.LawKit.callS X0 hx (y := (⟨"com/example/zapros/zapros/model/OperatorOrdersPinLaw", "pick", "(I)Lcom/example/zapros/zapros/model/Operator;"⟩ : MethodName)) hown (mvT hZ (hw _ (List.mem_of_getElem? (i := 1) rfl))) (mvT hZ (hw _ (List.mem_of_getElem? (i := 2) rfl))) (mvT hZ (hw _ (List.mem_of_getElem? (i := 3) rfl))) (mvT hZ (hw _ (List.mem_of_getElem? (i := 4) rfl))) (by decide) (backOf (W := 0) (rmP1 l Z aw hw []  d0 d1 d2 d3 d4 d5 h0 n0 (Nat.le_trans Z0 (Keep.refl h0 []).1) B) hZ (hw _ (List.mem_of_getElem? (i := 4) rfl)) (hw _ (List.mem_of_getElem? (i := 3) rfl)) (by decide) (by decide)) (g := (mkF m 9 #[.val (.int p0), .val (.int (1 : Int32)), .unset, .unset, .unset, .unset, .unset, .unset] [(.int (1 : Int32))])) rfl (by rw [hml]; rfl) (argsL := [(.int (1 : Int32))]) (rest := []) (lenOf pd_4 rfl) rfl (by show 2 * 0 + _ ≤ _; exact Nat.le_of_eq rfl) (hb hby at_9) (fun _ _ => ⟨rfl, eh0, (by decide : 0 + 0 ≤ _), (by decide : 0 + 0 ≤ _)⟩)
    dsimp only [Pt.U, Pt.locs, Pt.cells, Pt.slots] at X6 l6 y6 z6 st6 hQ6
    subst l6 y6 z6
    obtain ⟨rfl, Nq6, e6⟩ := hQ6
    have N6 := Fr.app N0 Nq6
    refine Rest.via (fun t k => st6 t k) ?_
    show Rest p.tables e below s _ _ _ (T6.setTop (mkF m 12 #[.val (.int p0), .val (.int (1 : Int32)), .unset, .unset, .unset, .unset, .unset, .unset] [(.ref d1)]))
    refine Rest.via (fun t k => XS.astoreN X6.here hx rfl (hb hby at_12) rfl rfl (l' := #[.val (.int p0), .val (.int (1 : Int32)), .val (.ref d1), .unset, .unset, .unset, .unset, .unset]) rfl k) ?_
    show Rest p.tables e below s _ _ _ (T6.setTop (mkF m 13 #[.val (.int p0), .val (.int (1 : Int32)), .val (.ref d1), .unset, .unset, .unset, .unset, .unset] []))
    refine Rest.via (fun t k => XS.iloadN X6.here hx rfl (hb hby at_13) rfl k) ?_
    show Rest p.tables e below s _ _ _ (T6.setTop (mkF m 14 #[.val (.int p0), .val (.int (1 : Int32)), .val (.ref d1), .unset, .unset, .unset, .unset, .unset] [(.int (1 : Int32))]))
    refine Rest.via (fun t k => XS.iconst X6.here hx rfl (hb hby at_14) k) ?_
    show Rest p.tables e below s _ _ _ (T6.setTop (mkF m 15 #[.val (.int p0), .val (.int (1 : Int32)), .val (.ref d1), .unset, .unset, .unset, .unset, .unset] [(.int (1 : Int32)), (.int (1 : Int32))]))
    refine Rest.via (fun t k => XS.icmpNo X6.here hx rfl (hb hby at_15) rfl (flt (by decide : ¬ ((1 : Int32) < (1 : Int32)))).1 k) ?_
    show Rest p.tables e below s _ _ _ (T6.setTop (mkF m 18 #[.val (.int p0), .val (.int (1 : Int32)), .val (.ref d1), .unset, .unset, .unset, .unset, .unset] []))
    refine Rest.via (fun t k => XS.iloadN X6.here hx rfl (hb hby at_18) rfl k) ?_
    show Rest p.tables e below s _ _ _ (T6.setTop (mkF m 19 #[.val (.int p0), .val (.int (1 : Int32)), .val (.ref d1), .unset, .unset, .unset, .unset, .unset] [(.int (1 : Int32))]))
    refine Rest.via (fun t k => XS.iconst X6.here hx rfl (hb hby at_19) k) ?_
    show Rest p.tables e below s _ _ _ (T6.setTop (mkF m 20 #[.val (.int p0), .val (.int (1 : Int32)), .val (.ref d1), .unset, .unset, .unset, .unset, .unset] [(.int (4 : Int32)), (.int (1 : Int32))]))
    refine Rest.via (fun t k => XS.icmpNo X6.here hx rfl (hb hby at_20) rfl (flt (by decide : ¬ ((4 : Int32) < (1 : Int32)))).2.2.1 k) ?_
    show Rest p.tables e below s _ _ _ (T6.setTop (mkF m 23 #[.val (.int p0), .val (.int (1 : Int32)), .val (.ref d1), .unset, .unset, .unset, .unset, .unset] []))
    refine Rest.via (fun t k => XS.iconst X6.here hx rfl (hb hby at_23) k) ?_
    show Rest p.tables e below s _ _ _ (T6.setTop (mkF m 24 #[.val (.int p0), .val (.int (1 : Int32)), .val (.ref d1), .unset, .unset, .unset, .unset, .unset] [(.int (1 : Int32))]))
    refine Rest.via (fun t k => XS.goto X6.here hx rfl (pc0 := 24) (pc' := 28) rfl (hb hby at_24) (by decide) (by decide) k) ?_
    show Rest p.tables e below s _ _ _ (T6.setTop (mkF m 28 #[.val (.int p0), .val (.int (1 : Int32)), .val (.ref d1), .unset, .unset, .unset, .unset, .unset] [(.int (1 : Int32))]))
    refine Rest.via (fun t k => XS.istoreN X6.here hx rfl (hb hby at_28) rfl (l' := #[.val (.int p0), .val (.int (1 : Int32)), .val (.ref d1), .val (.int (1 : Int32)), .unset, .unset, .unset, .unset]) rfl k) ?_
    show Rest p.tables e below s _ _ _ (T6.setTop (mkF m 29 #[.val (.int p0), .val (.int (1 : Int32)), .val (.ref d1), .val (.int (1 : Int32)), .unset, .unset, .unset, .unset] []))
    refine Rest.via (fun t k => XS.aloadN X6.here hx rfl (hb hby at_29) rfl rfl k) ?_
    show Rest p.tables e below s _ _ _ (T6.setTop (mkF m 30 #[.val (.int p0), .val (.int (1 : Int32)), .val (.ref d1), .val (.int (1 : Int32)), .unset, .unset, .unset, .unset] [(.ref d1)]))
    obtain ⟨cq7, kq7, q7a, q7b, q7c⟩ := isOf hZ e6 E1
    obtain ⟨_, _, ⟨T7, L7, k7, n7⟩, -, X7, ⟨Lc7, hQ7, l7, y7, z7⟩, st7⟩ := X6.virtualBack hx (y := (⟨"com/example/zapros/zapros/model/Operator", "orders", "()Z"⟩ : MethodName)) (z := (⟨"com/example/zapros/zapros/model/Operator", "orders", "()Z"⟩ : MethodName)) hown (mvT hZ (hw _ (List.mem_of_getElem? (i := 8) rfl))) (mvT hZ (hw _ (List.mem_of_getElem? (i := 9) rfl))) (notFace_of_selects (args := #[]) (mvT hZ (hw _ (List.mem_of_getElem? (i := 11) rfl)))) (mvT hZ (hw _ (List.mem_of_getElem? (i := 11) rfl))) (mvT hZ (hw _ (List.mem_of_getElem? (i := 10) rfl))) (by decide) (backOf (W := 0) (rmO1 l Z aw hw []  d0 d1 d2 d3 d4 d5 h0 n0 (Nat.le_trans Z0 (Keep.refl h0 []).1) B) hZ (hw _ (List.mem_of_getElem? (i := 12) rfl)) (hw _ (List.mem_of_getElem? (i := 6) rfl)) (by decide) (by decide)) q7a q7c (g := (mkF m 30 #[.val (.int p0), .val (.int (1 : Int32)), .val (.ref d1), .val (.int (1 : Int32)), .unset, .unset, .unset, .unset] [(.ref d1)])) rfl (by rw [hml]; rfl) (Steps.refl _) (argsL := []) (rest := []) (lenOf pd_2 rfl) rfl (by show 2 * 0 + _ ≤ _; exact Nat.le_of_eq rfl) (hb hby at_30) (fun _ _ => ⟨rfl, e6, (by decide : 0 + 0 ≤ _), (by decide : 0 + 0 ≤ _)⟩)
    dsimp only [Pt.U, Pt.locs, Pt.cells, Pt.slots] at X7 l7 y7 z7 st7 hQ7
    subst l7 y7 z7
    obtain ⟨rfl, Nq7, e7⟩ := hQ7
    have N7 := Fr.app N6 Nq7
    refine Rest.via (fun t k => st7.trans k) ?_
    show Rest p.tables e below s _ _ _ (T7.setTop (mkF m 33 #[.val (.int p0), .val (.int (1 : Int32)), .val (.ref d1), .val (.int (1 : Int32)), .unset, .unset, .unset, .unset] [(.int (1 : Int32))]))
    refine Rest.via (fun t k => XS.istore X7.here hx rfl (hb hby at_33) rfl (l' := #[.val (.int p0), .val (.int (1 : Int32)), .val (.ref d1), .val (.int (1 : Int32)), .val (.int (1 : Int32)), .unset, .unset, .unset]) rfl k) ?_
    show Rest p.tables e below s _ _ _ (T7.setTop (mkF m 35 #[.val (.int p0), .val (.int (1 : Int32)), .val (.ref d1), .val (.int (1 : Int32)), .val (.int (1 : Int32)), .unset, .unset, .unset] []))
    refine Rest.via (fun t k => XS.aloadN X7.here hx rfl (hb hby at_35) rfl rfl k) ?_
    show Rest p.tables e below s _ _ _ (T7.setTop (mkF m 36 #[.val (.int p0), .val (.int (1 : Int32)), .val (.ref d1), .val (.int (1 : Int32)), .val (.int (1 : Int32)), .unset, .unset, .unset] [(.ref d1)]))
    obtain ⟨cq8, kq8, q8a, q8b, q8c⟩ := isOf hZ e7 E1
    obtain ⟨_, _, ⟨T8, L8, k8, n8⟩, -, X8, ⟨Lc8, hQ8, l8, y8, z8⟩, st8⟩ := X7.virtualBack hx (y := (⟨"com/example/zapros/zapros/model/Operator", "symbol", "()Ljava/lang/String;"⟩ : MethodName)) (z := (⟨"com/example/zapros/zapros/model/Operator", "symbol", "()Ljava/lang/String;"⟩ : MethodName)) hown (mvT hZ (hw _ (List.mem_of_getElem? (i := 14) rfl))) (mvT hZ (hw _ (List.mem_of_getElem? (i := 15) rfl))) (notFace_of_selects (args := #[]) (mvT hZ (hw _ (List.mem_of_getElem? (i := 17) rfl)))) (mvT hZ (hw _ (List.mem_of_getElem? (i := 17) rfl))) (mvT hZ (hw _ (List.mem_of_getElem? (i := 16) rfl))) (by decide) (backOf (W := 0) (rmSY l Z aw hw [] d1 tt h0 n0 (Nat.le_trans Z0 (Keep.refl h0 []).1) Fm) hZ (hw _ (List.mem_of_getElem? (i := 18) rfl)) (hw _ (List.mem_of_getElem? (i := 6) rfl)) (by decide) (by decide)) q8a q8c (g := (mkF m 36 #[.val (.int p0), .val (.int (1 : Int32)), .val (.ref d1), .val (.int (1 : Int32)), .val (.int (1 : Int32)), .unset, .unset, .unset] [(.ref d1)])) rfl (by rw [hml]; rfl) (Steps.refl _) (argsL := []) (rest := []) (lenOf pd_5 rfl) rfl (by show 2 * 0 + _ ≤ _; exact Nat.le_of_eq rfl) (hb hby at_36) (fun _ _ => ⟨rfl, e7, (by decide : 0 + 0 ≤ _), (by decide : 0 + 0 ≤ _)⟩)
    dsimp only [Pt.U, Pt.locs, Pt.cells, Pt.slots] at X8 l8 y8 z8 st8 hQ8
    subst l8 y8 z8
    obtain ⟨rfl, Nq8, e8⟩ := hQ8
    have N8 := Fr.app N7 Nq8
    refine Rest.via (fun t k => st8.trans k) ?_
    show Rest p.tables e below s _ _ _ (T8.setTop (mkF m 39 #[.val (.int p0), .val (.int (1 : Int32)), .val (.ref d1), .val (.int (1 : Int32)), .val (.int (1 : Int32)), .unset, .unset, .unset] [(.ref tt)]))
    refine Rest.via (fun t k => XS.astore X8.here hx rfl (hb hby at_39) rfl rfl (l' := #[.val (.int p0), .val (.int (1 : Int32)), .val (.ref d1), .val (.int (1 : Int32)), .val (.int (1 : Int32)), .val (.ref tt), .unset, .unset]) rfl k) ?_
    show Rest p.tables e below s _ _ _ (T8.setTop (mkF m 41 #[.val (.int p0), .val (.int (1 : Int32)), .val (.ref d1), .val (.int (1 : Int32)), .val (.int (1 : Int32)), .val (.ref tt), .unset, .unset] []))
    refine Rest.via (fun t k => XS.aload X8.here hx rfl (hb hby at_41) rfl rfl k) ?_
    show Rest p.tables e below s _ _ _ (T8.setTop (mkF m 43 #[.val (.int p0), .val (.int (1 : Int32)), .val (.ref d1), .val (.int (1 : Int32)), .val (.int (1 : Int32)), .val (.ref tt), .unset, .unset] [(.ref tt)]))
    obtain ⟨cq9, kq9, q9a, q9b, q9c⟩ := isOf hZ e8 Et
    obtain ⟨_, _, ⟨T9, L9, k9, n9⟩, -, X9, ⟨Lc9, hQ9, l9, y9, z9⟩, st9⟩ := X8.virtualBack hx (y := (⟨"java/lang/String", "isEmpty", "()Z"⟩ : MethodName)) (z := (⟨"java/lang/String", "isEmpty", "()Z"⟩ : MethodName)) hown (mvT hZ (hw _ (List.mem_of_getElem? (i := 21) rfl))) (mvT hZ (hw _ (List.mem_of_getElem? (i := 22) rfl))) (notFace_of_selects (args := #[]) (mvT hZ (hw _ (List.mem_of_getElem? (i := 24) rfl)))) (mvT hZ (hw _ (List.mem_of_getElem? (i := 24) rfl))) (mvT hZ (hw _ (List.mem_of_getElem? (i := 23) rfl))) (by decide) (backOf (W := 0) (rmEM l Z aw hw [] tt va kk (1 : Int32) (62 : Int32) vs h0 n0 (Nat.le_trans Z0 (Keep.refl h0 []).1) Et Fv Fc Vv (by decide)) hZ (hw _ (List.mem_of_getElem? (i := 26) rfl)) (hw _ (List.mem_of_getElem? (i := 25) rfl)) (by decide) (by decide)) q9a q9c (g := (mkF m 43 #[.val (.int p0), .val (.int (1 : Int32)), .val (.ref d1), .val (.int (1 : Int32)), .val (.int (1 : Int32)), .val (.ref tt), .unset, .unset] [(.ref tt)])) rfl (by rw [hml]; rfl) (Steps.refl _) (argsL := []) (rest := []) (lenOf pd_2 rfl) rfl (by show 2 * 0 + _ ≤ _; exact Nat.le_of_eq rfl) (hb hby at_43) (fun _ _ => ⟨rfl, e8, (by decide : 0 + 0 ≤ _), (by decide : 0 + 0 ≤ _)⟩)
    dsimp only [Pt.U, Pt.locs, Pt.cells, Pt.slots] at X9 l9 y9 z9 st9 hQ9
    subst l9 y9 z9
    obtain ⟨rfl, Nq9, e9⟩ := hQ9
    have N9 := Fr.app N8 Nq9
    refine Rest.via (fun t k => st9.trans k) ?_
    show Rest p.tables e below s _ _ _ (T9.setTop (mkF m 46 #[.val (.int p0), .val (.int (1 : Int32)), .val (.ref d1), .val (.int (1 : Int32)), .val (.int (1 : Int32)), .val (.ref tt), .unset, .unset] [(.int (0 : Int32))]))
    refine Rest.via (fun t k => XS.ifYes X9.here hx rfl (pc0 := 46) (pc' := 51) rfl (hb hby at_46) rfl ((if0 _ _).trans (teq (by decide : (0 : Int32) = (0 : Int32))).1) (by decide) (by decide) k) ?_
    show Rest p.tables e below s _ _ _ (T9.setTop (mkF m 51 #[.val (.int p0), .val (.int (1 : Int32)), .val (.ref d1), .val (.int (1 : Int32)), .val (.int (1 : Int32)), .val (.ref tt), .unset, .unset] []))
    refine Rest.via (fun t k => XS.aload X9.here hx rfl (hb hby at_51) rfl rfl k) ?_
    show Rest p.tables e below s _ _ _ (T9.setTop (mkF m 53 #[.val (.int p0), .val (.int (1 : Int32)), .val (.ref d1), .val (.int (1 : Int32)), .val (.int (1 : Int32)), .val (.ref tt), .unset, .unset] [(.ref tt)]))
    refine Rest.via (fun t k => XS.iconst X9.here hx rfl (hb hby at_53) k) ?_
    show Rest p.tables e below s _ _ _ (T9.setTop (mkF m 54 #[.val (.int p0), .val (.int (1 : Int32)), .val (.ref d1), .val (.int (1 : Int32)), .val (.int (1 : Int32)), .val (.ref tt), .unset, .unset] [(.int (0 : Int32)), (.ref tt)]))
    obtain ⟨cq10, kq10, q10a, q10b, q10c⟩ := isOf hZ e9 Et
    obtain ⟨_, _, ⟨T10, L10, k10, n10⟩, -, X10, ⟨Lc10, hQ10, l10, y10, z10⟩, st10⟩ := X9.virtualBack hx (y := (⟨"java/lang/String", "charAt", "(I)C"⟩ : MethodName)) (z := (⟨"java/lang/String", "charAt", "(I)C"⟩ : MethodName)) hown (mvT hZ (hw _ (List.mem_of_getElem? (i := 29) rfl))) (mvT hZ (hw _ (List.mem_of_getElem? (i := 30) rfl))) (notFace_of_selects (args := #[]) (mvT hZ (hw _ (List.mem_of_getElem? (i := 32) rfl)))) (mvT hZ (hw _ (List.mem_of_getElem? (i := 32) rfl))) (mvT hZ (hw _ (List.mem_of_getElem? (i := 31) rfl))) (by decide) (backOf (W := 0) (rmCA l Z aw hw [] tt va kk (1 : Int32) (62 : Int32) vs fm ic h0 n0 (Nat.le_trans Z0 (Keep.refl h0 []).1) Et Fv Fc Vv (by decide) hf Sf Sc hic) hZ (hw _ (List.mem_of_getElem? (i := 33) rfl)) (hw _ (List.mem_of_getElem? (i := 25) rfl)) (by decide) (by decide)) q10a q10c (g := (mkF m 54 #[.val (.int p0), .val (.int (1 : Int32)), .val (.ref d1), .val (.int (1 : Int32)), .val (.int (1 : Int32)), .val (.ref tt), .unset, .unset] [(.int (0 : Int32)), (.ref tt)])) rfl (by rw [hml]; rfl) (Steps.refl _) (argsL := [(.int (0 : Int32))]) (rest := []) (lenOf pd_6 rfl) rfl (by show 2 * 0 + _ ≤ _; exact Nat.le_of_eq rfl) (hb hby at_54) (fun _ _ => ⟨rfl, e9, (by decide : 0 + 0 ≤ _), (by decide : 0 + 0 ≤ _)⟩)
    dsimp only [Pt.U, Pt.locs, Pt.cells, Pt.slots] at X10 l10 y10 z10 st10 hQ10
    subst l10 y10 z10
    obtain ⟨rfl, Nq10, e10⟩ := hQ10
    have N10 := Fr.app N9 Nq10
    refine Rest.via (fun t k => st10.trans k) ?_
    show Rest p.tables e below s _ _ _ (T10.setTop (mkF m 57 #[.val (.int p0), .val (.int (1 : Int32)), .val (.ref d1), .val (.int (1 : Int32)), .val (.int (1 : Int32)), .val (.ref tt), .unset, .unset] [(.int (own_cc (62 : Int32)))]))
    rw [(by decide : own_cc (62 : Int32) = (62 : Int32))]
    show Rest p.tables e below s _ _ _ (T10.setTop (mkF m 57 #[.val (.int p0), .val (.int (1 : Int32)), .val (.ref d1), .val (.int (1 : Int32)), .val (.int (1 : Int32)), .val (.ref tt), .unset, .unset] [(.int (62 : Int32))]))
    refine Rest.via (fun t k => XS.istore X10.here hx rfl (hb hby at_57) rfl (l' := #[.val (.int p0), .val (.int (1 : Int32)), .val (.ref d1), .val (.int (1 : Int32)), .val (.int (1 : Int32)), .val (.ref tt), .val (.int (62 : Int32)), .unset]) rfl k) ?_
    show Rest p.tables e below s _ _ _ (T10.setTop (mkF m 59 #[.val (.int p0), .val (.int (1 : Int32)), .val (.ref d1), .val (.int (1 : Int32)), .val (.int (1 : Int32)), .val (.ref tt), .val (.int (62 : Int32)), .unset] []))
    refine Rest.via (fun t k => XS.iload X10.here hx rfl (hb hby at_59) rfl k) ?_
    show Rest p.tables e below s _ _ _ (T10.setTop (mkF m 61 #[.val (.int p0), .val (.int (1 : Int32)), .val (.ref d1), .val (.int (1 : Int32)), .val (.int (1 : Int32)), .val (.ref tt), .val (.int (62 : Int32)), .unset] [(.int (62 : Int32))]))
    refine Rest.via (fun t k => XS.bipush X10.here hx rfl (hb hby at_61) k) ?_
    show Rest p.tables e below s _ _ _ (T10.setTop (mkF m 63 #[.val (.int p0), .val (.int (1 : Int32)), .val (.ref d1), .val (.int (1 : Int32)), .val (.int (1 : Int32)), .val (.ref tt), .val (.int (62 : Int32)), .unset] [(.int (60 : Int32)), (.int (62 : Int32))]))
    refine Rest.via (fun t k => XS.icmpNo X10.here hx rfl (hb hby at_63) rfl (feq (by decide : ¬ ((62 : Int32) = (60 : Int32)))).1 k) ?_
    show Rest p.tables e below s _ _ _ (T10.setTop (mkF m 66 #[.val (.int p0), .val (.int (1 : Int32)), .val (.ref d1), .val (.int (1 : Int32)), .val (.int (1 : Int32)), .val (.ref tt), .val (.int (62 : Int32)), .unset] []))
    refine Rest.via (fun t k => XS.iload X10.here hx rfl (hb hby at_66) rfl k) ?_
    show Rest p.tables e below s _ _ _ (T10.setTop (mkF m 68 #[.val (.int p0), .val (.int (1 : Int32)), .val (.ref d1), .val (.int (1 : Int32)), .val (.int (1 : Int32)), .val (.ref tt), .val (.int (62 : Int32)), .unset] [(.int (62 : Int32))]))
    refine Rest.via (fun t k => XS.bipush X10.here hx rfl (hb hby at_68) k) ?_
    show Rest p.tables e below s _ _ _ (T10.setTop (mkF m 70 #[.val (.int p0), .val (.int (1 : Int32)), .val (.ref d1), .val (.int (1 : Int32)), .val (.int (1 : Int32)), .val (.ref tt), .val (.int (62 : Int32)), .unset] [(.int (62 : Int32)), (.int (62 : Int32))]))
    refine Rest.via (fun t k => XS.icmpNo X10.here hx rfl (hb hby at_70) rfl (teq (by decide : (62 : Int32) = (62 : Int32))).2 k) ?_
    show Rest p.tables e below s _ _ _ (T10.setTop (mkF m 73 #[.val (.int p0), .val (.int (1 : Int32)), .val (.ref d1), .val (.int (1 : Int32)), .val (.int (1 : Int32)), .val (.ref tt), .val (.int (62 : Int32)), .unset] []))
    refine Rest.via (fun t k => XS.iconst X10.here hx rfl (hb hby at_73) k) ?_
    show Rest p.tables e below s _ _ _ (T10.setTop (mkF m 74 #[.val (.int p0), .val (.int (1 : Int32)), .val (.ref d1), .val (.int (1 : Int32)), .val (.int (1 : Int32)), .val (.ref tt), .val (.int (62 : Int32)), .unset] [(.int (1 : Int32))]))
    refine Rest.via (fun t k => XS.goto X10.here hx rfl (pc0 := 74) (pc' := 78) rfl (hb hby at_74) (by decide) (by decide) k) ?_
    show Rest p.tables e below s _ _ _ (T10.setTop (mkF m 78 #[.val (.int p0), .val (.int (1 : Int32)), .val (.ref d1), .val (.int (1 : Int32)), .val (.int (1 : Int32)), .val (.ref tt), .val (.int (62 : Int32)), .unset] [(.int (1 : Int32))]))
    refine Rest.via (fun t k => XS.istore X10.here hx rfl (hb hby at_78) rfl (l' := #[.val (.int p0), .val (.int (1 : Int32)), .val (.ref d1), .val (.int (1 : Int32)), .val (.int (1 : Int32)), .val (.ref tt), .val (.int (62 : Int32)), .val (.int (1 : Int32))]) rfl k) ?_
    show Rest p.tables e below s _ _ _ (T10.setTop (mkF m 80 #[.val (.int p0), .val (.int (1 : Int32)), .val (.ref d1), .val (.int (1 : Int32)), .val (.int (1 : Int32)), .val (.ref tt), .val (.int (62 : Int32)), .val (.int (1 : Int32))] []))
    refine Rest.via (fun t k => XS.iload X10.here hx rfl (hb hby at_80) rfl k) ?_
    show Rest p.tables e below s _ _ _ (T10.setTop (mkF m 82 #[.val (.int p0), .val (.int (1 : Int32)), .val (.ref d1), .val (.int (1 : Int32)), .val (.int (1 : Int32)), .val (.ref tt), .val (.int (62 : Int32)), .val (.int (1 : Int32))] [(.int (1 : Int32))]))
    refine Rest.via (fun t k => XS.iloadN X10.here hx rfl (hb hby at_82) rfl k) ?_
    show Rest p.tables e below s _ _ _ (T10.setTop (mkF m 83 #[.val (.int p0), .val (.int (1 : Int32)), .val (.ref d1), .val (.int (1 : Int32)), .val (.int (1 : Int32)), .val (.ref tt), .val (.int (62 : Int32)), .val (.int (1 : Int32))] [(.int (1 : Int32)), (.int (1 : Int32))]))
    refine Rest.via (fun t k => XS.icmpNo X10.here hx rfl (hb hby at_83) rfl (teq (by decide : (1 : Int32) = (1 : Int32))).2 k) ?_
    show Rest p.tables e below s _ _ _ (T10.setTop (mkF m 86 #[.val (.int p0), .val (.int (1 : Int32)), .val (.ref d1), .val (.int (1 : Int32)), .val (.int (1 : Int32)), .val (.ref tt), .val (.int (62 : Int32)), .val (.int (1 : Int32))] []))
    refine Rest.via (fun t k => XS.iloadN X10.here hx rfl (hb hby at_86) rfl k) ?_
    show Rest p.tables e below s _ _ _ (T10.setTop (mkF m 87 #[.val (.int p0), .val (.int (1 : Int32)), .val (.ref d1), .val (.int (1 : Int32)), .val (.int (1 : Int32)), .val (.ref tt), .val (.int (62 : Int32)), .val (.int (1 : Int32))] [(.int (1 : Int32))]))
    refine Rest.via (fun t k => XS.iload X10.here hx rfl (hb hby at_87) rfl k) ?_
    show Rest p.tables e below s _ _ _ (T10.setTop (mkF m 89 #[.val (.int p0), .val (.int (1 : Int32)), .val (.ref d1), .val (.int (1 : Int32)), .val (.int (1 : Int32)), .val (.ref tt), .val (.int (62 : Int32)), .val (.int (1 : Int32))] [(.int (1 : Int32)), (.int (1 : Int32))]))
    refine Rest.via (fun t k => XS.icmpNo X10.here hx rfl (hb hby at_89) rfl (teq (by decide : (1 : Int32) = (1 : Int32))).2 k) ?_
    show Rest p.tables e below s _ _ _ (T10.setTop (mkF m 92 #[.val (.int p0), .val (.int (1 : Int32)), .val (.ref d1), .val (.int (1 : Int32)), .val (.int (1 : Int32)), .val (.ref tt), .val (.int (62 : Int32)), .val (.int (1 : Int32))] []))
    refine Rest.via (fun t k => XS.iconst X10.here hx rfl (hb hby at_92) k) ?_
    show Rest p.tables e below s _ _ _ (T10.setTop (mkF m 93 #[.val (.int p0), .val (.int (1 : Int32)), .val (.ref d1), .val (.int (1 : Int32)), .val (.int (1 : Int32)), .val (.ref tt), .val (.int (62 : Int32)), .val (.int (1 : Int32))] [(.int (1 : Int32))]))
    refine Rest.via (fun t k => XS.goto X10.here hx rfl (pc0 := 93) (pc' := 97) rfl (hb hby at_93) (by decide) (by decide) k) ?_
    show Rest p.tables e below s _ _ _ (T10.setTop (mkF m 97 #[.val (.int p0), .val (.int (1 : Int32)), .val (.ref d1), .val (.int (1 : Int32)), .val (.int (1 : Int32)), .val (.ref tt), .val (.int (62 : Int32)), .val (.int (1 : Int32))] [(.int (1 : Int32))]))
    refine Rest.ret X10 (v := some (.int (nar .boolean (1 : Int32)))) (fun h => by rw [Bd.returns] at h; cases h) hlk (fun fs hr => retN X10 hx (t := .boolean) Bd.returns (by simp) (hb hby at_97) hr) ?_ (by decide) (by decide)
    rw [e10]
    exact ⟨rfl, N10⟩
  · obtain ⟨tt, va, kk, vs, Fm, Et, Fv, Fc, Vv⟩ := SS2
    show Rest p.tables e below s _ _ _ (s₁.setTop (mkF m 8 #[.val (.int p0), .val (.int (2 : Int32)), .unset, .unset, .unset, .unset, .unset, .unset] []))
    refine Rest.via (fun t k => XS.iloadN X0.here hx rfl (hb hby at_8) rfl k) ?_
    show Rest p.tables e below s _ _ _ (s₁.setTop (mkF m 9 #[.val (.int p0), .val (.int (2 : Int32)), .unset, .unset, .unset, .unset, .unset, .unset] [(.int (2 : Int32))]))
    obtain ⟨_, _, ⟨T11, L11, k11, n11⟩, -, X11, ⟨Lc11, hQ11, l11, y11, z11⟩, st11⟩ := Jvm.LawKit.callS X0 hx (y := (⟨"com/example/zapros/zapros/model/OperatorOrdersPinLaw", "pick", "(I)Lcom/example/zapros/zapros/model/Operator;"⟩ : MethodName)) hown (mvT hZ (hw _ (List.mem_of_getElem? (i := 1) rfl))) (mvT hZ (hw _ (List.mem_of_getElem? (i := 2) rfl))) (mvT hZ (hw _ (List.mem_of_getElem? (i := 3) rfl))) (mvT hZ (hw _ (List.mem_of_getElem? (i := 4) rfl))) (by decide) (backOf (W := 0) (rmP2 l Z aw hw []  d0 d1 d2 d3 d4 d5 h0 n0 (Nat.le_trans Z0 (Keep.refl h0 []).1) B) hZ (hw _ (List.mem_of_getElem? (i := 4) rfl)) (hw _ (List.mem_of_getElem? (i := 3) rfl)) (by decide) (by decide)) (g := (mkF m 9 #[.val (.int p0), .val (.int (2 : Int32)), .unset, .unset, .unset, .unset, .unset, .unset] [(.int (2 : Int32))])) rfl (by rw [hml]; rfl) (argsL := [(.int (2 : Int32))]) (rest := []) (lenOf pd_4 rfl) rfl (by show 2 * 0 + _ ≤ _; exact Nat.le_of_eq rfl) (hb hby at_9) (fun _ _ => ⟨rfl, eh0, (by decide : 0 + 0 ≤ _), (by decide : 0 + 0 ≤ _)⟩)
    dsimp only [Pt.U, Pt.locs, Pt.cells, Pt.slots] at X11 l11 y11 z11 st11 hQ11
    subst l11 y11 z11
    obtain ⟨rfl, Nq11, e11⟩ := hQ11
    have N11 := Fr.app N0 Nq11
    refine Rest.via (fun t k => st11 t k) ?_
    show Rest p.tables e below s _ _ _ (T11.setTop (mkF m 12 #[.val (.int p0), .val (.int (2 : Int32)), .unset, .unset, .unset, .unset, .unset, .unset] [(.ref d2)]))
    refine Rest.via (fun t k => XS.astoreN X11.here hx rfl (hb hby at_12) rfl rfl (l' := #[.val (.int p0), .val (.int (2 : Int32)), .val (.ref d2), .unset, .unset, .unset, .unset, .unset]) rfl k) ?_
    show Rest p.tables e below s _ _ _ (T11.setTop (mkF m 13 #[.val (.int p0), .val (.int (2 : Int32)), .val (.ref d2), .unset, .unset, .unset, .unset, .unset] []))
    refine Rest.via (fun t k => XS.iloadN X11.here hx rfl (hb hby at_13) rfl k) ?_
    show Rest p.tables e below s _ _ _ (T11.setTop (mkF m 14 #[.val (.int p0), .val (.int (2 : Int32)), .val (.ref d2), .unset, .unset, .unset, .unset, .unset] [(.int (2 : Int32))]))
    refine Rest.via (fun t k => XS.iconst X11.here hx rfl (hb hby at_14) k) ?_
    show Rest p.tables e below s _ _ _ (T11.setTop (mkF m 15 #[.val (.int p0), .val (.int (2 : Int32)), .val (.ref d2), .unset, .unset, .unset, .unset, .unset] [(.int (1 : Int32)), (.int (2 : Int32))]))
    refine Rest.via (fun t k => XS.icmpNo X11.here hx rfl (hb hby at_15) rfl (flt (by decide : ¬ ((2 : Int32) < (1 : Int32)))).1 k) ?_
    show Rest p.tables e below s _ _ _ (T11.setTop (mkF m 18 #[.val (.int p0), .val (.int (2 : Int32)), .val (.ref d2), .unset, .unset, .unset, .unset, .unset] []))
    refine Rest.via (fun t k => XS.iloadN X11.here hx rfl (hb hby at_18) rfl k) ?_
    show Rest p.tables e below s _ _ _ (T11.setTop (mkF m 19 #[.val (.int p0), .val (.int (2 : Int32)), .val (.ref d2), .unset, .unset, .unset, .unset, .unset] [(.int (2 : Int32))]))
    refine Rest.via (fun t k => XS.iconst X11.here hx rfl (hb hby at_19) k) ?_
    show Rest p.tables e below s _ _ _ (T11.setTop (mkF m 20 #[.val (.int p0), .val (.int (2 : Int32)), .val (.ref d2), .unset, .unset, .unset, .unset, .unset] [(.int (4 : Int32)), (.int (2 : Int32))]))
    refine Rest.via (fun t k => XS.icmpNo X11.here hx rfl (hb hby at_20) rfl (flt (by decide : ¬ ((4 : Int32) < (2 : Int32)))).2.2.1 k) ?_
    show Rest p.tables e below s _ _ _ (T11.setTop (mkF m 23 #[.val (.int p0), .val (.int (2 : Int32)), .val (.ref d2), .unset, .unset, .unset, .unset, .unset] []))
    refine Rest.via (fun t k => XS.iconst X11.here hx rfl (hb hby at_23) k) ?_
    show Rest p.tables e below s _ _ _ (T11.setTop (mkF m 24 #[.val (.int p0), .val (.int (2 : Int32)), .val (.ref d2), .unset, .unset, .unset, .unset, .unset] [(.int (1 : Int32))]))
    refine Rest.via (fun t k => XS.goto X11.here hx rfl (pc0 := 24) (pc' := 28) rfl (hb hby at_24) (by decide) (by decide) k) ?_
    show Rest p.tables e below s _ _ _ (T11.setTop (mkF m 28 #[.val (.int p0), .val (.int (2 : Int32)), .val (.ref d2), .unset, .unset, .unset, .unset, .unset] [(.int (1 : Int32))]))
    refine Rest.via (fun t k => XS.istoreN X11.here hx rfl (hb hby at_28) rfl (l' := #[.val (.int p0), .val (.int (2 : Int32)), .val (.ref d2), .val (.int (1 : Int32)), .unset, .unset, .unset, .unset]) rfl k) ?_
    show Rest p.tables e below s _ _ _ (T11.setTop (mkF m 29 #[.val (.int p0), .val (.int (2 : Int32)), .val (.ref d2), .val (.int (1 : Int32)), .unset, .unset, .unset, .unset] []))
    refine Rest.via (fun t k => XS.aloadN X11.here hx rfl (hb hby at_29) rfl rfl k) ?_
    show Rest p.tables e below s _ _ _ (T11.setTop (mkF m 30 #[.val (.int p0), .val (.int (2 : Int32)), .val (.ref d2), .val (.int (1 : Int32)), .unset, .unset, .unset, .unset] [(.ref d2)]))
    obtain ⟨cq12, kq12, q12a, q12b, q12c⟩ := isOf hZ e11 E2
    obtain ⟨_, _, ⟨T12, L12, k12, n12⟩, -, X12, ⟨Lc12, hQ12, l12, y12, z12⟩, st12⟩ := X11.virtualBack hx (y := (⟨"com/example/zapros/zapros/model/Operator", "orders", "()Z"⟩ : MethodName)) (z := (⟨"com/example/zapros/zapros/model/Operator", "orders", "()Z"⟩ : MethodName)) hown (mvT hZ (hw _ (List.mem_of_getElem? (i := 8) rfl))) (mvT hZ (hw _ (List.mem_of_getElem? (i := 9) rfl))) (notFace_of_selects (args := #[]) (mvT hZ (hw _ (List.mem_of_getElem? (i := 11) rfl)))) (mvT hZ (hw _ (List.mem_of_getElem? (i := 11) rfl))) (mvT hZ (hw _ (List.mem_of_getElem? (i := 10) rfl))) (by decide) (backOf (W := 0) (rmO2 l Z aw hw []  d0 d1 d2 d3 d4 d5 h0 n0 (Nat.le_trans Z0 (Keep.refl h0 []).1) B) hZ (hw _ (List.mem_of_getElem? (i := 12) rfl)) (hw _ (List.mem_of_getElem? (i := 6) rfl)) (by decide) (by decide)) q12a q12c (g := (mkF m 30 #[.val (.int p0), .val (.int (2 : Int32)), .val (.ref d2), .val (.int (1 : Int32)), .unset, .unset, .unset, .unset] [(.ref d2)])) rfl (by rw [hml]; rfl) (Steps.refl _) (argsL := []) (rest := []) (lenOf pd_2 rfl) rfl (by show 2 * 0 + _ ≤ _; exact Nat.le_of_eq rfl) (hb hby at_30) (fun _ _ => ⟨rfl, e11, (by decide : 0 + 0 ≤ _), (by decide : 0 + 0 ≤ _)⟩)
    dsimp only [Pt.U, Pt.locs, Pt.cells, Pt.slots] at X12 l12 y12 z12 st12 hQ12
    subst l12 y12 z12
    obtain ⟨rfl, Nq12, e12⟩ := hQ12
    have N12 := Fr.app N11 Nq12
    refine Rest.via (fun t k => st12.trans k) ?_
    show Rest p.tables e below s _ _ _ (T12.setTop (mkF m 33 #[.val (.int p0), .val (.int (2 : Int32)), .val (.ref d2), .val (.int (1 : Int32)), .unset, .unset, .unset, .unset] [(.int (1 : Int32))]))
    refine Rest.via (fun t k => XS.istore X12.here hx rfl (hb hby at_33) rfl (l' := #[.val (.int p0), .val (.int (2 : Int32)), .val (.ref d2), .val (.int (1 : Int32)), .val (.int (1 : Int32)), .unset, .unset, .unset]) rfl k) ?_
    show Rest p.tables e below s _ _ _ (T12.setTop (mkF m 35 #[.val (.int p0), .val (.int (2 : Int32)), .val (.ref d2), .val (.int (1 : Int32)), .val (.int (1 : Int32)), .unset, .unset, .unset] []))
    refine Rest.via (fun t k => XS.aloadN X12.here hx rfl (hb hby at_35) rfl rfl k) ?_
    show Rest p.tables e below s _ _ _ (T12.setTop (mkF m 36 #[.val (.int p0), .val (.int (2 : Int32)), .val (.ref d2), .val (.int (1 : Int32)), .val (.int (1 : Int32)), .unset, .unset, .unset] [(.ref d2)]))
    obtain ⟨cq13, kq13, q13a, q13b, q13c⟩ := isOf hZ e12 E2
    obtain ⟨_, _, ⟨T13, L13, k13, n13⟩, -, X13, ⟨Lc13, hQ13, l13, y13, z13⟩, st13⟩ := X12.virtualBack hx (y := (⟨"com/example/zapros/zapros/model/Operator", "symbol", "()Ljava/lang/String;"⟩ : MethodName)) (z := (⟨"com/example/zapros/zapros/model/Operator", "symbol", "()Ljava/lang/String;"⟩ : MethodName)) hown (mvT hZ (hw _ (List.mem_of_getElem? (i := 14) rfl))) (mvT hZ (hw _ (List.mem_of_getElem? (i := 15) rfl))) (notFace_of_selects (args := #[]) (mvT hZ (hw _ (List.mem_of_getElem? (i := 17) rfl)))) (mvT hZ (hw _ (List.mem_of_getElem? (i := 17) rfl))) (mvT hZ (hw _ (List.mem_of_getElem? (i := 16) rfl))) (by decide) (backOf (W := 0) (rmSY l Z aw hw [] d2 tt h0 n0 (Nat.le_trans Z0 (Keep.refl h0 []).1) Fm) hZ (hw _ (List.mem_of_getElem? (i := 18) rfl)) (hw _ (List.mem_of_getElem? (i := 6) rfl)) (by decide) (by decide)) q13a q13c (g := (mkF m 36 #[.val (.int p0), .val (.int (2 : Int32)), .val (.ref d2), .val (.int (1 : Int32)), .val (.int (1 : Int32)), .unset, .unset, .unset] [(.ref d2)])) rfl (by rw [hml]; rfl) (Steps.refl _) (argsL := []) (rest := []) (lenOf pd_5 rfl) rfl (by show 2 * 0 + _ ≤ _; exact Nat.le_of_eq rfl) (hb hby at_36) (fun _ _ => ⟨rfl, e12, (by decide : 0 + 0 ≤ _), (by decide : 0 + 0 ≤ _)⟩)
    dsimp only [Pt.U, Pt.locs, Pt.cells, Pt.slots] at X13 l13 y13 z13 st13 hQ13
    subst l13 y13 z13
    obtain ⟨rfl, Nq13, e13⟩ := hQ13
    have N13 := Fr.app N12 Nq13
    refine Rest.via (fun t k => st13.trans k) ?_
    show Rest p.tables e below s _ _ _ (T13.setTop (mkF m 39 #[.val (.int p0), .val (.int (2 : Int32)), .val (.ref d2), .val (.int (1 : Int32)), .val (.int (1 : Int32)), .unset, .unset, .unset] [(.ref tt)]))
    refine Rest.via (fun t k => XS.astore X13.here hx rfl (hb hby at_39) rfl rfl (l' := #[.val (.int p0), .val (.int (2 : Int32)), .val (.ref d2), .val (.int (1 : Int32)), .val (.int (1 : Int32)), .val (.ref tt), .unset, .unset]) rfl k) ?_
    show Rest p.tables e below s _ _ _ (T13.setTop (mkF m 41 #[.val (.int p0), .val (.int (2 : Int32)), .val (.ref d2), .val (.int (1 : Int32)), .val (.int (1 : Int32)), .val (.ref tt), .unset, .unset] []))
    refine Rest.via (fun t k => XS.aload X13.here hx rfl (hb hby at_41) rfl rfl k) ?_
    show Rest p.tables e below s _ _ _ (T13.setTop (mkF m 43 #[.val (.int p0), .val (.int (2 : Int32)), .val (.ref d2), .val (.int (1 : Int32)), .val (.int (1 : Int32)), .val (.ref tt), .unset, .unset] [(.ref tt)]))
    obtain ⟨cq14, kq14, q14a, q14b, q14c⟩ := isOf hZ e13 Et
    obtain ⟨_, _, ⟨T14, L14, k14, n14⟩, -, X14, ⟨Lc14, hQ14, l14, y14, z14⟩, st14⟩ := X13.virtualBack hx (y := (⟨"java/lang/String", "isEmpty", "()Z"⟩ : MethodName)) (z := (⟨"java/lang/String", "isEmpty", "()Z"⟩ : MethodName)) hown (mvT hZ (hw _ (List.mem_of_getElem? (i := 21) rfl))) (mvT hZ (hw _ (List.mem_of_getElem? (i := 22) rfl))) (notFace_of_selects (args := #[]) (mvT hZ (hw _ (List.mem_of_getElem? (i := 24) rfl)))) (mvT hZ (hw _ (List.mem_of_getElem? (i := 24) rfl))) (mvT hZ (hw _ (List.mem_of_getElem? (i := 23) rfl))) (by decide) (backOf (W := 0) (rmEM l Z aw hw [] tt va kk (2 : Int32) (62 : Int32) vs h0 n0 (Nat.le_trans Z0 (Keep.refl h0 []).1) Et Fv Fc Vv (by decide)) hZ (hw _ (List.mem_of_getElem? (i := 26) rfl)) (hw _ (List.mem_of_getElem? (i := 25) rfl)) (by decide) (by decide)) q14a q14c (g := (mkF m 43 #[.val (.int p0), .val (.int (2 : Int32)), .val (.ref d2), .val (.int (1 : Int32)), .val (.int (1 : Int32)), .val (.ref tt), .unset, .unset] [(.ref tt)])) rfl (by rw [hml]; rfl) (Steps.refl _) (argsL := []) (rest := []) (lenOf pd_2 rfl) rfl (by show 2 * 0 + _ ≤ _; exact Nat.le_of_eq rfl) (hb hby at_43) (fun _ _ => ⟨rfl, e13, (by decide : 0 + 0 ≤ _), (by decide : 0 + 0 ≤ _)⟩)
    dsimp only [Pt.U, Pt.locs, Pt.cells, Pt.slots] at X14 l14 y14 z14 st14 hQ14
    subst l14 y14 z14
    obtain ⟨rfl, Nq14, e14⟩ := hQ14
    have N14 := Fr.app N13 Nq14
    refine Rest.via (fun t k => st14.trans k) ?_
    show Rest p.tables e below s _ _ _ (T14.setTop (mkF m 46 #[.val (.int p0), .val (.int (2 : Int32)), .val (.ref d2), .val (.int (1 : Int32)), .val (.int (1 : Int32)), .val (.ref tt), .unset, .unset] [(.int (0 : Int32))]))
    refine Rest.via (fun t k => XS.ifYes X14.here hx rfl (pc0 := 46) (pc' := 51) rfl (hb hby at_46) rfl ((if0 _ _).trans (teq (by decide : (0 : Int32) = (0 : Int32))).1) (by decide) (by decide) k) ?_
    show Rest p.tables e below s _ _ _ (T14.setTop (mkF m 51 #[.val (.int p0), .val (.int (2 : Int32)), .val (.ref d2), .val (.int (1 : Int32)), .val (.int (1 : Int32)), .val (.ref tt), .unset, .unset] []))
    refine Rest.via (fun t k => XS.aload X14.here hx rfl (hb hby at_51) rfl rfl k) ?_
    show Rest p.tables e below s _ _ _ (T14.setTop (mkF m 53 #[.val (.int p0), .val (.int (2 : Int32)), .val (.ref d2), .val (.int (1 : Int32)), .val (.int (1 : Int32)), .val (.ref tt), .unset, .unset] [(.ref tt)]))
    refine Rest.via (fun t k => XS.iconst X14.here hx rfl (hb hby at_53) k) ?_
    show Rest p.tables e below s _ _ _ (T14.setTop (mkF m 54 #[.val (.int p0), .val (.int (2 : Int32)), .val (.ref d2), .val (.int (1 : Int32)), .val (.int (1 : Int32)), .val (.ref tt), .unset, .unset] [(.int (0 : Int32)), (.ref tt)]))
    obtain ⟨cq15, kq15, q15a, q15b, q15c⟩ := isOf hZ e14 Et
    obtain ⟨_, _, ⟨T15, L15, k15, n15⟩, -, X15, ⟨Lc15, hQ15, l15, y15, z15⟩, st15⟩ := X14.virtualBack hx (y := (⟨"java/lang/String", "charAt", "(I)C"⟩ : MethodName)) (z := (⟨"java/lang/String", "charAt", "(I)C"⟩ : MethodName)) hown (mvT hZ (hw _ (List.mem_of_getElem? (i := 29) rfl))) (mvT hZ (hw _ (List.mem_of_getElem? (i := 30) rfl))) (notFace_of_selects (args := #[]) (mvT hZ (hw _ (List.mem_of_getElem? (i := 32) rfl)))) (mvT hZ (hw _ (List.mem_of_getElem? (i := 32) rfl))) (mvT hZ (hw _ (List.mem_of_getElem? (i := 31) rfl))) (by decide) (backOf (W := 0) (rmCA l Z aw hw [] tt va kk (2 : Int32) (62 : Int32) vs fm ic h0 n0 (Nat.le_trans Z0 (Keep.refl h0 []).1) Et Fv Fc Vv (by decide) hf Sf Sc hic) hZ (hw _ (List.mem_of_getElem? (i := 33) rfl)) (hw _ (List.mem_of_getElem? (i := 25) rfl)) (by decide) (by decide)) q15a q15c (g := (mkF m 54 #[.val (.int p0), .val (.int (2 : Int32)), .val (.ref d2), .val (.int (1 : Int32)), .val (.int (1 : Int32)), .val (.ref tt), .unset, .unset] [(.int (0 : Int32)), (.ref tt)])) rfl (by rw [hml]; rfl) (Steps.refl _) (argsL := [(.int (0 : Int32))]) (rest := []) (lenOf pd_6 rfl) rfl (by show 2 * 0 + _ ≤ _; exact Nat.le_of_eq rfl) (hb hby at_54) (fun _ _ => ⟨rfl, e14, (by decide : 0 + 0 ≤ _), (by decide : 0 + 0 ≤ _)⟩)
    dsimp only [Pt.U, Pt.locs, Pt.cells, Pt.slots] at X15 l15 y15 z15 st15 hQ15
    subst l15 y15 z15
    obtain ⟨rfl, Nq15, e15⟩ := hQ15
    have N15 := Fr.app N14 Nq15
    refine Rest.via (fun t k => st15.trans k) ?_
    show Rest p.tables e below s _ _ _ (T15.setTop (mkF m 57 #[.val (.int p0), .val (.int (2 : Int32)), .val (.ref d2), .val (.int (1 : Int32)), .val (.int (1 : Int32)), .val (.ref tt), .unset, .unset] [(.int (own_cc (62 : Int32)))]))
    rw [(by decide : own_cc (62 : Int32) = (62 : Int32))]
    show Rest p.tables e below s _ _ _ (T15.setTop (mkF m 57 #[.val (.int p0), .val (.int (2 : Int32)), .val (.ref d2), .val (.int (1 : Int32)), .val (.int (1 : Int32)), .val (.ref tt), .unset, .unset] [(.int (62 : Int32))]))
    refine Rest.via (fun t k => XS.istore X15.here hx rfl (hb hby at_57) rfl (l' := #[.val (.int p0), .val (.int (2 : Int32)), .val (.ref d2), .val (.int (1 : Int32)), .val (.int (1 : Int32)), .val (.ref tt), .val (.int (62 : Int32)), .unset]) rfl k) ?_
    show Rest p.tables e below s _ _ _ (T15.setTop (mkF m 59 #[.val (.int p0), .val (.int (2 : Int32)), .val (.ref d2), .val (.int (1 : Int32)), .val (.int (1 : Int32)), .val (.ref tt), .val (.int (62 : Int32)), .unset] []))
    refine Rest.via (fun t k => XS.iload X15.here hx rfl (hb hby at_59) rfl k) ?_
    show Rest p.tables e below s _ _ _ (T15.setTop (mkF m 61 #[.val (.int p0), .val (.int (2 : Int32)), .val (.ref d2), .val (.int (1 : Int32)), .val (.int (1 : Int32)), .val (.ref tt), .val (.int (62 : Int32)), .unset] [(.int (62 : Int32))]))
    refine Rest.via (fun t k => XS.bipush X15.here hx rfl (hb hby at_61) k) ?_
    show Rest p.tables e below s _ _ _ (T15.setTop (mkF m 63 #[.val (.int p0), .val (.int (2 : Int32)), .val (.ref d2), .val (.int (1 : Int32)), .val (.int (1 : Int32)), .val (.ref tt), .val (.int (62 : Int32)), .unset] [(.int (60 : Int32)), (.int (62 : Int32))]))
    refine Rest.via (fun t k => XS.icmpNo X15.here hx rfl (hb hby at_63) rfl (feq (by decide : ¬ ((62 : Int32) = (60 : Int32)))).1 k) ?_
    show Rest p.tables e below s _ _ _ (T15.setTop (mkF m 66 #[.val (.int p0), .val (.int (2 : Int32)), .val (.ref d2), .val (.int (1 : Int32)), .val (.int (1 : Int32)), .val (.ref tt), .val (.int (62 : Int32)), .unset] []))
    refine Rest.via (fun t k => XS.iload X15.here hx rfl (hb hby at_66) rfl k) ?_
    show Rest p.tables e below s _ _ _ (T15.setTop (mkF m 68 #[.val (.int p0), .val (.int (2 : Int32)), .val (.ref d2), .val (.int (1 : Int32)), .val (.int (1 : Int32)), .val (.ref tt), .val (.int (62 : Int32)), .unset] [(.int (62 : Int32))]))
    refine Rest.via (fun t k => XS.bipush X15.here hx rfl (hb hby at_68) k) ?_
    show Rest p.tables e below s _ _ _ (T15.setTop (mkF m 70 #[.val (.int p0), .val (.int (2 : Int32)), .val (.ref d2), .val (.int (1 : Int32)), .val (.int (1 : Int32)), .val (.ref tt), .val (.int (62 : Int32)), .unset] [(.int (62 : Int32)), (.int (62 : Int32))]))
    refine Rest.via (fun t k => XS.icmpNo X15.here hx rfl (hb hby at_70) rfl (teq (by decide : (62 : Int32) = (62 : Int32))).2 k) ?_
    show Rest p.tables e below s _ _ _ (T15.setTop (mkF m 73 #[.val (.int p0), .val (.int (2 : Int32)), .val (.ref d2), .val (.int (1 : Int32)), .val (.int (1 : Int32)), .val (.ref tt), .val (.int (62 : Int32)), .unset] []))
    refine Rest.via (fun t k => XS.iconst X15.here hx rfl (hb hby at_73) k) ?_
    show Rest p.tables e below s _ _ _ (T15.setTop (mkF m 74 #[.val (.int p0), .val (.int (2 : Int32)), .val (.ref d2), .val (.int (1 : Int32)), .val (.int (1 : Int32)), .val (.ref tt), .val (.int (62 : Int32)), .unset] [(.int (1 : Int32))]))
    refine Rest.via (fun t k => XS.goto X15.here hx rfl (pc0 := 74) (pc' := 78) rfl (hb hby at_74) (by decide) (by decide) k) ?_
    show Rest p.tables e below s _ _ _ (T15.setTop (mkF m 78 #[.val (.int p0), .val (.int (2 : Int32)), .val (.ref d2), .val (.int (1 : Int32)), .val (.int (1 : Int32)), .val (.ref tt), .val (.int (62 : Int32)), .unset] [(.int (1 : Int32))]))
    refine Rest.via (fun t k => XS.istore X15.here hx rfl (hb hby at_78) rfl (l' := #[.val (.int p0), .val (.int (2 : Int32)), .val (.ref d2), .val (.int (1 : Int32)), .val (.int (1 : Int32)), .val (.ref tt), .val (.int (62 : Int32)), .val (.int (1 : Int32))]) rfl k) ?_
    show Rest p.tables e below s _ _ _ (T15.setTop (mkF m 80 #[.val (.int p0), .val (.int (2 : Int32)), .val (.ref d2), .val (.int (1 : Int32)), .val (.int (1 : Int32)), .val (.ref tt), .val (.int (62 : Int32)), .val (.int (1 : Int32))] []))
    refine Rest.via (fun t k => XS.iload X15.here hx rfl (hb hby at_80) rfl k) ?_
    show Rest p.tables e below s _ _ _ (T15.setTop (mkF m 82 #[.val (.int p0), .val (.int (2 : Int32)), .val (.ref d2), .val (.int (1 : Int32)), .val (.int (1 : Int32)), .val (.ref tt), .val (.int (62 : Int32)), .val (.int (1 : Int32))] [(.int (1 : Int32))]))
    refine Rest.via (fun t k => XS.iloadN X15.here hx rfl (hb hby at_82) rfl k) ?_
    show Rest p.tables e below s _ _ _ (T15.setTop (mkF m 83 #[.val (.int p0), .val (.int (2 : Int32)), .val (.ref d2), .val (.int (1 : Int32)), .val (.int (1 : Int32)), .val (.ref tt), .val (.int (62 : Int32)), .val (.int (1 : Int32))] [(.int (1 : Int32)), (.int (1 : Int32))]))
    refine Rest.via (fun t k => XS.icmpNo X15.here hx rfl (hb hby at_83) rfl (teq (by decide : (1 : Int32) = (1 : Int32))).2 k) ?_
    show Rest p.tables e below s _ _ _ (T15.setTop (mkF m 86 #[.val (.int p0), .val (.int (2 : Int32)), .val (.ref d2), .val (.int (1 : Int32)), .val (.int (1 : Int32)), .val (.ref tt), .val (.int (62 : Int32)), .val (.int (1 : Int32))] []))
    refine Rest.via (fun t k => XS.iloadN X15.here hx rfl (hb hby at_86) rfl k) ?_
    show Rest p.tables e below s _ _ _ (T15.setTop (mkF m 87 #[.val (.int p0), .val (.int (2 : Int32)), .val (.ref d2), .val (.int (1 : Int32)), .val (.int (1 : Int32)), .val (.ref tt), .val (.int (62 : Int32)), .val (.int (1 : Int32))] [(.int (1 : Int32))]))
    refine Rest.via (fun t k => XS.iload X15.here hx rfl (hb hby at_87) rfl k) ?_
    show Rest p.tables e below s _ _ _ (T15.setTop (mkF m 89 #[.val (.int p0), .val (.int (2 : Int32)), .val (.ref d2), .val (.int (1 : Int32)), .val (.int (1 : Int32)), .val (.ref tt), .val (.int (62 : Int32)), .val (.int (1 : Int32))] [(.int (1 : Int32)), (.int (1 : Int32))]))
    refine Rest.via (fun t k => XS.icmpNo X15.here hx rfl (hb hby at_89) rfl (teq (by decide : (1 : Int32) = (1 : Int32))).2 k) ?_
    show Rest p.tables e below s _ _ _ (T15.setTop (mkF m 92 #[.val (.int p0), .val (.int (2 : Int32)), .val (.ref d2), .val (.int (1 : Int32)), .val (.int (1 : Int32)), .val (.ref tt), .val (.int (62 : Int32)), .val (.int (1 : Int32))] []))
    refine Rest.via (fun t k => XS.iconst X15.here hx rfl (hb hby at_92) k) ?_
    show Rest p.tables e below s _ _ _ (T15.setTop (mkF m 93 #[.val (.int p0), .val (.int (2 : Int32)), .val (.ref d2), .val (.int (1 : Int32)), .val (.int (1 : Int32)), .val (.ref tt), .val (.int (62 : Int32)), .val (.int (1 : Int32))] [(.int (1 : Int32))]))
    refine Rest.via (fun t k => XS.goto X15.here hx rfl (pc0 := 93) (pc' := 97) rfl (hb hby at_93) (by decide) (by decide) k) ?_
    show Rest p.tables e below s _ _ _ (T15.setTop (mkF m 97 #[.val (.int p0), .val (.int (2 : Int32)), .val (.ref d2), .val (.int (1 : Int32)), .val (.int (1 : Int32)), .val (.ref tt), .val (.int (62 : Int32)), .val (.int (1 : Int32))] [(.int (1 : Int32))]))
    refine Rest.ret X15 (v := some (.int (nar .boolean (1 : Int32)))) (fun h => by rw [Bd.returns] at h; cases h) hlk (fun fs hr => retN X15 hx (t := .boolean) Bd.returns (by simp) (hb hby at_97) hr) ?_ (by decide) (by decide)
    rw [e15]
    exact ⟨rfl, N15⟩
  · obtain ⟨tt, va, kk, vs, Fm, Et, Fv, Fc, Vv⟩ := SS3
    show Rest p.tables e below s _ _ _ (s₁.setTop (mkF m 8 #[.val (.int p0), .val (.int (3 : Int32)), .unset, .unset, .unset, .unset, .unset, .unset] []))
    refine Rest.via (fun t k => XS.iloadN X0.here hx rfl (hb hby at_8) rfl k) ?_
    show Rest p.tables e below s _ _ _ (s₁.setTop (mkF m 9 #[.val (.int p0), .val (.int (3 : Int32)), .unset, .unset, .unset, .unset, .unset, .unset] [(.int (3 : Int32))]))
    obtain ⟨_, _, ⟨T16, L16, k16, n16⟩, -, X16, ⟨Lc16, hQ16, l16, y16, z16⟩, st16⟩ := Jvm.LawKit.callS X0 hx (y := (⟨"com/example/zapros/zapros/model/OperatorOrdersPinLaw", "pick", "(I)Lcom/example/zapros/zapros/model/Operator;"⟩ : MethodName)) hown (mvT hZ (hw _ (List.mem_of_getElem? (i := 1) rfl))) (mvT hZ (hw _ (List.mem_of_getElem? (i := 2) rfl))) (mvT hZ (hw _ (List.mem_of_getElem? (i := 3) rfl))) (mvT hZ (hw _ (List.mem_of_getElem? (i := 4) rfl))) (by decide) (backOf (W := 0) (rmP3 l Z aw hw []  d0 d1 d2 d3 d4 d5 h0 n0 (Nat.le_trans Z0 (Keep.refl h0 []).1) B) hZ (hw _ (List.mem_of_getElem? (i := 4) rfl)) (hw _ (List.mem_of_getElem? (i := 3) rfl)) (by decide) (by decide)) (g := (mkF m 9 #[.val (.int p0), .val (.int (3 : Int32)), .unset, .unset, .unset, .unset, .unset, .unset] [(.int (3 : Int32))])) rfl (by rw [hml]; rfl) (argsL := [(.int (3 : Int32))]) (rest := []) (lenOf pd_4 rfl) rfl (by show 2 * 0 + _ ≤ _; exact Nat.le_of_eq rfl) (hb hby at_9) (fun _ _ => ⟨rfl, eh0, (by decide : 0 + 0 ≤ _), (by decide : 0 + 0 ≤ _)⟩)
    dsimp only [Pt.U, Pt.locs, Pt.cells, Pt.slots] at X16 l16 y16 z16 st16 hQ16
    subst l16 y16 z16
    obtain ⟨rfl, Nq16, e16⟩ := hQ16
    have N16 := Fr.app N0 Nq16
    refine Rest.via (fun t k => st16 t k) ?_
    show Rest p.tables e below s _ _ _ (T16.setTop (mkF m 12 #[.val (.int p0), .val (.int (3 : Int32)), .unset, .unset, .unset, .unset, .unset, .unset] [(.ref d3)]))
    refine Rest.via (fun t k => XS.astoreN X16.here hx rfl (hb hby at_12) rfl rfl (l' := #[.val (.int p0), .val (.int (3 : Int32)), .val (.ref d3), .unset, .unset, .unset, .unset, .unset]) rfl k) ?_
    show Rest p.tables e below s _ _ _ (T16.setTop (mkF m 13 #[.val (.int p0), .val (.int (3 : Int32)), .val (.ref d3), .unset, .unset, .unset, .unset, .unset] []))
    refine Rest.via (fun t k => XS.iloadN X16.here hx rfl (hb hby at_13) rfl k) ?_
    show Rest p.tables e below s _ _ _ (T16.setTop (mkF m 14 #[.val (.int p0), .val (.int (3 : Int32)), .val (.ref d3), .unset, .unset, .unset, .unset, .unset] [(.int (3 : Int32))]))
    refine Rest.via (fun t k => XS.iconst X16.here hx rfl (hb hby at_14) k) ?_
    show Rest p.tables e below s _ _ _ (T16.setTop (mkF m 15 #[.val (.int p0), .val (.int (3 : Int32)), .val (.ref d3), .unset, .unset, .unset, .unset, .unset] [(.int (1 : Int32)), (.int (3 : Int32))]))
    refine Rest.via (fun t k => XS.icmpNo X16.here hx rfl (hb hby at_15) rfl (flt (by decide : ¬ ((3 : Int32) < (1 : Int32)))).1 k) ?_
    show Rest p.tables e below s _ _ _ (T16.setTop (mkF m 18 #[.val (.int p0), .val (.int (3 : Int32)), .val (.ref d3), .unset, .unset, .unset, .unset, .unset] []))
    refine Rest.via (fun t k => XS.iloadN X16.here hx rfl (hb hby at_18) rfl k) ?_
    show Rest p.tables e below s _ _ _ (T16.setTop (mkF m 19 #[.val (.int p0), .val (.int (3 : Int32)), .val (.ref d3), .unset, .unset, .unset, .unset, .unset] [(.int (3 : Int32))]))
    refine Rest.via (fun t k => XS.iconst X16.here hx rfl (hb hby at_19) k) ?_
    show Rest p.tables e below s _ _ _ (T16.setTop (mkF m 20 #[.val (.int p0), .val (.int (3 : Int32)), .val (.ref d3), .unset, .unset, .unset, .unset, .unset] [(.int (4 : Int32)), (.int (3 : Int32))]))
    refine Rest.via (fun t k => XS.icmpNo X16.here hx rfl (hb hby at_20) rfl (flt (by decide : ¬ ((4 : Int32) < (3 : Int32)))).2.2.1 k) ?_
    show Rest p.tables e below s _ _ _ (T16.setTop (mkF m 23 #[.val (.int p0), .val (.int (3 : Int32)), .val (.ref d3), .unset, .unset, .unset, .unset, .unset] []))
    refine Rest.via (fun t k => XS.iconst X16.here hx rfl (hb hby at_23) k) ?_
    show Rest p.tables e below s _ _ _ (T16.setTop (mkF m 24 #[.val (.int p0), .val (.int (3 : Int32)), .val (.ref d3), .unset, .unset, .unset, .unset, .unset] [(.int (1 : Int32))]))
    refine Rest.via (fun t k => XS.goto X16.here hx rfl (pc0 := 24) (pc' := 28) rfl (hb hby at_24) (by decide) (by decide) k) ?_
    show Rest p.tables e below s _ _ _ (T16.setTop (mkF m 28 #[.val (.int p0), .val (.int (3 : Int32)), .val (.ref d3), .unset, .unset, .unset, .unset, .unset] [(.int (1 : Int32))]))
    refine Rest.via (fun t k => XS.istoreN X16.here hx rfl (hb hby at_28) rfl (l' := #[.val (.int p0), .val (.int (3 : Int32)), .val (.ref d3), .val (.int (1 : Int32)), .unset, .unset, .unset, .unset]) rfl k) ?_
    show Rest p.tables e below s _ _ _ (T16.setTop (mkF m 29 #[.val (.int p0), .val (.int (3 : Int32)), .val (.ref d3), .val (.int (1 : Int32)), .unset, .unset, .unset, .unset] []))
    refine Rest.via (fun t k => XS.aloadN X16.here hx rfl (hb hby at_29) rfl rfl k) ?_
    show Rest p.tables e below s _ _ _ (T16.setTop (mkF m 30 #[.val (.int p0), .val (.int (3 : Int32)), .val (.ref d3), .val (.int (1 : Int32)), .unset, .unset, .unset, .unset] [(.ref d3)]))
    obtain ⟨cq17, kq17, q17a, q17b, q17c⟩ := isOf hZ e16 E3
    obtain ⟨_, _, ⟨T17, L17, k17, n17⟩, -, X17, ⟨Lc17, hQ17, l17, y17, z17⟩, st17⟩ := X16.virtualBack hx (y := (⟨"com/example/zapros/zapros/model/Operator", "orders", "()Z"⟩ : MethodName)) (z := (⟨"com/example/zapros/zapros/model/Operator", "orders", "()Z"⟩ : MethodName)) hown (mvT hZ (hw _ (List.mem_of_getElem? (i := 8) rfl))) (mvT hZ (hw _ (List.mem_of_getElem? (i := 9) rfl))) (notFace_of_selects (args := #[]) (mvT hZ (hw _ (List.mem_of_getElem? (i := 11) rfl)))) (mvT hZ (hw _ (List.mem_of_getElem? (i := 11) rfl))) (mvT hZ (hw _ (List.mem_of_getElem? (i := 10) rfl))) (by decide) (backOf (W := 0) (rmO3 l Z aw hw []  d0 d1 d2 d3 d4 d5 h0 n0 (Nat.le_trans Z0 (Keep.refl h0 []).1) B) hZ (hw _ (List.mem_of_getElem? (i := 12) rfl)) (hw _ (List.mem_of_getElem? (i := 6) rfl)) (by decide) (by decide)) q17a q17c (g := (mkF m 30 #[.val (.int p0), .val (.int (3 : Int32)), .val (.ref d3), .val (.int (1 : Int32)), .unset, .unset, .unset, .unset] [(.ref d3)])) rfl (by rw [hml]; rfl) (Steps.refl _) (argsL := []) (rest := []) (lenOf pd_2 rfl) rfl (by show 2 * 0 + _ ≤ _; exact Nat.le_of_eq rfl) (hb hby at_30) (fun _ _ => ⟨rfl, e16, (by decide : 0 + 0 ≤ _), (by decide : 0 + 0 ≤ _)⟩)
    dsimp only [Pt.U, Pt.locs, Pt.cells, Pt.slots] at X17 l17 y17 z17 st17 hQ17
    subst l17 y17 z17
    obtain ⟨rfl, Nq17, e17⟩ := hQ17
    have N17 := Fr.app N16 Nq17
    refine Rest.via (fun t k => st17.trans k) ?_
    show Rest p.tables e below s _ _ _ (T17.setTop (mkF m 33 #[.val (.int p0), .val (.int (3 : Int32)), .val (.ref d3), .val (.int (1 : Int32)), .unset, .unset, .unset, .unset] [(.int (1 : Int32))]))
    refine Rest.via (fun t k => XS.istore X17.here hx rfl (hb hby at_33) rfl (l' := #[.val (.int p0), .val (.int (3 : Int32)), .val (.ref d3), .val (.int (1 : Int32)), .val (.int (1 : Int32)), .unset, .unset, .unset]) rfl k) ?_
    show Rest p.tables e below s _ _ _ (T17.setTop (mkF m 35 #[.val (.int p0), .val (.int (3 : Int32)), .val (.ref d3), .val (.int (1 : Int32)), .val (.int (1 : Int32)), .unset, .unset, .unset] []))
    refine Rest.via (fun t k => XS.aloadN X17.here hx rfl (hb hby at_35) rfl rfl k) ?_
    show Rest p.tables e below s _ _ _ (T17.setTop (mkF m 36 #[.val (.int p0), .val (.int (3 : Int32)), .val (.ref d3), .val (.int (1 : Int32)), .val (.int (1 : Int32)), .unset, .unset, .unset] [(.ref d3)]))
    obtain ⟨cq18, kq18, q18a, q18b, q18c⟩ := isOf hZ e17 E3
    obtain ⟨_, _, ⟨T18, L18, k18, n18⟩, -, X18, ⟨Lc18, hQ18, l18, y18, z18⟩, st18⟩ := X17.virtualBack hx (y := (⟨"com/example/zapros/zapros/model/Operator", "symbol", "()Ljava/lang/String;"⟩ : MethodName)) (z := (⟨"com/example/zapros/zapros/model/Operator", "symbol", "()Ljava/lang/String;"⟩ : MethodName)) hown (mvT hZ (hw _ (List.mem_of_getElem? (i := 14) rfl))) (mvT hZ (hw _ (List.mem_of_getElem? (i := 15) rfl))) (notFace_of_selects (args := #[]) (mvT hZ (hw _ (List.mem_of_getElem? (i := 17) rfl)))) (mvT hZ (hw _ (List.mem_of_getElem? (i := 17) rfl))) (mvT hZ (hw _ (List.mem_of_getElem? (i := 16) rfl))) (by decide) (backOf (W := 0) (rmSY l Z aw hw [] d3 tt h0 n0 (Nat.le_trans Z0 (Keep.refl h0 []).1) Fm) hZ (hw _ (List.mem_of_getElem? (i := 18) rfl)) (hw _ (List.mem_of_getElem? (i := 6) rfl)) (by decide) (by decide)) q18a q18c (g := (mkF m 36 #[.val (.int p0), .val (.int (3 : Int32)), .val (.ref d3), .val (.int (1 : Int32)), .val (.int (1 : Int32)), .unset, .unset, .unset] [(.ref d3)])) rfl (by rw [hml]; rfl) (Steps.refl _) (argsL := []) (rest := []) (lenOf pd_5 rfl) rfl (by show 2 * 0 + _ ≤ _; exact Nat.le_of_eq rfl) (hb hby at_36) (fun _ _ => ⟨rfl, e17, (by decide : 0 + 0 ≤ _), (by decide : 0 + 0 ≤ _)⟩)
    dsimp only [Pt.U, Pt.locs, Pt.cells, Pt.slots] at X18 l18 y18 z18 st18 hQ18
    subst l18 y18 z18
    obtain ⟨rfl, Nq18, e18⟩ := hQ18
    have N18 := Fr.app N17 Nq18
    refine Rest.via (fun t k => st18.trans k) ?_
    show Rest p.tables e below s _ _ _ (T18.setTop (mkF m 39 #[.val (.int p0), .val (.int (3 : Int32)), .val (.ref d3), .val (.int (1 : Int32)), .val (.int (1 : Int32)), .unset, .unset, .unset] [(.ref tt)]))
    refine Rest.via (fun t k => XS.astore X18.here hx rfl (hb hby at_39) rfl rfl (l' := #[.val (.int p0), .val (.int (3 : Int32)), .val (.ref d3), .val (.int (1 : Int32)), .val (.int (1 : Int32)), .val (.ref tt), .unset, .unset]) rfl k) ?_
    show Rest p.tables e below s _ _ _ (T18.setTop (mkF m 41 #[.val (.int p0), .val (.int (3 : Int32)), .val (.ref d3), .val (.int (1 : Int32)), .val (.int (1 : Int32)), .val (.ref tt), .unset, .unset] []))
    refine Rest.via (fun t k => XS.aload X18.here hx rfl (hb hby at_41) rfl rfl k) ?_
    show Rest p.tables e below s _ _ _ (T18.setTop (mkF m 43 #[.val (.int p0), .val (.int (3 : Int32)), .val (.ref d3), .val (.int (1 : Int32)), .val (.int (1 : Int32)), .val (.ref tt), .unset, .unset] [(.ref tt)]))
    obtain ⟨cq19, kq19, q19a, q19b, q19c⟩ := isOf hZ e18 Et
    obtain ⟨_, _, ⟨T19, L19, k19, n19⟩, -, X19, ⟨Lc19, hQ19, l19, y19, z19⟩, st19⟩ := X18.virtualBack hx (y := (⟨"java/lang/String", "isEmpty", "()Z"⟩ : MethodName)) (z := (⟨"java/lang/String", "isEmpty", "()Z"⟩ : MethodName)) hown (mvT hZ (hw _ (List.mem_of_getElem? (i := 21) rfl))) (mvT hZ (hw _ (List.mem_of_getElem? (i := 22) rfl))) (notFace_of_selects (args := #[]) (mvT hZ (hw _ (List.mem_of_getElem? (i := 24) rfl)))) (mvT hZ (hw _ (List.mem_of_getElem? (i := 24) rfl))) (mvT hZ (hw _ (List.mem_of_getElem? (i := 23) rfl))) (by decide) (backOf (W := 0) (rmEM l Z aw hw [] tt va kk (1 : Int32) (60 : Int32) vs h0 n0 (Nat.le_trans Z0 (Keep.refl h0 []).1) Et Fv Fc Vv (by decide)) hZ (hw _ (List.mem_of_getElem? (i := 26) rfl)) (hw _ (List.mem_of_getElem? (i := 25) rfl)) (by decide) (by decide)) q19a q19c (g := (mkF m 43 #[.val (.int p0), .val (.int (3 : Int32)), .val (.ref d3), .val (.int (1 : Int32)), .val (.int (1 : Int32)), .val (.ref tt), .unset, .unset] [(.ref tt)])) rfl (by rw [hml]; rfl) (Steps.refl _) (argsL := []) (rest := []) (lenOf pd_2 rfl) rfl (by show 2 * 0 + _ ≤ _; exact Nat.le_of_eq rfl) (hb hby at_43) (fun _ _ => ⟨rfl, e18, (by decide : 0 + 0 ≤ _), (by decide : 0 + 0 ≤ _)⟩)
    dsimp only [Pt.U, Pt.locs, Pt.cells, Pt.slots] at X19 l19 y19 z19 st19 hQ19
    subst l19 y19 z19
    obtain ⟨rfl, Nq19, e19⟩ := hQ19
    have N19 := Fr.app N18 Nq19
    refine Rest.via (fun t k => st19.trans k) ?_
    show Rest p.tables e below s _ _ _ (T19.setTop (mkF m 46 #[.val (.int p0), .val (.int (3 : Int32)), .val (.ref d3), .val (.int (1 : Int32)), .val (.int (1 : Int32)), .val (.ref tt), .unset, .unset] [(.int (0 : Int32))]))
    refine Rest.via (fun t k => XS.ifYes X19.here hx rfl (pc0 := 46) (pc' := 51) rfl (hb hby at_46) rfl ((if0 _ _).trans (teq (by decide : (0 : Int32) = (0 : Int32))).1) (by decide) (by decide) k) ?_
    show Rest p.tables e below s _ _ _ (T19.setTop (mkF m 51 #[.val (.int p0), .val (.int (3 : Int32)), .val (.ref d3), .val (.int (1 : Int32)), .val (.int (1 : Int32)), .val (.ref tt), .unset, .unset] []))
    refine Rest.via (fun t k => XS.aload X19.here hx rfl (hb hby at_51) rfl rfl k) ?_
    show Rest p.tables e below s _ _ _ (T19.setTop (mkF m 53 #[.val (.int p0), .val (.int (3 : Int32)), .val (.ref d3), .val (.int (1 : Int32)), .val (.int (1 : Int32)), .val (.ref tt), .unset, .unset] [(.ref tt)]))
    refine Rest.via (fun t k => XS.iconst X19.here hx rfl (hb hby at_53) k) ?_
    show Rest p.tables e below s _ _ _ (T19.setTop (mkF m 54 #[.val (.int p0), .val (.int (3 : Int32)), .val (.ref d3), .val (.int (1 : Int32)), .val (.int (1 : Int32)), .val (.ref tt), .unset, .unset] [(.int (0 : Int32)), (.ref tt)]))
    obtain ⟨cq20, kq20, q20a, q20b, q20c⟩ := isOf hZ e19 Et
    obtain ⟨_, _, ⟨T20, L20, k20, n20⟩, -, X20, ⟨Lc20, hQ20, l20, y20, z20⟩, st20⟩ := X19.virtualBack hx (y := (⟨"java/lang/String", "charAt", "(I)C"⟩ : MethodName)) (z := (⟨"java/lang/String", "charAt", "(I)C"⟩ : MethodName)) hown (mvT hZ (hw _ (List.mem_of_getElem? (i := 29) rfl))) (mvT hZ (hw _ (List.mem_of_getElem? (i := 30) rfl))) (notFace_of_selects (args := #[]) (mvT hZ (hw _ (List.mem_of_getElem? (i := 32) rfl)))) (mvT hZ (hw _ (List.mem_of_getElem? (i := 32) rfl))) (mvT hZ (hw _ (List.mem_of_getElem? (i := 31) rfl))) (by decide) (backOf (W := 0) (rmCA l Z aw hw [] tt va kk (1 : Int32) (60 : Int32) vs fm ic h0 n0 (Nat.le_trans Z0 (Keep.refl h0 []).1) Et Fv Fc Vv (by decide) hf Sf Sc hic) hZ (hw _ (List.mem_of_getElem? (i := 33) rfl)) (hw _ (List.mem_of_getElem? (i := 25) rfl)) (by decide) (by decide)) q20a q20c (g := (mkF m 54 #[.val (.int p0), .val (.int (3 : Int32)), .val (.ref d3), .val (.int (1 : Int32)), .val (.int (1 : Int32)), .val (.ref tt), .unset, .unset] [(.int (0 : Int32)), (.ref tt)])) rfl (by rw [hml]; rfl) (Steps.refl _) (argsL := [(.int (0 : Int32))]) (rest := []) (lenOf pd_6 rfl) rfl (by show 2 * 0 + _ ≤ _; exact Nat.le_of_eq rfl) (hb hby at_54) (fun _ _ => ⟨rfl, e19, (by decide : 0 + 0 ≤ _), (by decide : 0 + 0 ≤ _)⟩)
    dsimp only [Pt.U, Pt.locs, Pt.cells, Pt.slots] at X20 l20 y20 z20 st20 hQ20
    subst l20 y20 z20
    obtain ⟨rfl, Nq20, e20⟩ := hQ20
    have N20 := Fr.app N19 Nq20
    refine Rest.via (fun t k => st20.trans k) ?_
    show Rest p.tables e below s _ _ _ (T20.setTop (mkF m 57 #[.val (.int p0), .val (.int (3 : Int32)), .val (.ref d3), .val (.int (1 : Int32)), .val (.int (1 : Int32)), .val (.ref tt), .unset, .unset] [(.int (own_cc (60 : Int32)))]))
    rw [(by decide : own_cc (60 : Int32) = (60 : Int32))]
    show Rest p.tables e below s _ _ _ (T20.setTop (mkF m 57 #[.val (.int p0), .val (.int (3 : Int32)), .val (.ref d3), .val (.int (1 : Int32)), .val (.int (1 : Int32)), .val (.ref tt), .unset, .unset] [(.int (60 : Int32))]))
    refine Rest.via (fun t k => XS.istore X20.here hx rfl (hb hby at_57) rfl (l' := #[.val (.int p0), .val (.int (3 : Int32)), .val (.ref d3), .val (.int (1 : Int32)), .val (.int (1 : Int32)), .val (.ref tt), .val (.int (60 : Int32)), .unset]) rfl k) ?_
    show Rest p.tables e below s _ _ _ (T20.setTop (mkF m 59 #[.val (.int p0), .val (.int (3 : Int32)), .val (.ref d3), .val (.int (1 : Int32)), .val (.int (1 : Int32)), .val (.ref tt), .val (.int (60 : Int32)), .unset] []))
    refine Rest.via (fun t k => XS.iload X20.here hx rfl (hb hby at_59) rfl k) ?_
    show Rest p.tables e below s _ _ _ (T20.setTop (mkF m 61 #[.val (.int p0), .val (.int (3 : Int32)), .val (.ref d3), .val (.int (1 : Int32)), .val (.int (1 : Int32)), .val (.ref tt), .val (.int (60 : Int32)), .unset] [(.int (60 : Int32))]))
    refine Rest.via (fun t k => XS.bipush X20.here hx rfl (hb hby at_61) k) ?_
    show Rest p.tables e below s _ _ _ (T20.setTop (mkF m 63 #[.val (.int p0), .val (.int (3 : Int32)), .val (.ref d3), .val (.int (1 : Int32)), .val (.int (1 : Int32)), .val (.ref tt), .val (.int (60 : Int32)), .unset] [(.int (60 : Int32)), (.int (60 : Int32))]))
    refine Rest.via (fun t k => XS.icmpYes X20.here hx rfl (pc0 := 63) (pc' := 73) rfl (hb hby at_63) rfl (teq (by decide : (60 : Int32) = (60 : Int32))).1 (by decide) (by decide) k) ?_
    show Rest p.tables e below s _ _ _ (T20.setTop (mkF m 73 #[.val (.int p0), .val (.int (3 : Int32)), .val (.ref d3), .val (.int (1 : Int32)), .val (.int (1 : Int32)), .val (.ref tt), .val (.int (60 : Int32)), .unset] []))
    refine Rest.via (fun t k => XS.iconst X20.here hx rfl (hb hby at_73) k) ?_
    show Rest p.tables e below s _ _ _ (T20.setTop (mkF m 74 #[.val (.int p0), .val (.int (3 : Int32)), .val (.ref d3), .val (.int (1 : Int32)), .val (.int (1 : Int32)), .val (.ref tt), .val (.int (60 : Int32)), .unset] [(.int (1 : Int32))]))
    refine Rest.via (fun t k => XS.goto X20.here hx rfl (pc0 := 74) (pc' := 78) rfl (hb hby at_74) (by decide) (by decide) k) ?_
    show Rest p.tables e below s _ _ _ (T20.setTop (mkF m 78 #[.val (.int p0), .val (.int (3 : Int32)), .val (.ref d3), .val (.int (1 : Int32)), .val (.int (1 : Int32)), .val (.ref tt), .val (.int (60 : Int32)), .unset] [(.int (1 : Int32))]))
    refine Rest.via (fun t k => XS.istore X20.here hx rfl (hb hby at_78) rfl (l' := #[.val (.int p0), .val (.int (3 : Int32)), .val (.ref d3), .val (.int (1 : Int32)), .val (.int (1 : Int32)), .val (.ref tt), .val (.int (60 : Int32)), .val (.int (1 : Int32))]) rfl k) ?_
    show Rest p.tables e below s _ _ _ (T20.setTop (mkF m 80 #[.val (.int p0), .val (.int (3 : Int32)), .val (.ref d3), .val (.int (1 : Int32)), .val (.int (1 : Int32)), .val (.ref tt), .val (.int (60 : Int32)), .val (.int (1 : Int32))] []))
    refine Rest.via (fun t k => XS.iload X20.here hx rfl (hb hby at_80) rfl k) ?_
    show Rest p.tables e below s _ _ _ (T20.setTop (mkF m 82 #[.val (.int p0), .val (.int (3 : Int32)), .val (.ref d3), .val (.int (1 : Int32)), .val (.int (1 : Int32)), .val (.ref tt), .val (.int (60 : Int32)), .val (.int (1 : Int32))] [(.int (1 : Int32))]))
    refine Rest.via (fun t k => XS.iloadN X20.here hx rfl (hb hby at_82) rfl k) ?_
    show Rest p.tables e below s _ _ _ (T20.setTop (mkF m 83 #[.val (.int p0), .val (.int (3 : Int32)), .val (.ref d3), .val (.int (1 : Int32)), .val (.int (1 : Int32)), .val (.ref tt), .val (.int (60 : Int32)), .val (.int (1 : Int32))] [(.int (1 : Int32)), (.int (1 : Int32))]))
    refine Rest.via (fun t k => XS.icmpNo X20.here hx rfl (hb hby at_83) rfl (teq (by decide : (1 : Int32) = (1 : Int32))).2 k) ?_
    show Rest p.tables e below s _ _ _ (T20.setTop (mkF m 86 #[.val (.int p0), .val (.int (3 : Int32)), .val (.ref d3), .val (.int (1 : Int32)), .val (.int (1 : Int32)), .val (.ref tt), .val (.int (60 : Int32)), .val (.int (1 : Int32))] []))
    refine Rest.via (fun t k => XS.iloadN X20.here hx rfl (hb hby at_86) rfl k) ?_
    show Rest p.tables e below s _ _ _ (T20.setTop (mkF m 87 #[.val (.int p0), .val (.int (3 : Int32)), .val (.ref d3), .val (.int (1 : Int32)), .val (.int (1 : Int32)), .val (.ref tt), .val (.int (60 : Int32)), .val (.int (1 : Int32))] [(.int (1 : Int32))]))
    refine Rest.via (fun t k => XS.iload X20.here hx rfl (hb hby at_87) rfl k) ?_
    show Rest p.tables e below s _ _ _ (T20.setTop (mkF m 89 #[.val (.int p0), .val (.int (3 : Int32)), .val (.ref d3), .val (.int (1 : Int32)), .val (.int (1 : Int32)), .val (.ref tt), .val (.int (60 : Int32)), .val (.int (1 : Int32))] [(.int (1 : Int32)), (.int (1 : Int32))]))
    refine Rest.via (fun t k => XS.icmpNo X20.here hx rfl (hb hby at_89) rfl (teq (by decide : (1 : Int32) = (1 : Int32))).2 k) ?_
    show Rest p.tables e below s _ _ _ (T20.setTop (mkF m 92 #[.val (.int p0), .val (.int (3 : Int32)), .val (.ref d3), .val (.int (1 : Int32)), .val (.int (1 : Int32)), .val (.ref tt), .val (.int (60 : Int32)), .val (.int (1 : Int32))] []))
    refine Rest.via (fun t k => XS.iconst X20.here hx rfl (hb hby at_92) k) ?_
    show Rest p.tables e below s _ _ _ (T20.setTop (mkF m 93 #[.val (.int p0), .val (.int (3 : Int32)), .val (.ref d3), .val (.int (1 : Int32)), .val (.int (1 : Int32)), .val (.ref tt), .val (.int (60 : Int32)), .val (.int (1 : Int32))] [(.int (1 : Int32))]))
    refine Rest.via (fun t k => XS.goto X20.here hx rfl (pc0 := 93) (pc' := 97) rfl (hb hby at_93) (by decide) (by decide) k) ?_
    show Rest p.tables e below s _ _ _ (T20.setTop (mkF m 97 #[.val (.int p0), .val (.int (3 : Int32)), .val (.ref d3), .val (.int (1 : Int32)), .val (.int (1 : Int32)), .val (.ref tt), .val (.int (60 : Int32)), .val (.int (1 : Int32))] [(.int (1 : Int32))]))
    refine Rest.ret X20 (v := some (.int (nar .boolean (1 : Int32)))) (fun h => by rw [Bd.returns] at h; cases h) hlk (fun fs hr => retN X20 hx (t := .boolean) Bd.returns (by simp) (hb hby at_97) hr) ?_ (by decide) (by decide)
    rw [e20]
    exact ⟨rfl, N20⟩
  · obtain ⟨tt, va, kk, vs, Fm, Et, Fv, Fc, Vv⟩ := SS4
    show Rest p.tables e below s _ _ _ (s₁.setTop (mkF m 8 #[.val (.int p0), .val (.int (4 : Int32)), .unset, .unset, .unset, .unset, .unset, .unset] []))
    refine Rest.via (fun t k => XS.iloadN X0.here hx rfl (hb hby at_8) rfl k) ?_
    show Rest p.tables e below s _ _ _ (s₁.setTop (mkF m 9 #[.val (.int p0), .val (.int (4 : Int32)), .unset, .unset, .unset, .unset, .unset, .unset] [(.int (4 : Int32))]))
    obtain ⟨_, _, ⟨T21, L21, k21, n21⟩, -, X21, ⟨Lc21, hQ21, l21, y21, z21⟩, st21⟩ := Jvm.LawKit.callS X0 hx (y := (⟨"com/example/zapros/zapros/model/OperatorOrdersPinLaw", "pick", "(I)Lcom/example/zapros/zapros/model/Operator;"⟩ : MethodName)) hown (mvT hZ (hw _ (List.mem_of_getElem? (i := 1) rfl))) (mvT hZ (hw _ (List.mem_of_getElem? (i := 2) rfl))) (mvT hZ (hw _ (List.mem_of_getElem? (i := 3) rfl))) (mvT hZ (hw _ (List.mem_of_getElem? (i := 4) rfl))) (by decide) (backOf (W := 0) (rmP4 l Z aw hw []  d0 d1 d2 d3 d4 d5 h0 n0 (Nat.le_trans Z0 (Keep.refl h0 []).1) B) hZ (hw _ (List.mem_of_getElem? (i := 4) rfl)) (hw _ (List.mem_of_getElem? (i := 3) rfl)) (by decide) (by decide)) (g := (mkF m 9 #[.val (.int p0), .val (.int (4 : Int32)), .unset, .unset, .unset, .unset, .unset, .unset] [(.int (4 : Int32))])) rfl (by rw [hml]; rfl) (argsL := [(.int (4 : Int32))]) (rest := []) (lenOf pd_4 rfl) rfl (by show 2 * 0 + _ ≤ _; exact Nat.le_of_eq rfl) (hb hby at_9) (fun _ _ => ⟨rfl, eh0, (by decide : 0 + 0 ≤ _), (by decide : 0 + 0 ≤ _)⟩)
    dsimp only [Pt.U, Pt.locs, Pt.cells, Pt.slots] at X21 l21 y21 z21 st21 hQ21
    subst l21 y21 z21
    obtain ⟨rfl, Nq21, e21⟩ := hQ21
    have N21 := Fr.app N0 Nq21
    refine Rest.via (fun t k => st21 t k) ?_
    show Rest p.tables e below s _ _ _ (T21.setTop (mkF m 12 #[.val (.int p0), .val (.int (4 : Int32)), .unset, .unset, .unset, .unset, .unset, .unset] [(.ref d4)]))
    refine Rest.via (fun t k => XS.astoreN X21.here hx rfl (hb hby at_12) rfl rfl (l' := #[.val (.int p0), .val (.int (4 : Int32)), .val (.ref d4), .unset, .unset, .unset, .unset, .unset]) rfl k) ?_
    show Rest p.tables e below s _ _ _ (T21.setTop (mkF m 13 #[.val (.int p0), .val (.int (4 : Int32)), .val (.ref d4), .unset, .unset, .unset, .unset, .unset] []))
    refine Rest.via (fun t k => XS.iloadN X21.here hx rfl (hb hby at_13) rfl k) ?_
    show Rest p.tables e below s _ _ _ (T21.setTop (mkF m 14 #[.val (.int p0), .val (.int (4 : Int32)), .val (.ref d4), .unset, .unset, .unset, .unset, .unset] [(.int (4 : Int32))]))
    refine Rest.via (fun t k => XS.iconst X21.here hx rfl (hb hby at_14) k) ?_
    show Rest p.tables e below s _ _ _ (T21.setTop (mkF m 15 #[.val (.int p0), .val (.int (4 : Int32)), .val (.ref d4), .unset, .unset, .unset, .unset, .unset] [(.int (1 : Int32)), (.int (4 : Int32))]))
    refine Rest.via (fun t k => XS.icmpNo X21.here hx rfl (hb hby at_15) rfl (flt (by decide : ¬ ((4 : Int32) < (1 : Int32)))).1 k) ?_
    show Rest p.tables e below s _ _ _ (T21.setTop (mkF m 18 #[.val (.int p0), .val (.int (4 : Int32)), .val (.ref d4), .unset, .unset, .unset, .unset, .unset] []))
    refine Rest.via (fun t k => XS.iloadN X21.here hx rfl (hb hby at_18) rfl k) ?_
    show Rest p.tables e below s _ _ _ (T21.setTop (mkF m 19 #[.val (.int p0), .val (.int (4 : Int32)), .val (.ref d4), .unset, .unset, .unset, .unset, .unset] [(.int (4 : Int32))]))
    refine Rest.via (fun t k => XS.iconst X21.here hx rfl (hb hby at_19) k) ?_
    show Rest p.tables e below s _ _ _ (T21.setTop (mkF m 20 #[.val (.int p0), .val (.int (4 : Int32)), .val (.ref d4), .unset, .unset, .unset, .unset, .unset] [(.int (4 : Int32)), (.int (4 : Int32))]))
    refine Rest.via (fun t k => XS.icmpNo X21.here hx rfl (hb hby at_20) rfl (flt (by decide : ¬ ((4 : Int32) < (4 : Int32)))).2.2.1 k) ?_
    show Rest p.tables e below s _ _ _ (T21.setTop (mkF m 23 #[.val (.int p0), .val (.int (4 : Int32)), .val (.ref d4), .unset, .unset, .unset, .unset, .unset] []))
    refine Rest.via (fun t k => XS.iconst X21.here hx rfl (hb hby at_23) k) ?_
    show Rest p.tables e below s _ _ _ (T21.setTop (mkF m 24 #[.val (.int p0), .val (.int (4 : Int32)), .val (.ref d4), .unset, .unset, .unset, .unset, .unset] [(.int (1 : Int32))]))
    refine Rest.via (fun t k => XS.goto X21.here hx rfl (pc0 := 24) (pc' := 28) rfl (hb hby at_24) (by decide) (by decide) k) ?_
    show Rest p.tables e below s _ _ _ (T21.setTop (mkF m 28 #[.val (.int p0), .val (.int (4 : Int32)), .val (.ref d4), .unset, .unset, .unset, .unset, .unset] [(.int (1 : Int32))]))
    refine Rest.via (fun t k => XS.istoreN X21.here hx rfl (hb hby at_28) rfl (l' := #[.val (.int p0), .val (.int (4 : Int32)), .val (.ref d4), .val (.int (1 : Int32)), .unset, .unset, .unset, .unset]) rfl k) ?_
    show Rest p.tables e below s _ _ _ (T21.setTop (mkF m 29 #[.val (.int p0), .val (.int (4 : Int32)), .val (.ref d4), .val (.int (1 : Int32)), .unset, .unset, .unset, .unset] []))
    refine Rest.via (fun t k => XS.aloadN X21.here hx rfl (hb hby at_29) rfl rfl k) ?_
    show Rest p.tables e below s _ _ _ (T21.setTop (mkF m 30 #[.val (.int p0), .val (.int (4 : Int32)), .val (.ref d4), .val (.int (1 : Int32)), .unset, .unset, .unset, .unset] [(.ref d4)]))
    obtain ⟨cq22, kq22, q22a, q22b, q22c⟩ := isOf hZ e21 E4
    obtain ⟨_, _, ⟨T22, L22, k22, n22⟩, -, X22, ⟨Lc22, hQ22, l22, y22, z22⟩, st22⟩ := X21.virtualBack hx (y := (⟨"com/example/zapros/zapros/model/Operator", "orders", "()Z"⟩ : MethodName)) (z := (⟨"com/example/zapros/zapros/model/Operator", "orders", "()Z"⟩ : MethodName)) hown (mvT hZ (hw _ (List.mem_of_getElem? (i := 8) rfl))) (mvT hZ (hw _ (List.mem_of_getElem? (i := 9) rfl))) (notFace_of_selects (args := #[]) (mvT hZ (hw _ (List.mem_of_getElem? (i := 11) rfl)))) (mvT hZ (hw _ (List.mem_of_getElem? (i := 11) rfl))) (mvT hZ (hw _ (List.mem_of_getElem? (i := 10) rfl))) (by decide) (backOf (W := 0) (rmO4 l Z aw hw []  d0 d1 d2 d3 d4 d5 h0 n0 (Nat.le_trans Z0 (Keep.refl h0 []).1) B) hZ (hw _ (List.mem_of_getElem? (i := 12) rfl)) (hw _ (List.mem_of_getElem? (i := 6) rfl)) (by decide) (by decide)) q22a q22c (g := (mkF m 30 #[.val (.int p0), .val (.int (4 : Int32)), .val (.ref d4), .val (.int (1 : Int32)), .unset, .unset, .unset, .unset] [(.ref d4)])) rfl (by rw [hml]; rfl) (Steps.refl _) (argsL := []) (rest := []) (lenOf pd_2 rfl) rfl (by show 2 * 0 + _ ≤ _; exact Nat.le_of_eq rfl) (hb hby at_30) (fun _ _ => ⟨rfl, e21, (by decide : 0 + 0 ≤ _), (by decide : 0 + 0 ≤ _)⟩)
    dsimp only [Pt.U, Pt.locs, Pt.cells, Pt.slots] at X22 l22 y22 z22 st22 hQ22
    subst l22 y22 z22
    obtain ⟨rfl, Nq22, e22⟩ := hQ22
    have N22 := Fr.app N21 Nq22
    refine Rest.via (fun t k => st22.trans k) ?_
    show Rest p.tables e below s _ _ _ (T22.setTop (mkF m 33 #[.val (.int p0), .val (.int (4 : Int32)), .val (.ref d4), .val (.int (1 : Int32)), .unset, .unset, .unset, .unset] [(.int (1 : Int32))]))
    refine Rest.via (fun t k => XS.istore X22.here hx rfl (hb hby at_33) rfl (l' := #[.val (.int p0), .val (.int (4 : Int32)), .val (.ref d4), .val (.int (1 : Int32)), .val (.int (1 : Int32)), .unset, .unset, .unset]) rfl k) ?_
    show Rest p.tables e below s _ _ _ (T22.setTop (mkF m 35 #[.val (.int p0), .val (.int (4 : Int32)), .val (.ref d4), .val (.int (1 : Int32)), .val (.int (1 : Int32)), .unset, .unset, .unset] []))
    refine Rest.via (fun t k => XS.aloadN X22.here hx rfl (hb hby at_35) rfl rfl k) ?_
    show Rest p.tables e below s _ _ _ (T22.setTop (mkF m 36 #[.val (.int p0), .val (.int (4 : Int32)), .val (.ref d4), .val (.int (1 : Int32)), .val (.int (1 : Int32)), .unset, .unset, .unset] [(.ref d4)]))
    obtain ⟨cq23, kq23, q23a, q23b, q23c⟩ := isOf hZ e22 E4
    obtain ⟨_, _, ⟨T23, L23, k23, n23⟩, -, X23, ⟨Lc23, hQ23, l23, y23, z23⟩, st23⟩ := X22.virtualBack hx (y := (⟨"com/example/zapros/zapros/model/Operator", "symbol", "()Ljava/lang/String;"⟩ : MethodName)) (z := (⟨"com/example/zapros/zapros/model/Operator", "symbol", "()Ljava/lang/String;"⟩ : MethodName)) hown (mvT hZ (hw _ (List.mem_of_getElem? (i := 14) rfl))) (mvT hZ (hw _ (List.mem_of_getElem? (i := 15) rfl))) (notFace_of_selects (args := #[]) (mvT hZ (hw _ (List.mem_of_getElem? (i := 17) rfl)))) (mvT hZ (hw _ (List.mem_of_getElem? (i := 17) rfl))) (mvT hZ (hw _ (List.mem_of_getElem? (i := 16) rfl))) (by decide) (backOf (W := 0) (rmSY l Z aw hw [] d4 tt h0 n0 (Nat.le_trans Z0 (Keep.refl h0 []).1) Fm) hZ (hw _ (List.mem_of_getElem? (i := 18) rfl)) (hw _ (List.mem_of_getElem? (i := 6) rfl)) (by decide) (by decide)) q23a q23c (g := (mkF m 36 #[.val (.int p0), .val (.int (4 : Int32)), .val (.ref d4), .val (.int (1 : Int32)), .val (.int (1 : Int32)), .unset, .unset, .unset] [(.ref d4)])) rfl (by rw [hml]; rfl) (Steps.refl _) (argsL := []) (rest := []) (lenOf pd_5 rfl) rfl (by show 2 * 0 + _ ≤ _; exact Nat.le_of_eq rfl) (hb hby at_36) (fun _ _ => ⟨rfl, e22, (by decide : 0 + 0 ≤ _), (by decide : 0 + 0 ≤ _)⟩)
    dsimp only [Pt.U, Pt.locs, Pt.cells, Pt.slots] at X23 l23 y23 z23 st23 hQ23
    subst l23 y23 z23
    obtain ⟨rfl, Nq23, e23⟩ := hQ23
    have N23 := Fr.app N22 Nq23
    refine Rest.via (fun t k => st23.trans k) ?_
    show Rest p.tables e below s _ _ _ (T23.setTop (mkF m 39 #[.val (.int p0), .val (.int (4 : Int32)), .val (.ref d4), .val (.int (1 : Int32)), .val (.int (1 : Int32)), .unset, .unset, .unset] [(.ref tt)]))
    refine Rest.via (fun t k => XS.astore X23.here hx rfl (hb hby at_39) rfl rfl (l' := #[.val (.int p0), .val (.int (4 : Int32)), .val (.ref d4), .val (.int (1 : Int32)), .val (.int (1 : Int32)), .val (.ref tt), .unset, .unset]) rfl k) ?_
    show Rest p.tables e below s _ _ _ (T23.setTop (mkF m 41 #[.val (.int p0), .val (.int (4 : Int32)), .val (.ref d4), .val (.int (1 : Int32)), .val (.int (1 : Int32)), .val (.ref tt), .unset, .unset] []))
    refine Rest.via (fun t k => XS.aload X23.here hx rfl (hb hby at_41) rfl rfl k) ?_
    show Rest p.tables e below s _ _ _ (T23.setTop (mkF m 43 #[.val (.int p0), .val (.int (4 : Int32)), .val (.ref d4), .val (.int (1 : Int32)), .val (.int (1 : Int32)), .val (.ref tt), .unset, .unset] [(.ref tt)]))
    obtain ⟨cq24, kq24, q24a, q24b, q24c⟩ := isOf hZ e23 Et
    obtain ⟨_, _, ⟨T24, L24, k24, n24⟩, -, X24, ⟨Lc24, hQ24, l24, y24, z24⟩, st24⟩ := X23.virtualBack hx (y := (⟨"java/lang/String", "isEmpty", "()Z"⟩ : MethodName)) (z := (⟨"java/lang/String", "isEmpty", "()Z"⟩ : MethodName)) hown (mvT hZ (hw _ (List.mem_of_getElem? (i := 21) rfl))) (mvT hZ (hw _ (List.mem_of_getElem? (i := 22) rfl))) (notFace_of_selects (args := #[]) (mvT hZ (hw _ (List.mem_of_getElem? (i := 24) rfl)))) (mvT hZ (hw _ (List.mem_of_getElem? (i := 24) rfl))) (mvT hZ (hw _ (List.mem_of_getElem? (i := 23) rfl))) (by decide) (backOf (W := 0) (rmEM l Z aw hw [] tt va kk (2 : Int32) (60 : Int32) vs h0 n0 (Nat.le_trans Z0 (Keep.refl h0 []).1) Et Fv Fc Vv (by decide)) hZ (hw _ (List.mem_of_getElem? (i := 26) rfl)) (hw _ (List.mem_of_getElem? (i := 25) rfl)) (by decide) (by decide)) q24a q24c (g := (mkF m 43 #[.val (.int p0), .val (.int (4 : Int32)), .val (.ref d4), .val (.int (1 : Int32)), .val (.int (1 : Int32)), .val (.ref tt), .unset, .unset] [(.ref tt)])) rfl (by rw [hml]; rfl) (Steps.refl _) (argsL := []) (rest := []) (lenOf pd_2 rfl) rfl (by show 2 * 0 + _ ≤ _; exact Nat.le_of_eq rfl) (hb hby at_43) (fun _ _ => ⟨rfl, e23, (by decide : 0 + 0 ≤ _), (by decide : 0 + 0 ≤ _)⟩)
    dsimp only [Pt.U, Pt.locs, Pt.cells, Pt.slots] at X24 l24 y24 z24 st24 hQ24
    subst l24 y24 z24
    obtain ⟨rfl, Nq24, e24⟩ := hQ24
    have N24 := Fr.app N23 Nq24
    refine Rest.via (fun t k => st24.trans k) ?_
    show Rest p.tables e below s _ _ _ (T24.setTop (mkF m 46 #[.val (.int p0), .val (.int (4 : Int32)), .val (.ref d4), .val (.int (1 : Int32)), .val (.int (1 : Int32)), .val (.ref tt), .unset, .unset] [(.int (0 : Int32))]))
    refine Rest.via (fun t k => XS.ifYes X24.here hx rfl (pc0 := 46) (pc' := 51) rfl (hb hby at_46) rfl ((if0 _ _).trans (teq (by decide : (0 : Int32) = (0 : Int32))).1) (by decide) (by decide) k) ?_
    show Rest p.tables e below s _ _ _ (T24.setTop (mkF m 51 #[.val (.int p0), .val (.int (4 : Int32)), .val (.ref d4), .val (.int (1 : Int32)), .val (.int (1 : Int32)), .val (.ref tt), .unset, .unset] []))
    refine Rest.via (fun t k => XS.aload X24.here hx rfl (hb hby at_51) rfl rfl k) ?_
    show Rest p.tables e below s _ _ _ (T24.setTop (mkF m 53 #[.val (.int p0), .val (.int (4 : Int32)), .val (.ref d4), .val (.int (1 : Int32)), .val (.int (1 : Int32)), .val (.ref tt), .unset, .unset] [(.ref tt)]))
    refine Rest.via (fun t k => XS.iconst X24.here hx rfl (hb hby at_53) k) ?_
    show Rest p.tables e below s _ _ _ (T24.setTop (mkF m 54 #[.val (.int p0), .val (.int (4 : Int32)), .val (.ref d4), .val (.int (1 : Int32)), .val (.int (1 : Int32)), .val (.ref tt), .unset, .unset] [(.int (0 : Int32)), (.ref tt)]))
    obtain ⟨cq25, kq25, q25a, q25b, q25c⟩ := isOf hZ e24 Et
    obtain ⟨_, _, ⟨T25, L25, k25, n25⟩, -, X25, ⟨Lc25, hQ25, l25, y25, z25⟩, st25⟩ := X24.virtualBack hx (y := (⟨"java/lang/String", "charAt", "(I)C"⟩ : MethodName)) (z := (⟨"java/lang/String", "charAt", "(I)C"⟩ : MethodName)) hown (mvT hZ (hw _ (List.mem_of_getElem? (i := 29) rfl))) (mvT hZ (hw _ (List.mem_of_getElem? (i := 30) rfl))) (notFace_of_selects (args := #[]) (mvT hZ (hw _ (List.mem_of_getElem? (i := 32) rfl)))) (mvT hZ (hw _ (List.mem_of_getElem? (i := 32) rfl))) (mvT hZ (hw _ (List.mem_of_getElem? (i := 31) rfl))) (by decide) (backOf (W := 0) (rmCA l Z aw hw [] tt va kk (2 : Int32) (60 : Int32) vs fm ic h0 n0 (Nat.le_trans Z0 (Keep.refl h0 []).1) Et Fv Fc Vv (by decide) hf Sf Sc hic) hZ (hw _ (List.mem_of_getElem? (i := 33) rfl)) (hw _ (List.mem_of_getElem? (i := 25) rfl)) (by decide) (by decide)) q25a q25c (g := (mkF m 54 #[.val (.int p0), .val (.int (4 : Int32)), .val (.ref d4), .val (.int (1 : Int32)), .val (.int (1 : Int32)), .val (.ref tt), .unset, .unset] [(.int (0 : Int32)), (.ref tt)])) rfl (by rw [hml]; rfl) (Steps.refl _) (argsL := [(.int (0 : Int32))]) (rest := []) (lenOf pd_6 rfl) rfl (by show 2 * 0 + _ ≤ _; exact Nat.le_of_eq rfl) (hb hby at_54) (fun _ _ => ⟨rfl, e24, (by decide : 0 + 0 ≤ _), (by decide : 0 + 0 ≤ _)⟩)
    dsimp only [Pt.U, Pt.locs, Pt.cells, Pt.slots] at X25 l25 y25 z25 st25 hQ25
    subst l25 y25 z25
    obtain ⟨rfl, Nq25, e25⟩ := hQ25
    have N25 := Fr.app N24 Nq25
    refine Rest.via (fun t k => st25.trans k) ?_
    show Rest p.tables e below s _ _ _ (T25.setTop (mkF m 57 #[.val (.int p0), .val (.int (4 : Int32)), .val (.ref d4), .val (.int (1 : Int32)), .val (.int (1 : Int32)), .val (.ref tt), .unset, .unset] [(.int (own_cc (60 : Int32)))]))
    rw [(by decide : own_cc (60 : Int32) = (60 : Int32))]
    show Rest p.tables e below s _ _ _ (T25.setTop (mkF m 57 #[.val (.int p0), .val (.int (4 : Int32)), .val (.ref d4), .val (.int (1 : Int32)), .val (.int (1 : Int32)), .val (.ref tt), .unset, .unset] [(.int (60 : Int32))]))
    refine Rest.via (fun t k => XS.istore X25.here hx rfl (hb hby at_57) rfl (l' := #[.val (.int p0), .val (.int (4 : Int32)), .val (.ref d4), .val (.int (1 : Int32)), .val (.int (1 : Int32)), .val (.ref tt), .val (.int (60 : Int32)), .unset]) rfl k) ?_
    show Rest p.tables e below s _ _ _ (T25.setTop (mkF m 59 #[.val (.int p0), .val (.int (4 : Int32)), .val (.ref d4), .val (.int (1 : Int32)), .val (.int (1 : Int32)), .val (.ref tt), .val (.int (60 : Int32)), .unset] []))
    refine Rest.via (fun t k => XS.iload X25.here hx rfl (hb hby at_59) rfl k) ?_
    show Rest p.tables e below s _ _ _ (T25.setTop (mkF m 61 #[.val (.int p0), .val (.int (4 : Int32)), .val (.ref d4), .val (.int (1 : Int32)), .val (.int (1 : Int32)), .val (.ref tt), .val (.int (60 : Int32)), .unset] [(.int (60 : Int32))]))
    refine Rest.via (fun t k => XS.bipush X25.here hx rfl (hb hby at_61) k) ?_
    show Rest p.tables e below s _ _ _ (T25.setTop (mkF m 63 #[.val (.int p0), .val (.int (4 : Int32)), .val (.ref d4), .val (.int (1 : Int32)), .val (.int (1 : Int32)), .val (.ref tt), .val (.int (60 : Int32)), .unset] [(.int (60 : Int32)), (.int (60 : Int32))]))
    refine Rest.via (fun t k => XS.icmpYes X25.here hx rfl (pc0 := 63) (pc' := 73) rfl (hb hby at_63) rfl (teq (by decide : (60 : Int32) = (60 : Int32))).1 (by decide) (by decide) k) ?_
    show Rest p.tables e below s _ _ _ (T25.setTop (mkF m 73 #[.val (.int p0), .val (.int (4 : Int32)), .val (.ref d4), .val (.int (1 : Int32)), .val (.int (1 : Int32)), .val (.ref tt), .val (.int (60 : Int32)), .unset] []))
    refine Rest.via (fun t k => XS.iconst X25.here hx rfl (hb hby at_73) k) ?_
    show Rest p.tables e below s _ _ _ (T25.setTop (mkF m 74 #[.val (.int p0), .val (.int (4 : Int32)), .val (.ref d4), .val (.int (1 : Int32)), .val (.int (1 : Int32)), .val (.ref tt), .val (.int (60 : Int32)), .unset] [(.int (1 : Int32))]))
    refine Rest.via (fun t k => XS.goto X25.here hx rfl (pc0 := 74) (pc' := 78) rfl (hb hby at_74) (by decide) (by decide) k) ?_
    show Rest p.tables e below s _ _ _ (T25.setTop (mkF m 78 #[.val (.int p0), .val (.int (4 : Int32)), .val (.ref d4), .val (.int (1 : Int32)), .val (.int (1 : Int32)), .val (.ref tt), .val (.int (60 : Int32)), .unset] [(.int (1 : Int32))]))
    refine Rest.via (fun t k => XS.istore X25.here hx rfl (hb hby at_78) rfl (l' := #[.val (.int p0), .val (.int (4 : Int32)), .val (.ref d4), .val (.int (1 : Int32)), .val (.int (1 : Int32)), .val (.ref tt), .val (.int (60 : Int32)), .val (.int (1 : Int32))]) rfl k) ?_
    show Rest p.tables e below s _ _ _ (T25.setTop (mkF m 80 #[.val (.int p0), .val (.int (4 : Int32)), .val (.ref d4), .val (.int (1 : Int32)), .val (.int (1 : Int32)), .val (.ref tt), .val (.int (60 : Int32)), .val (.int (1 : Int32))] []))
    refine Rest.via (fun t k => XS.iload X25.here hx rfl (hb hby at_80) rfl k) ?_
    show Rest p.tables e below s _ _ _ (T25.setTop (mkF m 82 #[.val (.int p0), .val (.int (4 : Int32)), .val (.ref d4), .val (.int (1 : Int32)), .val (.int (1 : Int32)), .val (.ref tt), .val (.int (60 : Int32)), .val (.int (1 : Int32))] [(.int (1 : Int32))]))
    refine Rest.via (fun t k => XS.iloadN X25.here hx rfl (hb hby at_82) rfl k) ?_
    show Rest p.tables e below s _ _ _ (T25.setTop (mkF m 83 #[.val (.int p0), .val (.int (4 : Int32)), .val (.ref d4), .val (.int (1 : Int32)), .val (.int (1 : Int32)), .val (.ref tt), .val (.int (60 : Int32)), .val (.int (1 : Int32))] [(.int (1 : Int32)), (.int (1 : Int32))]))
    refine Rest.via (fun t k => XS.icmpNo X25.here hx rfl (hb hby at_83) rfl (teq (by decide : (1 : Int32) = (1 : Int32))).2 k) ?_
    show Rest p.tables e below s _ _ _ (T25.setTop (mkF m 86 #[.val (.int p0), .val (.int (4 : Int32)), .val (.ref d4), .val (.int (1 : Int32)), .val (.int (1 : Int32)), .val (.ref tt), .val (.int (60 : Int32)), .val (.int (1 : Int32))] []))
    refine Rest.via (fun t k => XS.iloadN X25.here hx rfl (hb hby at_86) rfl k) ?_
    show Rest p.tables e below s _ _ _ (T25.setTop (mkF m 87 #[.val (.int p0), .val (.int (4 : Int32)), .val (.ref d4), .val (.int (1 : Int32)), .val (.int (1 : Int32)), .val (.ref tt), .val (.int (60 : Int32)), .val (.int (1 : Int32))] [(.int (1 : Int32))]))
    refine Rest.via (fun t k => XS.iload X25.here hx rfl (hb hby at_87) rfl k) ?_
    show Rest p.tables e below s _ _ _ (T25.setTop (mkF m 89 #[.val (.int p0), .val (.int (4 : Int32)), .val (.ref d4), .val (.int (1 : Int32)), .val (.int (1 : Int32)), .val (.ref tt), .val (.int (60 : Int32)), .val (.int (1 : Int32))] [(.int (1 : Int32)), (.int (1 : Int32))]))
    refine Rest.via (fun t k => XS.icmpNo X25.here hx rfl (hb hby at_89) rfl (teq (by decide : (1 : Int32) = (1 : Int32))).2 k) ?_
    show Rest p.tables e below s _ _ _ (T25.setTop (mkF m 92 #[.val (.int p0), .val (.int (4 : Int32)), .val (.ref d4), .val (.int (1 : Int32)), .val (.int (1 : Int32)), .val (.ref tt), .val (.int (60 : Int32)), .val (.int (1 : Int32))] []))
    refine Rest.via (fun t k => XS.iconst X25.here hx rfl (hb hby at_92) k) ?_
    show Rest p.tables e below s _ _ _ (T25.setTop (mkF m 93 #[.val (.int p0), .val (.int (4 : Int32)), .val (.ref d4), .val (.int (1 : Int32)), .val (.int (1 : Int32)), .val (.ref tt), .val (.int (60 : Int32)), .val (.int (1 : Int32))] [(.int (1 : Int32))]))
    refine Rest.via (fun t k => XS.goto X25.here hx rfl (pc0 := 93) (pc' := 97) rfl (hb hby at_93) (by decide) (by decide) k) ?_
    show Rest p.tables e below s _ _ _ (T25.setTop (mkF m 97 #[.val (.int p0), .val (.int (4 : Int32)), .val (.ref d4), .val (.int (1 : Int32)), .val (.int (1 : Int32)), .val (.ref tt), .val (.int (60 : Int32)), .val (.int (1 : Int32))] [(.int (1 : Int32))]))
    refine Rest.ret X25 (v := some (.int (nar .boolean (1 : Int32)))) (fun h => by rw [Bd.returns] at h; cases h) hlk (fun fs hr => retN X25 hx (t := .boolean) Bd.returns (by simp) (hb hby at_97) hr) ?_ (by decide) (by decide)
    rw [e25]
    exact ⟨rfl, N25⟩
  · obtain ⟨tt, va, kk, vs, Fm, Et, Fv, Fc, Vv⟩ := SS5
    show Rest p.tables e below s _ _ _ (s₁.setTop (mkF m 8 #[.val (.int p0), .val (.int (5 : Int32)), .unset, .unset, .unset, .unset, .unset, .unset] []))
    refine Rest.via (fun t k => XS.iloadN X0.here hx rfl (hb hby at_8) rfl k) ?_
    show Rest p.tables e below s _ _ _ (s₁.setTop (mkF m 9 #[.val (.int p0), .val (.int (5 : Int32)), .unset, .unset, .unset, .unset, .unset, .unset] [(.int (5 : Int32))]))
    obtain ⟨_, _, ⟨T26, L26, k26, n26⟩, -, X26, ⟨Lc26, hQ26, l26, y26, z26⟩, st26⟩ := Jvm.LawKit.callS X0 hx (y := (⟨"com/example/zapros/zapros/model/OperatorOrdersPinLaw", "pick", "(I)Lcom/example/zapros/zapros/model/Operator;"⟩ : MethodName)) hown (mvT hZ (hw _ (List.mem_of_getElem? (i := 1) rfl))) (mvT hZ (hw _ (List.mem_of_getElem? (i := 2) rfl))) (mvT hZ (hw _ (List.mem_of_getElem? (i := 3) rfl))) (mvT hZ (hw _ (List.mem_of_getElem? (i := 4) rfl))) (by decide) (backOf (W := 0) (rmP5 l Z aw hw []  d0 d1 d2 d3 d4 d5 h0 n0 (Nat.le_trans Z0 (Keep.refl h0 []).1) B) hZ (hw _ (List.mem_of_getElem? (i := 4) rfl)) (hw _ (List.mem_of_getElem? (i := 3) rfl)) (by decide) (by decide)) (g := (mkF m 9 #[.val (.int p0), .val (.int (5 : Int32)), .unset, .unset, .unset, .unset, .unset, .unset] [(.int (5 : Int32))])) rfl (by rw [hml]; rfl) (argsL := [(.int (5 : Int32))]) (rest := []) (lenOf pd_4 rfl) rfl (by show 2 * 0 + _ ≤ _; exact Nat.le_of_eq rfl) (hb hby at_9) (fun _ _ => ⟨rfl, eh0, (by decide : 0 + 0 ≤ _), (by decide : 0 + 0 ≤ _)⟩)
    dsimp only [Pt.U, Pt.locs, Pt.cells, Pt.slots] at X26 l26 y26 z26 st26 hQ26
    subst l26 y26 z26
    obtain ⟨rfl, Nq26, e26⟩ := hQ26
    have N26 := Fr.app N0 Nq26
    refine Rest.via (fun t k => st26 t k) ?_
    show Rest p.tables e below s _ _ _ (T26.setTop (mkF m 12 #[.val (.int p0), .val (.int (5 : Int32)), .unset, .unset, .unset, .unset, .unset, .unset] [(.ref d5)]))
    refine Rest.via (fun t k => XS.astoreN X26.here hx rfl (hb hby at_12) rfl rfl (l' := #[.val (.int p0), .val (.int (5 : Int32)), .val (.ref d5), .unset, .unset, .unset, .unset, .unset]) rfl k) ?_
    show Rest p.tables e below s _ _ _ (T26.setTop (mkF m 13 #[.val (.int p0), .val (.int (5 : Int32)), .val (.ref d5), .unset, .unset, .unset, .unset, .unset] []))
    refine Rest.via (fun t k => XS.iloadN X26.here hx rfl (hb hby at_13) rfl k) ?_
    show Rest p.tables e below s _ _ _ (T26.setTop (mkF m 14 #[.val (.int p0), .val (.int (5 : Int32)), .val (.ref d5), .unset, .unset, .unset, .unset, .unset] [(.int (5 : Int32))]))
    refine Rest.via (fun t k => XS.iconst X26.here hx rfl (hb hby at_14) k) ?_
    show Rest p.tables e below s _ _ _ (T26.setTop (mkF m 15 #[.val (.int p0), .val (.int (5 : Int32)), .val (.ref d5), .unset, .unset, .unset, .unset, .unset] [(.int (1 : Int32)), (.int (5 : Int32))]))
    refine Rest.via (fun t k => XS.icmpNo X26.here hx rfl (hb hby at_15) rfl (flt (by decide : ¬ ((5 : Int32) < (1 : Int32)))).1 k) ?_
    show Rest p.tables e below s _ _ _ (T26.setTop (mkF m 18 #[.val (.int p0), .val (.int (5 : Int32)), .val (.ref d5), .unset, .unset, .unset, .unset, .unset] []))
    refine Rest.via (fun t k => XS.iloadN X26.here hx rfl (hb hby at_18) rfl k) ?_
    show Rest p.tables e below s _ _ _ (T26.setTop (mkF m 19 #[.val (.int p0), .val (.int (5 : Int32)), .val (.ref d5), .unset, .unset, .unset, .unset, .unset] [(.int (5 : Int32))]))
    refine Rest.via (fun t k => XS.iconst X26.here hx rfl (hb hby at_19) k) ?_
    show Rest p.tables e below s _ _ _ (T26.setTop (mkF m 20 #[.val (.int p0), .val (.int (5 : Int32)), .val (.ref d5), .unset, .unset, .unset, .unset, .unset] [(.int (4 : Int32)), (.int (5 : Int32))]))
    refine Rest.via (fun t k => XS.icmpYes X26.here hx rfl (pc0 := 20) (pc' := 27) rfl (hb hby at_20) rfl (tlt (by decide : (4 : Int32) < (5 : Int32))).2.2.1 (by decide) (by decide) k) ?_
    show Rest p.tables e below s _ _ _ (T26.setTop (mkF m 27 #[.val (.int p0), .val (.int (5 : Int32)), .val (.ref d5), .unset, .unset, .unset, .unset, .unset] []))
    refine Rest.via (fun t k => XS.iconst X26.here hx rfl (hb hby at_27) k) ?_
    show Rest p.tables e below s _ _ _ (T26.setTop (mkF m 28 #[.val (.int p0), .val (.int (5 : Int32)), .val (.ref d5), .unset, .unset, .unset, .unset, .unset] [(.int (0 : Int32))]))
    refine Rest.via (fun t k => XS.istoreN X26.here hx rfl (hb hby at_28) rfl (l' := #[.val (.int p0), .val (.int (5 : Int32)), .val (.ref d5), .val (.int (0 : Int32)), .unset, .unset, .unset, .unset]) rfl k) ?_
    show Rest p.tables e below s _ _ _ (T26.setTop (mkF m 29 #[.val (.int p0), .val (.int (5 : Int32)), .val (.ref d5), .val (.int (0 : Int32)), .unset, .unset, .unset, .unset] []))
    refine Rest.via (fun t k => XS.aloadN X26.here hx rfl (hb hby at_29) rfl rfl k) ?_
    show Rest p.tables e below s _ _ _ (T26.setTop (mkF m 30 #[.val (.int p0), .val (.int (5 : Int32)), .val (.ref d5), .val (.int (0 : Int32)), .unset, .unset, .unset, .unset] [(.ref d5)]))
    obtain ⟨cq27, kq27, q27a, q27b, q27c⟩ := isOf hZ e26 E5
    obtain ⟨_, _, ⟨T27, L27, k27, n27⟩, -, X27, ⟨Lc27, hQ27, l27, y27, z27⟩, st27⟩ := X26.virtualBack hx (y := (⟨"com/example/zapros/zapros/model/Operator", "orders", "()Z"⟩ : MethodName)) (z := (⟨"com/example/zapros/zapros/model/Operator", "orders", "()Z"⟩ : MethodName)) hown (mvT hZ (hw _ (List.mem_of_getElem? (i := 8) rfl))) (mvT hZ (hw _ (List.mem_of_getElem? (i := 9) rfl))) (notFace_of_selects (args := #[]) (mvT hZ (hw _ (List.mem_of_getElem? (i := 11) rfl)))) (mvT hZ (hw _ (List.mem_of_getElem? (i := 11) rfl))) (mvT hZ (hw _ (List.mem_of_getElem? (i := 10) rfl))) (by decide) (backOf (W := 0) (rmO5 l Z aw hw []  d0 d1 d2 d3 d4 d5 h0 n0 (Nat.le_trans Z0 (Keep.refl h0 []).1) B) hZ (hw _ (List.mem_of_getElem? (i := 12) rfl)) (hw _ (List.mem_of_getElem? (i := 6) rfl)) (by decide) (by decide)) q27a q27c (g := (mkF m 30 #[.val (.int p0), .val (.int (5 : Int32)), .val (.ref d5), .val (.int (0 : Int32)), .unset, .unset, .unset, .unset] [(.ref d5)])) rfl (by rw [hml]; rfl) (Steps.refl _) (argsL := []) (rest := []) (lenOf pd_2 rfl) rfl (by show 2 * 0 + _ ≤ _; exact Nat.le_of_eq rfl) (hb hby at_30) (fun _ _ => ⟨rfl, e26, (by decide : 0 + 0 ≤ _), (by decide : 0 + 0 ≤ _)⟩)
    dsimp only [Pt.U, Pt.locs, Pt.cells, Pt.slots] at X27 l27 y27 z27 st27 hQ27
    subst l27 y27 z27
    obtain ⟨rfl, Nq27, e27⟩ := hQ27
    have N27 := Fr.app N26 Nq27
    refine Rest.via (fun t k => st27.trans k) ?_
    show Rest p.tables e below s _ _ _ (T27.setTop (mkF m 33 #[.val (.int p0), .val (.int (5 : Int32)), .val (.ref d5), .val (.int (0 : Int32)), .unset, .unset, .unset, .unset] [(.int (0 : Int32))]))
    refine Rest.via (fun t k => XS.istore X27.here hx rfl (hb hby at_33) rfl (l' := #[.val (.int p0), .val (.int (5 : Int32)), .val (.ref d5), .val (.int (0 : Int32)), .val (.int (0 : Int32)), .unset, .unset, .unset]) rfl k) ?_
    show Rest p.tables e below s _ _ _ (T27.setTop (mkF m 35 #[.val (.int p0), .val (.int (5 : Int32)), .val (.ref d5), .val (.int (0 : Int32)), .val (.int (0 : Int32)), .unset, .unset, .unset] []))
    refine Rest.via (fun t k => XS.aloadN X27.here hx rfl (hb hby at_35) rfl rfl k) ?_
    show Rest p.tables e below s _ _ _ (T27.setTop (mkF m 36 #[.val (.int p0), .val (.int (5 : Int32)), .val (.ref d5), .val (.int (0 : Int32)), .val (.int (0 : Int32)), .unset, .unset, .unset] [(.ref d5)]))
    obtain ⟨cq28, kq28, q28a, q28b, q28c⟩ := isOf hZ e27 E5
    obtain ⟨_, _, ⟨T28, L28, k28, n28⟩, -, X28, ⟨Lc28, hQ28, l28, y28, z28⟩, st28⟩ := X27.virtualBack hx (y := (⟨"com/example/zapros/zapros/model/Operator", "symbol", "()Ljava/lang/String;"⟩ : MethodName)) (z := (⟨"com/example/zapros/zapros/model/Operator", "symbol", "()Ljava/lang/String;"⟩ : MethodName)) hown (mvT hZ (hw _ (List.mem_of_getElem? (i := 14) rfl))) (mvT hZ (hw _ (List.mem_of_getElem? (i := 15) rfl))) (notFace_of_selects (args := #[]) (mvT hZ (hw _ (List.mem_of_getElem? (i := 17) rfl)))) (mvT hZ (hw _ (List.mem_of_getElem? (i := 17) rfl))) (mvT hZ (hw _ (List.mem_of_getElem? (i := 16) rfl))) (by decide) (backOf (W := 0) (rmSY l Z aw hw [] d5 tt h0 n0 (Nat.le_trans Z0 (Keep.refl h0 []).1) Fm) hZ (hw _ (List.mem_of_getElem? (i := 18) rfl)) (hw _ (List.mem_of_getElem? (i := 6) rfl)) (by decide) (by decide)) q28a q28c (g := (mkF m 36 #[.val (.int p0), .val (.int (5 : Int32)), .val (.ref d5), .val (.int (0 : Int32)), .val (.int (0 : Int32)), .unset, .unset, .unset] [(.ref d5)])) rfl (by rw [hml]; rfl) (Steps.refl _) (argsL := []) (rest := []) (lenOf pd_5 rfl) rfl (by show 2 * 0 + _ ≤ _; exact Nat.le_of_eq rfl) (hb hby at_36) (fun _ _ => ⟨rfl, e27, (by decide : 0 + 0 ≤ _), (by decide : 0 + 0 ≤ _)⟩)
    dsimp only [Pt.U, Pt.locs, Pt.cells, Pt.slots] at X28 l28 y28 z28 st28 hQ28
    subst l28 y28 z28
    obtain ⟨rfl, Nq28, e28⟩ := hQ28
    have N28 := Fr.app N27 Nq28
    refine Rest.via (fun t k => st28.trans k) ?_
    show Rest p.tables e below s _ _ _ (T28.setTop (mkF m 39 #[.val (.int p0), .val (.int (5 : Int32)), .val (.ref d5), .val (.int (0 : Int32)), .val (.int (0 : Int32)), .unset, .unset, .unset] [(.ref tt)]))
    refine Rest.via (fun t k => XS.astore X28.here hx rfl (hb hby at_39) rfl rfl (l' := #[.val (.int p0), .val (.int (5 : Int32)), .val (.ref d5), .val (.int (0 : Int32)), .val (.int (0 : Int32)), .val (.ref tt), .unset, .unset]) rfl k) ?_
    show Rest p.tables e below s _ _ _ (T28.setTop (mkF m 41 #[.val (.int p0), .val (.int (5 : Int32)), .val (.ref d5), .val (.int (0 : Int32)), .val (.int (0 : Int32)), .val (.ref tt), .unset, .unset] []))
    refine Rest.via (fun t k => XS.aload X28.here hx rfl (hb hby at_41) rfl rfl k) ?_
    show Rest p.tables e below s _ _ _ (T28.setTop (mkF m 43 #[.val (.int p0), .val (.int (5 : Int32)), .val (.ref d5), .val (.int (0 : Int32)), .val (.int (0 : Int32)), .val (.ref tt), .unset, .unset] [(.ref tt)]))
    obtain ⟨cq29, kq29, q29a, q29b, q29c⟩ := isOf hZ e28 Et
    obtain ⟨_, _, ⟨T29, L29, k29, n29⟩, -, X29, ⟨Lc29, hQ29, l29, y29, z29⟩, st29⟩ := X28.virtualBack hx (y := (⟨"java/lang/String", "isEmpty", "()Z"⟩ : MethodName)) (z := (⟨"java/lang/String", "isEmpty", "()Z"⟩ : MethodName)) hown (mvT hZ (hw _ (List.mem_of_getElem? (i := 21) rfl))) (mvT hZ (hw _ (List.mem_of_getElem? (i := 22) rfl))) (notFace_of_selects (args := #[]) (mvT hZ (hw _ (List.mem_of_getElem? (i := 24) rfl)))) (mvT hZ (hw _ (List.mem_of_getElem? (i := 24) rfl))) (mvT hZ (hw _ (List.mem_of_getElem? (i := 23) rfl))) (by decide) (backOf (W := 0) (rmEM l Z aw hw [] tt va kk (2 : Int32) (105 : Int32) vs h0 n0 (Nat.le_trans Z0 (Keep.refl h0 []).1) Et Fv Fc Vv (by decide)) hZ (hw _ (List.mem_of_getElem? (i := 26) rfl)) (hw _ (List.mem_of_getElem? (i := 25) rfl)) (by decide) (by decide)) q29a q29c (g := (mkF m 43 #[.val (.int p0), .val (.int (5 : Int32)), .val (.ref d5), .val (.int (0 : Int32)), .val (.int (0 : Int32)), .val (.ref tt), .unset, .unset] [(.ref tt)])) rfl (by rw [hml]; rfl) (Steps.refl _) (argsL := []) (rest := []) (lenOf pd_2 rfl) rfl (by show 2 * 0 + _ ≤ _; exact Nat.le_of_eq rfl) (hb hby at_43) (fun _ _ => ⟨rfl, e28, (by decide : 0 + 0 ≤ _), (by decide : 0 + 0 ≤ _)⟩)
    dsimp only [Pt.U, Pt.locs, Pt.cells, Pt.slots] at X29 l29 y29 z29 st29 hQ29
    subst l29 y29 z29
    obtain ⟨rfl, Nq29, e29⟩ := hQ29
    have N29 := Fr.app N28 Nq29
    refine Rest.via (fun t k => st29.trans k) ?_
    show Rest p.tables e below s _ _ _ (T29.setTop (mkF m 46 #[.val (.int p0), .val (.int (5 : Int32)), .val (.ref d5), .val (.int (0 : Int32)), .val (.int (0 : Int32)), .val (.ref tt), .unset, .unset] [(.int (0 : Int32))]))
    refine Rest.via (fun t k => XS.ifYes X29.here hx rfl (pc0 := 46) (pc' := 51) rfl (hb hby at_46) rfl ((if0 _ _).trans (teq (by decide : (0 : Int32) = (0 : Int32))).1) (by decide) (by decide) k) ?_
    show Rest p.tables e below s _ _ _ (T29.setTop (mkF m 51 #[.val (.int p0), .val (.int (5 : Int32)), .val (.ref d5), .val (.int (0 : Int32)), .val (.int (0 : Int32)), .val (.ref tt), .unset, .unset] []))
    refine Rest.via (fun t k => XS.aload X29.here hx rfl (hb hby at_51) rfl rfl k) ?_
    show Rest p.tables e below s _ _ _ (T29.setTop (mkF m 53 #[.val (.int p0), .val (.int (5 : Int32)), .val (.ref d5), .val (.int (0 : Int32)), .val (.int (0 : Int32)), .val (.ref tt), .unset, .unset] [(.ref tt)]))
    refine Rest.via (fun t k => XS.iconst X29.here hx rfl (hb hby at_53) k) ?_
    show Rest p.tables e below s _ _ _ (T29.setTop (mkF m 54 #[.val (.int p0), .val (.int (5 : Int32)), .val (.ref d5), .val (.int (0 : Int32)), .val (.int (0 : Int32)), .val (.ref tt), .unset, .unset] [(.int (0 : Int32)), (.ref tt)]))
    obtain ⟨cq30, kq30, q30a, q30b, q30c⟩ := isOf hZ e29 Et
    obtain ⟨_, _, ⟨T30, L30, k30, n30⟩, -, X30, ⟨Lc30, hQ30, l30, y30, z30⟩, st30⟩ := X29.virtualBack hx (y := (⟨"java/lang/String", "charAt", "(I)C"⟩ : MethodName)) (z := (⟨"java/lang/String", "charAt", "(I)C"⟩ : MethodName)) hown (mvT hZ (hw _ (List.mem_of_getElem? (i := 29) rfl))) (mvT hZ (hw _ (List.mem_of_getElem? (i := 30) rfl))) (notFace_of_selects (args := #[]) (mvT hZ (hw _ (List.mem_of_getElem? (i := 32) rfl)))) (mvT hZ (hw _ (List.mem_of_getElem? (i := 32) rfl))) (mvT hZ (hw _ (List.mem_of_getElem? (i := 31) rfl))) (by decide) (backOf (W := 0) (rmCA l Z aw hw [] tt va kk (2 : Int32) (105 : Int32) vs fm ic h0 n0 (Nat.le_trans Z0 (Keep.refl h0 []).1) Et Fv Fc Vv (by decide) hf Sf Sc hic) hZ (hw _ (List.mem_of_getElem? (i := 33) rfl)) (hw _ (List.mem_of_getElem? (i := 25) rfl)) (by decide) (by decide)) q30a q30c (g := (mkF m 54 #[.val (.int p0), .val (.int (5 : Int32)), .val (.ref d5), .val (.int (0 : Int32)), .val (.int (0 : Int32)), .val (.ref tt), .unset, .unset] [(.int (0 : Int32)), (.ref tt)])) rfl (by rw [hml]; rfl) (Steps.refl _) (argsL := [(.int (0 : Int32))]) (rest := []) (lenOf pd_6 rfl) rfl (by show 2 * 0 + _ ≤ _; exact Nat.le_of_eq rfl) (hb hby at_54) (fun _ _ => ⟨rfl, e29, (by decide : 0 + 0 ≤ _), (by decide : 0 + 0 ≤ _)⟩)
    dsimp only [Pt.U, Pt.locs, Pt.cells, Pt.slots] at X30 l30 y30 z30 st30 hQ30
    subst l30 y30 z30
    obtain ⟨rfl, Nq30, e30⟩ := hQ30
    have N30 := Fr.app N29 Nq30
    refine Rest.via (fun t k => st30.trans k) ?_
    show Rest p.tables e below s _ _ _ (T30.setTop (mkF m 57 #[.val (.int p0), .val (.int (5 : Int32)), .val (.ref d5), .val (.int (0 : Int32)), .val (.int (0 : Int32)), .val (.ref tt), .unset, .unset] [(.int (own_cc (105 : Int32)))]))
    rw [(by decide : own_cc (105 : Int32) = (105 : Int32))]
    show Rest p.tables e below s _ _ _ (T30.setTop (mkF m 57 #[.val (.int p0), .val (.int (5 : Int32)), .val (.ref d5), .val (.int (0 : Int32)), .val (.int (0 : Int32)), .val (.ref tt), .unset, .unset] [(.int (105 : Int32))]))
    refine Rest.via (fun t k => XS.istore X30.here hx rfl (hb hby at_57) rfl (l' := #[.val (.int p0), .val (.int (5 : Int32)), .val (.ref d5), .val (.int (0 : Int32)), .val (.int (0 : Int32)), .val (.ref tt), .val (.int (105 : Int32)), .unset]) rfl k) ?_
    show Rest p.tables e below s _ _ _ (T30.setTop (mkF m 59 #[.val (.int p0), .val (.int (5 : Int32)), .val (.ref d5), .val (.int (0 : Int32)), .val (.int (0 : Int32)), .val (.ref tt), .val (.int (105 : Int32)), .unset] []))
    refine Rest.via (fun t k => XS.iload X30.here hx rfl (hb hby at_59) rfl k) ?_
    show Rest p.tables e below s _ _ _ (T30.setTop (mkF m 61 #[.val (.int p0), .val (.int (5 : Int32)), .val (.ref d5), .val (.int (0 : Int32)), .val (.int (0 : Int32)), .val (.ref tt), .val (.int (105 : Int32)), .unset] [(.int (105 : Int32))]))
    refine Rest.via (fun t k => XS.bipush X30.here hx rfl (hb hby at_61) k) ?_
    show Rest p.tables e below s _ _ _ (T30.setTop (mkF m 63 #[.val (.int p0), .val (.int (5 : Int32)), .val (.ref d5), .val (.int (0 : Int32)), .val (.int (0 : Int32)), .val (.ref tt), .val (.int (105 : Int32)), .unset] [(.int (60 : Int32)), (.int (105 : Int32))]))
    refine Rest.via (fun t k => XS.icmpNo X30.here hx rfl (hb hby at_63) rfl (feq (by decide : ¬ ((105 : Int32) = (60 : Int32)))).1 k) ?_
    show Rest p.tables e below s _ _ _ (T30.setTop (mkF m 66 #[.val (.int p0), .val (.int (5 : Int32)), .val (.ref d5), .val (.int (0 : Int32)), .val (.int (0 : Int32)), .val (.ref tt), .val (.int (105 : Int32)), .unset] []))
    refine Rest.via (fun t k => XS.iload X30.here hx rfl (hb hby at_66) rfl k) ?_
    show Rest p.tables e below s _ _ _ (T30.setTop (mkF m 68 #[.val (.int p0), .val (.int (5 : Int32)), .val (.ref d5), .val (.int (0 : Int32)), .val (.int (0 : Int32)), .val (.ref tt), .val (.int (105 : Int32)), .unset] [(.int (105 : Int32))]))
    refine Rest.via (fun t k => XS.bipush X30.here hx rfl (hb hby at_68) k) ?_
    show Rest p.tables e below s _ _ _ (T30.setTop (mkF m 70 #[.val (.int p0), .val (.int (5 : Int32)), .val (.ref d5), .val (.int (0 : Int32)), .val (.int (0 : Int32)), .val (.ref tt), .val (.int (105 : Int32)), .unset] [(.int (62 : Int32)), (.int (105 : Int32))]))
    refine Rest.via (fun t k => XS.icmpYes X30.here hx rfl (pc0 := 70) (pc' := 77) rfl (hb hby at_70) rfl (feq (by decide : ¬ ((105 : Int32) = (62 : Int32)))).2 (by decide) (by decide) k) ?_
    show Rest p.tables e below s _ _ _ (T30.setTop (mkF m 77 #[.val (.int p0), .val (.int (5 : Int32)), .val (.ref d5), .val (.int (0 : Int32)), .val (.int (0 : Int32)), .val (.ref tt), .val (.int (105 : Int32)), .unset] []))
    refine Rest.via (fun t k => XS.iconst X30.here hx rfl (hb hby at_77) k) ?_
    show Rest p.tables e below s _ _ _ (T30.setTop (mkF m 78 #[.val (.int p0), .val (.int (5 : Int32)), .val (.ref d5), .val (.int (0 : Int32)), .val (.int (0 : Int32)), .val (.ref tt), .val (.int (105 : Int32)), .unset] [(.int (0 : Int32))]))
    refine Rest.via (fun t k => XS.istore X30.here hx rfl (hb hby at_78) rfl (l' := #[.val (.int p0), .val (.int (5 : Int32)), .val (.ref d5), .val (.int (0 : Int32)), .val (.int (0 : Int32)), .val (.ref tt), .val (.int (105 : Int32)), .val (.int (0 : Int32))]) rfl k) ?_
    show Rest p.tables e below s _ _ _ (T30.setTop (mkF m 80 #[.val (.int p0), .val (.int (5 : Int32)), .val (.ref d5), .val (.int (0 : Int32)), .val (.int (0 : Int32)), .val (.ref tt), .val (.int (105 : Int32)), .val (.int (0 : Int32))] []))
    refine Rest.via (fun t k => XS.iload X30.here hx rfl (hb hby at_80) rfl k) ?_
    show Rest p.tables e below s _ _ _ (T30.setTop (mkF m 82 #[.val (.int p0), .val (.int (5 : Int32)), .val (.ref d5), .val (.int (0 : Int32)), .val (.int (0 : Int32)), .val (.ref tt), .val (.int (105 : Int32)), .val (.int (0 : Int32))] [(.int (0 : Int32))]))
    refine Rest.via (fun t k => XS.iloadN X30.here hx rfl (hb hby at_82) rfl k) ?_
    show Rest p.tables e below s _ _ _ (T30.setTop (mkF m 83 #[.val (.int p0), .val (.int (5 : Int32)), .val (.ref d5), .val (.int (0 : Int32)), .val (.int (0 : Int32)), .val (.ref tt), .val (.int (105 : Int32)), .val (.int (0 : Int32))] [(.int (0 : Int32)), (.int (0 : Int32))]))
    refine Rest.via (fun t k => XS.icmpNo X30.here hx rfl (hb hby at_83) rfl (teq (by decide : (0 : Int32) = (0 : Int32))).2 k) ?_
    show Rest p.tables e below s _ _ _ (T30.setTop (mkF m 86 #[.val (.int p0), .val (.int (5 : Int32)), .val (.ref d5), .val (.int (0 : Int32)), .val (.int (0 : Int32)), .val (.ref tt), .val (.int (105 : Int32)), .val (.int (0 : Int32))] []))
    refine Rest.via (fun t k => XS.iloadN X30.here hx rfl (hb hby at_86) rfl k) ?_
    show Rest p.tables e below s _ _ _ (T30.setTop (mkF m 87 #[.val (.int p0), .val (.int (5 : Int32)), .val (.ref d5), .val (.int (0 : Int32)), .val (.int (0 : Int32)), .val (.ref tt), .val (.int (105 : Int32)), .val (.int (0 : Int32))] [(.int (0 : Int32))]))
    refine Rest.via (fun t k => XS.iload X30.here hx rfl (hb hby at_87) rfl k) ?_
    show Rest p.tables e below s _ _ _ (T30.setTop (mkF m 89 #[.val (.int p0), .val (.int (5 : Int32)), .val (.ref d5), .val (.int (0 : Int32)), .val (.int (0 : Int32)), .val (.ref tt), .val (.int (105 : Int32)), .val (.int (0 : Int32))] [(.int (0 : Int32)), (.int (0 : Int32))]))
    refine Rest.via (fun t k => XS.icmpNo X30.here hx rfl (hb hby at_89) rfl (teq (by decide : (0 : Int32) = (0 : Int32))).2 k) ?_
    show Rest p.tables e below s _ _ _ (T30.setTop (mkF m 92 #[.val (.int p0), .val (.int (5 : Int32)), .val (.ref d5), .val (.int (0 : Int32)), .val (.int (0 : Int32)), .val (.ref tt), .val (.int (105 : Int32)), .val (.int (0 : Int32))] []))
    refine Rest.via (fun t k => XS.iconst X30.here hx rfl (hb hby at_92) k) ?_
    show Rest p.tables e below s _ _ _ (T30.setTop (mkF m 93 #[.val (.int p0), .val (.int (5 : Int32)), .val (.ref d5), .val (.int (0 : Int32)), .val (.int (0 : Int32)), .val (.ref tt), .val (.int (105 : Int32)), .val (.int (0 : Int32))] [(.int (1 : Int32))]))
    refine Rest.via (fun t k => XS.goto X30.here hx rfl (pc0 := 93) (pc' := 97) rfl (hb hby at_93) (by decide) (by decide) k) ?_
    show Rest p.tables e below s _ _ _ (T30.setTop (mkF m 97 #[.val (.int p0), .val (.int (5 : Int32)), .val (.ref d5), .val (.int (0 : Int32)), .val (.int (0 : Int32)), .val (.ref tt), .val (.int (105 : Int32)), .val (.int (0 : Int32))] [(.int (1 : Int32))]))
    refine Rest.ret X30 (v := some (.int (nar .boolean (1 : Int32)))) (fun h => by rw [Bd.returns] at h; cases h) hlk (fun fs hr => retN X30 hx (t := .boolean) Bd.returns (by simp) (hb hby at_97) hr) ?_ (by decide) (by decide)
    rw [e30]
    exact ⟨rfl, N30⟩
set_option maxRecDepth 65536 in
set_option maxHeartbeats 40000000 in
theorem comes_1 {Post : Tables → Env → Array Value → State → Outcome → State → Prop} (hpost : ∀ tb e args s v u, (limb_1_1.after args s (.returned v) u = true ∧ limb_1_2.after args s (.returned v) u = true ∧ True) → FrameEnd s (.returned v) u (Jvm.fieldLocs frame_1_writes args s ++ Jvm.arrayLocs frame_1_arrays args s ++ Jvm.staticLocs frame_1_statics s) 0 0 → Post tb e args s (.returned v) u) :
    ArmFor flags0 classFile x code maxLocals ret World_1 tables_1 room_1 Calls_1 rest_1 Pre_1 Post := by
  intro l hfl _ _ p e ha hc hk s m args below hf hA hF happ hP
  obtain ⟨hcalls, hrest, hpre⟩ := hP
  obtain ⟨-, -, -, hnamed, -, -, -, hat⟩ := (Spec.applies_iff hf).mp happ
  obtain ⟨hg, hn⟩ := and_e (Cond.before_iff.mp (show (Jvm.Cond.and given_1 narrow_1).before args s = true from hpre))
  obtain ⟨hcnt, hg0⟩ := and_e hg
  have ha0 := hg0
  obtain ⟨w0, rfl⟩ : ∃ w0 : Value, args = #[w0] := by
    have hs : args.size = 1 := by simpa [Cond.value, given_1] using hcnt
    obtain ⟨L⟩ := args
    match L, hs with
    | [w0], _ => exact ⟨w0, rfl⟩
  have hw := fun d (hd : d ∈ tables_1) => atoms_spec (ws := Jvm.Cond.code x code maxLocals ret :: tables_1) hat d (List.mem_cons_of_mem _ hd)
  obtain ⟨hsets, hown0⟩ := atoms_of _ (rest_1_c_eq ▸ (show rest_1_c.before _ s = true from hrest))
  have hr0 := Cond.before_iff.mp hown0
  have hfit : Fit s := fun {y c} hc i hi => by
    obtain ⟨ha, rfl⟩ := Array.getElem?_eq_some_iff.mp hc
    have q := List.all_eq_true.mp ((Array.all_eq_true_iff_forall_mem.mp hF) _ (Array.getElem_mem ha)) i (List.mem_range.mpr hi)
    simpa [Array.getElem?_eq_getElem hi] using q
  obtain ⟨i0, ei0⟩ := is_v ha0
  obtain rfl : w0 = (.int i0) := Option.some.inj ei0
  obtain ⟨hn0, hr0⟩ := and_e hn
  obtain ⟨hn1, hr1⟩ := and_e hr0
  obtain ⟨hn2, hr2⟩ := and_e hr1
  obtain ⟨hn3, hr3⟩ := and_e hr2
  obtain ⟨hn4, hr4⟩ := and_e hr3
  obtain ⟨hn5, hr5⟩ := and_e hr4
  obtain ⟨hn6, hr6⟩ := and_e hr5
  obtain ⟨hn7, hr7⟩ := and_e hr6
  obtain ⟨hn8, hr8⟩ := and_e hr7
  obtain ⟨hn9, hr9⟩ := and_e hr8
  obtain ⟨hn10, hr10⟩ := and_e hr9
  obtain ⟨hn11, hr11⟩ := and_e hr10
  obtain ⟨hn12, hr12⟩ := and_e hr11
  obtain ⟨hn13, hr13⟩ := and_e hr12
  obtain ⟨hn14, hr14⟩ := and_e hr13
  obtain ⟨hn15, hr15⟩ := and_e hr14
  obtain ⟨hn16, hr16⟩ := and_e hr15
  obtain ⟨hn17, hr17⟩ := and_e hr16
  obtain ⟨hn18, hr18⟩ := and_e hr17
  obtain ⟨hn19, hr19⟩ := and_e hr18
  obtain ⟨hn20, hr20⟩ := and_e hr19
  obtain ⟨hn21, hr21⟩ := and_e hr20
  obtain ⟨hn22, hr22⟩ := and_e hr21
  obtain ⟨hn23, hr23⟩ := and_e hr22
  obtain ⟨hn24, hr24⟩ := and_e hr23
  obtain ⟨hn25, hr25⟩ := and_e hr24
  obtain ⟨hn26, hr26⟩ := and_e hr25
  obtain ⟨hn27, hr27⟩ := and_e hr26
  obtain ⟨hn28, hr28⟩ := and_e hr27
  obtain ⟨hn29, hr29⟩ := and_e hr28
  obtain ⟨hn30, hr30⟩ := and_e hr29
  obtain ⟨hn31, hr31⟩ := and_e hr30
  obtain ⟨hn32, hr32⟩ := and_e hr31
  obtain ⟨hn33, hr33⟩ := and_e hr32
  obtain ⟨hn34, hr34⟩ := and_e hr33
  obtain ⟨hn35, hr35⟩ := and_e hr34
  obtain ⟨hn36, hr36⟩ := and_e hr35
  obtain ⟨hn37, hr37⟩ := and_e hr36
  obtain ⟨hn38, hr38⟩ := and_e hr37
  obtain ⟨hn39, hr39⟩ := and_e hr38
  obtain ⟨hn40, hr40⟩ := and_e hr39
  obtain ⟨hn41, hr41⟩ := and_e hr40
  obtain ⟨hn42, hr42⟩ := and_e hr41
  obtain ⟨hn43, hr43⟩ := and_e hr42
  have hn44 := hr43
  obtain ⟨d0, ed0⟩ := exa_v hn0
  have E0 := Exa.start ed0 hn0
  have S0 : Sta s s.heap "com/example/zapros/zapros/model/Operator" "EQUAL" "Lcom/example/zapros/zapros/model/Operator;" (.ref d0) := Sta.start ed0 (Or.inr ⟨(hw _ (List.mem_of_getElem? (i := 6) rfl)), (hw _ (List.mem_of_getElem? (i := 7) rfl))⟩)
  have F0 := own_eqfld ed0 hn8
  obtain ⟨d1, ed1⟩ := exa_v hn23
  have E1 := Exa.start ed1 hn23
  have S1 : Sta s s.heap "com/example/zapros/zapros/model/Operator" "GREATER" "Lcom/example/zapros/zapros/model/Operator;" (.ref d1) := Sta.start ed1 (Or.inr ⟨(hw _ (List.mem_of_getElem? (i := 6) rfl)), (hw _ (List.mem_of_getElem? (i := 61) rfl))⟩)
  have F1 := own_eqfld ed1 hn24
  obtain ⟨d2, ed2⟩ := exa_v hn16
  have E2 := Exa.start ed2 hn16
  have S2 : Sta s s.heap "com/example/zapros/zapros/model/Operator" "GREATER_OR_EQUAL" "Lcom/example/zapros/zapros/model/Operator;" (.ref d2) := Sta.start ed2 (Or.inr ⟨(hw _ (List.mem_of_getElem? (i := 6) rfl)), (hw _ (List.mem_of_getElem? (i := 59) rfl))⟩)
  have F2 := own_eqfld ed2 hn17
  obtain ⟨d3, ed3⟩ := exa_v hn6
  have E3 := Exa.start ed3 hn6
  have S3 : Sta s s.heap "com/example/zapros/zapros/model/Operator" "LESS" "Lcom/example/zapros/zapros/model/Operator;" (.ref d3) := Sta.start ed3 (Or.inr ⟨(hw _ (List.mem_of_getElem? (i := 6) rfl)), (hw _ (List.mem_of_getElem? (i := 55) rfl))⟩)
  have F3 := own_eqfld ed3 hn7
  obtain ⟨d4, ed4⟩ := exa_v hn35
  have E4 := Exa.start ed4 hn35
  have S4 : Sta s s.heap "com/example/zapros/zapros/model/Operator" "LESS_OR_EQUAL" "Lcom/example/zapros/zapros/model/Operator;" (.ref d4) := Sta.start ed4 (Or.inr ⟨(hw _ (List.mem_of_getElem? (i := 6) rfl)), (hw _ (List.mem_of_getElem? (i := 64) rfl))⟩)
  have F4 := own_eqfld ed4 hn36
  obtain ⟨d5, ed5⟩ := exa_v hn9
  have E5 := Exa.start ed5 hn9
  have S5 : Sta s s.heap "com/example/zapros/zapros/model/Operator" "IN" "Lcom/example/zapros/zapros/model/Operator;" (.ref d5) := Sta.start ed5 (Or.inr ⟨(hw _ (List.mem_of_getElem? (i := 6) rfl)), (hw _ (List.mem_of_getElem? (i := 57) rfl))⟩)
  have F5 := own_eqfld ed5 hn10
  have ne0_1 : d0 ≠ d1 := Fld.ne F0 F1 (by decide)
  have ne0_2 : d0 ≠ d2 := Fld.ne F0 F2 (by decide)
  have ne1_2 : d1 ≠ d2 := Fld.ne F1 F2 (by decide)
  have ne0_3 : d0 ≠ d3 := Fld.ne F0 F3 (by decide)
  have ne1_3 : d1 ≠ d3 := Fld.ne F1 F3 (by decide)
  have ne2_3 : d2 ≠ d3 := Fld.ne F2 F3 (by decide)
  have ne0_4 : d0 ≠ d4 := Fld.ne F0 F4 (by decide)
  have ne1_4 : d1 ≠ d4 := Fld.ne F1 F4 (by decide)
  have ne2_4 : d2 ≠ d4 := Fld.ne F2 F4 (by decide)
  have ne3_4 : d3 ≠ d4 := Fld.ne F3 F4 (by decide)
  have ne0_5 : d0 ≠ d5 := Fld.ne F0 F5 (by decide)
  have ne1_5 : d1 ≠ d5 := Fld.ne F1 F5 (by decide)
  have ne2_5 : d2 ≠ d5 := Fld.ne F2 F5 (by decide)
  have ne3_5 : d3 ≠ d5 := Fld.ne F3 F5 (by decide)
  have ne4_5 : d4 ≠ d5 := Fld.ne F4 F5 (by decide)
  have B : own_B s s.heap d0 d1 d2 d3 d4 d5 := ⟨S0, E0, F0, S1, E1, F1, S2, E2, F2, S3, E3, F3, S4, E4, F4, S5, E5, F5, ne0_1, ne0_2, ne1_2, ne0_3, ne1_3, ne2_3, ne0_4, ne1_4, ne2_4, ne3_4, ne0_5, ne1_5, ne2_5, ne3_5, ne4_5⟩
  have SS0 : own_S s s.heap d0 (1 : Int32) (61 : Int32) := by
    obtain ⟨t, et⟩ := exa_v hn1
    have Et := Exa.start et hn1
    have Fm := Fld.start ((fld_at ed0).symm.trans et)
    obtain ⟨va, ev⟩ := arr_v hn2
    have Fv := Fld.start ((fld_at et).symm.trans ev)
    have Fc := own_eqfld et hn4
    obtain ⟨cl, A⟩ := Arr.start ev hn2
    have hl := own_len ev A hn3
    have el0 := own_elem ev A.1 hn5
    exact ⟨t, va, cl.cls, [], Fm, Et, Fv, Fc, Arv.start hfit A hl.1 hl.2 (by decide) rfl ⟨el0, trivial⟩⟩
  have SS1 : own_S s s.heap d1 (1 : Int32) (62 : Int32) := by
    obtain ⟨t, et⟩ := exa_v hn25
    have Et := Exa.start et hn25
    have Fm := Fld.start ((fld_at ed1).symm.trans et)
    obtain ⟨va, ev⟩ := arr_v hn26
    have Fv := Fld.start ((fld_at et).symm.trans ev)
    have Fc := own_eqfld et hn28
    obtain ⟨cl, A⟩ := Arr.start ev hn26
    have hl := own_len ev A hn27
    have el0 := own_elem ev A.1 hn29
    exact ⟨t, va, cl.cls, [], Fm, Et, Fv, Fc, Arv.start hfit A hl.1 hl.2 (by decide) rfl ⟨el0, trivial⟩⟩
  have SS2 : own_S s s.heap d2 (2 : Int32) (62 : Int32) := by
    obtain ⟨t, et⟩ := exa_v hn18
    have Et := Exa.start et hn18
    have Fm := Fld.start ((fld_at ed2).symm.trans et)
    obtain ⟨va, ev⟩ := arr_v hn19
    have Fv := Fld.start ((fld_at et).symm.trans ev)
    have Fc := own_eqfld et hn21
    obtain ⟨cl, A⟩ := Arr.start ev hn19
    have hl := own_len ev A hn20
    have el0 := own_elem ev A.1 hn22
    have el1 := own_elem ev A.1 hn42
    exact ⟨t, va, cl.cls, [(.int (61 : Int32))], Fm, Et, Fv, Fc, Arv.start hfit A hl.1 hl.2 (by decide) rfl ⟨el0, el1, trivial⟩⟩
  have SS3 : own_S s s.heap d3 (1 : Int32) (60 : Int32) := by
    obtain ⟨t, et⟩ := exa_v hn11
    have Et := Exa.start et hn11
    have Fm := Fld.start ((fld_at ed3).symm.trans et)
    obtain ⟨va, ev⟩ := arr_v hn12
    have Fv := Fld.start ((fld_at et).symm.trans ev)
    have Fc := own_eqfld et hn14
    obtain ⟨cl, A⟩ := Arr.start ev hn12
    have hl := own_len ev A hn13
    have el0 := own_elem ev A.1 hn15
    exact ⟨t, va, cl.cls, [], Fm, Et, Fv, Fc, Arv.start hfit A hl.1 hl.2 (by decide) rfl ⟨el0, trivial⟩⟩
  have SS4 : own_S s s.heap d4 (2 : Int32) (60 : Int32) := by
    obtain ⟨t, et⟩ := exa_v hn37
    have Et := Exa.start et hn37
    have Fm := Fld.start ((fld_at ed4).symm.trans et)
    obtain ⟨va, ev⟩ := arr_v hn38
    have Fv := Fld.start ((fld_at et).symm.trans ev)
    have Fc := own_eqfld et hn40
    obtain ⟨cl, A⟩ := Arr.start ev hn38
    have hl := own_len ev A hn39
    have el0 := own_elem ev A.1 hn41
    have el1 := own_elem ev A.1 hn44
    exact ⟨t, va, cl.cls, [(.int (61 : Int32))], Fm, Et, Fv, Fc, Arv.start hfit A hl.1 hl.2 (by decide) rfl ⟨el0, el1, trivial⟩⟩
  have SS5 : own_S s s.heap d5 (2 : Int32) (105 : Int32) := by
    obtain ⟨t, et⟩ := exa_v hn30
    have Et := Exa.start et hn30
    have Fm := Fld.start ((fld_at ed5).symm.trans et)
    obtain ⟨va, ev⟩ := arr_v hn31
    have Fv := Fld.start ((fld_at et).symm.trans ev)
    have Fc := own_eqfld et hn33
    obtain ⟨cl, A⟩ := Arr.start ev hn31
    have hl := own_len ev A hn32
    have el0 := own_elem ev A.1 hn34
    have el1 := own_elem ev A.1 hn43
    exact ⟨t, va, cl.cls, [(.int (110 : Int32))], Fm, Et, Fv, Fc, Arv.start hfit A hl.1 hl.2 (by decide) rfl ⟨el0, el1, trivial⟩⟩
  obtain ⟨ic, eic⟩ := is_v (Cond.before_iff.mp (hsets _ (List.mem_of_getElem? (i := 1) rfl)))
  have Sc : Sta s s.heap "java/lang/String" "COMPACT_STRINGS" "Z" (.int ic) := Sta.start eic (Or.inl (hsets _ (List.mem_of_getElem? (i := 0) rfl)))
  have hic : ¬ (ic = (0 : Int32)) := gotF (Cond.eq_ints eic (Term.int_eval (0))) (not_v (Cond.before_iff.mp (hsets _ (List.mem_of_getElem? (i := 2) rfl))))
  obtain ⟨fm, efm, hfm⟩ := isR_v (Cond.before_iff.mp (hsets _ (List.mem_of_getElem? (i := 8) rfl)))
  have Sf : Sta s s.heap "jdk/internal/util/Preconditions" "SIOOBE_FORMATTER" "Ljava/util/function/BiFunction;" fm := Sta.start efm (Or.inl (hsets _ (List.mem_of_getElem? (i := 7) rfl)))
  obtain ⟨n, o, h1, h2, h3, _, L, rfl, ⟨rfl, N⟩, hq⟩ := rm0 l s _ hw tables_1 i0 d0 d1 d2 d3 d4 d5 fm ic s.heap s.heap.size (Nat.le_refl _) B SS0 SS1 SS2 SS3 SS4 SS5 hfm Sf Sc hic p e ha hc hk s m _ below hf ((Spec.applies_iff_loose hf).mp happ).1 ⟨rfl, State.Warmed39.refl s, rfl⟩ trivial
  refine ⟨n, _, h1, h2, h3, hpost _ _ _ _ _ _ ⟨Cond.after_iff.mpr rfl, Cond.after_iff.mpr (eq_i res_at (Term.int_eval (1)) rfl), trivial⟩ ⟨hq.1, hq.2.1, (hq.2.2.sift fun y hy => Or.inr (N y hy)).mono (by decide) (by decide)⟩⟩
theorem main_1_1 : Claimed_1_1 := comes_1 fun _ _ _ _ _ _ h hF => ⟨h.1, hF⟩
theorem main_1_2 : Claimed_1_2 := comes_1 fun _ _ _ _ _ _ h hF => ⟨h.2.1, hF⟩
end Jvm.Pilot.@@N@@
namespace Jvm.Pilot.@@N@@
open Jvm Jvm.ClassFile Sem Op Lib Jvm.Free Jvm.Stand Jvm.Pilot.@@N@@.Jvm.D
/-! MADE BY PROGRAM (witnessworld.py) out of the Statement's table words and the real class files: 18 classes; the members and pool entries that the words name. The judged class is class 1, her method 2. -/
namespace start1
open Jvm.ClassFile
def u (s : String) : CpInfo := .utf8 (stringToUtf16 s)
/-- a pool by its gaps: so many unusable entries, then the entry; so many at the end -/
def gap : Nat → List CpInfo → List CpInfo
  | 0, r => r
  | n + 1, r => .unusable :: gap n r
def poolList (es : List (Nat × CpInfo)) (last : Nat) : List CpInfo := es.foldr (fun e r => gap e.1 (e.2 :: r)) (gap last [])
def pool (es : List (Nat × CpInfo)) (last : Nat) : Array CpInfo := ⟨poolList es last⟩
def fileOf (pool : Array CpInfo) (this : Nat) (attrs : Array Attribute := #[]) (ms : Array MethodInfo := #[]) (fl : Nat := 33) (sup : Nat := 0) (ifs : Array Nat := #[]) (fds : Array FieldInfo := #[]) : ClassFile where
  minorVersion := 0
  majorVersion := 65
  constantPool := pool
  accessFlags := fl
  thisClass := this
  superClass := sup
  interfaces := ifs
  fields := fds
  methods := ms
  attributes := attrs
def plain (name : String) (sup : Option ClassId) : Class where
  name := name
  kind := .ordinary
  loader := none
  accessFlags := 33
  super := sup
  interfaces := #[]
  cf := none
  fields := #[]
  methods := #[]
  instanceTypes := #[]
  staticTypes := #[]
  resolved := #[]
  callSites := []
  init := .initialized
  statics := none
  mirror := none

def pool0 : Array CpInfo := pool [(5, u "<init>"), (0, u "()V"), (1, .class_ 10), (1, u "java/lang/Object")] 113

def k0m0 : Method := { name := "<init>", desc := "()V", sig := { parameters := [], returnType := none }, accessFlags := 1, code := none }
/-- java/lang/Object -/
def k0 : Class := { plain "java/lang/Object" none with
  accessFlags := 33
  interfaces := #[]
  cf := some (fileOf pool0 8 #[] #[{ accessFlags := 1, nameIndex := 5, descriptorIndex := 6, attributes := #[] }] 33 0 #[] #[])
  fields := #[]
  methods := #[k0m0]
  instanceTypes := #[]
  staticTypes := #[]
  resolved := Array.replicate 124 none
  statics := none }

def pool1 : Array CpInfo := pool [(2, .class_ 4), (1, u "java/lang/Object"), (0, u "<init>"), (0, u "()V"), (0, .fieldref 8 9), (0, .class_ 10), (0, .nameAndType 11 12), (0, u "com/example/zapros/zapros/model/Operator"), (0, u "EQUAL"), (0, u "Lcom/example/zapros/zapros/model/Operator;"), (0, .fieldref 8 14), (0, .nameAndType 15 12), (0, u "GREATER"), (0, .fieldref 8 17), (0, .nameAndType 18 12), (0, u "GREATER_OR_EQUAL"), (0, .fieldref 8 20), (0, .nameAndType 21 12), (0, u "LESS"), (0, .fieldref 8 23), (0, .nameAndType 24 12), (0, u "LESS_OR_EQUAL"), (0, .fieldref 8 26), (0, .nameAndType 27 12), (0, u "IN"), (0, .integer 2147483647), (0, .methodref 30 31), (0, .class_ 32), (0, .nameAndType 33 34), (0, u "com/example/zapros/zapros/model/OperatorOrdersPinLaw"), (0, u "pick"), (0, u "(I)Lcom/example/zapros/zapros/model/Operator;"), (0, .methodref 8 36), (0, .nameAndType 37 38), (0, u "orders"), (0, u "()Z"), (0, .methodref 8 40), (0, .nameAndType 41 42), (0, u "symbol"), (0, u "()Ljava/lang/String;"), (0, .methodref 44 45), (0, .class_ 46), (0, .nameAndType 47 38), (0, u "java/lang/String"), (0, u "isEmpty"), (0, .methodref 44 49), (0, .nameAndType 50 51), (0, u "charAt"), (0, u "(I)C"), (3, u "law"), (0, u "(I)Z")] 2

def k1m0 : Method := { name := "<init>", desc := "()V", sig := { parameters := [], returnType := none }, accessFlags := 1, code := none }
def k1c1 : Code := { maxStack := 2, maxLocals := 1, code := method_2_code, exceptionTable := #[], attributes := #[] }
def k1m1 : Method := { name := "pick", desc := "(I)Lcom/example/zapros/zapros/model/Operator;", sig := { parameters := [.int], returnType := some (.object "com/example/zapros/zapros/model/Operator") }, accessFlags := 10, code := some k1c1 }
def k1c2 : Code := { maxStack := 2, maxLocals := 8, code := code, exceptionTable := #[], attributes := #[] }
def k1m2 : Method := { name := "law", desc := "(I)Z", sig := { parameters := [.int], returnType := some .boolean }, accessFlags := 9, code := some k1c2 }
/-- com/example/zapros/zapros/model/OperatorOrdersPinLaw -/
def k1 : Class := { plain "com/example/zapros/zapros/model/OperatorOrdersPinLaw" (some 0) with
  accessFlags := 49
  interfaces := #[]
  cf := some (fileOf pool1 30 #[] #[{ accessFlags := 1, nameIndex := 5, descriptorIndex := 6, attributes := #[] }, { accessFlags := 10, nameIndex := 33, descriptorIndex := 34, attributes := #[] }, { accessFlags := 9, nameIndex := 55, descriptorIndex := 56, attributes := #[] }] 49 2 #[] #[])
  fields := #[]
  methods := #[k1m0, k1m1, k1m2]
  instanceTypes := #[]
  staticTypes := #[]
  resolved := Array.replicate 59 none
  statics := none }

def pool2 : Array CpInfo := pool [(1, .class_ 2), (0, u "java/lang/constant/Constable"), (0, .class_ 4), (0, u "java/lang/Object")] 6

/-- java/lang/constant/Constable -/
def k2 : Class := { plain "java/lang/constant/Constable" (some 0) with
  accessFlags := 1537
  interfaces := #[]
  cf := some (fileOf pool2 1 #[] #[] 1537 3 #[] #[])
  fields := #[]
  methods := #[]
  instanceTypes := #[]
  staticTypes := #[]
  resolved := Array.replicate 11 none
  statics := none }

def pool3 : Array CpInfo := pool [(1, .class_ 2), (0, u "java/lang/Comparable"), (0, .class_ 4), (0, u "java/lang/Object")] 7

/-- java/lang/Comparable -/
def k3 : Class := { plain "java/lang/Comparable" (some 0) with
  accessFlags := 1537
  interfaces := #[]
  cf := some (fileOf pool3 1 #[] #[] 1537 3 #[] #[])
  fields := #[]
  methods := #[]
  instanceTypes := #[]
  staticTypes := #[]
  resolved := Array.replicate 12 none
  statics := none }

def pool4 : Array CpInfo := pool [(1, .class_ 2), (0, u "java/io/Serializable"), (0, .class_ 4), (0, u "java/lang/Object")] 2

/-- java/io/Serializable -/
def k4 : Class := { plain "java/io/Serializable" (some 0) with
  accessFlags := 1537
  interfaces := #[]
  cf := some (fileOf pool4 1 #[] #[] 1537 3 #[] #[])
  fields := #[]
  methods := #[]
  instanceTypes := #[]
  staticTypes := #[]
  resolved := Array.replicate 7 none
  statics := none }

def pool5 : Array CpInfo := pool [(2, .class_ 4), (1, u "java/lang/Enum"), (0, u "name"), (0, u "Ljava/lang/String;"), (2, u "ordinal"), (0, u "I"), (1, .class_ 14), (1, u "java/lang/Object"), (4, u "hash"), (86, .class_ 108), (1, u "java/lang/Enum$EnumDesc"), (2, .class_ 112), (0, u "java/lang/constant/Constable"), (0, .class_ 114), (0, u "java/lang/Comparable"), (0, .class_ 116), (0, u "java/io/Serializable")] 87

/-- java/lang/Enum -/
def k5 : Class := { plain "java/lang/Enum" (some 0) with
  accessFlags := 1057
  interfaces := #[2, 3, 4]
  cf := some (fileOf pool5 2 #[.nestMembers #[106]] #[] 1057 12 #[111, 113, 115] #[{ accessFlags := 18, nameIndex := 5, descriptorIndex := 6, attributes := #[] }, { accessFlags := 18, nameIndex := 9, descriptorIndex := 10, attributes := #[] }, { accessFlags := 2, nameIndex := 19, descriptorIndex := 10, attributes := #[] }])
  fields := #[{ name := "name", type := (.object "java/lang/String"), accessFlags := 18, slot := 0, constantValue := 0 }, { name := "ordinal", type := .int, accessFlags := 18, slot := 1, constantValue := 0 }, { name := "hash", type := .int, accessFlags := 2, slot := 2, constantValue := 0 }]
  methods := #[]
  instanceTypes := #[(.object "java/lang/String"), .int, .int]
  staticTypes := #[]
  resolved := Array.replicate 204 none
  statics := none }

def pool6 : Array CpInfo := pool [(1, .class_ 2), (0, u "com/example/zapros/zapros/model/Operator"), (0, .fieldref 1 4), (0, .nameAndType 5 6), (0, u "EQUAL"), (0, u "Lcom/example/zapros/zapros/model/Operator;"), (2, u "GREATER"), (2, u "GREATER_OR_EQUAL"), (2, u "LESS"), (2, u "LESS_OR_EQUAL"), (0, .fieldref 1 20), (0, .nameAndType 21 6), (0, u "IN"), (2, u "$VALUES"), (0, u "[Lcom/example/zapros/zapros/model/Operator;"), (6, .class_ 34), (1, u "java/lang/Enum"), (6, .fieldref 1 42), (0, .nameAndType 43 44), (0, u "mSymbol"), (0, u "Ljava/lang/String;"), (2, u "BY_SYMBOL"), (0, u "Ljava/util/Map;"), (68, u "symbol"), (0, u "()Ljava/lang/String;"), (0, u "orders"), (0, u "()Z")] 27

def k6c0 : Code := { maxStack := 1, maxLocals := 1, code := prog_9_method_4_code, exceptionTable := #[], attributes := #[] }
def k6m0 : Method := { name := "symbol", desc := "()Ljava/lang/String;", sig := { parameters := [], returnType := some (.object "java/lang/String") }, accessFlags := 1, code := some k6c0 }
def k6c1 : Code := { maxStack := 2, maxLocals := 1, code := prog_9_method_5_code, exceptionTable := #[], attributes := #[] }
def k6m1 : Method := { name := "orders", desc := "()Z", sig := { parameters := [], returnType := some .boolean }, accessFlags := 1, code := some k6c1 }
/-- com/example/zapros/zapros/model/Operator -/
def k6 : Class := { plain "com/example/zapros/zapros/model/Operator" (some 5) with
  accessFlags := 16433
  interfaces := #[]
  cf := some (fileOf pool6 1 #[] #[{ accessFlags := 1, nameIndex := 117, descriptorIndex := 118, attributes := #[] }, { accessFlags := 1, nameIndex := 119, descriptorIndex := 120, attributes := #[] }] 16433 32 #[] #[{ accessFlags := 16409, nameIndex := 5, descriptorIndex := 6, attributes := #[] }, { accessFlags := 16409, nameIndex := 9, descriptorIndex := 6, attributes := #[] }, { accessFlags := 16409, nameIndex := 12, descriptorIndex := 6, attributes := #[] }, { accessFlags := 16409, nameIndex := 15, descriptorIndex := 6, attributes := #[] }, { accessFlags := 16409, nameIndex := 18, descriptorIndex := 6, attributes := #[] }, { accessFlags := 16409, nameIndex := 21, descriptorIndex := 6, attributes := #[] }, { accessFlags := 26, nameIndex := 47, descriptorIndex := 48, attributes := #[] }, { accessFlags := 18, nameIndex := 43, descriptorIndex := 44, attributes := #[] }, { accessFlags := 4122, nameIndex := 24, descriptorIndex := 25, attributes := #[] }])
  fields := #[{ name := "EQUAL", type := (.object "com/example/zapros/zapros/model/Operator"), accessFlags := 16409, slot := 0, constantValue := 0 }, { name := "GREATER", type := (.object "com/example/zapros/zapros/model/Operator"), accessFlags := 16409, slot := 1, constantValue := 0 }, { name := "GREATER_OR_EQUAL", type := (.object "com/example/zapros/zapros/model/Operator"), accessFlags := 16409, slot := 2, constantValue := 0 }, { name := "LESS", type := (.object "com/example/zapros/zapros/model/Operator"), accessFlags := 16409, slot := 3, constantValue := 0 }, { name := "LESS_OR_EQUAL", type := (.object "com/example/zapros/zapros/model/Operator"), accessFlags := 16409, slot := 4, constantValue := 0 }, { name := "IN", type := (.object "com/example/zapros/zapros/model/Operator"), accessFlags := 16409, slot := 5, constantValue := 0 }, { name := "BY_SYMBOL", type := (.object "java/util/Map"), accessFlags := 26, slot := 6, constantValue := 0 }, { name := "mSymbol", type := (.object "java/lang/String"), accessFlags := 18, slot := 3, constantValue := 0 }, { name := "$VALUES", type := (.array (.object "com/example/zapros/zapros/model/Operator")), accessFlags := 4122, slot := 7, constantValue := 0 }]
  methods := #[k6m0, k6m1]
  instanceTypes := #[(.object "java/lang/String"), .int, .int, (.object "java/lang/String")]
  staticTypes := #[(.object "com/example/zapros/zapros/model/Operator"), (.object "com/example/zapros/zapros/model/Operator"), (.object "com/example/zapros/zapros/model/Operator"), (.object "com/example/zapros/zapros/model/Operator"), (.object "com/example/zapros/zapros/model/Operator"), (.object "com/example/zapros/zapros/model/Operator"), (.object "java/util/Map"), (.array (.object "com/example/zapros/zapros/model/Operator"))]
  resolved := Array.replicate 148 none
  statics := some 0 }

def pool7 : Array CpInfo := pool [(2, .class_ 4), (1, u "java/lang/CharSequence"), (42, .class_ 48), (0, u "java/lang/CharSequence$1CodePointIterator"), (10, .class_ 60), (0, u "java/lang/CharSequence$1CharIterator"), (5, .class_ 67), (0, u "java/lang/Object")] 63

/-- java/lang/CharSequence -/
def k7 : Class := { plain "java/lang/CharSequence" (some 0) with
  accessFlags := 1537
  interfaces := #[]
  cf := some (fileOf pool7 2 #[.nestMembers #[47, 59]] #[] 1537 66 #[] #[])
  fields := #[]
  methods := #[]
  instanceTypes := #[]
  staticTypes := #[]
  resolved := Array.replicate 131 none
  statics := none }

def pool8 : Array CpInfo := pool [(1, .class_ 2), (0, u "java/lang/constant/ConstantDesc"), (0, .class_ 4), (0, u "java/lang/Object")] 32

/-- java/lang/constant/ConstantDesc -/
def k8 : Class := { plain "java/lang/constant/ConstantDesc" (some 0) with
  accessFlags := 1537
  interfaces := #[]
  cf := some (fileOf pool8 1 #[] #[] 1537 3 #[] #[])
  fields := #[]
  methods := #[]
  instanceTypes := #[]
  staticTypes := #[]
  resolved := Array.replicate 37 none
  statics := none }

def pool9 : Array CpInfo := pool [(2, .class_ 4), (1, u "java/lang/Object"), (0, u "<init>"), (0, u "()V"), (2, .fieldref 10 11), (0, .class_ 12), (0, .nameAndType 13 14), (0, u "java/lang/String"), (0, u "value"), (0, u "[B"), (0, .fieldref 10 16), (0, .nameAndType 17 18), (0, u "coder"), (0, u "B"), (2, u "hash"), (0, u "I"), (2, u "hashIsZero"), (0, u "Z"), (11, .fieldref 10 39), (0, .nameAndType 40 26), (0, u "COMPACT_STRINGS"), (66, .class_ 109), (1, u "java/lang/StringLatin1"), (32, u "()Z"), (220, u "([BI)C"), (27, u "(II)V"), (35, u "(I)C"), (64, .methodref 10 493), (0, .nameAndType 494 142), (0, u "isLatin1"), (0, .methodref 107 496), (0, .nameAndType 497 363), (0, u "charAt"), (3, u "checkIndex"), (73, .class_ 576), (0, u "java/lang/CharSequence"), (22, u "CASE_INSENSITIVE_ORDER"), (0, u "Ljava/util/Comparator;"), (91, u "isEmpty"), (360, .fieldref 1054 1055), (0, .class_ 1056), (0, .nameAndType 1057 1058), (0, u "jdk/internal/util/Preconditions"), (0, u "SIOOBE_FORMATTER"), (0, u "Ljava/util/function/BiFunction;"), (0, .methodref 1054 1060), (0, .nameAndType 501 1061), (0, u "(IILjava/util/function/BiFunction;)I"), (39, u "serialPersistentFields"), (0, u "[Ljava/io/ObjectStreamField;"), (0, .class_ 1104), (0, u "java/lang/String$CaseInsensitiveComparator"), (1, .class_ 1107), (0, u "java/io/Serializable"), (0, .class_ 1109), (0, u "java/lang/Comparable"), (0, .class_ 1111), (0, u "java/lang/constant/Constable"), (0, .class_ 1113), (0, u "java/lang/constant/ConstantDesc"), (2, u "serialVersionUID"), (0, u "J"), (3, u "REPL"), (0, u "C"), (2, u "LATIN1"), (1, u "UTF16")] 323

def k9m0 : Method := { name := "<init>", desc := "()V", sig := { parameters := [], returnType := none }, accessFlags := 1, code := none }
def k9c1 : Code := { maxStack := 1, maxLocals := 1, code := jdk_42_method_55_code, exceptionTable := #[], attributes := #[] }
def k9m1 : Method := { name := "isEmpty", desc := "()Z", sig := { parameters := [], returnType := some .boolean }, accessFlags := 1, code := some k9c1 }
def k9c2 : Code := { maxStack := 2, maxLocals := 2, code := jdk_42_method_56_code, exceptionTable := #[], attributes := #[] }
def k9m2 : Method := { name := "charAt", desc := "(I)C", sig := { parameters := [.int], returnType := some .char }, accessFlags := 1, code := some k9c2 }
def k9c3 : Code := { maxStack := 1, maxLocals := 1, code := jdk_42_method_154_code, exceptionTable := #[], attributes := #[] }
def k9m3 : Method := { name := "isLatin1", desc := "()Z", sig := { parameters := [], returnType := some .boolean }, accessFlags := 0, code := some k9c3 }
def k9c4 : Code := { maxStack := 3, maxLocals := 2, code := jdk_42_method_155_code, exceptionTable := #[], attributes := #[] }
def k9m4 : Method := { name := "checkIndex", desc := "(II)V", sig := { parameters := [.int, .int], returnType := none }, accessFlags := 8, code := some k9c4 }
/-- java/lang/String -/
def k9 : Class := { plain "java/lang/String" (some 0) with
  accessFlags := 49
  interfaces := #[4, 3, 7, 2, 8]
  cf := some (fileOf pool9 10 #[.nestMembers #[1103]] #[{ accessFlags := 1, nameIndex := 5, descriptorIndex := 6, attributes := #[] }, { accessFlags := 1, nameIndex := 692, descriptorIndex := 142, attributes := #[] }, { accessFlags := 1, nameIndex := 497, descriptorIndex := 427, attributes := #[] }, { accessFlags := 0, nameIndex := 494, descriptorIndex := 142, attributes := #[] }, { accessFlags := 8, nameIndex := 501, descriptorIndex := 391, attributes := #[] }] 49 2 #[1106, 1108, 575, 1110, 1112] #[{ accessFlags := 18, nameIndex := 13, descriptorIndex := 14, attributes := #[] }, { accessFlags := 18, nameIndex := 17, descriptorIndex := 18, attributes := #[] }, { accessFlags := 2, nameIndex := 21, descriptorIndex := 22, attributes := #[] }, { accessFlags := 2, nameIndex := 25, descriptorIndex := 26, attributes := #[] }, { accessFlags := 26, nameIndex := 1116, descriptorIndex := 1117, attributes := #[] }, { accessFlags := 24, nameIndex := 40, descriptorIndex := 26, attributes := #[] }, { accessFlags := 26, nameIndex := 1101, descriptorIndex := 1102, attributes := #[] }, { accessFlags := 26, nameIndex := 1121, descriptorIndex := 1122, attributes := #[] }, { accessFlags := 25, nameIndex := 599, descriptorIndex := 600, attributes := #[] }, { accessFlags := 24, nameIndex := 1125, descriptorIndex := 18, attributes := #[] }, { accessFlags := 24, nameIndex := 1127, descriptorIndex := 18, attributes := #[] }])
  fields := #[{ name := "value", type := (.array .byte), accessFlags := 18, slot := 0, constantValue := 0 }, { name := "coder", type := .byte, accessFlags := 18, slot := 1, constantValue := 0 }, { name := "hash", type := .int, accessFlags := 2, slot := 2, constantValue := 0 }, { name := "hashIsZero", type := .boolean, accessFlags := 2, slot := 3, constantValue := 0 }, { name := "serialVersionUID", type := .long, accessFlags := 26, slot := 0, constantValue := 0 }, { name := "COMPACT_STRINGS", type := .boolean, accessFlags := 24, slot := 1, constantValue := 0 }, { name := "serialPersistentFields", type := (.array (.object "java/io/ObjectStreamField")), accessFlags := 26, slot := 2, constantValue := 0 }, { name := "REPL", type := .char, accessFlags := 26, slot := 3, constantValue := 0 }, { name := "CASE_INSENSITIVE_ORDER", type := (.object "java/util/Comparator"), accessFlags := 25, slot := 4, constantValue := 0 }, { name := "LATIN1", type := .byte, accessFlags := 24, slot := 5, constantValue := 0 }, { name := "UTF16", type := .byte, accessFlags := 24, slot := 6, constantValue := 0 }]
  methods := #[k9m0, k9m1, k9m2, k9m3, k9m4]
  instanceTypes := #[(.array .byte), .byte, .int, .boolean]
  staticTypes := #[.long, .boolean, (.array (.object "java/io/ObjectStreamField")), .char, (.object "java/util/Comparator"), .byte, .byte]
  resolved := Array.replicate 1451 none
  statics := some 1 }

def pool10 : Array CpInfo := pool [(1, .class_ 2), (0, u "java/lang/String"), (1, .class_ 6), (1, u "java/lang/Object"), (0, u "<init>"), (0, u "()V"), (0, .methodref 1 10), (0, .nameAndType 11 12), (0, u "checkIndex"), (0, u "(II)V"), (1, .class_ 16), (1, u "java/lang/StringLatin1"), (36, u "([BI)C"), (67, u "$assertionsDisabled"), (0, u "Z"), (98, .class_ 223), (1, u "java/lang/StringLatin1$LinesSpliterator"), (28, u "charAt"), (137, .class_ 391), (0, u "java/lang/StringLatin1$CharsSpliterator")] 3

def k10m0 : Method := { name := "<init>", desc := "()V", sig := { parameters := [], returnType := none }, accessFlags := 0, code := none }
def k10c1 : Code := { maxStack := 2, maxLocals := 2, code := jdk_43_method_2_code, exceptionTable := #[], attributes := #[] }
def k10m1 : Method := { name := "charAt", desc := "([BI)C", sig := { parameters := [(.array .byte), .int], returnType := some .char }, accessFlags := 9, code := some k10c1 }
/-- java/lang/StringLatin1 -/
def k10 : Class := { plain "java/lang/StringLatin1" (some 0) with
  accessFlags := 48
  interfaces := #[]
  cf := some (fileOf pool10 14 #[.nestMembers #[390, 221]] #[{ accessFlags := 0, nameIndex := 7, descriptorIndex := 8, attributes := #[] }, { accessFlags := 9, nameIndex := 252, descriptorIndex := 53, attributes := #[] }] 48 4 #[] #[{ accessFlags := 4120, nameIndex := 121, descriptorIndex := 122, attributes := #[] }])
  fields := #[{ name := "$assertionsDisabled", type := .boolean, accessFlags := 4120, slot := 0, constantValue := 0 }]
  methods := #[k10m0, k10m1]
  instanceTypes := #[]
  staticTypes := #[.boolean]
  resolved := Array.replicate 395 none
  statics := none }

def pool11 : Array CpInfo := pool [(2, .class_ 4), (1, u "java/lang/Object"), (0, u "<init>"), (0, u "()V"), (17, .class_ 26), (1, u "jdk/internal/util/Preconditions"), (6, u "checkIndex"), (21, .class_ 56), (0, u "jdk/internal/util/Preconditions$4"), (57, .class_ 115), (0, u "jdk/internal/util/Preconditions$1"), (7, u "SIOOBE_FORMATTER"), (0, u "Ljava/util/function/BiFunction;"), (0, .class_ 126), (0, u "jdk/internal/util/Preconditions$2"), (3, u "AIOOBE_FORMATTER"), (0, .class_ 132), (0, u "jdk/internal/util/Preconditions$3"), (3, u "IOOBE_FORMATTER"), (41, u "(IILjava/util/function/BiFunction;)I")] 15

def k11m0 : Method := { name := "<init>", desc := "()V", sig := { parameters := [], returnType := none }, accessFlags := 1, code := none }
def k11c1 : Code := { maxStack := 3, maxLocals := 3, code := jdk_41_method_11_code, exceptionTable := #[], attributes := #[] }
def k11m1 : Method := { name := "checkIndex", desc := "(IILjava/util/function/BiFunction;)I", sig := { parameters := [.int, .int, (.object "java/util/function/BiFunction")], returnType := some .int }, accessFlags := 9, code := some k11c1 }
/-- jdk/internal/util/Preconditions -/
def k11 : Class := { plain "jdk/internal/util/Preconditions" (some 0) with
  accessFlags := 33
  interfaces := #[]
  cf := some (fileOf pool11 24 #[.nestMembers #[55, 131, 125, 114]] #[{ accessFlags := 1, nameIndex := 5, descriptorIndex := 6, attributes := #[] }, { accessFlags := 9, nameIndex := 33, descriptorIndex := 178, attributes := #[] }] 33 2 #[] #[{ accessFlags := 25, nameIndex := 123, descriptorIndex := 124, attributes := #[] }, { accessFlags := 25, nameIndex := 130, descriptorIndex := 124, attributes := #[] }, { accessFlags := 25, nameIndex := 136, descriptorIndex := 124, attributes := #[] }])
  fields := #[{ name := "SIOOBE_FORMATTER", type := (.object "java/util/function/BiFunction"), accessFlags := 25, slot := 0, constantValue := 0 }, { name := "AIOOBE_FORMATTER", type := (.object "java/util/function/BiFunction"), accessFlags := 25, slot := 1, constantValue := 0 }, { name := "IOOBE_FORMATTER", type := (.object "java/util/function/BiFunction"), accessFlags := 25, slot := 2, constantValue := 0 }]
  methods := #[k11m0, k11m1]
  instanceTypes := #[]
  staticTypes := #[(.object "java/util/function/BiFunction"), (.object "java/util/function/BiFunction"), (.object "java/util/function/BiFunction")]
  resolved := Array.replicate 194 none
  statics := some 2 }

def pool12 : Array CpInfo := pool [(9, u "<init>"), (6, .class_ 18), (1, u "java/lang/Object"), (0, u "()V"), (1, .class_ 23), (1, u "jdk/internal/util/ArraysSupport"), (0, u "LOG2_ARRAY_LONG_INDEX_SCALE"), (0, u "I"), (2, u "U"), (0, u "Ljdk/internal/misc/Unsafe;"), (8, u "BIG_ENDIAN"), (0, u "Z"), (8, u "LOG2_BYTE_BIT_SIZE"), (4, u "LOG2_ARRAY_INT_INDEX_SCALE"), (54, u "JLA"), (0, u "Ljdk/internal/access/JavaLangAccess;"), (11, u "LOG2_ARRAY_BOOLEAN_INDEX_SCALE"), (9, u "LOG2_ARRAY_BYTE_INDEX_SCALE"), (5, u "LOG2_ARRAY_CHAR_INDEX_SCALE"), (5, u "LOG2_ARRAY_SHORT_INDEX_SCALE"), (18, u "LOG2_ARRAY_FLOAT_INDEX_SCALE"), (24, u "LOG2_ARRAY_DOUBLE_INDEX_SCALE"), (89, u "T_BOOLEAN"), (2, u "T_CHAR"), (1, u "T_FLOAT"), (1, u "T_DOUBLE"), (1, u "T_BYTE"), (1, u "T_SHORT"), (1, u "T_INT"), (1, u "T_LONG"), (1, u "SOFT_MAX_ARRAY_LENGTH")] 83

def k12m0 : Method := { name := "<init>", desc := "()V", sig := { parameters := [], returnType := none }, accessFlags := 2, code := none }
/-- jdk/internal/util/ArraysSupport -/
def k12 : Class := { plain "jdk/internal/util/ArraysSupport" (some 0) with
  accessFlags := 33
  interfaces := #[]
  cf := some (fileOf pool12 21 #[] #[{ accessFlags := 2, nameIndex := 9, descriptorIndex := 19, attributes := #[] }] 33 16 #[] #[{ accessFlags := 24, nameIndex := 28, descriptorIndex := 29, attributes := #[] }, { accessFlags := 26, nameIndex := 38, descriptorIndex := 39, attributes := #[] }, { accessFlags := 25, nameIndex := 121, descriptorIndex := 25, attributes := #[] }, { accessFlags := 25, nameIndex := 131, descriptorIndex := 25, attributes := #[] }, { accessFlags := 25, nameIndex := 137, descriptorIndex := 25, attributes := #[] }, { accessFlags := 25, nameIndex := 143, descriptorIndex := 25, attributes := #[] }, { accessFlags := 25, nameIndex := 53, descriptorIndex := 25, attributes := #[] }, { accessFlags := 25, nameIndex := 24, descriptorIndex := 25, attributes := #[] }, { accessFlags := 25, nameIndex := 162, descriptorIndex := 25, attributes := #[] }, { accessFlags := 25, nameIndex := 187, descriptorIndex := 25, attributes := #[] }, { accessFlags := 26, nameIndex := 48, descriptorIndex := 25, attributes := #[] }, { accessFlags := 25, nameIndex := 277, descriptorIndex := 25, attributes := #[] }, { accessFlags := 25, nameIndex := 280, descriptorIndex := 25, attributes := #[] }, { accessFlags := 25, nameIndex := 282, descriptorIndex := 25, attributes := #[] }, { accessFlags := 25, nameIndex := 284, descriptorIndex := 25, attributes := #[] }, { accessFlags := 25, nameIndex := 286, descriptorIndex := 25, attributes := #[] }, { accessFlags := 25, nameIndex := 288, descriptorIndex := 25, attributes := #[] }, { accessFlags := 25, nameIndex := 290, descriptorIndex := 25, attributes := #[] }, { accessFlags := 25, nameIndex := 292, descriptorIndex := 25, attributes := #[] }, { accessFlags := 26, nameIndex := 108, descriptorIndex := 109, attributes := #[] }, { accessFlags := 25, nameIndex := 294, descriptorIndex := 25, attributes := #[] }])
  fields := #[{ name := "U", type := (.object "jdk/internal/misc/Unsafe"), accessFlags := 24, slot := 0, constantValue := 0 }, { name := "BIG_ENDIAN", type := .boolean, accessFlags := 26, slot := 1, constantValue := 0 }, { name := "LOG2_ARRAY_BOOLEAN_INDEX_SCALE", type := .int, accessFlags := 25, slot := 2, constantValue := 0 }, { name := "LOG2_ARRAY_BYTE_INDEX_SCALE", type := .int, accessFlags := 25, slot := 3, constantValue := 0 }, { name := "LOG2_ARRAY_CHAR_INDEX_SCALE", type := .int, accessFlags := 25, slot := 4, constantValue := 0 }, { name := "LOG2_ARRAY_SHORT_INDEX_SCALE", type := .int, accessFlags := 25, slot := 5, constantValue := 0 }, { name := "LOG2_ARRAY_INT_INDEX_SCALE", type := .int, accessFlags := 25, slot := 6, constantValue := 0 }, { name := "LOG2_ARRAY_LONG_INDEX_SCALE", type := .int, accessFlags := 25, slot := 7, constantValue := 0 }, { name := "LOG2_ARRAY_FLOAT_INDEX_SCALE", type := .int, accessFlags := 25, slot := 8, constantValue := 0 }, { name := "LOG2_ARRAY_DOUBLE_INDEX_SCALE", type := .int, accessFlags := 25, slot := 9, constantValue := 0 }, { name := "LOG2_BYTE_BIT_SIZE", type := .int, accessFlags := 26, slot := 10, constantValue := 0 }, { name := "T_BOOLEAN", type := .int, accessFlags := 25, slot := 11, constantValue := 0 }, { name := "T_CHAR", type := .int, accessFlags := 25, slot := 12, constantValue := 0 }, { name := "T_FLOAT", type := .int, accessFlags := 25, slot := 13, constantValue := 0 }, { name := "T_DOUBLE", type := .int, accessFlags := 25, slot := 14, constantValue := 0 }, { name := "T_BYTE", type := .int, accessFlags := 25, slot := 15, constantValue := 0 }, { name := "T_SHORT", type := .int, accessFlags := 25, slot := 16, constantValue := 0 }, { name := "T_INT", type := .int, accessFlags := 25, slot := 17, constantValue := 0 }, { name := "T_LONG", type := .int, accessFlags := 25, slot := 18, constantValue := 0 }, { name := "JLA", type := (.object "jdk/internal/access/JavaLangAccess"), accessFlags := 26, slot := 19, constantValue := 0 }, { name := "SOFT_MAX_ARRAY_LENGTH", type := .int, accessFlags := 25, slot := 20, constantValue := 0 }]
  methods := #[k12m0]
  instanceTypes := #[]
  staticTypes := #[(.object "jdk/internal/misc/Unsafe"), .boolean, .int, .int, .int, .int, .int, .int, .int, .int, .int, .int, .int, .int, .int, .int, .int, .int, .int, (.object "jdk/internal/access/JavaLangAccess"), .int]
  resolved := Array.replicate 378 none
  statics := none }

def pool13 : Array CpInfo := pool [(1, u "java/lang/Cloneable"), (0, .class_ 1), (0, u "java/lang/Object"), (0, .class_ 3)] 3

/-- java/lang/Cloneable -/
def k13 : Class := { plain "java/lang/Cloneable" (some 0) with
  accessFlags := 1537
  interfaces := #[]
  cf := some (fileOf pool13 2 #[] #[] 1537 4 #[] #[])
  fields := #[]
  methods := #[]
  instanceTypes := #[]
  staticTypes := #[]
  resolved := Array.replicate 8 none
  statics := none }

/-- the primitive byte -/
def k14 : Class := { plain "byte" none with kind := .primitive 'B', accessFlags := 0x411 }
/-- [B -/
def k15 : Class := { plain "[B" (some 0) with kind := .array 14 .byte, interfaces := #[13, 4], accessFlags := 1041 }

/-- the primitive int -/
def k16 : Class := { plain "int" none with kind := .primitive 'I', accessFlags := 0x411 }
/-- [I -/
def k17 : Class := { plain "[I" (some 0) with kind := .array 16 .int, interfaces := #[13, 4], accessFlags := 1041 }

def heap : Heap := #[{ cls := 6, slots := #[.ref 15, .ref 16, .ref 17, .ref 18, .ref 19, .ref 20, .null, .null], vm := .statics 6 },
  { cls := 9, slots := #[.long 0, .int 1, .null, .int 0, .null, .int 0, .int 0], vm := .statics 9 },
  { cls := 11, slots := #[.null, .null, .null], vm := .statics 11 },
  { cls := 15, slots := #[.int 61], vm := .none },
  { cls := 15, slots := #[.int 62], vm := .none },
  { cls := 15, slots := #[.int 62, .int 61], vm := .none },
  { cls := 15, slots := #[.int 60], vm := .none },
  { cls := 15, slots := #[.int 60, .int 61], vm := .none },
  { cls := 15, slots := #[.int 105, .int 110], vm := .none },
  { cls := 9, slots := #[.ref 3, .int 0, .int 0, .int 0], vm := .none },
  { cls := 9, slots := #[.ref 4, .int 0, .int 0, .int 0], vm := .none },
  { cls := 9, slots := #[.ref 5, .int 0, .int 0, .int 0], vm := .none },
  { cls := 9, slots := #[.ref 6, .int 0, .int 0, .int 0], vm := .none },
  { cls := 9, slots := #[.ref 7, .int 0, .int 0, .int 0], vm := .none },
  { cls := 9, slots := #[.ref 8, .int 0, .int 0, .int 0], vm := .none },
  { cls := 6, slots := #[.null, .int 0, .int 0, .ref 9], vm := .none },
  { cls := 6, slots := #[.null, .int 1, .int 0, .ref 10], vm := .none },
  { cls := 6, slots := #[.null, .int 2, .int 0, .ref 11], vm := .none },
  { cls := 6, slots := #[.null, .int 3, .int 0, .ref 12], vm := .none },
  { cls := 6, slots := #[.null, .int 4, .int 0, .ref 13], vm := .none },
  { cls := 6, slots := #[.null, .int 5, .int 0, .ref 14], vm := .none }]
def classes : Array Class := #[k0, k1, k2, k3, k4, k5, k6, k7, k8, k9, k10, k11, k12, k13, k14, k15, k16, k17]
def interned : List (Array UInt16 × Addr) := []
def slotsUsed : Nat := 75
def theMethod : MethodId := ⟨1, 2⟩
def args0 : Array Value := #[.int 5]
def aboutOver (below : List Frame) : State where
  vm := { classes := classes, interned := interned.toArray }
  heap := heap
  slotsUsed := slotsUsed
  threads := #[{ frames := .invoking theMethod args0 :: below }]
def below0 : List Frame := [.native { method := ⟨0, 0⟩, args := #[] }]
def about1 : State := aboutOver below0
def p0 : Program := .bare "" "" ""
def e0 : Env := launch0.env 0 0 0
theorem w_frames : about1.frames = Frame.invoking theMethod args0 :: below0 := rfl
set_option maxRecDepth 65536 in
theorem w_args : argsFit about1.vm theMethod args0 = true := by decide +kernel
set_option maxRecDepth 65536 in
theorem w_heap : heapFits about1 = true := by decide +kernel
set_option maxRecDepth 65536 in
theorem w_runnable : about1.curStatus? = some .runnable := by decide +kernel
set_option maxRecDepth 65536 in
theorem w_alone : about1.alone = true := by decide +kernel
set_option maxRecDepth 65536 in
theorem w_named : about1.methodNamed? x = some theMethod := by decide +kernel
set_option maxRecDepth 65536 in
theorem w_hears : about1.hears theMethod below0 = true := by decide +kernel
set_option maxRecDepth 65536 in
theorem w_ripe : about1.ripe theMethod args0 below0 = true := by decide +kernel
theorem w_running : about1.status = .running := rfl
set_option maxRecDepth 65536 in
theorem w_room : about1.hasRoom e0.platform room_1 = true :=
  launch0.hasRoom_least _ room_1 (by decide +kernel) (by decide +kernel) (by decide +kernel) (by decide +kernel) (by decide +kernel) (by decide +kernel)
theorem allAtoms_all (ts : List Jvm.Cond) (a : Array Jvm.Value) (st : Jvm.State) : (allAtoms ts).before a st = ts.all (fun c => c.before a st) := by
  induction ts with
  | nil => rfl
  | cons c t ih =>
    show (Jvm.Cond.and c (allAtoms t)).before a st = _
    rw [Jvm.Cond.before_and, ih, List.all_cons]
def words1 : List Jvm.Cond := Jvm.Cond.code x code maxLocals ret :: tables_1
/-- a 'code' word, met by the world's own term for the bytes: nothing is compared byte by byte -/
theorem code_word {y : MethodName} {bytes : ByteArray} {mx : Nat} {rt : Option FieldType} {a : Array Value} {s : State} {m : MethodId} {meth : Method} {c : Code} (h1 : s.methodNamed? y = some m) (h2 : s.vm.method? m = some meth) (h3 : meth.code = some c) (h4 : c.code = bytes)
    (h5 : (c.maxLocals == mx && c.exceptionTable.isEmpty && decide (c.maxStack ≤ mostOperands) && decide (meth.sig.returnType = rt) && !meth.locks && decide (parseMethodDescriptor y.desc = some meth.sig)) = true) : (Jvm.Cond.code y bytes mx rt).before a s = true := by
  simp only [Bool.and_eq_true, beq_iff_eq, Bool.not_eq_true', decide_eq_true_eq] at h5
  obtain ⟨⟨⟨⟨⟨g1, g2⟩, g3⟩, g4⟩, g5⟩, g6⟩ := h5
  simp [Cond.before, Cond.holds, Cond.value, h1, h2, h3, h4, g1, g2, g3, g4, g5, g6]
def isCode : Jvm.Cond → Bool
  | .code _ _ _ _ => true
  | _ => false
theorem all_split {L : List Jvm.Cond} {P : Jvm.Cond → Bool} (h1 : L.all (fun c => isCode c || P c) = true) (h2 : ∀ c ∈ L.filter isCode, P c = true) : L.all P = true := by
  refine List.all_eq_true.mpr fun c hc => ?_
  have h := List.all_eq_true.mp h1 c hc
  rcases Bool.eq_false_or_eq_true (isCode c) with hi | hi
  · exact h2 c (List.mem_filter.mpr ⟨hc, hi⟩)
  · simpa [hi] using h
set_option maxRecDepth 65536 in
theorem w_c0 : (Jvm.Cond.code x code maxLocals ret).before args0 about1 = true := code_word (m := ⟨1, 2⟩) (meth := k1m2) (c := k1c2) (by decide +kernel) rfl rfl rfl (by decide +kernel)
set_option maxRecDepth 65536 in
theorem w_c1 : (Jvm.Cond.code ({ cls := "com/example/zapros/zapros/model/OperatorOrdersPinLaw", name := "pick", desc := "(I)Lcom/example/zapros/zapros/model/Operator;" } : Jvm.MethodName) method_2_code (1 : Nat) (Option.some (Jvm.ClassFile.FieldType.object "com/example/zapros/zapros/model/Operator"))).before args0 about1 = true := code_word (m := ⟨1, 1⟩) (meth := k1m1) (c := k1c1) (by decide +kernel) rfl rfl rfl (by decide +kernel)
set_option maxRecDepth 65536 in
theorem w_c2 : (Jvm.Cond.code ({ cls := "com/example/zapros/zapros/model/Operator", name := "orders", desc := "()Z" } : Jvm.MethodName) prog_9_method_5_code (1 : Nat) (Option.some Jvm.ClassFile.FieldType.boolean)).before args0 about1 = true := code_word (m := ⟨6, 1⟩) (meth := k6m1) (c := k6c1) (by decide +kernel) rfl rfl rfl (by decide +kernel)
set_option maxRecDepth 65536 in
theorem w_c3 : (Jvm.Cond.code ({ cls := "com/example/zapros/zapros/model/Operator", name := "symbol", desc := "()Ljava/lang/String;" } : Jvm.MethodName) prog_9_method_4_code (1 : Nat) (Option.some (Jvm.ClassFile.FieldType.object "java/lang/String"))).before args0 about1 = true := code_word (m := ⟨6, 0⟩) (meth := k6m0) (c := k6c0) (by decide +kernel) rfl rfl rfl (by decide +kernel)
set_option maxRecDepth 65536 in
theorem w_c4 : (Jvm.Cond.code ({ cls := "java/lang/String", name := "isEmpty", desc := "()Z" } : Jvm.MethodName) jdk_42_method_55_code (1 : Nat) (Option.some Jvm.ClassFile.FieldType.boolean)).before args0 about1 = true := code_word (m := ⟨9, 1⟩) (meth := k9m1) (c := k9c1) (by decide +kernel) rfl rfl rfl (by decide +kernel)
set_option maxRecDepth 65536 in
theorem w_c5 : (Jvm.Cond.code ({ cls := "java/lang/String", name := "charAt", desc := "(I)C" } : Jvm.MethodName) jdk_42_method_56_code (2 : Nat) (Option.some Jvm.ClassFile.FieldType.char)).before args0 about1 = true := code_word (m := ⟨9, 2⟩) (meth := k9m2) (c := k9c2) (by decide +kernel) rfl rfl rfl (by decide +kernel)
set_option maxRecDepth 65536 in
theorem w_c6 : (Jvm.Cond.code ({ cls := "java/lang/String", name := "isLatin1", desc := "()Z" } : Jvm.MethodName) jdk_42_method_154_code (1 : Nat) (Option.some Jvm.ClassFile.FieldType.boolean)).before args0 about1 = true := code_word (m := ⟨9, 3⟩) (meth := k9m3) (c := k9c3) (by decide +kernel) rfl rfl rfl (by decide +kernel)
set_option maxRecDepth 65536 in
theorem w_c7 : (Jvm.Cond.code ({ cls := "java/lang/StringLatin1", name := "charAt", desc := "([BI)C" } : Jvm.MethodName) jdk_43_method_2_code (2 : Nat) (Option.some Jvm.ClassFile.FieldType.char)).before args0 about1 = true := code_word (m := ⟨10, 1⟩) (meth := k10m1) (c := k10c1) (by decide +kernel) rfl rfl rfl (by decide +kernel)
set_option maxRecDepth 65536 in
theorem w_c8 : (Jvm.Cond.code ({ cls := "java/lang/String", name := "checkIndex", desc := "(II)V" } : Jvm.MethodName) jdk_42_method_155_code (2 : Nat) (Option.none : Option Jvm.ClassFile.FieldType)).before args0 about1 = true := code_word (m := ⟨9, 4⟩) (meth := k9m4) (c := k9c4) (by decide +kernel) rfl rfl rfl (by decide +kernel)
set_option maxRecDepth 65536 in
theorem w_c9 : (Jvm.Cond.code ({ cls := "jdk/internal/util/Preconditions", name := "checkIndex", desc := "(IILjava/util/function/BiFunction;)I" } : Jvm.MethodName) jdk_41_method_11_code (3 : Nat) (Option.some Jvm.ClassFile.FieldType.int)).before args0 about1 = true := code_word (m := ⟨11, 1⟩) (meth := k11m1) (c := k11c1) (by decide +kernel) rfl rfl rfl (by decide +kernel)
def codes1 : List Jvm.Cond := [Jvm.Cond.code x code maxLocals ret, Jvm.Cond.code ({ cls := "com/example/zapros/zapros/model/OperatorOrdersPinLaw", name := "pick", desc := "(I)Lcom/example/zapros/zapros/model/Operator;" } : Jvm.MethodName) method_2_code (1 : Nat) (Option.some (Jvm.ClassFile.FieldType.object "com/example/zapros/zapros/model/Operator")), Jvm.Cond.code ({ cls := "com/example/zapros/zapros/model/Operator", name := "orders", desc := "()Z" } : Jvm.MethodName) prog_9_method_5_code (1 : Nat) (Option.some Jvm.ClassFile.FieldType.boolean), Jvm.Cond.code ({ cls := "com/example/zapros/zapros/model/Operator", name := "symbol", desc := "()Ljava/lang/String;" } : Jvm.MethodName) prog_9_method_4_code (1 : Nat) (Option.some (Jvm.ClassFile.FieldType.object "java/lang/String")), Jvm.Cond.code ({ cls := "java/lang/String", name := "isEmpty", desc := "()Z" } : Jvm.MethodName) jdk_42_method_55_code (1 : Nat) (Option.some Jvm.ClassFile.FieldType.boolean), Jvm.Cond.code ({ cls := "java/lang/String", name := "charAt", desc := "(I)C" } : Jvm.MethodName) jdk_42_method_56_code (2 : Nat) (Option.some Jvm.ClassFile.FieldType.char), Jvm.Cond.code ({ cls := "java/lang/String", name := "isLatin1", desc := "()Z" } : Jvm.MethodName) jdk_42_method_154_code (1 : Nat) (Option.some Jvm.ClassFile.FieldType.boolean), Jvm.Cond.code ({ cls := "java/lang/StringLatin1", name := "charAt", desc := "([BI)C" } : Jvm.MethodName) jdk_43_method_2_code (2 : Nat) (Option.some Jvm.ClassFile.FieldType.char), Jvm.Cond.code ({ cls := "java/lang/String", name := "checkIndex", desc := "(II)V" } : Jvm.MethodName) jdk_42_method_155_code (2 : Nat) (Option.none : Option Jvm.ClassFile.FieldType), Jvm.Cond.code ({ cls := "jdk/internal/util/Preconditions", name := "checkIndex", desc := "(IILjava/util/function/BiFunction;)I" } : Jvm.MethodName) jdk_41_method_11_code (3 : Nat) (Option.some Jvm.ClassFile.FieldType.int)]
set_option maxRecDepth 65536 in
theorem codes_eq : words1.filter isCode = codes1 := rfl
theorem w_codes : ∀ c ∈ words1.filter isCode, c.before args0 about1 = true := by
  rw [codes_eq]
  intro c hc
  simp only [codes1, List.mem_cons, List.not_mem_nil, or_false] at hc
  rcases hc with rfl | rfl | rfl | rfl | rfl | rfl | rfl | rfl | rfl | rfl
  · exact w_c0
  · exact w_c1
  · exact w_c2
  · exact w_c3
  · exact w_c4
  · exact w_c5
  · exact w_c6
  · exact w_c7
  · exact w_c8
  · exact w_c9
set_option maxRecDepth 65536 in
theorem w_t1 : (words1.take 24).all (fun c => isCode c || c.before args0 about1) = true := by decide +kernel
set_option maxRecDepth 65536 in
theorem w_t2 : ((words1.drop 24).take 24).all (fun c => isCode c || c.before args0 about1) = true := by decide +kernel
set_option maxRecDepth 65536 in
theorem w_t3 : ((words1.drop 24).drop 24).all (fun c => isCode c || c.before args0 about1) = true := by decide +kernel
theorem w_tables : (allAtoms (Jvm.Cond.code x code maxLocals ret :: tables_1)).before args0 about1 = true := by
  rw [allAtoms_all]
  show words1.all (fun c => c.before args0 about1) = true
  refine all_split ?_ w_codes
  rw [← List.take_append_drop 24 words1, List.all_append, w_t1, ← List.take_append_drop 24 (words1.drop 24), List.all_append, w_t2, w_t3]
  rfl
set_option maxRecDepth 65536 in
theorem w_rest : rest_1_c.before args0 about1 = true := by decide +kernel
set_option maxRecDepth 65536 in
theorem w_case : (Jvm.Cond.and given_1 narrow_1).before args0 about1 = true := by decide +kernel
theorem w_applies : (headSpec (Jvm.Cond.code x code maxLocals ret :: tables_1) room_1).applies x e0.platform about1 = true :=
  (Spec.applies_iff w_frames).mpr ⟨w_running, w_runnable, w_alone, w_named, w_hears, w_ripe, w_room, w_tables⟩
theorem atStart : AtStart classFile x code maxLocals ret World_1 tables_1 room_1 Calls_1 rest_1 Pre_1 launch0 p0 e0 about1 theMethod args0 below0 :=
  ⟨lists_1, trivial, launch0.admits_env _ _ _, launch0.least_env, fairChoices_fair.cas, fairChoices_fair.clock, w_frames, w_args, w_heap, w_applies, trivial, w_rest, w_case⟩
end start1
theorem witness_1 : WitnessClaimed_1 := ⟨start1.p0, start1.e0, start1.about1, start1.theMethod, start1.args0, start1.below0, start1.atStart⟩
end Jvm.Pilot.@@N@@
